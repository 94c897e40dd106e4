import JvmDerived
import JvmDerived.Pilot.@@N@@Statement
import JvmDerived.Pilot.@@N@@Code
set_option linter.unusedVariables false
set_option linter.unusedSimpArgs false
set_option maxRecDepth 65536
set_option maxHeartbeats 40000000
namespace Jvm.RoadKit
open Sem ClassFile Op Lib Jvm.Stand Jvm.Free Jvm.LawKit
section New
variable {p : Program} {l : Launch} {e : Env} {R : Room} {s : State} {m : MethodId} {args : Array Value} {below : List Frame} {meth : Method} {c : Code} {T : State} {locs : List Loc} {cells slots : Nat}
theorem retI (X : Stand p l e R s m args below meth c T locs cells slots) (hx : p.tables.exec = Jvm.exec) {pc : Nat} {Ls : Array Slot} {z : Int32} {rest : List Value} (hret : meth.sig.returnType = some .int) (hd : decode c.code pc = .ok (.ireturn, 1)) {fs : List Frame}
    (hl : ∀ (f : JFrame) (acts : List Action), f.method = m → f.locked = none → f.entered = [] → (doReturn e (T.setTop f) acts (some (.int z))).1 = T.setFrames fs) : Steps p.tables e below (T.setTop (mkF m pc Ls (.int z :: rest))) (T.setFrames fs) := by
  have hm' : T.vm.method? m = some meth := X.method'
  have hn : narrow .int (.int z) = .int z := rfl
  show Steps p.tables e below (T.setTop { method := m, pc := pc, locals := Ls, stack := _ :: rest, locked := none }) _
  jvm_step X.here [X.here.top, hx, hd, hm', hret, hn]
  first | (intro acts; rw [hl _ acts rfl rfl rfl]) | rw [hl _ _ rfl rfl rfl]
  exact Steps.refl _
end New
end Jvm.RoadKit
namespace Jvm.Pilot.@@N@@
open Jvm Jvm.ClassFile Sem Op Lib Jvm.Free Jvm.Stand Jvm.LawKit Jvm.RoadKit Bundle Jvm.Pilot.@@N@@.Jvm.D
section OwnKit
variable {p : Program} {l : Launch} {e : Env} {R : Room} {s : State} {m : MethodId} {args : Array Value} {below : List Frame} {meth : Method} {c : Code} {T S0 Z : State} {locs : List Loc} {cells slots : Nat} {a0 : Array Value} {h h0 : Heap} {own C : String} {index count : Nat} {y z : MethodName} {bytes : ByteArray} {mx : Nat} {rt : Option FieldType} {rm : Room} {as : Array Value} {Φ : Option Value → Heap → Prop}
/-- what a body leaves: it wrote in new cells alone; Φ of what it returns and of the heap -/
def own_Q (Z : State) (Φ : Option Value → Heap → Prop) (v : Option Value) (h : Heap) (L : List Loc) : Prop := Fr Z.heap.size L ∧ Φ v h
/-- the narrow contract (nothing is interned) -/
def own_NC (l : Launch) (Z : State) (y : MethodName) (bytes : ByteArray) (mx : Nat) (rt : Option FieldType) (rm : Room) (as : Array Value) (h0 : Heap) (Φ : Option Value → Heap → Prop) : Prop :=
  MetFree l y (head1 [Jvm.Cond.code y bytes mx rt] rm) (fun a U => a = as ∧ Z.Warmed39 U.vm ∧ U.heap = h0) (fun _ _ _ _ _ => True) (fun _ U o U' => ∃ v L, o = .returned v ∧ own_Q Z Φ v U'.heap L ∧ FrameEnd U o U' L rm.cells rm.slots)
/-- what a walk of the body has to show -/
def own_NW (l : Launch) (Z : State) (y : MethodName) (bytes : ByteArray) (mx : Nat) (rt : Option FieldType) (rm : Room) (as : Array Value) (h0 : Heap) (Φ : Option Value → Heap → Prop) : Prop :=
  ∀ (p : Program) (e : Env) (s : State) (m : MethodId) (below : List Frame) (meth : Method) (c : Code) (s₁ S0 : State), Stand p l e rm s m as below meth c s₁ [] 0 0 → p.tables.exec = Jvm.exec → c.code = bytes → c.maxLocals = mx → meth.sig.returnType = rt → meth.name = y.name → s.vm.findClass y.cls = some m.cls → Z.Warmed39 s.vm → s₁.heap = h0 →
    Steps p.tables e below S0 (s₁.setTop (entryFrame m as mx)) →
    ∃ (T : State) (v : Option Value) (locs : List Loc) (cells slots : Nat), Stand p l e rm s m as below meth c T locs cells slots ∧ cells ≤ rm.cells ∧ slots ≤ rm.slots ∧ (rt = none → v = none) ∧ Fr Z.heap.size locs ∧ Φ v T.heap ∧
      ∀ fs, (∀ (f : JFrame) (acts : List Action), f.method = m → f.locked = none → f.entered = [] → (doReturn e (T.setTop f) acts v).1 = T.setFrames fs) → Steps p.tables e below S0 (T.setFrames fs)
theorem own_met {ws : List Jvm.Cond} (hx : plainFor y = true) (walk : own_NW l Z y bytes mx rt rm as h0 Φ) :
    MetFree l y (head1 (Jvm.Cond.code y bytes mx rt :: ws) rm) (fun a U => a = as ∧ Z.Warmed39 U.vm ∧ U.heap = h0) (fun _ _ _ _ _ => True) (fun _ U o U' => ∃ v L, o = .returned v ∧ own_Q Z Φ v U'.heap L ∧ FrameEnd U o U' L rm.cells rm.slots) := by
  refine MetFree.of_bodySF hx hisR ?_
  intro p e s m args below meth c s₁ Bd hml0 hP hK
  obtain ⟨rfl, hZ, hh⟩ := hP
  obtain ⟨T, v, locs, cells, slots, X, hc, hs, hv, hN, hΦ, st⟩ := walk p e s m below meth c s₁ _ (Stand.of_body Bd) Bd.exec Bd.bytes hml0 Bd.returns (name_of_methodNamed Bd.named Bd.method).1 (findClass_of_methodNamed Bd.named) hZ (by rw [← hh, Bd.state]; rfl) (Steps.refl _)
  obtain ⟨fs, hr, hrun, hended, hW, hsame⟩ := X.leave (v := v) (fun q => hv (by rw [← Bd.returns]; exact q))
  exact ⟨_, _, st fs hr, hrun, hended, _, _, rfl, ⟨hN, hΦ⟩, ⟨_, rfl⟩, hW, hsame.mono hc hs⟩
theorem own_nc (hx : plainFor y = true) (walk : own_NW l Z y bytes mx rt rm as h0 Φ) : own_NC l Z y bytes mx rt rm as h0 Φ := own_met hx walk
theorem own_NC.imp {Ψ : Option Value → Heap → Prop} (H : own_NC l Z y bytes mx rt rm as h0 Φ) (q : ∀ v h, Φ v h → Ψ v h) : own_NC l Z y bytes mx rt rm as h0 Ψ := by
  intro p e ha hc hk s m args below hf happ hP hK
  obtain ⟨n, o, h1, h2, h3, v, L, rfl, ⟨hN, hΦ⟩, hq⟩ := H p e ha hc hk s m args below hf happ hP hK
  exact ⟨n, _, h1, h2, h3, v, L, rfl, ⟨hN, q _ _ hΦ⟩, hq⟩
/-- a payer of the standing shape -/
abbrev own_Pay (l : Launch) (R : Room) (p : Program) (e : Env) (below : List Frame) (s : State) (args : Array Value) (y : MethodName) (len W : Nat) (as : Array Value) (h : Heap) (kc ks : Nat) (Q : Option Value → Heap → List Loc → Prop) : Prop :=
  Back l R p e below s args y len W (fun P a => a = as ∧ P.U.heap = h ∧ P.cells + kc ≤ R.cells ∧ P.slots + ks ≤ R.slots) (fun P _ v B => ∃ L, Q v B.U.heap L ∧ B.locs = P.locs ++ L ∧ B.cells = P.cells + kc ∧ B.slots = P.slots + ks)
theorem own_pay {len W : Nat} (H : own_NC l Z y bytes mx rt rm as h Φ) (hZ : Z.Warmed39 s.vm) (wc : (Cond.code y bytes mx rt).before a0 Z = true) (wz : (Cond.initialized y.cls).before a0 Z = true) (hf : rm.frames + 1 ≤ R.frames) (hl : W + (mx + 11) + rm.locals ≤ R.locals) :
    own_Pay l R p e below s args y len W as h rm.cells rm.slots (own_Q Z Φ) := backOf H hZ wc wz hf hl
variable {W kc ks : Nat} {Q : Option Value → Heap → List Loc → Prop} {g : JFrame} {argsL rest : List Value} {b : Addr}
theorem own_stat (X : Stand p l e R s m args below meth c T locs cells slots) (hx : p.tables.exec = Jvm.exec) (hml : c.maxLocals = mx) (hZ : Z.Warmed39 s.vm) (hown : s.vm.findClass own = some m.cls) {bytes' : ByteArray} {mx' : Nat} {rt' : Option FieldType}
    (w1 : (Cond.methodLink own index y).before a0 Z = true) (w2 : (Cond.static y).before a0 Z = true) (w3 : (Cond.initialized y.cls).before a0 Z = true) (w4 : (Cond.code y bytes' mx' rt').before a0 Z = true) (hy : y.cls ≠ "java/lang/invoke/MethodHandle" ∧ y.cls ≠ "java/lang/invoke/VarHandle")
    (hK : own_Pay l R p e below s args y 3 W argsL.toArray h kc ks Q) (cm : Steps p.tables e below S0 (T.setTop g)) (hlen : ∀ sig, parseMethodDescriptor y.desc = some sig → argsL.length = sig.parameters.length) (hst : g.stack = argsL.reverse ++ rest) (hd : decode c.code g.pc = .ok (.invokestatic index, 3)) (eT : T.heap = h) (hc : cells + kc ≤ R.cells := by decide) (hs : slots + ks ≤ R.slots := by decide) (hg : g.method = m := by rfl) (hsz : g.locals.size = mx := by rfl) (hW : 2 * g.monitorRoom + (rest.map fun v => v.category).sum ≤ W := by show 2 * 0 + _ ≤ _; exact Nat.le_of_eq rfl) :
    ∃ (v : Option Value) (T' : State) (L : List Loc), Stand p l e R s m args below meth c T' (locs ++ L) (cells + kc) (slots + ks) ∧ Q v T'.heap L ∧ Steps p.tables e below S0 (T'.setTop { g with pc := g.pc + 3, stack := v.toList ++ rest }) := by
  obtain ⟨v, _, ⟨T', L', k', n'⟩, -, X', ⟨L, hQ, l1, l2, l3⟩, st⟩ := Jvm.LawKit.callS X hx (y := y) hown (mvT hZ w1) (mvT hZ w2) (mvT hZ w3) (mvT hZ w4) hy hK hg (by rw [hml]; exact hsz) (argsL := argsL) (rest := rest) hlen hst hW hd (fun _ _ => ⟨rfl, eT, hc, hs⟩)
  dsimp only [Pt.U, Pt.locs, Pt.cells, Pt.slots] at X' l1 l2 l3 st hQ
  subst l1 l2 l3
  exact ⟨v, T', L, X', hQ, cm.trans (st _ (Steps.refl _))⟩
theorem own_spec (X : Stand p l e R s m args below meth c T locs cells slots) (hx : p.tables.exec = Jvm.exec) (hml : c.maxLocals = mx) (hZ : Z.Warmed39 s.vm) (hown : s.vm.findClass own = some m.cls) {bytes' : ByteArray} {mx' : Nat} (hy1 : y.name = "<init>")
    (w1 : (Cond.methodLink own index y).before a0 Z = true) (w2 : (Cond.instanceMethod y).before a0 Z = true) (w4 : (Cond.code y bytes' mx' none).before a0 Z = true) (hy : y.cls ≠ "java/lang/invoke/MethodHandle" ∧ y.cls ≠ "java/lang/invoke/VarHandle")
    (hK : own_Pay l R p e below s args y 3 W (.ref b :: argsL).toArray h kc ks Q) (cm : Steps p.tables e below S0 (T.setTop g)) (hlen : ∀ sig, parseMethodDescriptor y.desc = some sig → argsL.length = sig.parameters.length) (hst : g.stack = argsL.reverse ++ .ref b :: rest) (hd : decode c.code g.pc = .ok (.invokespecial index, 3)) (eT : T.heap = h) (hc : cells + kc ≤ R.cells := by decide) (hs : slots + ks ≤ R.slots := by decide) (hg : g.method = m := by rfl) (hsz : g.locals.size = mx := by rfl) (hW : 2 * g.monitorRoom + (rest.map fun v => v.category).sum ≤ W := by show 2 * 0 + _ ≤ _; exact Nat.le_of_eq rfl) :
    ∃ (v : Option Value) (T' : State) (L : List Loc), Stand p l e R s m args below meth c T' (locs ++ L) (cells + kc) (slots + ks) ∧ Q v T'.heap L ∧ Steps p.tables e below S0 (T'.setTop { g with pc := g.pc + 3, stack := v.toList ++ rest }) := by
  obtain ⟨v, _, ⟨T', L', k', n'⟩, -, X', ⟨L, hQ, l1, l2, l3⟩, st⟩ := X.specialBack hx (y := y) hy1 hown (mvT hZ w1) (mvT hZ w2) (mvT hZ w4) hy hK hg (by rw [hml]; exact hsz) cm (a := b) (argsL := argsL) (rest := rest) hlen hst hW hd (fun _ _ => ⟨rfl, eT, hc, hs⟩)
  dsimp only [Pt.U, Pt.locs, Pt.cells, Pt.slots] at X' l1 l2 l3 st hQ
  subst l1 l2 l3
  exact ⟨v, T', L, X', hQ, st⟩
theorem own_virt (X : Stand p l e R s m args below meth c T locs cells slots) (hx : p.tables.exec = Jvm.exec) (hml : c.maxLocals = mx) (hZ : Z.Warmed39 s.vm) (hown : s.vm.findClass own = some m.cls)
    (w1 : (Cond.methodLink own index y).before a0 Z = true) (w2 : (Cond.declares y).before a0 Z = true) (w3 : (Cond.selects C y z).before a0 Z = true) (w4 : (Cond.instanceMethod z).before a0 Z = true) {Dn : String} (w5 : (Cond.selects Dn y y).before a0 Z = true) (hy : y.cls ≠ "java/lang/invoke/MethodHandle" ∧ y.cls ≠ "java/lang/invoke/VarHandle")
    (hK : own_Pay l R p e below s args z 3 W (.ref b :: argsL).toArray h kc ks Q) (E : Exa Z h b C) (cm : Steps p.tables e below S0 (T.setTop g)) (hlen : ∀ sig, parseMethodDescriptor y.desc = some sig → argsL.length = sig.parameters.length) (hst : g.stack = argsL.reverse ++ .ref b :: rest) (hd : decode c.code g.pc = .ok (.invokevirtual index, 3)) (eT : T.heap = h) (hc : cells + kc ≤ R.cells := by decide) (hs : slots + ks ≤ R.slots := by decide) (hg : g.method = m := by rfl) (hsz : g.locals.size = mx := by rfl) (hW : 2 * g.monitorRoom + (rest.map fun v => v.category).sum ≤ W := by show 2 * 0 + _ ≤ _; exact Nat.le_of_eq rfl) :
    ∃ (v : Option Value) (T' : State) (L : List Loc), Stand p l e R s m args below meth c T' (locs ++ L) (cells + kc) (slots + ks) ∧ Q v T'.heap L ∧ Steps p.tables e below S0 (T'.setTop { g with pc := g.pc + 3, stack := v.toList ++ rest }) := by
  obtain ⟨cq, kq, qa, qb, qc⟩ := isOf hZ eT E
  obtain ⟨v, _, ⟨T', L', k', n'⟩, -, X', ⟨L, hQ, l1, l2, l3⟩, st⟩ := X.virtualBack hx (y := y) (z := z) hown (mvT hZ w1) (mvT hZ w2) (notFace_of_selects (args := #[]) (mvT hZ w5)) (mvT hZ w3) (mvT hZ w4) hy hK qa qc hg (by rw [hml]; exact hsz) cm (argsL := argsL) (rest := rest) hlen hst hW hd (fun _ _ => ⟨rfl, eT, hc, hs⟩)
  dsimp only [Pt.U, Pt.locs, Pt.cells, Pt.slots] at X' l1 l2 l3 st hQ
  subst l1 l2 l3
  exact ⟨v, T', L, X', hQ, st⟩
theorem own_face (X : Stand p l e R s m args below meth c T locs cells slots) (hx : p.tables.exec = Jvm.exec) (hml : c.maxLocals = mx) (hZ : Z.Warmed39 s.vm) (hown : s.vm.findClass own = some m.cls)
    (w1 : (Cond.methodLink own index y).before a0 Z = true) (w2 : (Cond.declares y).before a0 Z = true) (w3 : (Cond.interfaceMethod y.cls y.cls y.name y.desc).before args s = true) (w4 : (Cond.selects C y z).before a0 Z = true) (w5 : (Cond.instanceMethod z).before a0 Z = true) (w6 : (Cond.publicMethod z).before a0 Z = true) (w7 : (Cond.unhidden C y.name y.desc).before a0 Z = true) (w8 : (Cond.castable C y.cls).before a0 Z = true) (hy : y.cls ≠ "java/lang/invoke/MethodHandle" ∧ y.cls ≠ "java/lang/invoke/VarHandle")
    (hK : own_Pay l R p e below s args z 5 W (.ref b :: argsL).toArray h kc ks Q) (E : Exa Z h b C) (cm : Steps p.tables e below S0 (T.setTop g)) (hlen : ∀ sig, parseMethodDescriptor y.desc = some sig → argsL.length = sig.parameters.length) (hst : g.stack = argsL.reverse ++ .ref b :: rest) (hd : decode c.code g.pc = .ok (.invokeinterface index count, 5)) (eT : T.heap = h) (hc : cells + kc ≤ R.cells := by decide) (hs : slots + ks ≤ R.slots := by decide) (hg : g.method = m := by rfl) (hsz : g.locals.size = mx := by rfl) (hW : 2 * g.monitorRoom + (rest.map fun v => v.category).sum ≤ W := by show 2 * 0 + _ ≤ _; exact Nat.le_of_eq rfl) :
    ∃ (v : Option Value) (T' : State) (L : List Loc), Stand p l e R s m args below meth c T' (locs ++ L) (cells + kc) (slots + ks) ∧ Q v T'.heap L ∧ Steps p.tables e below S0 (T'.setTop { g with pc := g.pc + 5, stack := v.toList ++ rest }) := by
  obtain ⟨cq, kq, qa, qb, qc⟩ := isOf hZ eT E
  obtain ⟨v, _, ⟨T', L', k', n'⟩, -, X', ⟨L, hQ, l1, l2, l3⟩, st⟩ := X.interfaceBack hx (xi := y) (y := z) hown (mvT hZ w1) (mvT hZ w2) w3 (mvT hZ w4) (mvT hZ w5) (mvT hZ w6) (mvT hZ w7) (mvT hZ w8) hy hK qa qb qc hg (by rw [hml]; exact hsz) cm (argsL := argsL) (rest := rest) hlen hst hW hd (fun _ _ => ⟨rfl, eT, hc, hs⟩)
  dsimp only [Pt.U, Pt.locs, Pt.cells, Pt.slots] at X' l1 l2 l3 st hQ
  subst l1 l2 l3
  exact ⟨v, T', L, X', hQ, st⟩
/-- for the sizes alone -/
theorem own_kz {h1 h2 h3 : Heap} {w1 w2 : List Addr} (K : Keep h1 h2 w1) (K' : Keep h2 h3 w2) : Keep h1 h3 (w1 ++ w2) := by
  refine ⟨Nat.le_trans K.1 K'.1, fun x c q r => K'.2.1 x c (K.2.1 x c q fun z => r (List.mem_append_left _ z)) fun z => r (List.mem_append_right _ z), fun x c q => ?_⟩
  obtain ⟨c1, q1, r1, r2, r3⟩ := K.2.2 x c q
  obtain ⟨c2, q2, t1, t2, t3⟩ := K'.2.2 x c1 q1
  exact ⟨c2, q2, t1.trans r1, t2.trans r2, t3.trans r3⟩
/-- what is returned: a reference -/
theorem own_retR (X : Stand p l e R s m args below meth c T locs cells slots) (hx : p.tables.exec = Jvm.exec) {pc : Nat} {Ls : Array Slot} {w : Value} {t : FieldType} {rest : List Value} (cm : Steps p.tables e below S0 (T.setTop (mkF m pc Ls (w :: rest)))) (hret : meth.sig.returnType = some t) (ht : t.isReference = true) (hw : w.isRef = true) (hd : decode c.code pc = .ok (.areturn, 1)) {fs : List Frame} (hl : ∀ (f : JFrame) (acts : List Action), f.method = m → f.locked = none → f.entered = [] → (doReturn e (T.setTop f) acts (some w)).1 = T.setFrames fs) : Steps p.tables e below S0 (T.setFrames fs) :=
  cm.trans (retOut X hx hret (by cases t <;> first | rfl | cases ht) (Or.inr (Or.inr (Or.inr (Or.inr ⟨rfl, ht, hw⟩)))) hd hl)
end OwnKit
end Jvm.Pilot.@@N@@
namespace Jvm.Pilot.@@N@@
open Jvm Jvm.ClassFile Sem Op Lib Jvm.Free Jvm.Stand Jvm.LawKit Jvm.RoadKit Bundle Jvm.Pilot.@@N@@.Jvm.D
section OwnWide
variable {p : Program} {l : Launch} {e : Env} {R : Room} {s : State} {m : MethodId} {args : Array Value} {below : List Frame} {meth : Method} {c : Code} {T S0 Z : State} {locs : List Loc} {cells slots : Nat} {a0 : Array Value} {h h0 : Heap} {own C : String} {index count : Nat} {y z : MethodName} {bytes : ByteArray} {mx : Nat} {rt : Option FieldType} {rm : Room} {as : Array Value} {Φ : Option Value → Heap → Prop} {EL : List (String × Nat)} {sf : List Addr} {vm0 : Vm}
/-- the wide contract: String constants may be resolved and interned meanwhile; sf: objects handed in that no held constant is -/
def own_WC (l : Launch) (Z : State) (EL : List (String × Nat)) (y : MethodName) (bytes : ByteArray) (mx : Nat) (rt : Option FieldType) (rm : Room) (as : Array Value) (h0 : Heap) (sf : List Addr) (Φ : Option Value → Heap → Prop) : Prop :=
  MetFree l y (head1 [Jvm.Cond.code y bytes mx rt] rm) (fun a U => a = as ∧ Z.Warmed39 U.vm ∧ U.heap = h0 ∧ CHv Z EL U.vm h0 ∧ ∀ x ∈ sf, Safe Z EL U.vm h0 x) (fun _ _ _ _ _ => True) (fun _ U o U' => ∃ v L, o = .returned v ∧ own_Q Z Φ v U'.heap L ∧ CHr Z EL U.vm U.heap U'.vm U'.heap ∧ ReturnedEndW U o U' L rm.cells rm.slots)
def own_WW (l : Launch) (Z : State) (EL : List (String × Nat)) (y : MethodName) (bytes : ByteArray) (mx : Nat) (rt : Option FieldType) (rm : Room) (as : Array Value) (h0 : Heap) (sf : List Addr) (Φ : Option Value → Heap → Prop) : Prop :=
  ∀ (p : Program) (e : Env) (s : State) (m : MethodId) (below : List Frame) (meth : Method) (c : Code) (s₁ S0 : State), Stand p l e rm (s.setVm s.vm) m as below meth c s₁ [] 0 0 → p.tables.exec = Jvm.exec → c.code = bytes → c.maxLocals = mx → meth.sig.returnType = rt → meth.name = y.name → s.vm.findClass y.cls = some m.cls → Z.Warmed39 s.vm → s₁.heap = h0 → s.Since s.vm 0 → CHr Z EL s.vm h0 s.vm h0 → (∀ x ∈ sf, Safe Z EL s.vm h0 x) →
    Steps p.tables e below S0 (s₁.setTop (entryFrame m as mx)) →
    ∃ (T : State) (vm : Vm) (k : Nat) (v : Option Value) (locs : List Loc) (cells slots : Nat), Stand p l e rm (s.setVm vm) m as below meth c T locs cells slots ∧ cells ≤ rm.cells ∧ slots ≤ rm.slots ∧ (rt = none → v = none) ∧ Fr Z.heap.size locs ∧ s.Since vm k ∧ k ≤ T.heap.size ∧ Z.Warmed39 vm ∧ CHr Z EL s.vm h0 vm T.heap ∧ Φ v T.heap ∧
      ∀ fs, (∀ (f : JFrame) (acts : List Action), f.method = m → f.locked = none → f.entered = [] → (doReturn e (T.setTop f) acts v).1 = T.setFrames fs) → Steps p.tables e below S0 (T.setFrames fs)
theorem own_wmet {ws : List Jvm.Cond} (hx : plainFor y = true) (hEL : EW Z a0 EL) (walk : own_WW l Z EL y bytes mx rt rm as h0 sf Φ) :
    MetFree l y (head1 (Jvm.Cond.code y bytes mx rt :: ws) rm) (fun a U => a = as ∧ Z.Warmed39 U.vm ∧ U.heap = h0 ∧ CHv Z EL U.vm h0 ∧ ∀ x ∈ sf, Safe Z EL U.vm h0 x) (fun _ _ _ _ _ => True) (fun _ U o U' => ∃ v L, o = .returned v ∧ own_Q Z Φ v U'.heap L ∧ CHr Z EL U.vm U.heap U'.vm U'.heap ∧ ReturnedEndW U o U' L rm.cells rm.slots) := by
  refine MetFree.of_bodySF hx hisR ?_
  intro p e s m args below meth c s₁ Bd hml0 hP hK
  obtain ⟨rfl, hZ, hh, hC, hsf⟩ := hP
  have X0 := Stand.of_body Bd
  obtain ⟨T, vm, k, v, locs, cells, slots, X, hc, hs, hv, hN, hS, hk, hZ', hCR, hΦ, st⟩ := walk p e s m below meth c s₁ _ X0 Bd.exec Bd.bytes hml0 Bd.returns (name_of_methodNamed Bd.named Bd.method).1 (findClass_of_methodNamed Bd.named) hZ (by rw [← hh, Bd.state]; rfl) ((State.WarmedH.refl s).since _) (CHr.refl hC) hsf (Steps.refl _)
  obtain ⟨fs, hr, hrun, hended, hE1, hE2, hE3, hE4⟩ := X.leaveW hS hk (v := v) (fun q => hv (by rw [← Bd.returns]; exact q)) Bd.notSynchronized
  exact ⟨_, _, st fs hr, hrun, hended, _, _, rfl, ⟨hN, hΦ⟩, by rw [hh]; exact (show CHr Z EL s.vm h0 T.vm T.heap from hCR.trans (CHv.at X hZ' hEL hCR.1)), hE1, hE2, hE3, hE4.mono hc hs⟩
theorem own_wc (hx : plainFor y = true) (hEL : EW Z a0 EL) (walk : own_WW l Z EL y bytes mx rt rm as h0 sf Φ) : own_WC l Z EL y bytes mx rt rm as h0 sf Φ := own_wmet hx hEL walk
/-- a payer that may intern -/
abbrev own_PayW (l : Launch) (R : Room) (p : Program) (e : Env) (below : List Frame) (s : State) (vm0 : Vm) (args : Array Value) (y : MethodName) (len W : Nat) (as : Array Value) (h : Heap) (kc ks : Nat) (Z : State) (EL : List (String × Nat)) (Q : Option Value → Heap → List Loc → Prop) : Prop :=
  BackS l R p e below (s.setVm vm0) args y len W (fun A a => a = as ∧ A.U.heap = h ∧ A.cells + kc ≤ R.cells ∧ A.slots + ks ≤ R.slots) (fun A _ v B => ∃ L, Q v B.U.heap L ∧ B.locs = A.locs ++ L ∧ B.cells = A.cells + kc ∧ B.slots = A.slots + ks ∧ CHr Z EL vm0 h B.U.vm B.U.heap)
theorem own_wpay {len W : Nat} (hM : own_WC l Z EL y bytes mx rt rm as h sf Φ) (hZ : Z.Warmed39 vm0) (wc : (Cond.code y bytes mx rt).before a0 Z = true) (wz : (Cond.initialized y.cls).before a0 Z = true) (hf : rm.frames + 1 ≤ R.frames) (hl : W + (mx + 11) + rm.locals ≤ R.locals) (hEL : EW Z a0 EL) (H : CHv Z EL vm0 h) (hsf : ∀ x ∈ sf, x < h.size ∧ Safe Z EL vm0 h x) :
    own_PayW l R p e below s vm0 args y len W as h rm.cells rm.slots Z EL (own_Q Z Φ) :=
  BackS.of_freeW (bytes := bytes) (maxL := mx) (ret := rt) (E := fun _ first o t L k n => k = rm.cells ∧ n = rm.slots ∧ (∃ v, o = .returned v ∧ own_Q Z Φ v t.heap L) ∧ CHr Z EL first.vm first.heap t.vm t.heap) hM hf hl
    (fun m meth c A a Y hp => have hU : Z.Warmed39 A.U.vm := wtrans (s := s.setVm vm0) hZ Y.warmed
      ⟨by show (Cond.and _ .tt).before a A.U = true; rw [Cond.before_and, mv hU wc]; rfl, mv hU wc, mv hU wz, hp.2.2.1, hp.2.2.2⟩)
    (fun m meth c A a g mk Y hp => ⟨hp.1, wtrans (s := s.setVm vm0) hZ Y.warmed, hp.2.1, (CHv.at Y hZ hEL H).1, fun x hx => (CHv.at Y hZ hEL H).safe (hsf x hx).1 (hsf x hx).2⟩) (fun _ _ _ _ _ _ _ _ _ => trivial)
    (fun _ _ _ _ ⟨v, L, h1, h2, h3, h4⟩ => ⟨L, _, _, h4, rfl, rfl, ⟨v, h1, h2⟩, h3⟩)
    (fun m meth c A a g mk v t L k n Y hp _ _ ⟨e1, e2, ⟨v', e3, e4⟩, e5⟩ => by
      cases e3; subst e1 e2
      refine ⟨L, e4, rfl, rfl, rfl, (CHv.at Y hZ hEL H).trans ?_⟩
      rw [← hp.2.1]; exact e5)
variable {W kc ks k0 : Nat} {Q : Option Value → Heap → List Loc → Prop} {g : JFrame} {argsL rest : List Value} {b : Addr}
theorem own_wend {T' : State} (hZ : Z.Warmed39 vm0) (hown : vm0.findClass own = some m.cls) (hS : s.Since vm0 k0) (hk : k0 ≤ T.heap.size) (hS' : (s.setVm vm0).Since T'.vm T'.heap.size) (hg : T.heap.size ≤ T'.heap.size) : s.Since T'.vm T'.heap.size ∧ Z.Warmed39 T'.vm ∧ T'.vm.findClass own = some m.cls :=
  ⟨hS.trans hS' (Nat.le_trans hk hg), State.Warmed39.trans (t := s.setVm vm0) hZ hS'.1, by rw [hS'.1.alike.findClass]; exact hown⟩
theorem own_wstat (X : Stand p l e R (s.setVm vm0) m args below meth c T locs cells slots) (hx : p.tables.exec = Jvm.exec) (hml : c.maxLocals = mx) (hZ : Z.Warmed39 vm0) (hown : vm0.findClass own = some m.cls) (hS : s.Since vm0 k0) (hk : k0 ≤ h.size) {bytes' : ByteArray} {mx' : Nat} {rt' : Option FieldType}
    (w1 : (Cond.methodLink own index y).before a0 Z = true) (w2 : (Cond.static y).before a0 Z = true) (w3 : (Cond.initialized y.cls).before a0 Z = true) (w4 : (Cond.code y bytes' mx' rt').before a0 Z = true) (hy : y.cls ≠ "java/lang/invoke/MethodHandle" ∧ y.cls ≠ "java/lang/invoke/VarHandle")
    (hK : own_PayW l R p e below s vm0 args y 3 W argsL.toArray h kc ks Z EL Q) (cm : Steps p.tables e below S0 (T.setTop g)) (hlen : ∀ sig, parseMethodDescriptor y.desc = some sig → argsL.length = sig.parameters.length) (hst : g.stack = argsL.reverse ++ rest) (hd : decode c.code g.pc = .ok (.invokestatic index, 3)) (eT : T.heap = h) (hc : cells + kc ≤ R.cells := by decide) (hs : slots + ks ≤ R.slots := by decide) (hg : g.method = m := by rfl) (hsz : g.locals.size = mx := by rfl) (hW : 2 * g.monitorRoom + (rest.map fun v => v.category).sum ≤ W := by show 2 * 0 + _ ≤ _; exact Nat.le_of_eq rfl) :
    ∃ (v : Option Value) (T' : State) (L : List Loc), Stand p l e R (s.setVm T'.vm) m args below meth c T' (locs ++ L) (cells + kc) (slots + ks) ∧ s.Since T'.vm T'.heap.size ∧ Z.Warmed39 T'.vm ∧ T'.vm.findClass own = some m.cls ∧ CHr Z EL vm0 h T'.vm T'.heap ∧ Q v T'.heap L ∧ Steps p.tables e below S0 (T'.setTop { g with pc := g.pc + 3, stack := v.toList ++ rest }) := by
  obtain ⟨v, _, ⟨T', L', k', n'⟩, -, X', hS', hg', ⟨L, hQ, l1, l2, l3, l4⟩, st⟩ := callSS X hx (y := y) hown (mvT (s := s.setVm vm0) hZ w1) (mvT (s := s.setVm vm0) hZ w2) (mvT (s := s.setVm vm0) hZ w3) (mvT (s := s.setVm vm0) hZ w4) hy hK hg (by rw [hml]; exact hsz) (argsL := argsL) (rest := rest) hlen hst hW hd (fun _ _ => ⟨rfl, eT, hc, hs⟩)
  dsimp only [Pt.U, Pt.locs, Pt.cells, Pt.slots] at X' l1 l2 l3 l4 st hQ hS' hg'
  subst l1 l2 l3
  obtain ⟨q1, q2, q3⟩ := own_wend hZ hown hS (by rw [eT]; exact hk) hS' hg'
  exact ⟨v, T', L, X', q1, q2, q3, l4, hQ, cm.trans st⟩
theorem own_wspec (X : Stand p l e R (s.setVm vm0) m args below meth c T locs cells slots) (hx : p.tables.exec = Jvm.exec) (hml : c.maxLocals = mx) (hZ : Z.Warmed39 vm0) (hown : vm0.findClass own = some m.cls) (hS : s.Since vm0 k0) (hk : k0 ≤ h.size) {bytes' : ByteArray} {mx' : Nat} (hy1 : y.name = "<init>")
    (w1 : (Cond.methodLink own index y).before a0 Z = true) (w2 : (Cond.instanceMethod y).before a0 Z = true) (w4 : (Cond.code y bytes' mx' none).before a0 Z = true) (hy : y.cls ≠ "java/lang/invoke/MethodHandle" ∧ y.cls ≠ "java/lang/invoke/VarHandle")
    (hK : own_PayW l R p e below s vm0 args y 3 W (.ref b :: argsL).toArray h kc ks Z EL Q) (cm : Steps p.tables e below S0 (T.setTop g)) (hlen : ∀ sig, parseMethodDescriptor y.desc = some sig → argsL.length = sig.parameters.length) (hst : g.stack = argsL.reverse ++ .ref b :: rest) (hd : decode c.code g.pc = .ok (.invokespecial index, 3)) (eT : T.heap = h) (hc : cells + kc ≤ R.cells := by decide) (hs : slots + ks ≤ R.slots := by decide) (hg : g.method = m := by rfl) (hsz : g.locals.size = mx := by rfl) (hW : 2 * g.monitorRoom + (rest.map fun v => v.category).sum ≤ W := by show 2 * 0 + _ ≤ _; exact Nat.le_of_eq rfl) :
    ∃ (v : Option Value) (T' : State) (L : List Loc), Stand p l e R (s.setVm T'.vm) m args below meth c T' (locs ++ L) (cells + kc) (slots + ks) ∧ s.Since T'.vm T'.heap.size ∧ Z.Warmed39 T'.vm ∧ T'.vm.findClass own = some m.cls ∧ CHr Z EL vm0 h T'.vm T'.heap ∧ Q v T'.heap L ∧ Steps p.tables e below S0 (T'.setTop { g with pc := g.pc + 3, stack := v.toList ++ rest }) := by
  obtain ⟨v, _, ⟨T', L', k', n'⟩, -, X', hS', hg', ⟨L, hQ, l1, l2, l3, l4⟩, st⟩ := X.specialBackS hx (y := y) hy1 hown (mvT (s := s.setVm vm0) hZ w1) (mvT (s := s.setVm vm0) hZ w2) (mvT (s := s.setVm vm0) hZ w4) hy hK hg (by rw [hml]; exact hsz) cm (a := b) (argsL := argsL) (rest := rest) hlen hst hW hd (fun _ _ => ⟨rfl, eT, hc, hs⟩)
  dsimp only [Pt.U, Pt.locs, Pt.cells, Pt.slots] at X' l1 l2 l3 l4 st hQ hS' hg'
  subst l1 l2 l3
  obtain ⟨q1, q2, q3⟩ := own_wend hZ hown hS (by rw [eT]; exact hk) hS' hg'
  exact ⟨v, T', L, X', q1, q2, q3, l4, hQ, st⟩
theorem own_wvirt (X : Stand p l e R (s.setVm vm0) m args below meth c T locs cells slots) (hx : p.tables.exec = Jvm.exec) (hml : c.maxLocals = mx) (hZ : Z.Warmed39 vm0) (hown : vm0.findClass own = some m.cls) (hS : s.Since vm0 k0) (hk : k0 ≤ h.size)
    (w1 : (Cond.methodLink own index y).before a0 Z = true) (w2 : (Cond.declares y).before a0 Z = true) (w3 : (Cond.selects C y z).before a0 Z = true) (w4 : (Cond.instanceMethod z).before a0 Z = true) {Dn : String} (w5 : (Cond.selects Dn y y).before a0 Z = true) (hy : y.cls ≠ "java/lang/invoke/MethodHandle" ∧ y.cls ≠ "java/lang/invoke/VarHandle")
    (hK : own_PayW l R p e below s vm0 args z 3 W (.ref b :: argsL).toArray h kc ks Z EL Q) (E : Exa Z h b C) (cm : Steps p.tables e below S0 (T.setTop g)) (hlen : ∀ sig, parseMethodDescriptor y.desc = some sig → argsL.length = sig.parameters.length) (hst : g.stack = argsL.reverse ++ .ref b :: rest) (hd : decode c.code g.pc = .ok (.invokevirtual index, 3)) (eT : T.heap = h) (hc : cells + kc ≤ R.cells := by decide) (hs : slots + ks ≤ R.slots := by decide) (hg : g.method = m := by rfl) (hsz : g.locals.size = mx := by rfl) (hW : 2 * g.monitorRoom + (rest.map fun v => v.category).sum ≤ W := by show 2 * 0 + _ ≤ _; exact Nat.le_of_eq rfl) :
    ∃ (v : Option Value) (T' : State) (L : List Loc), Stand p l e R (s.setVm T'.vm) m args below meth c T' (locs ++ L) (cells + kc) (slots + ks) ∧ s.Since T'.vm T'.heap.size ∧ Z.Warmed39 T'.vm ∧ T'.vm.findClass own = some m.cls ∧ CHr Z EL vm0 h T'.vm T'.heap ∧ Q v T'.heap L ∧ Steps p.tables e below S0 (T'.setTop { g with pc := g.pc + 3, stack := v.toList ++ rest }) := by
  obtain ⟨cq, kq, qa, qb, qc⟩ := isOf (s := s.setVm vm0) hZ eT E
  obtain ⟨v, _, ⟨T', L', k', n'⟩, -, X', hS', hg', ⟨L, hQ, l1, l2, l3, l4⟩, st⟩ := X.virtualBackS hx (y := y) (z := z) hown (mvT (s := s.setVm vm0) hZ w1) (mvT (s := s.setVm vm0) hZ w2) (notFace_of_selects (args := #[]) (mvT (s := s.setVm vm0) hZ w5)) (mvT (s := s.setVm vm0) hZ w3) (mvT (s := s.setVm vm0) hZ w4) hy hK qa qc hg (by rw [hml]; exact hsz) cm (argsL := argsL) (rest := rest) hlen hst hW hd (fun _ _ => ⟨rfl, eT, hc, hs⟩)
  dsimp only [Pt.U, Pt.locs, Pt.cells, Pt.slots] at X' l1 l2 l3 l4 st hQ hS' hg'
  subst l1 l2 l3
  obtain ⟨q1, q2, q3⟩ := own_wend hZ hown hS (by rw [eT]; exact hk) hS' hg'
  exact ⟨v, T', L, X', q1, q2, q3, l4, hQ, st⟩
end OwnWide
end Jvm.Pilot.@@N@@
/- laws to paste: Road.backV, Road.lenW, Road.codOf (cut by pick.py; bodies as the Statement names them) -/
namespace Jvm.Pilot.@@N@@
namespace StrChars
open Jvm Sem ClassFile Op Lib Jvm.Stand Jvm.Free.XT Jvm.Free.ALB Jvm.Free.JM Jvm.Free
open Jvm.Lib.Cold (StaticIs)
/-- a char array whose places are chars -/
def Ch (a : Addr) (A : Cell) (U : State) : Prop := Arr .char a A U ∧ Typed .char A
theorem Ch.mv {a : Addr} {A : Cell} {U U' : State} (h : Ch a A U) (hal : U.vm.Alike U'.vm) (hh : U'.heap = U.heap) : Ch a A U' := ⟨h.1.mv hal hh, h.2⟩
theorem Ch.keep {a : Addr} {A : Cell} {U U' : State} (h : Ch a A U) (hal : U.vm.Alike U'.vm) (hk : U'.heap[a]? = some A) : Ch a A U' := ⟨h.1.keep hal hk, h.2⟩
/-- what place i of a char[]'s cell holds -/
def cv (A : Cell) (i : Nat) : Int32 := match A.slots[i]? with | some (.int x) => x | _ => 0
theorem Ch.get {a : Addr} {A : Cell} {U : State} (h : Ch a A U) {i : Nat} (hi : i < A.slots.size) : A.slots[i]? = some (.int (cv A i)) := by
  have e := Array.getElem?_eq_getElem hi
  have f := h.2 i _ e
  unfold cv; rw [e]
  generalize A.slots[i] = v at f
  cases v <;> simp [fits] at f ⊢
/-- the byte that i2b leaves of a char -/
def lo8 (x : Int32) : Int32 := x.toInt8.toInt32
theorem fits_lo8 (y : Int32) : fits .byte (.int (lo8 y)) = true := by
  have h1 := y.toInt8.le_toInt
  have h2 := y.toInt8.toInt_lt
  simp only [lo8, fits, Bool.and_eq_true, decide_eq_true_eq, Int32.le_iff_toInt_le, Int8.toInt_toInt32, show (-128 : Int32).toInt = -128 from by decide, show (127 : Int32).toInt = 127 from by decide]
  omega
/-- A' is A but that each place j of lo .. hi - 1 holds f j -/
def Laid (A A' : Cell) (lo hi : Nat) (f : Nat → Value) : Prop := A'.cls = A.cls ∧ A'.vm = A.vm ∧ A'.slots.size = A.slots.size ∧ ∀ i, A'.slots[i]? = if lo ≤ i ∧ i < hi then some (f i) else A.slots[i]?
theorem Laid.zero (A : Cell) (lo : Nat) (f : Nat → Value) : Laid A A lo (lo + 0) f := ⟨rfl, rfl, rfl, fun i => by rw [if_neg (by omega)]⟩
theorem Laid.step {A Ak : Cell} {lo k : Nat} {f : Nat → Value} {v : Value} (h : Laid A Ak lo k f) (hlo : lo ≤ k) (hk : k < Ak.slots.size) (hv : v = f k) : Laid A (Ak.setSlot k v) lo (k + 1) f := by
  refine ⟨h.1, h.2.1, by simpa [Cell.setSlot] using h.2.2.1, fun i => ?_⟩
  by_cases e : k = i
  · subst e; rw [Cell.slots_setSlot_self v hk, if_pos (by omega), hv]
  · rw [Cell.slots_setSlot_ne v e, h.2.2.2 i]
    by_cases q : lo ≤ i ∧ i < k
    · rw [if_pos q, if_pos (by omega)]
    · rw [if_neg q, if_neg (by omega)]
def U16 : String := "java/lang/StringUTF16"
namespace Cmp5
def yN : MethodName := ⟨"java/lang/StringUTF16", "compress", "([CI[BII)I"⟩
abbrev yB : ByteArray := jdk_52_method_21_code
theorem d0 : decode yB 0 = .ok (.iconst 0, 1) := by decide +kernel
theorem d1 : decode yB 1 = .ok (.istore 5, 2) := by decide +kernel
theorem d3 : decode yB 3 = .ok (.iload 5, 2) := by decide +kernel
theorem d5 : decode yB 5 = .ok (.iload 4, 2) := by decide +kernel
theorem d7 : decode yB 7 = .ok (.if_icmp (.ge) 37, 3) := by decide +kernel
theorem d10 : decode yB 10 = .ok (.aload_n 0, 1) := by decide +kernel
theorem d11 : decode yB 11 = .ok (.iload_n 1, 1) := by decide +kernel
theorem d12 : decode yB 12 = .ok (.caload, 1) := by decide +kernel
theorem d13 : decode yB 13 = .ok (.istore 6, 2) := by decide +kernel
theorem d15 : decode yB 15 = .ok (.iload 6, 2) := by decide +kernel
theorem d17 : decode yB 17 = .ok (.sipush 255, 3) := by decide +kernel
theorem d20 : decode yB 20 = .ok (.if_icmp (.le) 6, 3) := by decide +kernel
theorem d26 : decode yB 26 = .ok (.aload_n 2, 1) := by decide +kernel
theorem d27 : decode yB 27 = .ok (.iload_n 3, 1) := by decide +kernel
theorem d28 : decode yB 28 = .ok (.iload 6, 2) := by decide +kernel
theorem d30 : decode yB 30 = .ok (.i2b, 1) := by decide +kernel
theorem d31 : decode yB 31 = .ok (.bastore, 1) := by decide +kernel
theorem d32 : decode yB 32 = .ok (.iinc 1 1, 3) := by decide +kernel
theorem d35 : decode yB 35 = .ok (.iinc 3 1, 3) := by decide +kernel
theorem d38 : decode yB 38 = .ok (.iinc 5 1, 3) := by decide +kernel
theorem d41 : decode yB 41 = .ok (.goto (-38), 3) := by decide +kernel
theorem d44 : decode yB 44 = .ok (.iload 4, 2) := by decide +kernel
theorem d46 : decode yB 46 = .ok (.ireturn, 1) := by decide +kernel
def site : List Cond := []
def tab : Cond := tabOf yN yB 7 (some .int) site
def P (b : Addr) (A : Cell) (d : Addr) (B : Cell) (o q len : Nat) (args : Array Value) (s : State) : Prop := args = #[.ref b, .int (Int32.ofNat o), .ref d, .int (Int32.ofNat q), .int (Int32.ofNat len)] ∧ Ch b A s ∧ Arr .byte d B s ∧ b ≠ d ∧ o + len ≤ A.slots.size ∧ q + len ≤ B.slots.size ∧ ∀ i, i < len → ¬ 255 < cv A (o + i)
def E (b : Addr) (A : Cell) (d : Addr) (B : Cell) (o q len : Nat) (r : Option Value) (s u : State) : Prop := r = some (.int (Int32.ofNat len)) ∧ ∃ B', Put d B' s u ∧ Laid B B' q (q + len) (fun j => Value.int (lo8 (cv A (o + (j - q)))))
/-- no char of the range above 255: len; the places written hold each char's low byte -/
theorem law (l : Launch) (b : Addr) (A : Cell) (d : Addr) (B : Cell) (o q len : Nat) : Law l yN 5 5 0 0 yB 7 (some .int) site (P b A d B o q len) (E b A d B o q len) (copyLocs d q len) 0 0 := by
  refine Law.of_walk (plainFor_of_name (by decide +kernel)) (by decide +kernel) (by decide +kernel) (by decide) (fun _ _ h => by rw [h.1]; rfl) (fun _ U U' hal hh h => ⟨h.1, h.2.1.mv hal hh, h.2.2.1.mv hal hh, h.2.2.2⟩) (fun r U U' V V' h1 hal h2 h => ⟨h.1, h.2.elim fun B' q => ⟨B', q.1.mv h1 h2, q.2⟩⟩) ?_
  intro p e s m args below meth c s₁ X0 hexec hbytes hml hret hlk hnm hown hh0 W hP
  obtain ⟨rfl, hA, hB, hne, l1, l2, hp⟩ := hP
  have c1 : Steps p.tables e below (s₁.setTop (entryFrame m #[.ref b, .int (Int32.ofNat o), .ref d, .int (Int32.ofNat q), .int (Int32.ofNat len)] 7)) (s₁.setTop (mkF m 0 #[.val (.ref b), .val (.int (Int32.ofNat o)), .val (.ref d), .val (.int (Int32.ofNat q)), .val (.int (Int32.ofNat len)), .unset, .unset] [])) := entry rfl
  have hA0 := hA.1.mv X0.warmed.alike hh0
  have hB0 := hB.mv X0.warmed.alike hh0
  have a31 := hA.1.2.2.2
  have c2 : Steps p.tables e below (s₁.setTop (entryFrame m #[.ref b, .int (Int32.ofNat o), .ref d, .int (Int32.ofNat q), .int (Int32.ofNat len)] 7)) (s₁.setTop (mkF m 3 #[.val (.ref b), .val (.int (Int32.ofNat o)), .val (.ref d), .val (.int (Int32.ofNat q)), .val (.int (Int32.ofNat len)), .val (.int 0), .unset] [])) := c1.trans (by
    refine iconstV X0.here hexec rfl 0 (hb hbytes d0) (by decide) ?_
    refine XS.istore X0.here hexec rfl (hb hbytes d1) rfl rfl ?_
    exact Steps.refl _)
  have loop : ∀ (r i : Nat), i + r = len → ∀ (z : Slot), (z = .unset ∨ ∃ w, z = .val w ∧ w.category = 1) → ∀ (Tl : State) (Bk : Cell), Stand p l e { frames := 0, locals := 0, cells := 0, slots := 0 } s m #[.ref b, .int (Int32.ofNat o), .ref d, .int (Int32.ofNat q), .int (Int32.ofNat len)] below meth c Tl ([] ++ copyLocs d q i) 0 0 → Put d Bk s₁ Tl → Laid B Bk q (q + i) (fun j => Value.int (lo8 (cv A (o + (j - q))))) →
      Steps p.tables e below (s₁.setTop (entryFrame m #[.ref b, .int (Int32.ofNat o), .ref d, .int (Int32.ofNat q), .int (Int32.ofNat len)] 7)) (Tl.setTop (mkF m 3 #[.val (.ref b), .val (.int (Int32.ofNat (o + i))), .val (.ref d), .val (.int (Int32.ofNat (q + i))), .val (.int (Int32.ofNat len)), .val (.int (Int32.ofNat i)), z] [])) → ∃ (T' : State) (B' : Cell) (z' : Slot), Stand p l e { frames := 0, locals := 0, cells := 0, slots := 0 } s m #[.ref b, .int (Int32.ofNat o), .ref d, .int (Int32.ofNat q), .int (Int32.ofNat len)] below meth c T' ([] ++ copyLocs d q len) 0 0 ∧ Put d B' s₁ T' ∧ Laid B B' q (q + len) (fun j => Value.int (lo8 (cv A (o + (j - q))))) ∧
      Steps p.tables e below (s₁.setTop (entryFrame m #[.ref b, .int (Int32.ofNat o), .ref d, .int (Int32.ofNat q), .int (Int32.ofNat len)] 7)) (T'.setTop (mkF m 3 #[.val (.ref b), .val (.int (Int32.ofNat (o + len))), .val (.ref d), .val (.int (Int32.ofNat (q + len))), .val (.int (Int32.ofNat len)), .val (.int (Int32.ofNat len)), z'] [])) := by
    intro r
    induction r with
    | zero =>
      intro i hi z hz Tl Bk Xl pl fl cl
      have hil : i = len := by omega
      rw [hil] at Xl fl cl
      exact ⟨Tl, Bk, z, Xl, pl, fl, cl⟩
    | succ r ih =>
      intro i hi z hz Tl Bk Xl pl fl cl
      have all := X0.warmed.alike.symm.trans Xl.warmed.alike
      have hAl := hA0.keep all (pl.other hne hA0.1)
      have hBk := hB0.like all pl.1 fl.1 fl.2.1 fl.2.2.1
      have hlt : q + i < Bk.slots.size := by rw [fl.2.2.1]; omega
      have c3 : Steps p.tables e below (s₁.setTop (entryFrame m #[.ref b, .int (Int32.ofNat o), .ref d, .int (Int32.ofNat q), .int (Int32.ofNat len)] 7)) (Tl.setTop (mkF m 12 #[.val (.ref b), .val (.int (Int32.ofNat (o + i))), .val (.ref d), .val (.int (Int32.ofNat (q + i))), .val (.int (Int32.ofNat len)), .val (.int (Int32.ofNat i)), z] [.int (Int32.ofNat (o + i)), .ref b])) := cl.trans (by
        refine XS.iload Xl.here hexec rfl (hb hbytes d3) rfl ?_
        refine XS.iload Xl.here hexec rfl (hb hbytes d5) rfl ?_
        refine XS.icmpNo Xl.here hexec rfl (hb hbytes d7) rfl (ii_ge_f (lt32 (by omega) (by omega))) ?_
        refine XS.aloadN Xl.here hexec rfl (hb hbytes d10) rfl rfl ?_
        refine XS.iloadN Xl.here hexec rfl (hb hbytes d11) rfl ?_
        exact Steps.refl _)
      have c4 : Steps p.tables e below (s₁.setTop (entryFrame m #[.ref b, .int (Int32.ofNat o), .ref d, .int (Int32.ofNat q), .int (Int32.ofNat len)] 7)) (Tl.setTop (mkF m 13 #[.val (.ref b), .val (.int (Int32.ofNat (o + i))), .val (.ref d), .val (.int (Int32.ofNat (q + i))), .val (.int (Int32.ofNat len)), .val (.int (Int32.ofNat i)), z] [.int (cv A (o + i))])) := c3.trans (by
        refine Xl.aget hexec hAl rfl (hA.get (i := o + i) (by omega)) rfl rfl (hb hbytes d12) ?_
        exact Steps.refl _)
      have c5 : Steps p.tables e below (s₁.setTop (entryFrame m #[.ref b, .int (Int32.ofNat o), .ref d, .int (Int32.ofNat q), .int (Int32.ofNat len)] 7)) (Tl.setTop (mkF m 15 #[.val (.ref b), .val (.int (Int32.ofNat (o + i))), .val (.ref d), .val (.int (Int32.ofNat (q + i))), .val (.int (Int32.ofNat len)), .val (.int (Int32.ofNat i)), .val (.int (cv A (o + i)))] [])) := c4.trans (by
        refine XS.istoreS Xl.here hexec rfl (hb hbytes d13) rfl rfl hz ?_
        exact Steps.refl _)
      have c6 : Steps p.tables e below (s₁.setTop (entryFrame m #[.ref b, .int (Int32.ofNat o), .ref d, .int (Int32.ofNat q), .int (Int32.ofNat len)] 7)) (Tl.setTop (mkF m 31 #[.val (.ref b), .val (.int (Int32.ofNat (o + i))), .val (.ref d), .val (.int (Int32.ofNat (q + i))), .val (.int (Int32.ofNat len)), .val (.int (Int32.ofNat i)), .val (.int (cv A (o + i)))] [.int (lo8 (cv A (o + i))), .int (Int32.ofNat (q + i)), .ref d])) := c5.trans (by
        refine XS.iload Xl.here hexec rfl (hb hbytes d15) rfl ?_
        refine sipushV Xl.here hexec rfl 255 (hb hbytes d17) (by decide) ?_
        refine XS.icmpYes Xl.here hexec rfl (pc0 := 20) rfl (hb hbytes d20) rfl (ii_le_t (hp i (by omega))) (by decide) rfl ?_
        refine XS.aloadN Xl.here hexec rfl (hb hbytes d26) rfl rfl ?_
        refine XS.iloadN Xl.here hexec rfl (hb hbytes d27) rfl ?_
        refine XS.iload Xl.here hexec rfl (hb hbytes d28) rfl ?_
        refine i2b Xl.here hexec rfl (hb hbytes d30) rfl ?_
        exact Steps.refl _)
      obtain ⟨T7, X7, p7, st7⟩ := Xl.aput hexec hBk rfl hlt rfl (fits_lo8 (cv A (o + i))) (g := (mkF m 31 #[.val (.ref b), .val (.int (Int32.ofNat (o + i))), .val (.ref d), .val (.int (Int32.ofNat (q + i))), .val (.int (Int32.ofNat len)), .val (.int (Int32.ofNat i)), .val (.int (cv A (o + i)))] [.int (lo8 (cv A (o + i))), .int (Int32.ofNat (q + i)), .ref d])) rfl (rest := []) rfl (hb hbytes d31)
      have c8 : Steps p.tables e below (s₁.setTop (entryFrame m #[.ref b, .int (Int32.ofNat o), .ref d, .int (Int32.ofNat q), .int (Int32.ofNat len)] 7)) (T7.setTop (mkF m 32 #[.val (.ref b), .val (.int (Int32.ofNat (o + i))), .val (.ref d), .val (.int (Int32.ofNat (q + i))), .val (.int (Int32.ofNat len)), .val (.int (Int32.ofNat i)), .val (.int (cv A (o + i)))] [])) := c6.trans (st7 _ (Steps.refl _))
      have c9 : Steps p.tables e below (s₁.setTop (entryFrame m #[.ref b, .int (Int32.ofNat o), .ref d, .int (Int32.ofNat q), .int (Int32.ofNat len)] 7)) (T7.setTop (mkF m 3 #[.val (.ref b), .val (.int (Int32.ofNat (o + i) + 1)), .val (.ref d), .val (.int (Int32.ofNat (q + i) + 1)), .val (.int (Int32.ofNat len)), .val (.int (Int32.ofNat i + 1)), .val (.int (cv A (o + i)))] [])) := c8.trans (by
        refine iincV X7.here hexec rfl 1 (hb hbytes d32) (by decide) rfl rfl ?_
        refine iincV X7.here hexec rfl 1 (hb hbytes d35) (by decide) rfl rfl ?_
        refine iincV X7.here hexec rfl 1 (hb hbytes d38) (by decide) rfl rfl ?_
        refine XS.goto X7.here hexec rfl (pc0 := 41) rfl (hb hbytes d41) (by decide) rfl ?_
        exact Steps.refl _)
      have c10 : Steps p.tables e below (s₁.setTop (entryFrame m #[.ref b, .int (Int32.ofNat o), .ref d, .int (Int32.ofNat q), .int (Int32.ofNat len)] 7)) (T7.setTop (mkF m 3 #[.val (.ref b), .val (.int (Int32.ofNat (o + (i + 1)))), .val (.ref d), .val (.int (Int32.ofNat (q + (i + 1)))), .val (.int (Int32.ofNat len)), .val (.int (Int32.ofNat (i + 1))), .val (.int (cv A (o + i)))] [])) := by
        have := c9
        rw [succ32, succ32, succ32] at this
        exact this
      exact ih (i + 1) (by omega) _ (Or.inr ⟨_, rfl, rfl⟩) T7 _ (by rw [copyLocs_step, ← List.append_assoc]; exact X7) (pl.trans p7) (fl.step (by omega) hlt (by simp)) c10
  obtain ⟨T9, B9, z9, X9, p9, f9, g9⟩ := loop len 0 (by omega) .unset (Or.inl rfl) s₁ B (by simpa [copyLocs] using X0) ⟨hB0.1, fun _ _ => rfl, rfl⟩ (Laid.zero _ _ _) c2
  have c11 : Steps p.tables e below (s₁.setTop (entryFrame m #[.ref b, .int (Int32.ofNat o), .ref d, .int (Int32.ofNat q), .int (Int32.ofNat len)] 7)) (T9.setTop (mkF m 46 #[.val (.ref b), .val (.int (Int32.ofNat (o + len))), .val (.ref d), .val (.int (Int32.ofNat (q + len))), .val (.int (Int32.ofNat len)), .val (.int (Int32.ofNat len)), z9] [.int (Int32.ofNat len)])) := g9.trans (by
    refine XS.iload X9.here hexec rfl (hb hbytes d3) rfl ?_
    refine XS.iload X9.here hexec rfl (hb hbytes d5) rfl ?_
    refine XS.icmpYes X9.here hexec rfl (pc0 := 7) rfl (hb hbytes d7) rfl (ii_ge_t (nlt32 (by omega) (Nat.le_refl _))) (by decide) rfl ?_
    refine XS.iload X9.here hexec rfl (hb hbytes d44) rfl ?_
    exact Steps.refl _)
  exact ⟨T9, some (.int (Int32.ofNat len)), _, _, _, X9, by simp, rfl, rfl, (fun h => by cases h), ⟨rfl, B9, p9.from hh0, f9⟩, fun fs hl => c11.trans (X9.ireturnOut hexec hret rfl (Or.inl rfl) (hb hbytes d46) hl)⟩
end Cmp5
namespace Cmp3
def yN : MethodName := ⟨"java/lang/StringUTF16", "compress", "([CII)[B"⟩
abbrev yB : ByteArray := jdk_52_method_16_code
theorem d0 : decode yB 0 = .ok (.iload_n 2, 1) := by decide +kernel
theorem d1 : decode yB 1 = .ok (.newarray .byte, 2) := by decide +kernel
theorem d3 : decode yB 3 = .ok (.astore_n 3, 1) := by decide +kernel
theorem d4 : decode yB 4 = .ok (.aload_n 0, 1) := by decide +kernel
theorem d5 : decode yB 5 = .ok (.iload_n 1, 1) := by decide +kernel
theorem d6 : decode yB 6 = .ok (.aload_n 3, 1) := by decide +kernel
theorem d7 : decode yB 7 = .ok (.iconst 0, 1) := by decide +kernel
theorem d8 : decode yB 8 = .ok (.iload_n 2, 1) := by decide +kernel
theorem d9 : decode yB 9 = .ok (.invokestatic 115, 3) := by decide +kernel
theorem d12 : decode yB 12 = .ok (.istore 4, 2) := by decide +kernel
theorem d14 : decode yB 14 = .ok (.iload 4, 2) := by decide +kernel
theorem d16 : decode yB 16 = .ok (.iload_n 2, 1) := by decide +kernel
theorem d17 : decode yB 17 = .ok (.if_icmp (.eq) 40, 3) := by decide +kernel
theorem d57 : decode yB 57 = .ok (.aload_n 3, 1) := by decide +kernel
theorem d58 : decode yB 58 = .ok (.areturn, 1) := by decide +kernel
def site : List Cond := [.arrayClass .byte, Cmp5.tab] ++ staticW U16 115 Cmp5.yN
def tab : Cond := tabOf yN yB 6 (some (.array .byte)) site
def P (b : Addr) (A : Cell) (o len : Nat) (args : Array Value) (s : State) : Prop := args = #[.ref b, .int (Int32.ofNat o), .int (Int32.ofNat len)] ∧ Ch b A s ∧ o + len ≤ A.slots.size ∧ len ≤ 536870912 ∧ ∀ i, i < len → ¬ 255 < cv A (o + i)
def E (b : Addr) (A : Cell) (o len : Nat) (r : Option Value) (s u : State) : Prop := NewArr .byte "[B" len (fun j => .int (lo8 (cv A (o + j)))) r s u ∧ u.heap.size = s.heap.size + 1
/-- no char of the range above 255: a new byte[] of their low bytes -/
theorem law (l : Launch) (b : Addr) (A : Cell) (o len : Nat) : Law l yN 3 3 1 18 yB 6 (some (.array .byte)) site (P b A o len) (E b A o len) [] 1 len := by
  refine Law.of_walk (plainFor_of_name (by decide +kernel)) (by decide +kernel) (by decide +kernel) (by decide) (fun _ _ h => by rw [h.1]; rfl) (fun _ U U' hal hh h => ⟨h.1, h.2.1.mv hal hh, h.2.2⟩) (fun r U U' V V' h1 hal h2 h => ⟨NewArr.mv r U U' V V' h1 hal h2 h.1, by rw [h1, h2]; exact h.2⟩) ?_
  intro p e s m args below meth c s₁ X0 hexec hbytes hml hret hlk hnm hown hh0 W hP
  obtain ⟨rfl, hA, l1, l2, hp⟩ := hP
  have a31 := hA.1.2.2.2
  have c1 : Steps p.tables e below (s₁.setTop (entryFrame m #[.ref b, .int (Int32.ofNat o), .int (Int32.ofNat len)] 6)) (s₁.setTop (mkF m 0 #[.val (.ref b), .val (.int (Int32.ofNat o)), .val (.int (Int32.ofNat len)), .unset, .unset, .unset] [])) := entry rfl
  have c2 : Steps p.tables e below (s₁.setTop (entryFrame m #[.ref b, .int (Int32.ofNat o), .int (Int32.ofNat len)] 6)) (s₁.setTop (mkF m 1 #[.val (.ref b), .val (.int (Int32.ofNat o)), .val (.int (Int32.ofNat len)), .unset, .unset, .unset] [.int (Int32.ofNat len)])) := c1.trans (by
    refine XS.iloadN X0.here hexec rfl (hb hbytes d0) rfl ?_
    exact Steps.refl _)
  obtain ⟨T3, B3, X3, ba3, bs3, bv3, bh3, bf3, st3⟩ := X0.anew hexec (atype := .byte) (wk W (.arrayClass .byte)) rfl (by show len * 1 ≤ _; omega) (by omega) (g := (mkF m 1 #[.val (.ref b), .val (.int (Int32.ofNat o)), .val (.int (Int32.ofNat len)), .unset, .unset, .unset] [.int (Int32.ofNat len)])) rfl (hb hbytes d1) (rest := []) rfl (Nat.le_refl _) (by show 0 + len ≤ len; omega)
  rw [hh0] at ba3 st3
  have kp3 : XT.Kept s T3 := (XT.Kept.of_eq hh0).push bh3
  have hA3 := hA.keep X3.warmed.alike (kp3 _ _ hA.1.1)
  have hne : b ≠ s.heap.size := hA.1.ne
  have c4 : Steps p.tables e below (s₁.setTop (entryFrame m #[.ref b, .int (Int32.ofNat o), .int (Int32.ofNat len)] 6)) (T3.setTop (mkF m 3 #[.val (.ref b), .val (.int (Int32.ofNat o)), .val (.int (Int32.ofNat len)), .unset, .unset, .unset] [.ref s.heap.size])) := c2.trans (st3 _ (Steps.refl _))
  have c5 : Steps p.tables e below (s₁.setTop (entryFrame m #[.ref b, .int (Int32.ofNat o), .int (Int32.ofNat len)] 6)) (T3.setTop (mkF m 9 #[.val (.ref b), .val (.int (Int32.ofNat o)), .val (.int (Int32.ofNat len)), .val (.ref s.heap.size), .unset, .unset] [.int (Int32.ofNat len), .int 0, .ref s.heap.size, .int (Int32.ofNat o), .ref b])) := c4.trans (by
    refine XS.astoreN X3.here hexec rfl (hb hbytes d3) rfl rfl rfl ?_
    refine XS.aloadN X3.here hexec rfl (hb hbytes d4) rfl rfl ?_
    refine XS.iloadN X3.here hexec rfl (hb hbytes d5) rfl ?_
    refine XS.aloadN X3.here hexec rfl (hb hbytes d6) rfl rfl ?_
    refine iconstV X3.here hexec rfl 0 (hb hbytes d7) (by decide) ?_
    refine XS.iloadN X3.here hexec rfl (hb hbytes d8) rfl ?_
    exact Steps.refl _)
  obtain ⟨v6, T6, X6, E6, g6⟩ := X3.callS hexec (Cmp5.law l b A s.heap.size B3 o 0 len) hown (wks W (staticW U16 115 Cmp5.yN)) (wk W Cmp5.tab) (W := 0) (Nat.le_of_ble_eq_true rfl) (Nat.le_of_ble_eq_true rfl) (Nat.le_refl _) (by show 0 + len + 0 ≤ len; omega) (g := (mkF m 9 #[.val (.ref b), .val (.int (Int32.ofNat o)), .val (.int (Int32.ofNat len)), .val (.ref s.heap.size), .unset, .unset] [.int (Int32.ofNat len), .int (Int32.ofNat 0), .ref s.heap.size, .int (Int32.ofNat o), .ref b])) rfl (by rw [hml]; rfl) c5 (argsL := [.ref b, .int (Int32.ofNat o), .ref s.heap.size, .int (Int32.ofNat 0), .int (Int32.ofNat len)]) (rest := []) rfl rfl (by show 2 * 0 + 0 ≤ _; decide) (hb hbytes d9) (⟨rfl, hA3, ba3, hne, l1, by rw [bs3]; simp, hp⟩)
  obtain ⟨rfl, B6, p6, f6⟩ := E6
  have c7 : Steps p.tables e below (s₁.setTop (entryFrame m #[.ref b, .int (Int32.ofNat o), .int (Int32.ofNat len)] 6)) (T6.setTop (mkF m 12 #[.val (.ref b), .val (.int (Int32.ofNat o)), .val (.int (Int32.ofNat len)), .val (.ref s.heap.size), .unset, .unset] [.int (Int32.ofNat len)])) := g6
  have c8 : Steps p.tables e below (s₁.setTop (entryFrame m #[.ref b, .int (Int32.ofNat o), .int (Int32.ofNat len)] 6)) (T6.setTop (mkF m 58 #[.val (.ref b), .val (.int (Int32.ofNat o)), .val (.int (Int32.ofNat len)), .val (.ref s.heap.size), .val (.int (Int32.ofNat len)), .unset] [.ref s.heap.size])) := c7.trans (by
    refine XS.istore X6.here hexec rfl (hb hbytes d12) rfl rfl ?_
    refine XS.iload X6.here hexec rfl (hb hbytes d14) rfl ?_
    refine XS.iloadN X6.here hexec rfl (hb hbytes d16) rfl ?_
    refine XS.icmpYes X6.here hexec rfl (pc0 := 17) rfl (hb hbytes d17) rfl (ii_eq_t rfl) (by decide) rfl ?_
    refine XS.aloadN X6.here hexec rfl (hb hbytes d57) rfl rfl ?_
    exact Steps.refl _)
  have X8 := X6.wide (L' := []) (cells' := 1) (slots' := len) (fun x hx hlt => by
    simp only [List.nil_append, copyLocs, List.mem_map, List.mem_range] at hx
    obtain ⟨i, -, rfl⟩ := hx
    exact absurd hlt (Nat.lt_irrefl _)) (Nat.le_refl _) (by omega)
  exact ⟨T6, some (.ref s.heap.size), _, _, _, X8, rfl, rfl, rfl, (fun h => by cases h), ⟨⟨rfl, B6, ba3.like (X3.warmed.alike.symm.trans X6.warmed.alike) p6.1 f6.1 f6.2.1 f6.2.2.1, f6.2.1.trans bv3, by rw [X6.warmed.alike.findClass, f6.1]; exact bf3, by rw [f6.2.2.1, bs3]; simp, fun j hj => by rw [f6.2.2.2 j, if_pos (by omega)]; rfl, kp3.put p6 (Nat.le_refl _)⟩, by rw [p6.2.2, bh3, hh0]; simp⟩, fun fs hl => c8.trans (X8.areturnOut hexec rfl hret rfl (hb hbytes d58) hl)⟩
end Cmp3
namespace CodL
def yN : MethodName := ⟨"java/lang/StringUTF16", "coderFromArrayLen", "([BI)B"⟩
abbrev yB : ByteArray := jdk_52_method_15_code
theorem d0 : decode yB 0 = .ok (.iload_n 1, 1) := by decide +kernel
theorem d1 : decode yB 1 = .ok (.aload_n 0, 1) := by decide +kernel
theorem d2 : decode yB 2 = .ok (.arraylength, 1) := by decide +kernel
theorem d3 : decode yB 3 = .ok (.isub, 1) := by decide +kernel
theorem d4 : decode yB 4 = .ok (.bipush 31, 2) := by decide +kernel
theorem d6 : decode yB 6 = .ok (.iushr, 1) := by decide +kernel
theorem d7 : decode yB 7 = .ok (.i2b, 1) := by decide +kernel
theorem d8 : decode yB 8 = .ok (.ireturn, 1) := by decide +kernel
def site : List Cond := []
def tab : Cond := tabOf yN yB 2 (some .byte) site
def P (d : Addr) (B : Cell) (args : Array Value) (s : State) : Prop := args = #[.ref d, .int (Int32.ofNat B.slots.size)] ∧ Arr .byte d B s
def E (r : Option Value) (s u : State) : Prop := XT.PureE (some (.int 0)) r s u
/-- an array as long as the number of chars: LATIN1 -/
theorem law (l : Launch) (d : Addr) (B : Cell) : Law l yN 2 2 0 0 yB 2 (some .byte) site (P d B) E [] 0 0 := by
  refine Law.of_walk (plainFor_of_name (by decide +kernel)) (by decide +kernel) (by decide +kernel) (by decide) (fun _ _ h => by rw [h.1]; rfl) (fun _ U U' hal hh h => ⟨h.1, h.2.mv hal hh⟩) (fun r U U' V V' h1 hal h2 h => XT.PureE.mv r U U' V V' h1 hal h2 h) ?_
  intro p e s m args below meth c s₁ X0 hexec hbytes hml hret hlk hnm hown hh0 W hP
  obtain ⟨rfl, hB⟩ := hP
  have hB0 := hB.mv X0.warmed.alike hh0
  have c1 : Steps p.tables e below (s₁.setTop (entryFrame m #[.ref d, .int (Int32.ofNat B.slots.size)] 2)) (s₁.setTop (mkF m 0 #[.val (.ref d), .val (.int (Int32.ofNat B.slots.size))] [])) := entry rfl
  have c2 : Steps p.tables e below (s₁.setTop (entryFrame m #[.ref d, .int (Int32.ofNat B.slots.size)] 2)) (s₁.setTop (mkF m 2 #[.val (.ref d), .val (.int (Int32.ofNat B.slots.size))] [.ref d, .int (Int32.ofNat B.slots.size)])) := c1.trans (by
    refine XS.iloadN X0.here hexec rfl (hb hbytes d0) rfl ?_
    refine XS.aloadN X0.here hexec rfl (hb hbytes d1) rfl rfl ?_
    exact Steps.refl _)
  have c3 : Steps p.tables e below (s₁.setTop (entryFrame m #[.ref d, .int (Int32.ofNat B.slots.size)] 2)) (s₁.setTop (mkF m 8 #[.val (.ref d), .val (.int (Int32.ofNat B.slots.size))] [.int (lo8 (ushr (Int32.ofNat B.slots.size - Int32.ofNat B.slots.size) 31))])) := c2.trans (by
    refine X0.alen hexec hB0 rfl rfl (hb hbytes d2) ?_
    refine XS.isub X0.here hexec rfl (hb hbytes d3) rfl ?_
    refine bipushV X0.here hexec rfl 31 (hb hbytes d4) (by decide) ?_
    refine iushr X0.here hexec rfl (hb hbytes d6) rfl ?_
    refine i2b X0.here hexec rfl (hb hbytes d7) rfl ?_
    exact Steps.refl _)
  have e0 : lo8 (ushr (Int32.ofNat B.slots.size - Int32.ofNat B.slots.size) 31) = 0 := by rw [Int32.sub_self]; decide
  rw [e0] at c3
  exact ⟨s₁, some (.int 0), _, _, _, X0, rfl, rfl, rfl, (fun h => by cases h), ⟨rfl, hh0⟩, fun fs hl => c3.trans (X0.ireturnOut hexec hret rfl (Or.inr (Or.inr (Or.inl rfl))) (hb hbytes d8) hl)⟩
end CodL
/-- the String at a is Latin-1 over a new byte[] (the heap's one new cell): the low bytes of the len chars of A from o on; every cell but a is kept -/
def Got (a : Addr) (D : Cell) (fV fC : Field) (A : Cell) (o len : Nat) (r : Option Value) (s u : State) : Prop := r = none ∧ ∃ D' V : Cell, Blank "java/lang/String" a D' u ∧ Same D D' [fV.slot, fC.slot] ∧ D'.slots[fV.slot]? = some (.ref s.heap.size) ∧ D'.slots[fC.slot]? = some (.int 0) ∧ Arr .byte s.heap.size V u ∧ V.vm = .none ∧ u.vm.findClass "[B" = some V.cls ∧ V.slots.size = len ∧ (∀ j, j < len → V.slots[j]? = some (.int (lo8 (cv A (o + j))))) ∧ (∀ (y : Addr) (c : Cell), y ≠ a → s.heap[y]? = some c → u.heap[y]? = some c) ∧ u.heap.size = s.heap.size + 1
theorem Got.mv {a : Addr} {D A : Cell} {fV fC : Field} {o len : Nat} : ∀ r (U U' V V' : State), U'.heap = U.heap → V.vm.Alike V'.vm → V'.heap = V.heap → Got a D fV fC A o len r U V → Got a D fV fC A o len r U' V' :=
  fun r U U' V V' h1 hal h2 ⟨e0, D', X, a1, a2, a3, a4, a5, a6, a7, a8, a9, a10, a11⟩ => ⟨e0, D', X, a1.mv hal h2, a2, by rw [h1]; exact a3, a4, by rw [h1]; exact a5.mv hal h2, a6, by rw [hal.findClass]; exact a7, a8, a9, by rw [h1, h2]; exact a10, by rw [h1, h2]; exact a11⟩
namespace New4
def yN : MethodName := ⟨"java/lang/String", "<init>", "([CIILjava/lang/Void;)V"⟩
abbrev yB : ByteArray := jdk_42_method_149_code
theorem d0 : decode yB 0 = .ok (.aload_n 0, 1) := by decide +kernel
theorem d1 : decode yB 1 = .ok (.invokespecial 1, 3) := by decide +kernel
theorem d4 : decode yB 4 = .ok (.iload_n 3, 1) := by decide +kernel
theorem d5 : decode yB 5 = .ok (.ifCond (.ne) 22, 3) := by decide +kernel
theorem d27 : decode yB 27 = .ok (.getstatic 38, 3) := by decide +kernel
theorem d30 : decode yB 30 = .ok (.ifCond (.eq) 28, 3) := by decide +kernel
theorem d33 : decode yB 33 = .ok (.aload_n 1, 1) := by decide +kernel
theorem d34 : decode yB 34 = .ok (.iload_n 2, 1) := by decide +kernel
theorem d35 : decode yB 35 = .ok (.iload_n 3, 1) := by decide +kernel
theorem d36 : decode yB 36 = .ok (.invokestatic 177, 3) := by decide +kernel
theorem d39 : decode yB 39 = .ok (.astore 5, 2) := by decide +kernel
theorem d41 : decode yB 41 = .ok (.aload_n 0, 1) := by decide +kernel
theorem d42 : decode yB 42 = .ok (.aload 5, 2) := by decide +kernel
theorem d44 : decode yB 44 = .ok (.iload_n 3, 1) := by decide +kernel
theorem d45 : decode yB 45 = .ok (.invokestatic 47, 3) := by decide +kernel
theorem d48 : decode yB 48 = .ok (.putfield 15, 3) := by decide +kernel
theorem d51 : decode yB 51 = .ok (.aload_n 0, 1) := by decide +kernel
theorem d52 : decode yB 52 = .ok (.aload 5, 2) := by decide +kernel
theorem d54 : decode yB 54 = .ok (.putfield 9, 3) := by decide +kernel
theorem d57 : decode yB 57 = .ok (.return_, 1) := by decide +kernel
def site : List Cond := [.fieldLink "java/lang/String" 38 "java/lang/String" "COMPACT_STRINGS" "Z", Cmp3.tab, CodL.tab, .laysFinal "java/lang/String" "java/lang/String" "value" "[B", .fieldLink "java/lang/String" 9 "java/lang/String" "value" "[B", .laysFinal "java/lang/String" "java/lang/String" "coder" "B", .fieldLink "java/lang/String" 15 "java/lang/String" "coder" "B"] ++ objW "java/lang/String" 1 ++ staticW "java/lang/String" 177 Cmp3.yN ++ staticW "java/lang/String" 47 CodL.yN
def tab : Cond := tabOf yN yB 6 none site
def P (a : Addr) (D : Cell) (fV fC : Field) (b : Addr) (A : Cell) (z : Int32) (o len : Nat) (args : Array Value) (s : State) : Prop := args = #[.ref a, .ref b, .int (Int32.ofNat o), .int (Int32.ofNat len), .null] ∧ Blank "java/lang/String" a D s ∧ Found "java/lang/String" "value" "[B" fV s ∧ Found "java/lang/String" "coder" "B" fC s ∧ Ch b A s ∧ StaticIs s "java/lang/String" "COMPACT_STRINGS" "Z" (.int z) ∧ ¬ z = 0 ∧ 0 < len ∧ o + len ≤ A.slots.size ∧ len ≤ 536870912 ∧ ∀ i, i < len → ¬ 255 < cv A (o + i)
def E (a : Addr) (D : Cell) (fV fC : Field) (A : Cell) (o len : Nat) (r : Option Value) (s u : State) : Prop := Got a D fV fC A o len r s u
/-- len > 0, no char of the range above 255: a Latin-1 String of their low bytes -/
theorem law (l : Launch) (a : Addr) (D : Cell) (fV fC : Field) (b : Addr) (A : Cell) (z : Int32) (o len : Nat) : Law l yN 5 4 2 35 yB 6 none site (P a D fV fC b A z o len) (E a D fV fC A o len) [⟨a, fC.slot⟩, ⟨a, fV.slot⟩] 1 len := by
  refine Law.of_walk (plainFor_of_name (by decide +kernel)) (by decide +kernel) (by decide +kernel) (by decide) (fun _ _ h => by rw [h.1]; rfl) (fun _ U U' hal hh h => ⟨h.1, h.2.1.mv hal hh, h.2.2.1.al hal, h.2.2.2.1.al hal, h.2.2.2.2.1.mv hal hh, h.2.2.2.2.2.1.there hal hh, h.2.2.2.2.2.2⟩) (fun r U U' V V' h1 hal h2 h => Got.mv r U U' V V' h1 hal h2 h) ?_
  intro p e s m args below meth c s₁ X0 hexec hbytes hml hret hlk hnm hown hh0 W hP
  obtain ⟨rfl, hB, f1, f2, hA, s1, hz, l0, l1, l2, hp⟩ := hP
  have a31 := hA.1.2.2.2
  have c1 : Steps p.tables e below (s₁.setTop (entryFrame m #[.ref a, .ref b, .int (Int32.ofNat o), .int (Int32.ofNat len), .null] 6)) (s₁.setTop (mkF m 0 #[.val (.ref a), .val (.ref b), .val (.int (Int32.ofNat o)), .val (.int (Int32.ofNat len)), .val .null, .unset] [])) := entry rfl
  have c2 : Steps p.tables e below (s₁.setTop (entryFrame m #[.ref a, .ref b, .int (Int32.ofNat o), .int (Int32.ofNat len), .null] 6)) (s₁.setTop (mkF m 1 #[.val (.ref a), .val (.ref b), .val (.int (Int32.ofNat o)), .val (.int (Int32.ofNat len)), .val .null, .unset] [.ref a])) := c1.trans (by
    refine XS.aloadN X0.here hexec rfl (hb hbytes d0) rfl rfl ?_
    exact Steps.refl _)
  obtain ⟨T3, X3, q3, st3⟩ := X0.oinit hexec hown (wks W (objW "java/lang/String" 1)) (g := (mkF m 1 #[.val (.ref a), .val (.ref b), .val (.int (Int32.ofNat o)), .val (.int (Int32.ofNat len)), .val .null, .unset] [.ref a])) rfl (by rw [hml]; rfl) (rest := []) rfl (hb hbytes d1) (W := 0) (by show 2 * 0 + 0 ≤ _; decide) (Nat.le_of_ble_eq_true rfl) (Nat.le_of_ble_eq_true rfl)
  have hh3 := q3.trans hh0
  have c4 : Steps p.tables e below (s₁.setTop (entryFrame m #[.ref a, .ref b, .int (Int32.ofNat o), .int (Int32.ofNat len), .null] 6)) (T3.setTop (mkF m 27 #[.val (.ref a), .val (.ref b), .val (.int (Int32.ofNat o)), .val (.int (Int32.ofNat len)), .val .null, .unset] [])) := (c2.trans (st3 _ (Steps.refl _))).trans (by
    refine XS.iloadN X3.here hexec rfl (hb hbytes d4) rfl ?_
    refine XS.ifYes X3.here hexec rfl (pc0 := 5) rfl (hb hbytes d5) rfl (i0_ne_t (nz32 (by omega) l0)) (by decide) rfl ?_
    exact Steps.refl _)
  obtain ⟨T5, X5, q5, st5⟩ := X3.sget hexec hown (wk W (.fieldLink "java/lang/String" 38 "java/lang/String" "COMPACT_STRINGS" "Z")) s1 (fun _ _ h => by rw [hh3]; exact h) (g := (mkF m 27 #[.val (.ref a), .val (.ref b), .val (.int (Int32.ofNat o)), .val (.int (Int32.ofNat len)), .val .null, .unset] [])) rfl (hb hbytes d27)
  have hh5 := q5.trans hh3
  have c6 : Steps p.tables e below (s₁.setTop (entryFrame m #[.ref a, .ref b, .int (Int32.ofNat o), .int (Int32.ofNat len), .null] 6)) (T5.setTop (mkF m 30 #[.val (.ref a), .val (.ref b), .val (.int (Int32.ofNat o)), .val (.int (Int32.ofNat len)), .val .null, .unset] [.int z])) := c4.trans (st5 _ (Steps.refl _))
  have c7 : Steps p.tables e below (s₁.setTop (entryFrame m #[.ref a, .ref b, .int (Int32.ofNat o), .int (Int32.ofNat len), .null] 6)) (T5.setTop (mkF m 36 #[.val (.ref a), .val (.ref b), .val (.int (Int32.ofNat o)), .val (.int (Int32.ofNat len)), .val .null, .unset] [.int (Int32.ofNat len), .int (Int32.ofNat o), .ref b])) := c6.trans (by
    refine XS.ifNo X5.here hexec rfl (hb hbytes d30) rfl (i0_eq_f hz) ?_
    refine XS.aloadN X5.here hexec rfl (hb hbytes d33) rfl rfl ?_
    refine XS.iloadN X5.here hexec rfl (hb hbytes d34) rfl ?_
    refine XS.iloadN X5.here hexec rfl (hb hbytes d35) rfl ?_
    exact Steps.refl _)
  obtain ⟨v8, T8, X8, E8, g8⟩ := X5.callS hexec (Cmp3.law l b A o len) hown (wks W (staticW "java/lang/String" 177 Cmp3.yN)) (wk W Cmp3.tab) (W := 0) (Nat.le_of_ble_eq_true rfl) (Nat.le_of_ble_eq_true rfl) (Nat.le_refl _) (by show 0 + len ≤ len; omega) (g := (mkF m 36 #[.val (.ref a), .val (.ref b), .val (.int (Int32.ofNat o)), .val (.int (Int32.ofNat len)), .val .null, .unset] [.int (Int32.ofNat len), .int (Int32.ofNat o), .ref b])) rfl (by rw [hml]; rfl) c7 (argsL := [.ref b, .int (Int32.ofNat o), .int (Int32.ofNat len)]) (rest := []) rfl rfl (by show 2 * 0 + 0 ≤ _; decide) (hb hbytes d36) (⟨rfl, hA.mv X5.warmed.alike hh5, l1, l2, hp⟩)
  obtain ⟨e8, z8⟩ := E8
  obtain ⟨rfl, N, n1, n2, n3, n4, n5, n6⟩ := NewArr.mv _ T5 s _ _ hh5.symm (Vm.Alike.refl _) rfl e8
  rw [hh5] at z8
  have hB1 := hB.keep X8.warmed.alike (n6 _ _ hB.1)
  have hne : s.heap.size ≠ a := (Nat.ne_of_lt (Array.getElem?_eq_some_iff.mp hB.1).1).symm
  have c9 : Steps p.tables e below (s₁.setTop (entryFrame m #[.ref a, .ref b, .int (Int32.ofNat o), .int (Int32.ofNat len), .null] 6)) (T8.setTop (mkF m 39 #[.val (.ref a), .val (.ref b), .val (.int (Int32.ofNat o)), .val (.int (Int32.ofNat len)), .val .null, .unset] [.ref s.heap.size])) := g8
  have c10 : Steps p.tables e below (s₁.setTop (entryFrame m #[.ref a, .ref b, .int (Int32.ofNat o), .int (Int32.ofNat len), .null] 6)) (T8.setTop (mkF m 45 #[.val (.ref a), .val (.ref b), .val (.int (Int32.ofNat o)), .val (.int (Int32.ofNat len)), .val .null, .val (.ref s.heap.size)] [.int (Int32.ofNat N.slots.size), .ref s.heap.size, .ref a])) := by
    have hc : Steps p.tables e below (s₁.setTop (entryFrame m #[.ref a, .ref b, .int (Int32.ofNat o), .int (Int32.ofNat len), .null] 6)) (T8.setTop (mkF m 45 #[.val (.ref a), .val (.ref b), .val (.int (Int32.ofNat o)), .val (.int (Int32.ofNat len)), .val .null, .val (.ref s.heap.size)] [.int (Int32.ofNat len), .ref s.heap.size, .ref a])) := c9.trans (by
      refine XS.astore X8.here hexec rfl (hb hbytes d39) rfl rfl rfl ?_
      refine XS.aloadN X8.here hexec rfl (hb hbytes d41) rfl rfl ?_
      refine XS.aload X8.here hexec rfl (hb hbytes d42) rfl rfl ?_
      refine XS.iloadN X8.here hexec rfl (hb hbytes d44) rfl ?_
      exact Steps.refl _)
    rw [n4]; exact hc
  obtain ⟨v11, T11, X11, E11, g11⟩ := X8.callS hexec (CodL.law l s.heap.size N) hown (wks W (staticW "java/lang/String" 47 CodL.yN)) (wk W CodL.tab) (W := 1) (Nat.le_of_ble_eq_true rfl) (Nat.le_of_ble_eq_true rfl) (Nat.le_refl _) (by show 0 + len + 0 ≤ len; omega) (g := (mkF m 45 #[.val (.ref a), .val (.ref b), .val (.int (Int32.ofNat o)), .val (.int (Int32.ofNat len)), .val .null, .val (.ref s.heap.size)] [.int (Int32.ofNat N.slots.size), .ref s.heap.size, .ref a])) rfl (by rw [hml]; rfl) c10 (argsL := [.ref s.heap.size, .int (Int32.ofNat N.slots.size)]) (rest := [.ref a]) rfl rfl (by show 2 * 0 + (1 + 0) ≤ _; decide) (hb hbytes d45) (⟨rfl, n1⟩)
  obtain ⟨rfl, q11⟩ := E11
  have hB11 := hB1.mv (X8.warmed.alike.symm.trans X11.warmed.alike) q11
  have c12 : Steps p.tables e below (s₁.setTop (entryFrame m #[.ref a, .ref b, .int (Int32.ofNat o), .int (Int32.ofNat len), .null] 6)) (T11.setTop (mkF m 48 #[.val (.ref a), .val (.ref b), .val (.int (Int32.ofNat o)), .val (.int (Int32.ofNat len)), .val .null, .val (.ref s.heap.size)] [.int 0, .ref a])) := g11
  obtain ⟨T13, X13, p13, bl13, sl13, st13⟩ := X11.finit hexec hown (wk W (.fieldLink "java/lang/String" 15 "java/lang/String" "coder" "B")) (Or.inr ⟨_, (wk W (.laysFinal "java/lang/String" "java/lang/String" "coder" "B"))⟩) (Or.inl ⟨rfl, hnm⟩) f2 (Or.inl rfl) hB11 (t := .byte) (by decide +kernel) rfl (g := (mkF m 48 #[.val (.ref a), .val (.ref b), .val (.int (Int32.ofNat o)), .val (.int (Int32.ofNat len)), .val .null, .val (.ref s.heap.size)] [.int 0, .ref a])) rfl (rest := []) rfl (hb hbytes d48)
  have c14 : Steps p.tables e below (s₁.setTop (entryFrame m #[.ref a, .ref b, .int (Int32.ofNat o), .int (Int32.ofNat len), .null] 6)) (T13.setTop (mkF m 54 #[.val (.ref a), .val (.ref b), .val (.int (Int32.ofNat o)), .val (.int (Int32.ofNat len)), .val .null, .val (.ref s.heap.size)] [.ref s.heap.size, .ref a])) := (c12.trans (st13 _ (Steps.refl _))).trans (by
    refine XS.aloadN X13.here hexec rfl (hb hbytes d51) rfl rfl ?_
    refine XS.aload X13.here hexec rfl (hb hbytes d52) rfl rfl ?_
    exact Steps.refl _)
  obtain ⟨T15, X15, p15, bl15, sl15, st15⟩ := X13.finit hexec hown (wk W (.fieldLink "java/lang/String" 9 "java/lang/String" "value" "[B")) (Or.inr ⟨_, (wk W (.laysFinal "java/lang/String" "java/lang/String" "value" "[B"))⟩) (Or.inl ⟨rfl, hnm⟩) f1 (Or.inl rfl) bl13 (t := (.array .byte)) (by decide +kernel) rfl (g := (mkF m 54 #[.val (.ref a), .val (.ref b), .val (.int (Int32.ofNat o)), .val (.int (Int32.ofNat len)), .val .null, .val (.ref s.heap.size)] [.ref s.heap.size, .ref a])) rfl (rest := []) rfl (hb hbytes d54)
  have c16 : Steps p.tables e below (s₁.setTop (entryFrame m #[.ref a, .ref b, .int (Int32.ofNat o), .int (Int32.ofNat len), .null] 6)) (T15.setTop (mkF m 57 #[.val (.ref a), .val (.ref b), .val (.int (Int32.ofNat o)), .val (.int (Int32.ofNat len)), .val .null, .val (.ref s.heap.size)] [])) := c14.trans (st15 _ (Steps.refl _))
  have ap := apart (Or.inr ⟨_, (wk W (.laysFinal "java/lang/String" "java/lang/String" "value" "[B"))⟩) (Or.inr ⟨_, (wk W (.laysFinal "java/lang/String" "java/lang/String" "coder" "B"))⟩) f1 f2 (t₁ := .array .byte) (t₂ := .byte) (by decide +kernel) (by decide +kernel) (by decide)
  have al := X8.warmed.alike.symm.trans X15.warmed.alike
  have n7 : T11.heap[s.heap.size]? = some N := by rw [q11]; exact n1.1
  exact ⟨T15, none, _, _, _, X15, by simp, rfl, by omega, (fun _ => rfl), ⟨rfl, _, N, bl15, ((Same.refl D _).set _ (by simp)).set _ (by simp), sl15, (Cell.slots_setSlot_ne _ ap).trans sl13, n1.keep al (p15.other hne (p13.other hne n7)), n2, by rw [al.findClass]; exact n3, n4, n5, fun y c h1 h2 => p15.other h1 (p13.other h1 (by rw [q11]; exact n6 y c h2)), by rw [p15.2.2, p13.2.2, q11]; exact z8⟩, fun fs hl => c16.trans (X15.returnOut hexec hret (hb hbytes d57) hl)⟩
end New4
namespace New1
def yN : MethodName := ⟨"java/lang/String", "<init>", "([C)V"⟩
abbrev yB : ByteArray := jdk_42_method_3_code
theorem d0 : decode yB 0 = .ok (.aload_n 0, 1) := by decide +kernel
theorem d1 : decode yB 1 = .ok (.aload_n 1, 1) := by decide +kernel
theorem d2 : decode yB 2 = .ok (.iconst 0, 1) := by decide +kernel
theorem d3 : decode yB 3 = .ok (.aload_n 1, 1) := by decide +kernel
theorem d4 : decode yB 4 = .ok (.arraylength, 1) := by decide +kernel
theorem d5 : decode yB 5 = .ok (.aconst_null, 1) := by decide +kernel
theorem d6 : decode yB 6 = .ok (.invokespecial 27, 3) := by decide +kernel
theorem d9 : decode yB 9 = .ok (.return_, 1) := by decide +kernel
def site : List Cond := [New4.tab] ++ initW "java/lang/String" 27 New4.yN
def tab : Cond := tabOf yN yB 2 none site
def P (a : Addr) (D : Cell) (fV fC : Field) (b : Addr) (A : Cell) (z : Int32) (args : Array Value) (s : State) : Prop := args = #[.ref a, .ref b] ∧ Blank "java/lang/String" a D s ∧ Found "java/lang/String" "value" "[B" fV s ∧ Found "java/lang/String" "coder" "B" fC s ∧ Ch b A s ∧ StaticIs s "java/lang/String" "COMPACT_STRINGS" "Z" (.int z) ∧ ¬ z = 0 ∧ 0 < A.slots.size ∧ A.slots.size ≤ 536870912 ∧ ∀ i, i < A.slots.size → ¬ 255 < cv A i
def E (a : Addr) (D : Cell) (fV fC : Field) (A : Cell) (r : Option Value) (s u : State) : Prop := Got a D fV fC A 0 A.slots.size r s u
/-- new String(chars), not empty, no char above 255: a Latin-1 String of their low bytes -/
theorem law (l : Launch) (a : Addr) (D : Cell) (fV fC : Field) (b : Addr) (A : Cell) (z : Int32) : Law l yN 2 1 3 52 yB 2 none site (P a D fV fC b A z) (E a D fV fC A) [⟨a, fC.slot⟩, ⟨a, fV.slot⟩] 1 A.slots.size := by
  refine Law.of_walk (plainFor_of_name (by decide +kernel)) (by decide +kernel) (by decide +kernel) (by decide) (fun _ _ h => by rw [h.1]; rfl) (fun _ U U' hal hh h => ⟨h.1, h.2.1.mv hal hh, h.2.2.1.al hal, h.2.2.2.1.al hal, h.2.2.2.2.1.mv hal hh, h.2.2.2.2.2.1.there hal hh, h.2.2.2.2.2.2⟩) (fun r U U' V V' h1 hal h2 h => Got.mv r U U' V V' h1 hal h2 h) ?_
  intro p e s m args below meth c s₁ X0 hexec hbytes hml hret hlk hnm hown hh0 W hP
  obtain ⟨rfl, hB, f1, f2, hA, s1, hz, l0, l2, hp⟩ := hP
  have c1 : Steps p.tables e below (s₁.setTop (entryFrame m #[.ref a, .ref b] 2)) (s₁.setTop (mkF m 0 #[.val (.ref a), .val (.ref b)] [])) := entry rfl
  have c2 : Steps p.tables e below (s₁.setTop (entryFrame m #[.ref a, .ref b] 2)) (s₁.setTop (mkF m 6 #[.val (.ref a), .val (.ref b)] [.null, .int (Int32.ofNat A.slots.size), .int 0, .ref b, .ref a])) := c1.trans (by
    refine XS.aloadN X0.here hexec rfl (hb hbytes d0) rfl rfl ?_
    refine XS.aloadN X0.here hexec rfl (hb hbytes d1) rfl rfl ?_
    refine iconstV X0.here hexec rfl 0 (hb hbytes d2) (by decide) ?_
    refine XS.aloadN X0.here hexec rfl (hb hbytes d3) rfl rfl ?_
    refine X0.alen hexec (hA.1.mv X0.warmed.alike hh0) rfl rfl (hb hbytes d4) ?_
    refine XS.aconstNull X0.here hexec rfl (hb hbytes d5) ?_
    exact Steps.refl _)
  obtain ⟨v3, T3, X3, E3, g3⟩ := X0.callN hexec (New4.law l a D fV fC b A z 0 A.slots.size) rfl hown (wks W (initW "java/lang/String" 27 New4.yN)) (W New4.tab (by simp only [site, List.mem_cons, List.mem_append, true_or, or_true])) (W := 0) (Nat.le_of_ble_eq_true rfl) (Nat.le_of_ble_eq_true rfl) (Nat.le_refl _) (by show 0 + A.slots.size ≤ A.slots.size; omega) (g := (mkF m 6 #[.val (.ref a), .val (.ref b)] [.null, .int (Int32.ofNat A.slots.size), .int (Int32.ofNat 0), .ref b, .ref a])) rfl (by rw [hml]; rfl) c2 (argsL := [.ref b, .int (Int32.ofNat 0), .int (Int32.ofNat A.slots.size), .null]) (rest := []) rfl rfl (by show 2 * 0 + 0 ≤ _; decide) (hb hbytes d6) (⟨rfl, hB.mv X0.warmed.alike hh0, f1.al X0.warmed.alike, f2.al X0.warmed.alike, hA.mv X0.warmed.alike hh0, s1.there X0.warmed.alike hh0, hz, l0, by omega, l2, fun i hi => by rw [Nat.zero_add]; exact hp i hi⟩)
  have e0 := Got.mv _ s₁ s _ _ hh0.symm (Vm.Alike.refl _) rfl E3
  obtain rfl := e0.1
  have c4 : Steps p.tables e below (s₁.setTop (entryFrame m #[.ref a, .ref b] 2)) (T3.setTop (mkF m 9 #[.val (.ref a), .val (.ref b)] [])) := g3
  exact ⟨T3, none, _, _, _, X3, by simp, rfl, by omega, (fun _ => rfl), e0, fun fs hl => c4.trans (X3.returnOut hexec hret (hb hbytes d9) hl)⟩
theorem pays {l : Launch} {R : Room} {p : Program} {e : Env} {below : List Frame} {s : State} {sargs : Array Value} {len W : Nat} (a : Addr) (D : Cell) (fV fC : Field) (b : Addr) (A : Cell) (z : Int32) (htab : tab.before sargs s = true) (hfr : 4 ≤ R.frames) (hlo : W + 65 ≤ R.locals) :
    Back l R p e below s sargs yN len W (fun A₁ a₁ => A₁.cells + 1 ≤ R.cells ∧ A₁.slots + A.slots.size ≤ R.slots ∧ P a D fV fC b A z a₁ A₁.U) (fun A₁ _ v₁ B₁ => E a D fV fC A v₁ A₁.U B₁.U ∧ B₁.locs = A₁.locs ++ [⟨a, fC.slot⟩, ⟨a, fV.slot⟩] ∧ B₁.cells = A₁.cells + 1 ∧ B₁.slots = A₁.slots + A.slots.size) :=
  (law l a D fV fC b A z).pays htab hfr (by omega)
end New1
end StrChars
namespace StrChars.Road
open Jvm Sem ClassFile Op Lib Jvm.Stand Jvm.Free Jvm.Free.XT
open Jvm.Lib.Cold (StaticIs)
abbrev ST : String := "java/lang/String"
/-- every table word that New1's law asks, flat -/
abbrev words : List Jvm.Cond := [.code New1.yN New1.yB 2 none, .initialized ST, .methodLink ST 27 New4.yN, .instanceMethod New4.yN,
  .code New4.yN New4.yB 6 none, .fieldLink ST 38 ST "COMPACT_STRINGS" "Z", .laysFinal ST ST "value" "[B", .fieldLink ST 9 ST "value" "[B", .laysFinal ST ST "coder" "B", .fieldLink ST 15 ST "coder" "B",
  .methodLink ST 1 Lib.objectInit, .instanceMethod Lib.objectInit, .code Lib.objectInit ⟨#[0xb1]⟩ 1 none, .methodLink ST 177 Cmp3.yN, .static Cmp3.yN, .methodLink ST 47 CodL.yN, .static CodL.yN,
  .code Cmp3.yN Cmp3.yB 6 (some (.array .byte)), .initialized U16, .arrayClass .byte, .methodLink U16 115 Cmp5.yN, .static Cmp5.yN, .code Cmp5.yN Cmp5.yB 7 (some .int), .code CodL.yN CodL.yB 2 (some .byte)]
theorem tab_of {a : Array Value} {s : State} (h : ∀ w ∈ words, w.before a s = true) : New1.tab.before a s = true := by
  have h5 : Cmp5.tab.before a s = true := unparts (wk h (.code Cmp5.yN Cmp5.yB 7 (some .int))) (wks h (.initialized Cmp5.yN.cls :: Cmp5.site))
  have hc : CodL.tab.before a s = true := unparts (wk h (.code CodL.yN CodL.yB 2 (some .byte))) (wks h (.initialized CodL.yN.cls :: CodL.site))
  have q5 : ∀ w ∈ Cmp5.tab :: words, w.before a s = true := fun w hw => (List.mem_cons.mp hw).elim (fun e => e ▸ h5) (h w)
  have h3 : Cmp3.tab.before a s = true := unparts (wk q5 (.code Cmp3.yN Cmp3.yB 6 (some (.array .byte)))) (wks q5 (.initialized Cmp3.yN.cls :: Cmp3.site))
  have q3 : ∀ w ∈ Cmp3.tab :: CodL.tab :: words, w.before a s = true := fun w hw => (List.mem_cons.mp hw).elim (fun e => e ▸ h3) fun hw => (List.mem_cons.mp hw).elim (fun e => e ▸ hc) (h w)
  have h4 : New4.tab.before a s = true := unparts (wk q3 (.code New4.yN New4.yB 6 none)) (wks q3 (.initialized New4.yN.cls :: New4.site))
  have q4 : ∀ w ∈ New4.tab :: words, w.before a s = true := fun w hw => (List.mem_cons.mp hw).elim (fun e => e ▸ h4) (h w)
  exact unparts (wk q4 (.code New1.yN New1.yB 2 none)) (wks q4 (.initialized New1.yN.cls :: New1.site))
/-- the words ride from the start Z to the walk's own state -/
theorem moved {Z s : State} {a0 args : Array Value} (hZ : Z.Warmed39 s.vm) (hw : ∀ d ∈ words, d.before a0 Z = true) : ∀ d ∈ words, d.before args s = true := fun d hd => by
  have q := hw d hd
  have t : ∀ d ∈ words, d = .arrayClass .byte ∨ (d.onTables && d.keepsFace) = true := by decide +kernel
  rcases t d hd with rfl | t
  · exact RoadKit.mvA hZ q
  · exact RoadKit.mv hZ q t
/-- WHAT COMES BACK, over the tables of the start Z: h the heap at the call, h' behind it -/
def Q (Z : State) (x : Addr) (A : Cell) (h : Heap) (v : Option Value) (h' : Heap) (L : List Loc) : Prop := v = none ∧ (∀ y ∈ L, y.base = x) ∧ RoadKit.Keep h h' [x] ∧ h'.size = h.size + 1 ∧ RoadKit.Exa Z h' x ST ∧ RoadKit.Fld Z h' x ST "value" "[B" (.ref h.size) ∧ RoadKit.Fld Z h' x ST "coder" "B" (.int 0) ∧
  (∃ V : Cell, RoadKit.Arr Z h' h.size V .byte ∧ V.vm = .none ∧ Z.vm.findClass "[B" = some V.cls ∧ V.slots.size = A.slots.size ∧ ∀ j, j < A.slots.size → V.slots[j]? = some (.int (lo8 (cv A j)))) ∧
  ∀ (O n d : String) (w : Value), RoadKit.Fld Z h x O n d w → RoadKit.slotOf Z O n d ≠ RoadKit.slotOf Z ST "value" "[B" → RoadKit.slotOf Z O n d ≠ RoadKit.slotOf Z ST "coder" "B" → RoadKit.Fld Z h' x O n d w
/-- **new String(chars) AT A CALL, IN THE ROAD'S FORM**: for specialBack behind newO: x the fresh String, b the char[] with the cell A -/
theorem back {p : Program} {l : Launch} {e : Env} {R : Room} {s : State} {args : Array Value} {below : List Frame} {len W : Nat} {Z : State} {a0 : Array Value} {h : Heap} (hZ : Z.Warmed39 s.vm) (hw : ∀ d ∈ words, d.before a0 Z = true) {kI : Nat} (wi : (Jvm.Cond.instantiable ST kI).before a0 Z = true)
    {x b : Addr} {A : Cell} {z : Int32} {v0 c0 : Value} (E : RoadKit.Exa Z h x ST) (V : RoadKit.Fld Z h x ST "value" "[B" v0) (C : RoadKit.Fld Z h x ST "coder" "B" c0) (K : RoadKit.Arr Z h b A .char) (hty : Typed .char A) (S : RoadKit.Sta Z h ST "COMPACT_STRINGS" "Z" (.int z)) (hz : ¬ z = 0)
    (l0 : 0 < A.slots.size) (l2 : A.slots.size ≤ 536870912) (hp : ∀ i, i < A.slots.size → ¬ 255 < cv A i) (hfr : 4 ≤ R.frames) (hlo : W + 65 ≤ R.locals) :
    Back l R p e below s args New1.yN len W (fun P a => a = #[.ref x, .ref b] ∧ P.U.heap = h ∧ P.cells + 1 ≤ R.cells ∧ P.slots + A.slots.size ≤ R.slots)
      (fun P _ v B => ∃ L, Q Z x A h v B.U.heap L ∧ B.locs = P.locs ++ L ∧ B.cells = P.cells + 1 ∧ B.slots = P.slots + A.slots.size) := by
  intro m meth c P g ig mk a X hg hsize hdg hW hn hp'
  obtain ⟨rfl, rfl, r1, r2⟩ := hp'
  have al : Z.vm.Alike P.U.vm := hZ.alike.trans X.warmed.alike
  obtain ⟨D, cfV, kV, iV, fV, hD, gV, stV, knV, obV, asV, slV⟩ := id V
  obtain ⟨D', cfC, kC, iC, fC, hD', gC, stC, -, -, asC, slC⟩ := id C
  cases hD.symm.trans hD'
  obtain ⟨D2, kD, e1, e2, e3, e4, e5⟩ := id E
  cases hD.symm.trans e1
  obtain ⟨c2, k2, i1, i2, i3, -⟩ := Cond.instantiable_spec wi
  cases e2.symm.trans i1
  cases e3.symm.trans i2
  obtain ⟨kU, u1, u2⟩ := al.2.2 _ _ e3
  have hB : Blank ST x D P.U := ⟨hD, ⟨knV, fun q hq => by rw [hq] at obV; cases obV⟩, by rw [al.findClass]; exact e2, kU, u1, by rw [u2]; exact i3, by rw [u2]; exact e5 i3⟩
  have F1 : Found ST "value" "[B" fV P.U := ⟨SBG.found_only al ⟨cfV, kV, iV, gV⟩, stV⟩
  have F2 : Found ST "coder" "B" fC P.U := ⟨SBG.found_only al ⟨cfC, kC, iC, gC⟩, stC⟩
  have hA : Ch b A P.U := ⟨⟨K.1, State.isArrayOf_alike al K.2.1, K.2.2, by omega⟩, hty⟩
  have hS : StaticIs P.U ST "COMPACT_STRINGS" "Z" (.int z) := by
    obtain ⟨cfS, iS, kS, fS, st, cS, t1, t2, t3, t4, t5, t6, t7⟩ := S
    exact StaticIs.there (s := { Z with heap := P.U.heap }) ⟨cfS, iS, kS, fS, st, cS, t1, t2, t3, t4, t5, (fun q => by rw [q] at t6; cases t6), t7⟩ al rfl
  obtain ⟨v, B, X', ⟨⟨hv, E', V', q1, q2, q3, q4, q5, q6, q7, q8, q9, q10, q11⟩, hl, hc, hs⟩, st⟩ := New1.pays x D fV fC b A z (tab_of (moved hZ hw)) hfr hlo m meth c P g ig mk _ X hg hsize hdg hW hn ⟨r1, r2, rfl, hB, F1, F2, hA, hS, hz, l0, l2, hp⟩
  have al' : Z.vm.Alike B.U.vm := hZ.alike.trans X'.warmed.alike
  have hsz : E'.slots.size = D.slots.size := by
    obtain ⟨-, -, -, kB, w1, w2, w3⟩ := q1
    obtain ⟨kB', y1, y2⟩ := al'.2.2 _ _ e3
    rw [q2.2.1] at w1
    cases w1.symm.trans y1
    rw [w3, e5 i3, y2]
  refine ⟨v, B, X', ⟨_, ⟨hv, ?_, ⟨by omega, fun y cy hy hn' => q10 y cy (by simpa using hn') hy, fun y cy hy => ?_⟩, q11, ⟨E', _, q1.1, by rw [q2.2.1]; exact e2, by rw [q2.2.1]; exact e3, by rw [q2.1]; exact obV, fun _ => by rw [hsz]; exact e5 i3⟩,
    ⟨E', cfV, kV, iV, fV, q1.1, gV, stV, by rw [q2.1]; exact knV, by rw [q2.1]; exact obV, by rw [q2.2.1]; exact asV, q3⟩, ⟨E', cfC, kC, iC, fC, q1.1, gC, stC, by rw [q2.1]; exact knV, by rw [q2.1]; exact obV, by rw [q2.2.1]; exact asC, q4⟩,
    ⟨V', ⟨q5.1, State.isArrayOf_alike al'.symm q5.2.1, q5.2.2.1⟩, q6, by rw [← al'.findClass]; exact q7, q8, fun j hj => by have := q9 j hj; rwa [Nat.zero_add] at this⟩, fun O n d w F n1 n2 => ?_⟩, hl, hc, hs⟩, st⟩
  · intro y hy
    simp only [List.mem_cons, List.not_mem_nil, or_false] at hy
    rcases hy with rfl | rfl <;> rfl
  · by_cases q : y = x
    · subst q
      cases hD.symm.trans hy
      exact ⟨E', q1.1, q2.2.1, q2.1, hsz⟩
    · exact ⟨cy, q10 y cy q hy, rfl, rfl, rfl⟩
  · obtain ⟨D3, cf, k, i, f, g1, g2, g3, g4, g5, g6, g7⟩ := F
    cases hD.symm.trans g1
    simp only [RoadKit.slotOf, g2, gV, gC, Option.map_some, Option.getD_some] at n1 n2
    exact ⟨E', cf, k, i, f, q1.1, g2, g3, by rw [q2.1]; exact g4, by rw [q2.1]; exact g5, by rw [q2.2.1]; exact g6, by rw [q2.2.2 f.slot (by simp [n1, n2])]; exact g7⟩
end StrChars.Road
namespace StrChars.Road
open Jvm Sem ClassFile Op Lib Jvm.Stand Jvm.Free Jvm.Free.XT
/-- WHAT COMES BACK, the byte[] as a list of values -/
def QA (Z : State) (x : Addr) (zn : Int32) (cs : List Int32) (h : Heap) (v : Option Value) (h' : Heap) (L : List Loc) : Prop := v = none ∧ (∀ y ∈ L, y.base = x) ∧ RoadKit.Keep h h' [x] ∧ h'.size = h.size + 1 ∧ RoadKit.Exa Z h' x ST ∧ RoadKit.Fld Z h' x ST "value" "[B" (.ref h.size) ∧ RoadKit.Fld Z h' x ST "coder" "B" (.int 0) ∧
  (∃ kb, Z.vm.findClass "[B" = some kb ∧ RoadKit.Arv Z h' h.size kb .byte zn (cs.map fun c => .int (lo8 c)) (.int 0)) ∧
  ∀ (O n d : String) (w : Value), RoadKit.Fld Z h x O n d w → RoadKit.slotOf Z O n d ≠ RoadKit.slotOf Z ST "value" "[B" → RoadKit.slotOf Z O n d ≠ RoadKit.slotOf Z ST "coder" "B" → RoadKit.Fld Z h' x O n d w
/-- **new String(chars) AT A CALL, THE ARRAYS AS LISTS**: the char[] at b holds cs, not empty, no char above 255 -/
theorem backArv {p : Program} {l : Launch} {e : Env} {R : Room} {s : State} {args : Array Value} {below : List Frame} {len W : Nat} {Z : State} {a0 : Array Value} {h : Heap} (hZ : Z.Warmed39 s.vm) (hw : ∀ d ∈ words, d.before a0 Z = true) {kI : Nat} (wi : (Jvm.Cond.instantiable ST kI).before a0 Z = true)
    {x b : Addr} {k : ClassId} {zn z : Int32} {cs : List Int32} {dv v0 c0 : Value} (E : RoadKit.Exa Z h x ST) (V : RoadKit.Fld Z h x ST "value" "[B" v0) (C : RoadKit.Fld Z h x ST "coder" "B" c0) (K : RoadKit.Arv Z h b k .char zn (cs.map Value.int) dv) (S : RoadKit.Sta Z h ST "COMPACT_STRINGS" "Z" (.int z)) (hz : ¬ z = 0)
    (hlen : zn.toNatClampNeg = cs.length) (h0 : 0 < cs.length) (hbig : cs.length ≤ 536870912) (hall : ∀ c ∈ cs, ¬ 255 < c) (hfr : 4 ≤ R.frames) (hlo : W + 65 ≤ R.locals) :
    Back l R p e below s args New1.yN len W (fun P a => a = #[.ref x, .ref b] ∧ P.U.heap = h ∧ P.cells + 1 ≤ R.cells ∧ P.slots + cs.length ≤ R.slots)
      (fun P _ v B => ∃ L, QA Z x zn cs h v B.U.heap L ∧ B.locs = P.locs ++ L ∧ B.cells = P.cells + 1 ∧ B.slots = P.slots + cs.length) := by
  obtain ⟨A, K1, K2, K3, K4, K5, K6⟩ := K
  have e : A.slots.size = cs.length := K3.trans hlen
  have hat : ∀ (i : Nat) (hi : i < cs.length), A.slots[i]? = some (.int cs[i]) := fun i hi => by rw [K5 i (by omega)]; simp [List.getD_eq_getElem?_getD, hi]
  have hcv : ∀ (i : Nat) (hi : i < cs.length), cv A i = cs[i] := fun i hi => by unfold cv; rw [hat i hi]
  have hty : Typed .char A := fun i v hv => by
    have hi : i < A.slots.size := (Array.getElem?_eq_some_iff.mp hv).1
    have q := K5 i hi
    rw [hv] at q
    rw [Option.some.inj q]
    exact K6 i hi
  refine Back.mono (back hZ hw wi E V C K1 hty S hz (by omega) (by omega) (fun i hi => by rw [hcv i (by omega)]; exact hall _ (List.getElem_mem _)) hfr hlo) (fun P a hp => ⟨hp.1, hp.2.1, hp.2.2.1, by rw [e]; exact hp.2.2.2⟩) (fun P a v B hp hq => ?_)
  obtain ⟨L, ⟨q1, q2, q3, q4, q5, q6, q7, ⟨V', v1, v2, v3, v4, v5⟩, q9⟩, hl, hc, hs⟩ := hq
  refine ⟨L, ⟨q1, q2, q3, q4, q5, q6, q7, ⟨V'.cls, v3, V', v1, rfl, by rw [v4, e, hlen], K4, fun i hi => ?_, fun i hi => ?_⟩, q9⟩, hl, hc, by rw [hs, e]⟩
  · have hi' : i < cs.length := by omega
    rw [v5 i (by omega), hcv i hi']; simp [List.getD_eq_getElem?_getD, hi']
  · have hi' : i < cs.length := by omega
    simp only [List.getD_eq_getElem?_getD, List.getElem?_map, List.getElem?_eq_getElem hi', Option.map_some, Option.getD_some]
    exact fits_lo8 _
end StrChars.Road
namespace StrChars.Road
open Jvm Sem ClassFile Op Lib Jvm.Stand Jvm.Free Jvm.Free.XT
/-- WHAT COMES BACK, in the writer's own shape -/
def QV (Z : State) (x : Addr) (N : Int32) (bs : List Int32) (h : Heap) (n0 : Nat) (v : Option Value) (h' : Heap) (L : List Loc) : Prop := v = none ∧ RoadKit.Fr n0 L ∧ RoadKit.Keep h h' [x] ∧ RoadKit.Exa Z h' x ST ∧ RoadKit.Fld Z h' x ST "coder" "B" (.int 0) ∧
  ∃ (t : Addr) (kb : ClassId), n0 ≤ t ∧ h.size ≤ t ∧ ¬ t = x ∧ RoadKit.Fld Z h' x ST "value" "[B" (.ref t) ∧ RoadKit.Arv Z h' t kb .byte N (bs.map Value.int) (.int 0)
/-- **new String(chars) AT A CALL, FOR THE WRITER**: a char[] of n known ints, each 0 to 255 -/
theorem backV {p : Program} {l : Launch} {e : Env} {R : Room} {s : State} {args : Array Value} {below : List Frame} {len W : Nat} {Z : State} {a0 : Array Value} {h : Heap} (hZ : Z.Warmed39 s.vm) (hw : ∀ d ∈ words, d.before a0 Z = true) {kI : Nat} (wi : (Jvm.Cond.instantiable ST kI).before a0 Z = true)
    {x b : Addr} {kC : ClassId} {cs bs : List Int32} {d v0 c0 : Value} {z N : Int32} {n n0 : Nat} (hx0 : n0 ≤ x) (hh0 : n0 ≤ h.size) (E : RoadKit.Exa Z h x ST) (V : RoadKit.Fld Z h x ST "value" "[B" v0) (C : RoadKit.Fld Z h x ST "coder" "B" c0) (K : RoadKit.Arv Z h b kC .char N (cs.map Value.int) d) (S : RoadKit.Sta Z h ST "COMPACT_STRINGS" "Z" (.int z)) (hz : ¬ z = 0)
    (hn : cs.length = n) (hN : N = Int32.ofNat n) (l0 : 0 < n) (l2 : n ≤ 4000) (hp : ∀ c ∈ cs, ¬ c < 0 ∧ ¬ (255 : Int32) < c) (hb : bs = cs.map (fun c => c.toInt8.toInt32)) (hfr : 4 ≤ R.frames) (hlo : W + 65 ≤ R.locals) :
    Back l R p e below s args (⟨"java/lang/String", "<init>", "([C)V"⟩ : MethodName) len W (fun P a => a = #[.ref x, .ref b] ∧ P.U.heap = h ∧ P.cells + 1 ≤ R.cells ∧ P.slots + n ≤ R.slots)
      (fun P _ v B => ∃ L, QV Z x N bs h n0 v B.U.heap L ∧ B.locs = P.locs ++ L ∧ B.cells = P.cells + 1 ∧ B.slots = P.slots + n) := by
  subst hn hN hb
  refine Back.mono (backArv hZ hw wi E V C K S hz (n32 (by omega)) l0 (by omega) (fun c hc => (hp c hc).2) hfr hlo) (fun P a hp => hp) (fun P a v B hp hq => ?_)
  obtain ⟨L, ⟨q1, q2, q3, q4, q5, q6, q7, ⟨kb, v1, v2⟩, q9⟩, hl, hc, hs⟩ := hq
  exact ⟨L, ⟨q1, fun y hy => by rw [q2 y hy]; exact hx0, q3, q5, q7, h.size, kb, hh0, Nat.le_refl _, Nat.ne_of_gt E.lt, q6, by rw [List.map_map]; exact v2⟩, hl, hc, hs⟩
end StrChars.Road
namespace StrChars
open Jvm Sem ClassFile Op Lib Jvm.Stand Jvm.Free.XT Jvm.Free.ALB Jvm.Free.JM Jvm.Free
open Jvm.Lib.Cold (StaticIs)
def hi8 (x : Int32) : Int32 := lo8 (x >>> ((8 : Int32) &&& 31))
theorem shr0 (c : Int32) : c >>> ((0 : Int32) &&& 31) = c := by
  have e : ((0 : Int32) &&& 31) = 0 := by decide
  rw [e]
  apply Int32.toBitVec_inj.mp
  rw [Int32.toBitVec_shiftRight]
  have e1 : ((0 : Int32).toBitVec.smod 32) = 0#32 := by decide
  rw [e1, BitVec.sshiftRight_eq']
  exact BitVec.sshiftRight_zero
end StrChars
namespace StrChars
open Jvm Sem ClassFile Op Lib Jvm.Stand Jvm.Free.XT Jvm.Free.ALB Jvm.Free.JM Jvm.Free
open Jvm.Lib.Cold (StaticIs)
theorem shr1 {n : Nat} (h : 2 * n < 2 ^ 31) : Int32.ofNat (2 * n) >>> ((1 : Int32) &&& 31) = Int32.ofNat n := by
  have e : ((1 : Int32) &&& 31) = 1 := by decide
  rw [e]
  apply Int32.toBitVec_inj.mp
  rw [Int32.toBitVec_shiftRight]
  have e1 : ((1 : Int32).toBitVec.smod 32) = 1#32 := by decide
  have hm : (BitVec.ofNat 32 (2 * n)).toNat = 2 * n := by rw [BitVec.toNat_ofNat, Nat.mod_eq_of_lt (by omega)]
  rw [e1, BitVec.sshiftRight_eq']
  apply BitVec.eq_of_toNat_eq
  show ((BitVec.ofNat 32 (2 * n)).sshiftRight 1).toNat = (BitVec.ofNat 32 n).toNat
  rw [BitVec.toNat_sshiftRight_of_msb_false (by rw [BitVec.msb_eq_false_iff_two_mul_lt, hm]; omega), hm, BitVec.toNat_ofNat, Nat.shiftRight_eq_div_pow]
  omega
/-- the array's cell V codes the n chars f 0 .. f (n - 1) by the coder cd, as the JDK does: coder 1 just where some char is above 255 -/
def Cod (cd : Int32) (n : Nat) (f : Nat → Int32) (V : Cell) : Prop := (cd = 0 ∧ V.slots.size = n ∧ ∀ j, j < n → V.slots[j]? = some (.int (lo8 (f j))) ∧ ¬ 255 < f j) ∨ (cd = 1 ∧ V.slots.size = 2 * n ∧ (∀ j, j < n → V.slots[2 * j]? = some (.int (lo8 (f j))) ∧ V.slots[2 * j + 1]? = some (.int (hi8 (f j)))) ∧ ∃ j, j < n ∧ 255 < f j)
theorem Cod.cd {cd : Int32} {n : Nat} {f : Nat → Int32} {V : Cell} (h : Cod cd n f V) : cd = 0 ∨ cd = 1 := h.imp (fun q => q.1) fun q => q.1
theorem Cod.len {cd : Int32} {n : Nat} {f : Nat → Int32} {V : Cell} (h : Cod cd n f V) (hs : V.slots.size < 2 ^ 31) : Int32.ofNat V.slots.size >>> (cd &&& 31) = Int32.ofNat n := by
  rcases h with ⟨rfl, h, -⟩ | ⟨rfl, h, -⟩
  · rw [shr0, h]
  · rw [h, shr1 (by omega)]
/-- **x is a String of the n chars f 0 .. f (n - 1)**, Latin-1 or UTF-16; its array at t has the cell V -/
def Txt (x t : Addr) (V : Cell) (cd : Int32) (n : Nat) (f : Nat → Int32) (U : State) : Prop := Exact "java/lang/String" x U ∧ Has x "java/lang/String" "value" "[B" (.ref t) U ∧ Has x "java/lang/String" "coder" "B" (.int cd) U ∧ XT.Arr .byte t V U ∧ Cod cd n f V ∧ ∀ j, j < n → ¬ f j < 0 ∧ ¬ 65535 < f j
theorem Txt.mv {x t : Addr} {V : Cell} {cd : Int32} {n : Nat} {f : Nat → Int32} {U U' : State} (h : Txt x t V cd n f U) (hal : U.vm.Alike U'.vm) (hh : U'.heap = U.heap) : Txt x t V cd n f U' := ⟨h.1.mv hal hh, h.2.1.mv hal hh, h.2.2.1.mv hal hh, h.2.2.2.1.mv hal hh, h.2.2.2.2⟩
namespace Cdr
def yN : MethodName := ⟨"java/lang/String", "coder", "()B"⟩
abbrev yB : ByteArray := jdk_42_method_152_code
theorem d0 : decode yB 0 = .ok (.getstatic 38, 3) := by decide +kernel
theorem d3 : decode yB 3 = .ok (.ifCond (.eq) 10, 3) := by decide +kernel
theorem d6 : decode yB 6 = .ok (.aload_n 0, 1) := by decide +kernel
theorem d7 : decode yB 7 = .ok (.getfield 15, 3) := by decide +kernel
theorem d10 : decode yB 10 = .ok (.goto 4, 3) := by decide +kernel
theorem d14 : decode yB 14 = .ok (.ireturn, 1) := by decide +kernel
def site : List Cond := [.fieldLink "java/lang/String" 38 "java/lang/String" "COMPACT_STRINGS" "Z", .fieldLink "java/lang/String" 15 "java/lang/String" "coder" "B"]
def tab : Cond := tabOf yN yB 1 (some .byte) site
def P (x : Addr) (cd z : Int32) (args : Array Value) (s : State) : Prop := args = #[.ref x] ∧ Has x "java/lang/String" "coder" "B" (.int cd) s ∧ (cd = 0 ∨ cd = 1) ∧ StaticIs s "java/lang/String" "COMPACT_STRINGS" "Z" (.int z) ∧ ¬ z = 0
def E (cd : Int32) (r : Option Value) (s u : State) : Prop := XT.PureE (some (.int cd)) r s u
theorem law (l : Launch) (x : Addr) (cd z : Int32) : Law l yN 1 0 0 0 yB 1 (some .byte) site (P x cd z) (E cd) [] 0 0 := by
  refine Law.of_walk (plainFor_of_name (by decide +kernel)) (by decide +kernel) (by decide +kernel) (by decide) (fun _ _ h => by rw [h.1]; rfl) (fun _ U U' hal hh h => ⟨h.1, h.2.1.mv hal hh, h.2.2.1, h.2.2.2.1.there hal hh, h.2.2.2.2⟩) (fun r U U' V V' h1 hal h2 h => XT.PureE.mv r U U' V V' h1 hal h2 h) ?_
  intro p e s m args below meth c s₁ X0 hexec hbytes hml hret hlk hnm hown hh0 W hP
  obtain ⟨rfl, hx, hc, s1, hz⟩ := hP
  have c1 : Steps p.tables e below (s₁.setTop (entryFrame m #[.ref x] 1)) (s₁.setTop (mkF m 0 #[.val (.ref x)] [])) := entry rfl
  obtain ⟨T2, X2, q2, st2⟩ := X0.sget hexec hown (wk W (.fieldLink "java/lang/String" 38 "java/lang/String" "COMPACT_STRINGS" "Z")) s1 (fun _ _ h => by rw [hh0]; exact h) (g := (mkF m 0 #[.val (.ref x)] [])) rfl (hb hbytes d0)
  have hh2 := q2.trans hh0
  have c3 : Steps p.tables e below (s₁.setTop (entryFrame m #[.ref x] 1)) (T2.setTop (mkF m 7 #[.val (.ref x)] [.ref x])) := (c1.trans (st2 _ (Steps.refl _))).trans (by
    refine XS.ifNo X2.here hexec rfl (hb hbytes d3) rfl (i0_eq_f hz) ?_
    refine XS.aloadN X2.here hexec rfl (hb hbytes d6) rfl rfl ?_
    exact Steps.refl _)
  obtain ⟨T4, X4, q4, st4⟩ := X2.hget hexec hown (wk W (.fieldLink "java/lang/String" 15 "java/lang/String" "coder" "B")) (hx.mv X2.warmed.alike hh2) (g := (mkF m 7 #[.val (.ref x)] [.ref x])) rfl (rest := []) rfl (hb hbytes d7)
  have c5 : Steps p.tables e below (s₁.setTop (entryFrame m #[.ref x] 1)) (T4.setTop (mkF m 14 #[.val (.ref x)] [.int cd])) := (c3.trans (st4 _ (Steps.refl _))).trans (by
    refine XS.goto X4.here hexec rfl (pc0 := 10) rfl (hb hbytes d10) (by decide) rfl ?_
    exact Steps.refl _)
  exact ⟨T4, some (.int cd), _, _, _, X4, rfl, rfl, rfl, (fun h => by cases h), ⟨rfl, q4.trans hh2⟩, fun fs hl => c5.trans (X4.ireturnOut hexec hret (by rcases hc with rfl | rfl <;> rfl) (Or.inr (Or.inr (Or.inl rfl))) (hb hbytes d14) hl)⟩
end Cdr
namespace Len
def yN : MethodName := ⟨"java/lang/String", "length", "()I"⟩
abbrev yB : ByteArray := jdk_42_method_54_code
theorem d0 : decode yB 0 = .ok (.aload_n 0, 1) := by decide +kernel
theorem d1 : decode yB 1 = .ok (.getfield 9, 3) := by decide +kernel
theorem d4 : decode yB 4 = .ok (.arraylength, 1) := by decide +kernel
theorem d5 : decode yB 5 = .ok (.aload_n 0, 1) := by decide +kernel
theorem d6 : decode yB 6 = .ok (.invokevirtual 335, 3) := by decide +kernel
theorem d9 : decode yB 9 = .ok (.ishr, 1) := by decide +kernel
theorem d10 : decode yB 10 = .ok (.ireturn, 1) := by decide +kernel
def site : List Cond := [.fieldLink "java/lang/String" 9 "java/lang/String" "value" "[B", Cdr.tab] ++ virtW "java/lang/String" 335 "java/lang/String" Cdr.yN Cdr.yN
def tab : Cond := tabOf yN yB 1 (some .int) site
def P (x t : Addr) (V : Cell) (cd : Int32) (n : Nat) (f : Nat → Int32) (z : Int32) (args : Array Value) (s : State) : Prop := args = #[.ref x] ∧ Txt x t V cd n f s ∧ StaticIs s "java/lang/String" "COMPACT_STRINGS" "Z" (.int z) ∧ ¬ z = 0
def E (n : Nat) (r : Option Value) (s u : State) : Prop := XT.PureE (some (.int (Int32.ofNat n))) r s u
/-- length() of a String of n chars, in either coding -/
theorem law (l : Launch) (x t : Addr) (V : Cell) (cd : Int32) (n : Nat) (f : Nat → Int32) (z : Int32) : Law l yN 1 0 1 13 yB 1 (some .int) site (P x t V cd n f z) (E n) [] 0 0 := by
  refine Law.of_walk (plainFor_of_name (by decide +kernel)) (by decide +kernel) (by decide +kernel) (by decide) (fun _ _ h => by rw [h.1]; rfl) (fun _ U U' hal hh h => ⟨h.1, h.2.1.mv hal hh, h.2.2.1.there hal hh, h.2.2.2⟩) (fun r U U' V V' h1 hal h2 h => XT.PureE.mv r U U' V V' h1 hal h2 h) ?_
  intro p e s m args below meth c s₁ X0 hexec hbytes hml hret hlk hnm hown hh0 W hP
  obtain ⟨rfl, hx, s1, hz⟩ := hP
  have v31 := hx.2.2.2.1.2.2.2
  have c1 : Steps p.tables e below (s₁.setTop (entryFrame m #[.ref x] 1)) (s₁.setTop (mkF m 1 #[.val (.ref x)] [.ref x])) := Steps.trans (entry rfl) (by
    show Steps p.tables e below (s₁.setTop (mkF m 0 #[.val (.ref x)] [])) _
    refine XS.aloadN X0.here hexec rfl (hb hbytes d0) rfl rfl ?_
    exact Steps.refl _)
  obtain ⟨T2, X2, q2, st2⟩ := X0.hget hexec hown (wk W (.fieldLink "java/lang/String" 9 "java/lang/String" "value" "[B")) (hx.mv X0.warmed.alike hh0).2.1 (g := (mkF m 1 #[.val (.ref x)] [.ref x])) rfl (rest := []) rfl (hb hbytes d1)
  have hh2 := q2.trans hh0
  have hx2 := hx.mv X2.warmed.alike hh2
  have c3 : Steps p.tables e below (s₁.setTop (entryFrame m #[.ref x] 1)) (T2.setTop (mkF m 6 #[.val (.ref x)] [.ref x, .int (Int32.ofNat V.slots.size)])) := (c1.trans (st2 _ (Steps.refl _))).trans (by
    refine X2.alen hexec hx2.2.2.2.1 rfl rfl (hb hbytes d4) ?_
    refine XS.aloadN X2.here hexec rfl (hb hbytes d5) rfl rfl ?_
    exact Steps.refl _)
  obtain ⟨v4, T4, X4, E4, g4⟩ := X2.callV hexec (Cdr.law l x cd z) hown (wks W (virtW "java/lang/String" 335 "java/lang/String" Cdr.yN Cdr.yN)) rfl (by decide) (wk W Cdr.tab) (W := 1) (Nat.le_of_ble_eq_true rfl) (Nat.le_of_ble_eq_true rfl) (Nat.le_refl _) (Nat.le_refl _) (hx2.1.fc X2.warmed.alike) hx2.1.is (g := (mkF m 6 #[.val (.ref x)] [.ref x, .int (Int32.ofNat V.slots.size)])) rfl (by rw [hml]; rfl) c3 (argsL := []) (rest := [.int (Int32.ofNat V.slots.size)]) rfl rfl (by show 2 * 0 + (1 + 0) ≤ _; decide) (hb hbytes d6) (⟨rfl, hx2.2.2.1, hx.2.2.2.2.1.cd, s1.there X2.warmed.alike hh2, hz⟩)
  obtain ⟨rfl, q4⟩ := E4
  have c5 : Steps p.tables e below (s₁.setTop (entryFrame m #[.ref x] 1)) (T4.setTop (mkF m 10 #[.val (.ref x)] [.int (Int32.ofNat V.slots.size >>> (cd &&& 31))])) := Steps.trans g4 (by
    refine ishr X4.here hexec rfl (hb hbytes d9) rfl ?_
    exact Steps.refl _)
  rw [hx.2.2.2.2.1.len v31] at c5
  exact ⟨T4, some (.int (Int32.ofNat n)), _, _, _, X4, rfl, rfl, rfl, (fun h => by cases h), ⟨rfl, q4.trans hh2⟩, fun fs hl => c5.trans (X4.ireturnOut hexec hret rfl (Or.inl rfl) (hb hbytes d10) hl)⟩
theorem pays {l : Launch} {R : Room} {p : Program} {e : Env} {below : List Frame} {s : State} {sargs : Array Value} {len W : Nat} (x t : Addr) (V : Cell) (cd : Int32) (n : Nat) (f : Nat → Int32) (z : Int32) (htab : tab.before sargs s = true) (hfr : 2 ≤ R.frames) (hlo : W + 25 ≤ R.locals) :
    Back l R p e below s sargs yN len W (fun A₁ a₁ => A₁.cells + 0 ≤ R.cells ∧ A₁.slots + 0 ≤ R.slots ∧ P x t V cd n f z a₁ A₁.U) (fun A₁ _ v₁ B₁ => E n v₁ A₁.U B₁.U ∧ B₁.locs = A₁.locs ++ [] ∧ B₁.cells = A₁.cells + 0 ∧ B₁.slots = A₁.slots + 0) :=
  (law l x t V cd n f z).pays htab hfr (by omega)
end Len
end StrChars
namespace StrChars.Road
open Jvm Sem ClassFile Op Lib Jvm.Stand Jvm.Free Jvm.Free.XT
open Jvm.Lib.Cold (StaticIs)
theorem consq {a : Array Value} {s : State} {c : Jvm.Cond} {L : List Jvm.Cond} (h0 : c.before a s = true) (h : ∀ w ∈ L, w.before a s = true) : ∀ w ∈ c :: L, w.before a s = true := fun w hw => (List.mem_cons.mp hw).elim (fun e => e ▸ h0) (h w)
/-- the words of String.length(), either coding -/
abbrev wordsLen : List Jvm.Cond := [.code Len.yN Len.yB 1 (some .int), .initialized ST, .fieldLink ST 9 ST "value" "[B", .fieldLink ST 38 ST "COMPACT_STRINGS" "Z", .fieldLink ST 15 ST "coder" "B", .code Cdr.yN Cdr.yB 1 (some .byte), .methodLink ST 335 Cdr.yN, .declares Cdr.yN, .selects ST Cdr.yN Cdr.yN, .instanceMethod Cdr.yN]
theorem tabLen_of {a : Array Value} {s : State} (h : ∀ w ∈ wordsLen, w.before a s = true) : Len.tab.before a s = true := by
  have hc : Cdr.tab.before a s = true := unparts (wk h (.code Cdr.yN Cdr.yB 1 (some .byte))) (wks h (.initialized Cdr.yN.cls :: Cdr.site))
  have q := consq hc h
  exact unparts (wk q (.code Len.yN Len.yB 1 (some .int))) (wks q (.initialized Len.yN.cls :: Len.site))
theorem movedLen {Z s : State} {a0 args : Array Value} (hZ : Z.Warmed39 s.vm) (hw : ∀ d ∈ wordsLen, d.before a0 Z = true) : ∀ d ∈ wordsLen, d.before args s = true := fun d hd => by
  have q := hw d hd
  have t : ∀ d ∈ wordsLen, d = .arrayClass .byte ∨ (d.onTables && d.keepsFace) = true := by decide +kernel
  rcases t d hd with rfl | t
  · exact RoadKit.mvA hZ q
  · exact RoadKit.mv hZ q t
/-- the bytes of the chars cs, low before high -/
def wideBytes : List Int32 → List Value
  | [] => []
  | c :: cs => .int (lo8 c) :: .int (hi8 c) :: wideBytes cs
theorem wide_lo (d : Value) : ∀ (cs : List Int32) (j : Nat), j < cs.length → (wideBytes cs).getD (2 * j) d = .int (lo8 (cs.getD j 0))
  | [], j, h => absurd h (Nat.not_lt_zero j)
  | c :: cs, 0, _ => rfl
  | c :: cs, j + 1, h => by
    have q := wide_lo d cs j (by simpa using h)
    rw [show 2 * (j + 1) = 2 * j + 1 + 1 from by omega]
    simpa [wideBytes] using q
theorem wide_hi (d : Value) : ∀ (cs : List Int32) (j : Nat), j < cs.length → (wideBytes cs).getD (2 * j + 1) d = .int (hi8 (cs.getD j 0))
  | [], j, h => absurd h (Nat.not_lt_zero j)
  | c :: cs, 0, _ => rfl
  | c :: cs, j + 1, h => by
    have q := wide_hi d cs j (by simpa using h)
    rw [show 2 * (j + 1) + 1 = 2 * j + 1 + 1 + 1 from by omega]
    simpa [wideBytes] using q
theorem low_at (d : Value) (cs : List Int32) (j : Nat) (h : j < cs.length) : (cs.map fun c => Value.int (lo8 c)).getD j d = .int (lo8 (cs.getD j 0)) := by
  simp [List.getD_eq_getElem?_getD, h]
/-- an array of N2 bytes vs codes the chars cs by the coder cd -/
def CodA (cs : List Int32) (cd N2 : Int32) (vs : List Value) : Prop := (cd = 0 ∧ N2 = Int32.ofNat cs.length ∧ vs = (cs.map fun c => Value.int (lo8 c)) ∧ ∀ c ∈ cs, ¬ 255 < c) ∨ (cd = 1 ∧ N2 = Int32.ofNat (2 * cs.length) ∧ vs = wideBytes cs ∧ ∃ c ∈ cs, 255 < c)
theorem CodA.cod {cs : List Int32} {cd N2 : Int32} {vs : List Value} {V : Cell} (h : CodA cs cd N2 vs) (hn : 2 * cs.length < 2 ^ 31) (hs : V.slots.size = N2.toNatClampNeg) (hv : RoadKit.Has V vs (.int 0)) : Cod cd cs.length (fun j => cs.getD j 0) V := by
  rcases h with ⟨rfl, rfl, rfl, h⟩ | ⟨rfl, rfl, rfl, c, hc, hw⟩
  · rw [n32 (by omega)] at hs
    exact Or.inl ⟨rfl, hs, fun j hj => ⟨by rw [hv j (by omega), low_at _ _ _ hj], by
      have e : cs.getD j 0 = cs[j] := by simp [List.getD_eq_getElem?_getD, hj]
      show ¬ 255 < cs.getD j 0
      rw [e]; exact h _ (List.getElem_mem _)⟩⟩
  · rw [n32 (by omega)] at hs
    obtain ⟨j, hj, rfl⟩ := List.getElem_of_mem hc
    exact Or.inr ⟨rfl, hs, fun j hj => ⟨by rw [hv _ (by omega), wide_lo _ _ _ hj], by rw [hv _ (by omega), wide_hi _ _ _ hj]⟩, j, hj, by
      have e : cs.getD j 0 = cs[j] := by simp [List.getD_eq_getElem?_getD, hj]
      show 255 < cs.getD j 0
      rw [e]; exact hw⟩
/-- an object of exactly java/lang/String, its two fields found: as the laws ask it -/
theorem strObj {Z U : State} {a0 : Array Value} {kI : Nat} (wi : (Jvm.Cond.instantiable ST kI).before a0 Z = true) (al : Z.vm.Alike U.vm) {x : Addr} {v0 c0 : Value} (E : RoadKit.Exa Z U.heap x ST) (V : RoadKit.Fld Z U.heap x ST "value" "[B" v0) (C : RoadKit.Fld Z U.heap x ST "coder" "B" c0) :
    ∃ (D : Cell) (fV fC : Field), Blank ST x D U ∧ Found ST "value" "[B" fV U ∧ Found ST "coder" "B" fC U ∧ D.slots[fV.slot]? = some v0 ∧ D.slots[fC.slot]? = some c0 ∧ RoadKit.slotOf Z ST "value" "[B" = fV.slot ∧ RoadKit.slotOf Z ST "coder" "B" = fC.slot := by
  obtain ⟨D, cfV, kV, iV, fV, hD, gV, stV, knV, obV, asV, slV⟩ := V
  obtain ⟨D', cfC, kC, iC, fC, hD', gC, stC, -, -, asC, slC⟩ := C
  cases hD.symm.trans hD'
  obtain ⟨D2, kD, e1, e2, e3, e4, e5⟩ := E
  cases hD.symm.trans e1
  obtain ⟨c2, k2, i1, i2, i3, -⟩ := Cond.instantiable_spec wi
  cases e2.symm.trans i1
  cases e3.symm.trans i2
  obtain ⟨kU, u1, u2⟩ := al.2.2 _ _ e3
  exact ⟨D, fV, fC, ⟨hD, ⟨knV, fun q hq => by rw [hq] at obV; cases obV⟩, by rw [al.findClass]; exact e2, kU, u1, by rw [u2]; exact i3, by rw [u2]; exact e5 i3⟩, ⟨SBG.found_only al ⟨cfV, kV, iV, gV⟩, stV⟩, ⟨SBG.found_only al ⟨cfC, kC, iC, gC⟩, stC⟩, slV, slC, by simp [RoadKit.slotOf, gV], by simp [RoadKit.slotOf, gC]⟩
theorem sta_is {Z U : State} (al : Z.vm.Alike U.vm) {C n d : String} {v : Value} (S : RoadKit.Sta Z U.heap C n d v) : StaticIs U C n d v := by
  obtain ⟨cfS, iS, kS, fS, st, cS, t1, t2, t3, t4, t5, t6, t7⟩ := S
  exact StaticIs.there (s := { Z with heap := U.heap }) ⟨cfS, iS, kS, fS, st, cS, t1, t2, t3, t4, t5, (fun q => by rw [q] at t6; cases t6), t7⟩ al rfl
/-- **length() OF SUCH A STRING** -/
theorem lenW {p : Program} {l : Launch} {e : Env} {R : Room} {s : State} {args : Array Value} {below : List Frame} {len W : Nat} {Z : State} {a0 : Array Value} {h : Heap} (hZ : Z.Warmed39 s.vm) (hw : ∀ d ∈ wordsLen, d.before a0 Z = true) {kI : Nat} (wi : (Jvm.Cond.instantiable ST kI).before a0 Z = true)
    {x t : Addr} {kb : ClassId} {cs : List Int32} {cd N2 z : Int32} {vs : List Value} (E : RoadKit.Exa Z h x ST) (V : RoadKit.Fld Z h x ST "value" "[B" (.ref t)) (C : RoadKit.Fld Z h x ST "coder" "B" (.int cd)) (K : RoadKit.Arv Z h t kb .byte N2 vs (.int 0)) (hc : CodA cs cd N2 vs) (hb : ∀ c ∈ cs, ¬ c < 0 ∧ ¬ (65535 : Int32) < c)
    (S : RoadKit.Sta Z h ST "COMPACT_STRINGS" "Z" (.int z)) (hz : ¬ z = 0) (l2 : cs.length ≤ 4000) (hfr : 2 ≤ R.frames) (hlo : W + 25 ≤ R.locals) :
    Back l R p e below s args (⟨"java/lang/String", "length", "()I"⟩ : MethodName) len W (fun P a => a = #[.ref x] ∧ P.U.heap = h ∧ P.cells + 0 ≤ R.cells ∧ P.slots + 0 ≤ R.slots)
      (fun P _ v B => ∃ L, (v = some (.int (Int32.ofNat cs.length)) ∧ L = [] ∧ B.U.heap = h) ∧ B.locs = P.locs ++ L ∧ B.cells = P.cells + 0 ∧ B.slots = P.slots + 0) := by
  obtain ⟨A, K1, K2, K3, K4, K5, K6⟩ := K
  have hcod := hc.cod (by omega) K3 K5
  intro m meth c P g ig mk a X hg hsize hdg hW hn hp'
  obtain ⟨rfl, rfl, r1, r2⟩ := hp'
  have al : Z.vm.Alike P.U.vm := hZ.alike.trans X.warmed.alike
  obtain ⟨D, fV, fC, hB, F1, F2, g1, g2, -, -⟩ := strObj wi al E V C
  have hx : Txt x t A cd cs.length (fun j => cs.getD j 0) P.U := ⟨⟨_, hB.2.2.1, D, hB.1, rfl, by cases q : D.vm <;> first | rfl | exact absurd q (hB.2.1.2 _)⟩, Has.of hB F1 g1, Has.of hB F2 g2, ⟨K1.1, State.isArrayOf_alike al K1.2.1, K1.2.2, by rcases hcod with ⟨-, q, -⟩ | ⟨-, q, -⟩ <;> omega⟩, hcod, fun j hj => by
    have e : cs.getD j 0 = cs[j] := by simp [List.getD_eq_getElem?_getD, hj]
    show ¬ cs.getD j 0 < 0 ∧ ¬ 65535 < cs.getD j 0
    rw [e]; exact hb _ (List.getElem_mem _)⟩
  obtain ⟨v, B, X', ⟨⟨hv, hh⟩, hl, hk, hs⟩, st⟩ := Len.pays x t A cd cs.length (fun j => cs.getD j 0) z (tabLen_of (movedLen hZ hw)) hfr hlo m meth c P g ig mk _ X hg hsize hdg hW hn ⟨r1, r2, rfl, hx, sta_is al S, hz⟩
  exact ⟨v, B, X', ⟨[], ⟨hv, rfl, hh⟩, hl, hk, hs⟩, st⟩
end StrChars.Road
namespace StrChars.Road
open Jvm Sem ClassFile Op Lib Jvm.Stand Jvm.Free Jvm.Free.XT
open Jvm.Lib.Cold (StaticIs)
/-- what backV says of its String, as the contracts of this text ask it: cs's low bytes, coder 0 -/
theorem codOf {cs : List Int32} {n : Nat} (hn : cs.length = n) (hb : ∀ c ∈ cs, ¬ 255 < c) : CodA cs 0 (Int32.ofNat n) ((cs.map lo8).map Value.int) := Or.inl ⟨rfl, by rw [hn], by simp [List.map_map, Function.comp_def], hb⟩
end StrChars.Road
end Jvm.Pilot.@@N@@
namespace Jvm.Pilot.@@N@@
open Jvm Jvm.ClassFile Sem Op Lib Jvm.Free Jvm.Stand Jvm.LawKit Jvm.RoadKit Bundle Jvm.Pilot.@@N@@.Jvm.D
abbrev Go (p : Program) (e : Env) (below : List Frame) (S0 T : State) (g : JFrame) : Prop := Steps p.tables e below S0 (T.setTop g)
abbrev own_W (Z : State) (a0 : Array Value) : Prop := ∀ d ∈ tables_1, d.before a0 Z = true
theorem gw {Z : State} {a0 : Array Value} (hw : own_W Z a0) (k : Nat) {d : Jvm.Cond} (h : tables_1[k]? = some d) : d.before a0 Z = true := hw d (List.mem_of_getElem? h)
/-- a byte as a char: 0 to 255 -/
def own_B (x : Int32) : Prop := ∃ k : Fin 256, x = Int32.ofNat k.val
theorem own_B.lit (k : Fin 256) : own_B (Int32.ofNat k.val) := ⟨k, rfl⟩
theorem own_B.rng {x : Int32} (h : own_B x) : ¬ x < 0 ∧ ¬ (255 : Int32) < x := by
  obtain ⟨k, rfl⟩ := h
  have t : ∀ k : Fin 256, ¬ (Int32.ofNat k.val) < 0 ∧ ¬ (255 : Int32) < (Int32.ofNat k.val) := by decide +kernel
  exact t k
theorem own_B.rng2 {x : Int32} (h : own_B x) : ¬ x < 0 ∧ ¬ (65535 : Int32) < x := by
  obtain ⟨k, rfl⟩ := h
  have t : ∀ k : Fin 256, ¬ (Int32.ofNat k.val) < 0 ∧ ¬ (65535 : Int32) < (Int32.ofNat k.val) := by decide +kernel
  exact t k
theorem own_B.nar {x : Int32} (h : own_B x) : nar .char x = x := by
  obtain ⟨k, rfl⟩ := h
  have t : ∀ k : Fin 256, Jvm.RoadKit.nar .char (Int32.ofNat k.val) = Int32.ofNat k.val := by decide +kernel
  exact t k
theorem own_and255 (x : Int32) : own_B (x &&& (255 : Int32)) := by
  have h : (x &&& 255).toBitVec.toNat < 256 := by
    simp only [Int32.toBitVec_and, BitVec.toNat_and]
    exact Nat.lt_succ_of_le Nat.and_le_right
  refine ⟨⟨_, h⟩, ?_⟩
  apply Int32.toBitVec_inj.mp
  apply BitVec.eq_of_toNat_eq
  simp only [Int32.toBitVec_ofNat', BitVec.toNat_ofNat]
  rw [Nat.mod_eq_of_lt (Nat.lt_of_lt_of_le h (by decide))]
theorem own_i2c {x : Int32} (h : own_B x) : x.toUInt32.toUInt16.toUInt32.toInt32 = x := h.nar
theorem own_bI (x : Int32) : ∃ c : Int32, own_B c ∧ ((x &&& (255 : Int32)).toUInt32.toUInt16.toUInt32.toInt32) = c := ⟨_, by rw [own_i2c (own_and255 x)]; exact own_and255 x, rfl⟩
theorem own_ofInt {x : Int32} {n : Nat} (h : x.toInt = (n : Int)) : x = Int32.ofNat n := by
  have : x = Int32.ofInt x.toInt := (Int32.ofInt_toInt x).symm
  rw [this, h]; rfl
theorem own_bL (x : Int64) : ∃ c : Int32, own_B c ∧ (((x &&& (255 : Int64)).toInt32).toUInt32.toUInt16.toUInt32.toInt32) = c := by
  have h1 := c_maskL x 255 8 (by decide) rfl
  have h2 : 0 ≤ (x &&& 255).toInt := by rw [h1]; exact Int.emod_nonneg _ (by decide)
  have h3 : (x &&& 255).toInt < 256 := by rw [h1]; exact Int.emod_lt_of_pos _ (by decide)
  have h4 : ((x &&& 255).toInt32).toInt = ((x &&& 255).toInt.toNat : Int) := by
    rw [Int64.toInt_toInt32, Int.toNat_of_nonneg h2, Int.bmod_eq_of_le (by omega) (by omega)]
  have h5 := own_ofInt h4
  have hB : own_B ((x &&& (255 : Int64)).toInt32) := ⟨⟨(x &&& 255).toInt.toNat, by omega⟩, h5⟩
  exact ⟨_, by rw [own_i2c hB]; exact hB, rfl⟩
theorem own_rem (x : Int32) (d : Nat) (h0 : 0 < d) (hd : (Int32.ofNat d).toInt = (d : Int)) : ∃ j : Fin d, ((x &&& (2147483647 : Int32)) % (Int32.ofNat d)) = Int32.ofNat j.val := by
  have h1 := (c_and x 2147483647 (by decide)).1
  have h2 := (c_irem (x &&& 2147483647) (Int32.ofNat d) d hd).1 h1
  have h3 : 0 ≤ (x &&& 2147483647).toInt % (d : Int) := Int.emod_nonneg _ (by omega)
  have h4 : (x &&& 2147483647).toInt % (d : Int) < (d : Int) := Int.emod_lt_of_pos _ (by omega)
  refine ⟨⟨((x &&& 2147483647).toInt % (d : Int)).toNat, by omega⟩, own_ofInt ?_⟩
  rw [h2]; exact (Int.toNat_of_nonneg h3).symm
/-- a Bool as the machine's int -/
def own_i (b : Bool) : Int32 := if b then 1 else 0
theorem own_i0 (b : Bool) : own_i b = (0 : Int32) ↔ b = false := by cases b <;> decide
theorem own_iT {b : Bool} (h : b = true) : ¬ (own_i b = (0 : Int32)) := by subst h; decide
theorem own_iF {b : Bool} (h : b = false) : own_i b = (0 : Int32) := by subst h; rfl
theorem own_inar (b : Bool) : nar .boolean (own_i b) = own_i b := by cases b <;> decide
theorem own_getD (cs : List Int32) (n : Nat) : (cs.map Value.int).getD n (.int 0) = .int (cs.getD n 0) := by
  simp only [List.getD_eq_getElem?_getD, List.getElem?_map]
  cases cs[n]? <;> rfl
theorem own_lt32 {i n : Nat} (hi : i < 2147483648) (hn : n < 2147483648) : (Int32.ofNat i < Int32.ofNat n) ↔ i < n := by
  rw [Int32.lt_iff_toInt_lt, Int32.toInt_ofNat_of_lt hi, Int32.toInt_ofNat_of_lt hn]; omega
theorem own_succ (i : Nat) : Int32.ofNat i + (1 : Int32) = Int32.ofNat (i + 1) := by
  rw [Int32.ofNat_add]; rfl
theorem own_nil : ∀ c ∈ ([] : List Int32), own_B c := fun _ h => nomatch h
theorem own_cons {a : Int32} {l : List Int32} (h : own_B a) (t : ∀ c ∈ l, own_B c) : ∀ c ∈ a :: l, own_B c := fun c hc => (List.mem_cons.mp hc).elim (fun e => e ▸ h) (t c)
theorem own_Bl (k : Nat) (h : k < 256) : own_B (Int32.ofNat k) := ⟨⟨k, h⟩, rfl⟩
theorem own_b2 (x : Int32) : x.toInt8.toInt32.toInt8.toInt32 = x.toInt8.toInt32 := by rw [Int8.toInt8_toInt32]
/-- a char: 0 to 65535 -/
def own_C (x : Int32) : Prop := 0 ≤ x.toInt ∧ x.toInt ≤ 65535
theorem own_C.nar {x : Int32} (h : own_C x) : nar .char x = x := by
  obtain ⟨h1, h2⟩ := h
  have q := c_i2c x
  apply Int32.toInt_inj.mp
  show x.toUInt32.toUInt16.toUInt32.toInt32.toInt = x.toInt
  omega
theorem own_chr (x : Int32) : own_C (Jvm.RoadKit.nar .char x) := by
  have q := c_i2c x
  exact ⟨q.2.1, by have := q.2.2; show x.toUInt32.toUInt16.toUInt32.toInt32.toInt ≤ 65535; omega⟩
theorem own_C.toB {x : Int32} (h : own_C x) (hb : ¬ (255 : Int32) < x) : own_B x := by
  obtain ⟨h1, h2⟩ := h
  have e : (255 : Int32).toInt = 255 := rfl
  rw [Int32.lt_iff_toInt_lt, e] at hb
  exact ⟨⟨x.toInt.toNat, by omega⟩, own_ofInt (by simp only [Int.toNat_of_nonneg h1])⟩
/-- the two bytes of a char -/
def own_lo (c : Int32) : Int32 := (c >>> ((0 : Int32) &&& 31)).toInt8.toInt32
def own_hi (c : Int32) : Int32 := (c >>> ((8 : Int32) &&& 31)).toInt8.toInt32
theorem own_join {c : Int32} (h : own_C c) : nar .char ((((own_lo c &&& (255 : Int32)) <<< ((0 : Int32) &&& 31)) ||| ((own_hi c &&& (255 : Int32)) <<< ((8 : Int32) &&& 31))).toUInt32.toUInt16.toUInt32.toInt32) = c := by
  unfold own_lo own_hi
  obtain ⟨h1, h2⟩ := h
  have a0 := c_ishr c 0 0 rfl
  have a1 := c_i2b (c >>> ((0 : Int32) &&& 31))
  have a2 := c_mask ((c >>> ((0 : Int32) &&& 31)).toInt8.toInt32) 255 8 (by decide) rfl
  have a3 := c_ishl ((c >>> ((0 : Int32) &&& 31)).toInt8.toInt32 &&& (255 : Int32)) 0 0 rfl
  have b0 := c_ishr c 8 8 rfl
  have b1 := c_i2b (c >>> ((8 : Int32) &&& 31))
  have b2 := c_mask ((c >>> ((8 : Int32) &&& 31)).toInt8.toInt32) 255 8 (by decide) rfl
  have b3 := c_ishl ((c >>> ((8 : Int32) &&& 31)).toInt8.toInt32 &&& (255 : Int32)) 8 8 rfl
  generalize (c >>> ((0 : Int32) &&& 31)).toInt8.toInt32 &&& (255 : Int32) = A2 at *
  generalize (c >>> ((8 : Int32) &&& 31)).toInt8.toInt32 &&& (255 : Int32) = B2 at *
  have r1 := (A2 <<< ((0 : Int32) &&& 31)).le_toInt
  have r2 := (A2 <<< ((0 : Int32) &&& 31)).toInt_lt
  have r3 := (B2 <<< ((8 : Int32) &&& 31)).le_toInt
  have r4 := (B2 <<< ((8 : Int32) &&& 31)).toInt_lt
  generalize A2 <<< ((0 : Int32) &&& 31) = A3 at *
  generalize B2 <<< ((8 : Int32) &&& 31) = B3 at *
  have o := c_or' A3 B3 8 (by decide) 256 rfl
  have r5 := (A3 ||| B3).le_toInt
  have r6 := (A3 ||| B3).toInt_lt
  generalize A3 ||| B3 = D at *
  have q := c_i2c D
  rw [own_C.nar (x := D.toUInt32.toUInt16.toUInt32.toInt32) ⟨q.2.1, by omega⟩]
  apply Int32.toInt_inj.mp
  have o' := o (by omega) (by omega) (by omega)
  omega
/-- min(x & 7, 4) -/
def own_min4 (a : Int32) : Int32 := if (4 : Int32) < a then 4 else a
theorem own_min4_cases (x : Int32) : own_min4 (x &&& (7 : Int32)) = (0 : Int32) ∨ own_min4 (x &&& (7 : Int32)) = (1 : Int32) ∨ own_min4 (x &&& (7 : Int32)) = (2 : Int32) ∨ own_min4 (x &&& (7 : Int32)) = (3 : Int32) ∨ own_min4 (x &&& (7 : Int32)) = (4 : Int32) := by
  have h1 := c_and x 7 (by decide)
  have e : (7 : Int32).toInt = 7 := rfl
  have h2 : (x &&& 7) = Int32.ofNat (x &&& 7).toInt.toNat := own_ofInt (by rw [Int.toNat_of_nonneg h1.1])
  have h3 : (x &&& 7).toInt.toNat < 8 := by omega
  rw [h2]
  have t : ∀ k : Fin 8, own_min4 (Int32.ofNat k.val) = (0 : Int32) ∨ own_min4 (Int32.ofNat k.val) = (1 : Int32) ∨ own_min4 (Int32.ofNat k.val) = (2 : Int32) ∨ own_min4 (Int32.ofNat k.val) = (3 : Int32) ∨ own_min4 (Int32.ofNat k.val) = (4 : Int32) := by decide
  exact t ⟨_, h3⟩
def own_bad (c : Int32) : Bool := decide (c = (44 : Int32)) || decide (c = (10 : Int32)) || decide (c = (13 : Int32))
def own_has : List Int32 → Int32 → Bool
  | [], _ => false
  | c :: r, k => decide (c = k) || own_has r k
theorem own_B.inj {x y : Int32} (hx : own_B x) (hy : own_B y) : x.toInt8.toInt32 = y.toInt8.toInt32 ↔ x = y := by
  obtain ⟨i, rfl⟩ := hx
  obtain ⟨j, rfl⟩ := hy
  refine ⟨fun h => ?_, fun h => by rw [h]⟩
  have t : ∀ k : Fin 256, ((Int32.ofNat k.val).toInt8.toInt32 &&& (255 : Int32)) = Int32.ofNat k.val := by decide +kernel
  rw [← t i, ← t j, h]
theorem own_strA : ∀ d ∈ Bundle.stringAtoms, d ∈ tables_1 := by decide +kernel
def EL : List (String × Nat) := consts_1
theorem own_rdec {r : Int32} {b : Bool} (h : decide (r < (0 : Int32)) = b) : (b = true ↔ r < (0 : Int32)) := by rw [← h]; simp
def own_anyb : List Int32 → Bool
  | [] => false
  | c :: r => own_bad c || own_anyb r
theorem own_fin (cs : List Int32) : (!own_has cs (44 : Int32) && !own_has cs (10 : Int32) && !own_has cs (13 : Int32)) = !own_anyb cs := by
  induction cs with
  | nil => rfl
  | cons c r ih =>
    simp only [own_has, own_anyb, own_bad, Bool.not_or]
    rw [← ih]
    cases decide (c = (44 : Int32)) <;> cases decide (c = (10 : Int32)) <;> cases decide (c = (13 : Int32)) <;> simp
theorem own_nz {b : Bool} (h : ¬ own_i b = (0 : Int32)) : b = true := by cases b with | false => exact absurd rfl h | true => rfl
theorem own_k16 {k : Int32} (h : own_B k) : k < (65536 : Int32) := by
  obtain ⟨i, rfl⟩ := h
  have t : ∀ i : Fin 256, Int32.ofNat i.val < (65536 : Int32) := by decide +kernel
  exact t i
theorem own_tcn {n : Nat} (h : n < 2147483648) : (Int32.ofNat n).toNatClampNeg = n := by
  simp only [Int32.toNatClampNeg, Int32.toInt_ofNat_of_lt h]; rfl
theorem own_shl1 {i : Nat} (h : i < 4) : (Int32.ofNat i <<< ((1 : Int32) &&& 31)) = Int32.ofNat (2 * i) := by
  have t : ∀ i : Fin 4, (Int32.ofNat i.val <<< ((1 : Int32) &&& 31)) = Int32.ofNat (2 * i.val) := by decide
  exact t ⟨i, h⟩
theorem own_nn {n : Nat} (h : n < 2147483648) : ¬ Int32.ofNat n < (0 : Int32) := by
  rw [Int32.lt_iff_toInt_lt, Int32.toInt_ofNat_of_lt h]; show ¬ (n : Int) < 0; omega
def own_S (Z : State) (z : Int32) (fm : Value) : Prop := Sta Z Z.heap "java/lang/String" "COMPACT_STRINGS" "Z" (.int z) ∧ ¬ z = 0 ∧ Sta Z Z.heap "jdk/internal/util/Preconditions" "SIOOBE_FORMATTER" "Ljava/util/function/BiFunction;" fm ∧ fm.isRef = true ∧ Sta Z Z.heap "java/lang/StringUTF16" "$assertionsDisabled" "Z" (.int (1 : Int32)) ∧ Sta Z Z.heap "java/lang/StringUTF16" "HI_BYTE_SHIFT" "I" (.int (0 : Int32)) ∧ Sta Z Z.heap "java/lang/StringUTF16" "LO_BYTE_SHIFT" "I" (.int (8 : Int32))
theorem own_eqI {args : Array Value} {s : State} {t : Term} {z : Int32} (h : (Jvm.Cond.eq t (Term.int z)).value args s none s [] = some true) : t.eval args s none [] s = some (.int z) := by
  obtain ⟨x, y, hx, hy, k1, k2⟩ := cmp_v (Or.inl h)
  have e : y = .int z := Option.some.inj (hy.symm.trans rfl)
  subst e
  obtain ⟨w, rfl⟩ := k2
  have : w = z := by simpa [Cond.value, hx, hy] using h
  rw [hx, this]
theorem own_wl {Z : State} {a0 : Array Value} (hw : ∀ d ∈ tables_1, d.before a0 Z = true) : ∀ d ∈ StrChars.Road.wordsLen, d.before a0 Z = true := fun d hd => hw d ((by decide +kernel : ∀ d ∈ StrChars.Road.wordsLen, d ∈ tables_1) d hd)
theorem own_wi {Z : State} {a0 : Array Value} (hw : ∀ d ∈ tables_1, d.before a0 Z = true) : ∀ d ∈ StrChars.Road.words, d.before a0 Z = true := fun d hd => hw d ((by decide +kernel : ∀ d ∈ StrChars.Road.words, d ∈ tables_1) d hd)
theorem pnl0 : plainName "com/example/caseward/caseward/core/RightFitsFieldPinLaw" = true := by first | (simp [plainName, overriddenIn]; done) | decide +kernel
theorem pnl1 : plainName "java/lang/StringLatin1" = true := by first | (simp [plainName, overriddenIn]; done) | decide +kernel
theorem pnl2 : plainName "java/lang/String" = true := by first | (simp [plainName, overriddenIn]; done) | decide +kernel
theorem pnl3 : plainName "com/example/caseward/caseward/core/Right" = true := by first | (simp [plainName, overriddenIn]; done) | decide +kernel
theorem pnl4 : plainName "java/lang/StringUTF16" = true := by first | (simp [plainName, overriddenIn]; done) | decide +kernel
theorem pnl5 : plainName "jdk/internal/util/Preconditions" = true := by first | (simp [plainName, overriddenIn]; done) | decide +kernel
theorem d1_0 : decode jdk_29_method_69_code 0 = .ok (.iload_n 0, 1) := by decide +kernel
theorem d1_1 : decode jdk_29_method_69_code 1 = .ok (.iload_n 1, 1) := by decide +kernel
theorem d1_2 : decode jdk_29_method_69_code 2 = .ok (.if_icmp .gt 7, 3) := by decide +kernel
theorem d1_5 : decode jdk_29_method_69_code 5 = .ok (.iload_n 0, 1) := by decide +kernel
theorem d1_6 : decode jdk_29_method_69_code 6 = .ok (.goto 4, 3) := by decide +kernel
theorem d1_9 : decode jdk_29_method_69_code 9 = .ok (.iload_n 1, 1) := by decide +kernel
theorem d1_10 : decode jdk_29_method_69_code 10 = .ok (.ireturn, 1) := by decide +kernel
theorem d2_0 : decode method_3_code 0 = .ok (.iload_n 0, 1) := by decide +kernel
theorem d2_1 : decode method_3_code 1 = .ok (.bipush 16, 2) := by decide +kernel
theorem d2_3 : decode method_3_code 3 = .ok (.iushr, 1) := by decide +kernel
theorem d2_4 : decode method_3_code 4 = .ok (.iconst 3, 1) := by decide +kernel
theorem d2_5 : decode method_3_code 5 = .ok (.iand, 1) := by decide +kernel
theorem d2_6 : decode method_3_code 6 = .ok (.istore_n 1, 1) := by decide +kernel
theorem d2_7 : decode method_3_code 7 = .ok (.iload_n 1, 1) := by decide +kernel
theorem d2_8 : decode method_3_code 8 = .ok (.ifCond .ne 6, 3) := by decide +kernel
theorem d2_11 : decode method_3_code 11 = .ok (.bipush 44, 2) := by decide +kernel
theorem d2_13 : decode method_3_code 13 = .ok (.ireturn, 1) := by decide +kernel
theorem d2_14 : decode method_3_code 14 = .ok (.iload_n 1, 1) := by decide +kernel
theorem d2_15 : decode method_3_code 15 = .ok (.iconst 1, 1) := by decide +kernel
theorem d2_16 : decode method_3_code 16 = .ok (.if_icmp .ne 6, 3) := by decide +kernel
theorem d2_19 : decode method_3_code 19 = .ok (.bipush 10, 2) := by decide +kernel
theorem d2_21 : decode method_3_code 21 = .ok (.ireturn, 1) := by decide +kernel
theorem d2_22 : decode method_3_code 22 = .ok (.iload_n 1, 1) := by decide +kernel
theorem d2_23 : decode method_3_code 23 = .ok (.iconst 2, 1) := by decide +kernel
theorem d2_24 : decode method_3_code 24 = .ok (.if_icmp .ne 6, 3) := by decide +kernel
theorem d2_27 : decode method_3_code 27 = .ok (.bipush 13, 2) := by decide +kernel
theorem d2_29 : decode method_3_code 29 = .ok (.ireturn, 1) := by decide +kernel
theorem d2_30 : decode method_3_code 30 = .ok (.iload_n 0, 1) := by decide +kernel
theorem d2_31 : decode method_3_code 31 = .ok (.ldc 34, 2) := by decide +kernel
theorem d2_33 : decode method_3_code 33 = .ok (.iand, 1) := by decide +kernel
theorem d2_34 : decode method_3_code 34 = .ok (.i2c, 1) := by decide +kernel
theorem d2_35 : decode method_3_code 35 = .ok (.ireturn, 1) := by decide +kernel
theorem d3_0 : decode jdk_42_method_3_code 0 = .ok (.aload_n 0, 1) := by decide +kernel
theorem d3_1 : decode jdk_42_method_3_code 1 = .ok (.aload_n 1, 1) := by decide +kernel
theorem d3_2 : decode jdk_42_method_3_code 2 = .ok (.iconst 0, 1) := by decide +kernel
theorem d3_3 : decode jdk_42_method_3_code 3 = .ok (.aload_n 1, 1) := by decide +kernel
theorem d3_4 : decode jdk_42_method_3_code 4 = .ok (.arraylength, 1) := by decide +kernel
theorem d3_5 : decode jdk_42_method_3_code 5 = .ok (.aconst_null, 1) := by decide +kernel
theorem d3_6 : decode jdk_42_method_3_code 6 = .ok (.invokespecial 27, 3) := by decide +kernel
theorem d3_9 : decode jdk_42_method_3_code 9 = .ok (.return_, 1) := by decide +kernel
theorem d4_0 : decode jdk_42_method_149_code 0 = .ok (.aload_n 0, 1) := by decide +kernel
theorem d4_1 : decode jdk_42_method_149_code 1 = .ok (.invokespecial 1, 3) := by decide +kernel
theorem d4_4 : decode jdk_42_method_149_code 4 = .ok (.iload_n 3, 1) := by decide +kernel
theorem d4_5 : decode jdk_42_method_149_code 5 = .ok (.ifCond .ne 22, 3) := by decide +kernel
theorem d4_8 : decode jdk_42_method_149_code 8 = .ok (.aload_n 0, 1) := by decide +kernel
theorem d4_9 : decode jdk_42_method_149_code 9 = .ok (.ldc 7, 2) := by decide +kernel
theorem d4_11 : decode jdk_42_method_149_code 11 = .ok (.getfield 9, 3) := by decide +kernel
theorem d4_14 : decode jdk_42_method_149_code 14 = .ok (.putfield 9, 3) := by decide +kernel
theorem d4_17 : decode jdk_42_method_149_code 17 = .ok (.aload_n 0, 1) := by decide +kernel
theorem d4_18 : decode jdk_42_method_149_code 18 = .ok (.ldc 7, 2) := by decide +kernel
theorem d4_20 : decode jdk_42_method_149_code 20 = .ok (.getfield 15, 3) := by decide +kernel
theorem d4_23 : decode jdk_42_method_149_code 23 = .ok (.putfield 15, 3) := by decide +kernel
theorem d4_26 : decode jdk_42_method_149_code 26 = .ok (.return_, 1) := by decide +kernel
theorem d4_27 : decode jdk_42_method_149_code 27 = .ok (.getstatic 38, 3) := by decide +kernel
theorem d4_30 : decode jdk_42_method_149_code 30 = .ok (.ifCond .eq 28, 3) := by decide +kernel
theorem d4_33 : decode jdk_42_method_149_code 33 = .ok (.aload_n 1, 1) := by decide +kernel
theorem d4_34 : decode jdk_42_method_149_code 34 = .ok (.iload_n 2, 1) := by decide +kernel
theorem d4_35 : decode jdk_42_method_149_code 35 = .ok (.iload_n 3, 1) := by decide +kernel
theorem d4_36 : decode jdk_42_method_149_code 36 = .ok (.invokestatic 177, 3) := by decide +kernel
theorem d4_39 : decode jdk_42_method_149_code 39 = .ok (.astore 5, 2) := by decide +kernel
theorem d4_41 : decode jdk_42_method_149_code 41 = .ok (.aload_n 0, 1) := by decide +kernel
theorem d4_42 : decode jdk_42_method_149_code 42 = .ok (.aload 5, 2) := by decide +kernel
theorem d4_44 : decode jdk_42_method_149_code 44 = .ok (.iload_n 3, 1) := by decide +kernel
theorem d4_45 : decode jdk_42_method_149_code 45 = .ok (.invokestatic 47, 3) := by decide +kernel
theorem d4_48 : decode jdk_42_method_149_code 48 = .ok (.putfield 15, 3) := by decide +kernel
theorem d4_51 : decode jdk_42_method_149_code 51 = .ok (.aload_n 0, 1) := by decide +kernel
theorem d4_52 : decode jdk_42_method_149_code 52 = .ok (.aload 5, 2) := by decide +kernel
theorem d4_54 : decode jdk_42_method_149_code 54 = .ok (.putfield 9, 3) := by decide +kernel
theorem d4_57 : decode jdk_42_method_149_code 57 = .ok (.return_, 1) := by decide +kernel
theorem d6_0 : decode prog_47_method_5_code 0 = .ok (.aload_n 0, 1) := by decide +kernel
theorem d6_1 : decode prog_47_method_5_code 1 = .ok (.bipush 44, 2) := by decide +kernel
theorem d6_3 : decode prog_47_method_5_code 3 = .ok (.invokevirtual 158, 3) := by decide +kernel
theorem d6_6 : decode prog_47_method_5_code 6 = .ok (.ifCond .ge 25, 3) := by decide +kernel
theorem d6_9 : decode prog_47_method_5_code 9 = .ok (.aload_n 0, 1) := by decide +kernel
theorem d6_10 : decode prog_47_method_5_code 10 = .ok (.bipush 10, 2) := by decide +kernel
theorem d6_12 : decode prog_47_method_5_code 12 = .ok (.invokevirtual 158, 3) := by decide +kernel
theorem d6_15 : decode prog_47_method_5_code 15 = .ok (.ifCond .ge 16, 3) := by decide +kernel
theorem d6_18 : decode prog_47_method_5_code 18 = .ok (.aload_n 0, 1) := by decide +kernel
theorem d6_19 : decode prog_47_method_5_code 19 = .ok (.bipush 13, 2) := by decide +kernel
theorem d6_21 : decode prog_47_method_5_code 21 = .ok (.invokevirtual 158, 3) := by decide +kernel
theorem d6_24 : decode prog_47_method_5_code 24 = .ok (.ifCond .ge 7, 3) := by decide +kernel
theorem d6_27 : decode prog_47_method_5_code 27 = .ok (.iconst 1, 1) := by decide +kernel
theorem d6_28 : decode prog_47_method_5_code 28 = .ok (.goto 4, 3) := by decide +kernel
theorem d6_31 : decode prog_47_method_5_code 31 = .ok (.iconst 0, 1) := by decide +kernel
theorem d6_32 : decode prog_47_method_5_code 32 = .ok (.ireturn, 1) := by decide +kernel
theorem d7_0 : decode jdk_42_method_79_code 0 = .ok (.aload_n 0, 1) := by decide +kernel
theorem d7_1 : decode jdk_42_method_79_code 1 = .ok (.iload_n 1, 1) := by decide +kernel
theorem d7_2 : decode jdk_42_method_79_code 2 = .ok (.iconst 0, 1) := by decide +kernel
theorem d7_3 : decode jdk_42_method_79_code 3 = .ok (.invokevirtual 633, 3) := by decide +kernel
theorem d7_6 : decode jdk_42_method_79_code 6 = .ok (.ireturn, 1) := by decide +kernel
theorem d8_0 : decode jdk_42_method_80_code 0 = .ok (.aload_n 0, 1) := by decide +kernel
theorem d8_1 : decode jdk_42_method_80_code 1 = .ok (.invokevirtual 492, 3) := by decide +kernel
theorem d8_4 : decode jdk_42_method_80_code 4 = .ok (.ifCond .eq 19, 3) := by decide +kernel
theorem d8_7 : decode jdk_42_method_80_code 7 = .ok (.aload_n 0, 1) := by decide +kernel
theorem d8_8 : decode jdk_42_method_80_code 8 = .ok (.getfield 9, 3) := by decide +kernel
theorem d8_11 : decode jdk_42_method_80_code 11 = .ok (.iload_n 1, 1) := by decide +kernel
theorem d8_12 : decode jdk_42_method_80_code 12 = .ok (.iload_n 2, 1) := by decide +kernel
theorem d8_13 : decode jdk_42_method_80_code 13 = .ok (.aload_n 0, 1) := by decide +kernel
theorem d8_14 : decode jdk_42_method_80_code 14 = .ok (.invokevirtual 505, 3) := by decide +kernel
theorem d8_17 : decode jdk_42_method_80_code 17 = .ok (.invokestatic 637, 3) := by decide +kernel
theorem d8_20 : decode jdk_42_method_80_code 20 = .ok (.goto 16, 3) := by decide +kernel
theorem d8_23 : decode jdk_42_method_80_code 23 = .ok (.aload_n 0, 1) := by decide +kernel
theorem d8_24 : decode jdk_42_method_80_code 24 = .ok (.getfield 9, 3) := by decide +kernel
theorem d8_27 : decode jdk_42_method_80_code 27 = .ok (.iload_n 1, 1) := by decide +kernel
theorem d8_28 : decode jdk_42_method_80_code 28 = .ok (.iload_n 2, 1) := by decide +kernel
theorem d8_29 : decode jdk_42_method_80_code 29 = .ok (.aload_n 0, 1) := by decide +kernel
theorem d8_30 : decode jdk_42_method_80_code 30 = .ok (.invokevirtual 505, 3) := by decide +kernel
theorem d8_33 : decode jdk_42_method_80_code 33 = .ok (.invokestatic 640, 3) := by decide +kernel
theorem d8_36 : decode jdk_42_method_80_code 36 = .ok (.ireturn, 1) := by decide +kernel
theorem d9_0 : decode jdk_42_method_154_code 0 = .ok (.getstatic 38, 3) := by decide +kernel
theorem d9_3 : decode jdk_42_method_154_code 3 = .ok (.ifCond .eq 14, 3) := by decide +kernel
theorem d9_6 : decode jdk_42_method_154_code 6 = .ok (.aload_n 0, 1) := by decide +kernel
theorem d9_7 : decode jdk_42_method_154_code 7 = .ok (.getfield 15, 3) := by decide +kernel
theorem d9_10 : decode jdk_42_method_154_code 10 = .ok (.ifCond .ne 7, 3) := by decide +kernel
theorem d9_13 : decode jdk_42_method_154_code 13 = .ok (.iconst 1, 1) := by decide +kernel
theorem d9_14 : decode jdk_42_method_154_code 14 = .ok (.goto 4, 3) := by decide +kernel
theorem d9_17 : decode jdk_42_method_154_code 17 = .ok (.iconst 0, 1) := by decide +kernel
theorem d9_18 : decode jdk_42_method_154_code 18 = .ok (.ireturn, 1) := by decide +kernel
theorem d10_0 : decode jdk_42_method_54_code 0 = .ok (.aload_n 0, 1) := by decide +kernel
theorem d10_1 : decode jdk_42_method_54_code 1 = .ok (.getfield 9, 3) := by decide +kernel
theorem d10_4 : decode jdk_42_method_54_code 4 = .ok (.arraylength, 1) := by decide +kernel
theorem d10_5 : decode jdk_42_method_54_code 5 = .ok (.aload_n 0, 1) := by decide +kernel
theorem d10_6 : decode jdk_42_method_54_code 6 = .ok (.invokevirtual 335, 3) := by decide +kernel
theorem d10_9 : decode jdk_42_method_54_code 9 = .ok (.ishr, 1) := by decide +kernel
theorem d10_10 : decode jdk_42_method_54_code 10 = .ok (.ireturn, 1) := by decide +kernel
theorem d11_0 : decode jdk_42_method_152_code 0 = .ok (.getstatic 38, 3) := by decide +kernel
theorem d11_3 : decode jdk_42_method_152_code 3 = .ok (.ifCond .eq 10, 3) := by decide +kernel
theorem d11_6 : decode jdk_42_method_152_code 6 = .ok (.aload_n 0, 1) := by decide +kernel
theorem d11_7 : decode jdk_42_method_152_code 7 = .ok (.getfield 15, 3) := by decide +kernel
theorem d11_10 : decode jdk_42_method_152_code 10 = .ok (.goto 4, 3) := by decide +kernel
theorem d11_14 : decode jdk_42_method_152_code 14 = .ok (.ireturn, 1) := by decide +kernel
theorem d12_0 : decode jdk_43_method_22_code 0 = .ok (.iload_n 1, 1) := by decide +kernel
theorem d12_1 : decode jdk_43_method_22_code 1 = .ok (.invokestatic 88, 3) := by decide +kernel
theorem d12_4 : decode jdk_43_method_22_code 4 = .ok (.ifCond .ne 5, 3) := by decide +kernel
theorem d12_9 : decode jdk_43_method_22_code 9 = .ok (.iload_n 2, 1) := by decide +kernel
theorem d12_10 : decode jdk_43_method_22_code 10 = .ok (.iconst 0, 1) := by decide +kernel
theorem d12_11 : decode jdk_43_method_22_code 11 = .ok (.invokestatic 92, 3) := by decide +kernel
theorem d12_14 : decode jdk_43_method_22_code 14 = .ok (.istore_n 2, 1) := by decide +kernel
theorem d12_15 : decode jdk_43_method_22_code 15 = .ok (.iload_n 3, 1) := by decide +kernel
theorem d12_16 : decode jdk_43_method_22_code 16 = .ok (.aload_n 0, 1) := by decide +kernel
theorem d12_17 : decode jdk_43_method_22_code 17 = .ok (.arraylength, 1) := by decide +kernel
theorem d12_18 : decode jdk_43_method_22_code 18 = .ok (.invokestatic 38, 3) := by decide +kernel
theorem d12_21 : decode jdk_43_method_22_code 21 = .ok (.istore_n 3, 1) := by decide +kernel
theorem d12_22 : decode jdk_43_method_22_code 22 = .ok (.iload_n 2, 1) := by decide +kernel
theorem d12_23 : decode jdk_43_method_22_code 23 = .ok (.iload_n 3, 1) := by decide +kernel
theorem d12_24 : decode jdk_43_method_22_code 24 = .ok (.if_icmp .lt 5, 3) := by decide +kernel
theorem d12_27 : decode jdk_43_method_22_code 27 = .ok (.iconst (-1), 1) := by decide +kernel
theorem d12_28 : decode jdk_43_method_22_code 28 = .ok (.ireturn, 1) := by decide +kernel
theorem d12_29 : decode jdk_43_method_22_code 29 = .ok (.aload_n 0, 1) := by decide +kernel
theorem d12_30 : decode jdk_43_method_22_code 30 = .ok (.iload_n 1, 1) := by decide +kernel
theorem d12_31 : decode jdk_43_method_22_code 31 = .ok (.iload_n 2, 1) := by decide +kernel
theorem d12_32 : decode jdk_43_method_22_code 32 = .ok (.iload_n 3, 1) := by decide +kernel
theorem d12_33 : decode jdk_43_method_22_code 33 = .ok (.invokestatic 95, 3) := by decide +kernel
theorem d12_36 : decode jdk_43_method_22_code 36 = .ok (.ireturn, 1) := by decide +kernel
theorem d13_0 : decode jdk_43_method_4_code 0 = .ok (.iload_n 0, 1) := by decide +kernel
theorem d13_1 : decode jdk_43_method_4_code 1 = .ok (.ifCond .lt 14, 3) := by decide +kernel
theorem d13_4 : decode jdk_43_method_4_code 4 = .ok (.iload_n 0, 1) := by decide +kernel
theorem d13_5 : decode jdk_43_method_4_code 5 = .ok (.sipush 255, 3) := by decide +kernel
theorem d13_8 : decode jdk_43_method_4_code 8 = .ok (.if_icmp .gt 7, 3) := by decide +kernel
theorem d13_11 : decode jdk_43_method_4_code 11 = .ok (.iconst 1, 1) := by decide +kernel
theorem d13_12 : decode jdk_43_method_4_code 12 = .ok (.goto 4, 3) := by decide +kernel
theorem d13_16 : decode jdk_43_method_4_code 16 = .ok (.ireturn, 1) := by decide +kernel
theorem d14_0 : decode jdk_29_method_65_code 0 = .ok (.iload_n 0, 1) := by decide +kernel
theorem d14_1 : decode jdk_29_method_65_code 1 = .ok (.iload_n 1, 1) := by decide +kernel
theorem d14_2 : decode jdk_29_method_65_code 2 = .ok (.if_icmp .lt 7, 3) := by decide +kernel
theorem d14_5 : decode jdk_29_method_65_code 5 = .ok (.iload_n 0, 1) := by decide +kernel
theorem d14_6 : decode jdk_29_method_65_code 6 = .ok (.goto 4, 3) := by decide +kernel
theorem d14_10 : decode jdk_29_method_65_code 10 = .ok (.ireturn, 1) := by decide +kernel
theorem d15_0 : decode jdk_52_method_16_code 0 = .ok (.iload_n 2, 1) := by decide +kernel
theorem d15_1 : decode jdk_52_method_16_code 1 = .ok (.newarray .byte, 2) := by decide +kernel
theorem d15_3 : decode jdk_52_method_16_code 3 = .ok (.astore_n 3, 1) := by decide +kernel
theorem d15_4 : decode jdk_52_method_16_code 4 = .ok (.aload_n 0, 1) := by decide +kernel
theorem d15_5 : decode jdk_52_method_16_code 5 = .ok (.iload_n 1, 1) := by decide +kernel
theorem d15_6 : decode jdk_52_method_16_code 6 = .ok (.aload_n 3, 1) := by decide +kernel
theorem d15_7 : decode jdk_52_method_16_code 7 = .ok (.iconst 0, 1) := by decide +kernel
theorem d15_8 : decode jdk_52_method_16_code 8 = .ok (.iload_n 2, 1) := by decide +kernel
theorem d15_9 : decode jdk_52_method_16_code 9 = .ok (.invokestatic 115, 3) := by decide +kernel
theorem d15_12 : decode jdk_52_method_16_code 12 = .ok (.istore 4, 2) := by decide +kernel
theorem d15_14 : decode jdk_52_method_16_code 14 = .ok (.iload 4, 2) := by decide +kernel
theorem d15_16 : decode jdk_52_method_16_code 16 = .ok (.iload_n 2, 1) := by decide +kernel
theorem d15_17 : decode jdk_52_method_16_code 17 = .ok (.if_icmp .eq 40, 3) := by decide +kernel
theorem d15_20 : decode jdk_52_method_16_code 20 = .ok (.aload_n 0, 1) := by decide +kernel
theorem d15_21 : decode jdk_52_method_16_code 21 = .ok (.iload_n 1, 1) := by decide +kernel
theorem d15_22 : decode jdk_52_method_16_code 22 = .ok (.iload_n 2, 1) := by decide +kernel
theorem d15_23 : decode jdk_52_method_16_code 23 = .ok (.invokestatic 119, 3) := by decide +kernel
theorem d15_26 : decode jdk_52_method_16_code 26 = .ok (.astore 5, 2) := by decide +kernel
theorem d15_28 : decode jdk_52_method_16_code 28 = .ok (.aload 5, 2) := by decide +kernel
theorem d15_30 : decode jdk_52_method_16_code 30 = .ok (.iload 4, 2) := by decide +kernel
theorem d15_32 : decode jdk_52_method_16_code 32 = .ok (.invokestatic 71, 3) := by decide +kernel
theorem d15_35 : decode jdk_52_method_16_code 35 = .ok (.sipush 255, 3) := by decide +kernel
theorem d15_38 : decode jdk_52_method_16_code 38 = .ok (.if_icmp .gt 16, 3) := by decide +kernel
theorem d15_54 : decode jdk_52_method_16_code 54 = .ok (.aload 5, 2) := by decide +kernel
theorem d15_56 : decode jdk_52_method_16_code 56 = .ok (.areturn, 1) := by decide +kernel
theorem d16_0 : decode jdk_52_method_21_code 0 = .ok (.iconst 0, 1) := by decide +kernel
theorem d16_1 : decode jdk_52_method_21_code 1 = .ok (.istore 5, 2) := by decide +kernel
theorem d16_3 : decode jdk_52_method_21_code 3 = .ok (.iload 5, 2) := by decide +kernel
theorem d16_5 : decode jdk_52_method_21_code 5 = .ok (.iload 4, 2) := by decide +kernel
theorem d16_7 : decode jdk_52_method_21_code 7 = .ok (.if_icmp .ge 37, 3) := by decide +kernel
theorem d16_10 : decode jdk_52_method_21_code 10 = .ok (.aload_n 0, 1) := by decide +kernel
theorem d16_11 : decode jdk_52_method_21_code 11 = .ok (.iload_n 1, 1) := by decide +kernel
theorem d16_12 : decode jdk_52_method_21_code 12 = .ok (.caload, 1) := by decide +kernel
theorem d16_13 : decode jdk_52_method_21_code 13 = .ok (.istore 6, 2) := by decide +kernel
theorem d16_15 : decode jdk_52_method_21_code 15 = .ok (.iload 6, 2) := by decide +kernel
theorem d16_17 : decode jdk_52_method_21_code 17 = .ok (.sipush 255, 3) := by decide +kernel
theorem d16_20 : decode jdk_52_method_21_code 20 = .ok (.if_icmp .le 6, 3) := by decide +kernel
theorem d16_23 : decode jdk_52_method_21_code 23 = .ok (.iload 5, 2) := by decide +kernel
theorem d16_25 : decode jdk_52_method_21_code 25 = .ok (.ireturn, 1) := by decide +kernel
theorem d16_26 : decode jdk_52_method_21_code 26 = .ok (.aload_n 2, 1) := by decide +kernel
theorem d16_27 : decode jdk_52_method_21_code 27 = .ok (.iload_n 3, 1) := by decide +kernel
theorem d16_28 : decode jdk_52_method_21_code 28 = .ok (.iload 6, 2) := by decide +kernel
theorem d16_30 : decode jdk_52_method_21_code 30 = .ok (.i2b, 1) := by decide +kernel
theorem d16_31 : decode jdk_52_method_21_code 31 = .ok (.bastore, 1) := by decide +kernel
theorem d16_32 : decode jdk_52_method_21_code 32 = .ok (.iinc 1 1, 3) := by decide +kernel
theorem d16_35 : decode jdk_52_method_21_code 35 = .ok (.iinc 3 1, 3) := by decide +kernel
theorem d16_38 : decode jdk_52_method_21_code 38 = .ok (.iinc 5 1, 3) := by decide +kernel
theorem d16_41 : decode jdk_52_method_21_code 41 = .ok (.goto (-38), 3) := by decide +kernel
theorem d16_44 : decode jdk_52_method_21_code 44 = .ok (.iload 4, 2) := by decide +kernel
theorem d16_46 : decode jdk_52_method_21_code 46 = .ok (.ireturn, 1) := by decide +kernel
theorem d17_0 : decode jdk_52_method_15_code 0 = .ok (.iload_n 1, 1) := by decide +kernel
theorem d17_1 : decode jdk_52_method_15_code 1 = .ok (.aload_n 0, 1) := by decide +kernel
theorem d17_2 : decode jdk_52_method_15_code 2 = .ok (.arraylength, 1) := by decide +kernel
theorem d17_3 : decode jdk_52_method_15_code 3 = .ok (.isub, 1) := by decide +kernel
theorem d17_4 : decode jdk_52_method_15_code 4 = .ok (.bipush 31, 2) := by decide +kernel
theorem d17_6 : decode jdk_52_method_15_code 6 = .ok (.iushr, 1) := by decide +kernel
theorem d17_7 : decode jdk_52_method_15_code 7 = .ok (.i2b, 1) := by decide +kernel
theorem d17_8 : decode jdk_52_method_15_code 8 = .ok (.ireturn, 1) := by decide +kernel
theorem d18_0 : decode method_4_code 0 = .ok (.iload_n 0, 1) := by decide +kernel
theorem d18_1 : decode method_4_code 1 = .ok (.bipush 44, 2) := by decide +kernel
theorem d18_3 : decode method_4_code 3 = .ok (.if_icmp .eq 15, 3) := by decide +kernel
theorem d18_6 : decode method_4_code 6 = .ok (.iload_n 0, 1) := by decide +kernel
theorem d18_7 : decode method_4_code 7 = .ok (.bipush 10, 2) := by decide +kernel
theorem d18_9 : decode method_4_code 9 = .ok (.if_icmp .eq 9, 3) := by decide +kernel
theorem d18_12 : decode method_4_code 12 = .ok (.iload_n 0, 1) := by decide +kernel
theorem d18_13 : decode method_4_code 13 = .ok (.bipush 13, 2) := by decide +kernel
theorem d18_15 : decode method_4_code 15 = .ok (.if_icmp .ne 7, 3) := by decide +kernel
theorem d18_18 : decode method_4_code 18 = .ok (.iconst 1, 1) := by decide +kernel
theorem d18_19 : decode method_4_code 19 = .ok (.goto 4, 3) := by decide +kernel
theorem d18_22 : decode method_4_code 22 = .ok (.iconst 0, 1) := by decide +kernel
theorem d18_23 : decode method_4_code 23 = .ok (.ireturn, 1) := by decide +kernel
theorem d19_0 : decode jdk_43_method_23_code 0 = .ok (.iload_n 1, 1) := by decide +kernel
theorem d19_1 : decode jdk_43_method_23_code 1 = .ok (.i2b, 1) := by decide +kernel
theorem d19_2 : decode jdk_43_method_23_code 2 = .ok (.istore 4, 2) := by decide +kernel
theorem d19_4 : decode jdk_43_method_23_code 4 = .ok (.iload_n 2, 1) := by decide +kernel
theorem d19_5 : decode jdk_43_method_23_code 5 = .ok (.istore 5, 2) := by decide +kernel
theorem d19_7 : decode jdk_43_method_23_code 7 = .ok (.iload 5, 2) := by decide +kernel
theorem d19_9 : decode jdk_43_method_23_code 9 = .ok (.iload_n 3, 1) := by decide +kernel
theorem d19_10 : decode jdk_43_method_23_code 10 = .ok (.if_icmp .ge 21, 3) := by decide +kernel
theorem d19_13 : decode jdk_43_method_23_code 13 = .ok (.aload_n 0, 1) := by decide +kernel
theorem d19_14 : decode jdk_43_method_23_code 14 = .ok (.iload 5, 2) := by decide +kernel
theorem d19_16 : decode jdk_43_method_23_code 16 = .ok (.baload, 1) := by decide +kernel
theorem d19_17 : decode jdk_43_method_23_code 17 = .ok (.iload 4, 2) := by decide +kernel
theorem d19_19 : decode jdk_43_method_23_code 19 = .ok (.if_icmp .ne 6, 3) := by decide +kernel
theorem d19_22 : decode jdk_43_method_23_code 22 = .ok (.iload 5, 2) := by decide +kernel
theorem d19_24 : decode jdk_43_method_23_code 24 = .ok (.ireturn, 1) := by decide +kernel
theorem d19_25 : decode jdk_43_method_23_code 25 = .ok (.iinc 5 1, 3) := by decide +kernel
theorem d19_28 : decode jdk_43_method_23_code 28 = .ok (.goto (-21), 3) := by decide +kernel
theorem d19_31 : decode jdk_43_method_23_code 31 = .ok (.iconst (-1), 1) := by decide +kernel
theorem d19_32 : decode jdk_43_method_23_code 32 = .ok (.ireturn, 1) := by decide +kernel
theorem d20_0 : decode jdk_52_method_14_code 0 = .ok (.iload_n 2, 1) := by decide +kernel
theorem d20_1 : decode jdk_52_method_14_code 1 = .ok (.invokestatic 107, 3) := by decide +kernel
theorem d20_4 : decode jdk_52_method_14_code 4 = .ok (.astore_n 3, 1) := by decide +kernel
theorem d20_5 : decode jdk_52_method_14_code 5 = .ok (.iconst 0, 1) := by decide +kernel
theorem d20_6 : decode jdk_52_method_14_code 6 = .ok (.istore 4, 2) := by decide +kernel
theorem d20_8 : decode jdk_52_method_14_code 8 = .ok (.iload 4, 2) := by decide +kernel
theorem d20_10 : decode jdk_52_method_14_code 10 = .ok (.iload_n 2, 1) := by decide +kernel
theorem d20_11 : decode jdk_52_method_14_code 11 = .ok (.if_icmp .ge 21, 3) := by decide +kernel
theorem d20_14 : decode jdk_52_method_14_code 14 = .ok (.aload_n 3, 1) := by decide +kernel
theorem d20_15 : decode jdk_52_method_14_code 15 = .ok (.iload 4, 2) := by decide +kernel
theorem d20_17 : decode jdk_52_method_14_code 17 = .ok (.aload_n 0, 1) := by decide +kernel
theorem d20_18 : decode jdk_52_method_14_code 18 = .ok (.iload_n 1, 1) := by decide +kernel
theorem d20_19 : decode jdk_52_method_14_code 19 = .ok (.caload, 1) := by decide +kernel
theorem d20_20 : decode jdk_52_method_14_code 20 = .ok (.invokestatic 111, 3) := by decide +kernel
theorem d20_23 : decode jdk_52_method_14_code 23 = .ok (.iinc 1 1, 3) := by decide +kernel
theorem d20_26 : decode jdk_52_method_14_code 26 = .ok (.iinc 4 1, 3) := by decide +kernel
theorem d20_29 : decode jdk_52_method_14_code 29 = .ok (.goto (-21), 3) := by decide +kernel
theorem d20_32 : decode jdk_52_method_14_code 32 = .ok (.aload_n 3, 1) := by decide +kernel
theorem d20_33 : decode jdk_52_method_14_code 33 = .ok (.areturn, 1) := by decide +kernel
theorem d21_0 : decode jdk_52_method_2_code 0 = .ok (.iload_n 0, 1) := by decide +kernel
theorem d21_1 : decode jdk_52_method_2_code 1 = .ok (.invokestatic 11, 3) := by decide +kernel
theorem d21_4 : decode jdk_52_method_2_code 4 = .ok (.newarray .byte, 2) := by decide +kernel
theorem d21_6 : decode jdk_52_method_2_code 6 = .ok (.areturn, 1) := by decide +kernel
theorem d22_0 : decode jdk_52_method_3_code 0 = .ok (.iload_n 0, 1) := by decide +kernel
theorem d22_1 : decode jdk_52_method_3_code 1 = .ok (.ifCond .ge 11, 3) := by decide +kernel
theorem d22_12 : decode jdk_52_method_3_code 12 = .ok (.iload_n 0, 1) := by decide +kernel
theorem d22_13 : decode jdk_52_method_3_code 13 = .ok (.ldc 20, 2) := by decide +kernel
theorem d22_15 : decode jdk_52_method_3_code 15 = .ok (.if_icmp .lt 40, 3) := by decide +kernel
theorem d22_55 : decode jdk_52_method_3_code 55 = .ok (.iload_n 0, 1) := by decide +kernel
theorem d22_56 : decode jdk_52_method_3_code 56 = .ok (.iconst 1, 1) := by decide +kernel
theorem d22_57 : decode jdk_52_method_3_code 57 = .ok (.ishl, 1) := by decide +kernel
theorem d22_58 : decode jdk_52_method_3_code 58 = .ok (.ireturn, 1) := by decide +kernel
theorem d23_0 : decode jdk_52_method_4_code 0 = .ok (.getstatic 44, 3) := by decide +kernel
theorem d23_3 : decode jdk_52_method_4_code 3 = .ok (.ifCond .ne 25, 3) := by decide +kernel
theorem d23_28 : decode jdk_52_method_4_code 28 = .ok (.iload_n 1, 1) := by decide +kernel
theorem d23_29 : decode jdk_52_method_4_code 29 = .ok (.iconst 1, 1) := by decide +kernel
theorem d23_30 : decode jdk_52_method_4_code 30 = .ok (.ishl, 1) := by decide +kernel
theorem d23_31 : decode jdk_52_method_4_code 31 = .ok (.istore_n 1, 1) := by decide +kernel
theorem d23_32 : decode jdk_52_method_4_code 32 = .ok (.aload_n 0, 1) := by decide +kernel
theorem d23_33 : decode jdk_52_method_4_code 33 = .ok (.iload_n 1, 1) := by decide +kernel
theorem d23_34 : decode jdk_52_method_4_code 34 = .ok (.iinc 1 1, 3) := by decide +kernel
theorem d23_37 : decode jdk_52_method_4_code 37 = .ok (.iload_n 2, 1) := by decide +kernel
theorem d23_38 : decode jdk_52_method_4_code 38 = .ok (.getstatic 59, 3) := by decide +kernel
theorem d23_41 : decode jdk_52_method_4_code 41 = .ok (.ishr, 1) := by decide +kernel
theorem d23_42 : decode jdk_52_method_4_code 42 = .ok (.i2b, 1) := by decide +kernel
theorem d23_43 : decode jdk_52_method_4_code 43 = .ok (.bastore, 1) := by decide +kernel
theorem d23_44 : decode jdk_52_method_4_code 44 = .ok (.aload_n 0, 1) := by decide +kernel
theorem d23_45 : decode jdk_52_method_4_code 45 = .ok (.iload_n 1, 1) := by decide +kernel
theorem d23_46 : decode jdk_52_method_4_code 46 = .ok (.iload_n 2, 1) := by decide +kernel
theorem d23_47 : decode jdk_52_method_4_code 47 = .ok (.getstatic 63, 3) := by decide +kernel
theorem d23_50 : decode jdk_52_method_4_code 50 = .ok (.ishr, 1) := by decide +kernel
theorem d23_51 : decode jdk_52_method_4_code 51 = .ok (.i2b, 1) := by decide +kernel
theorem d23_52 : decode jdk_52_method_4_code 52 = .ok (.bastore, 1) := by decide +kernel
theorem d23_53 : decode jdk_52_method_4_code 53 = .ok (.return_, 1) := by decide +kernel
theorem d24_0 : decode jdk_52_method_5_code 0 = .ok (.getstatic 44, 3) := by decide +kernel
theorem d24_3 : decode jdk_52_method_5_code 3 = .ok (.ifCond .ne 25, 3) := by decide +kernel
theorem d24_28 : decode jdk_52_method_5_code 28 = .ok (.iload_n 1, 1) := by decide +kernel
theorem d24_29 : decode jdk_52_method_5_code 29 = .ok (.iconst 1, 1) := by decide +kernel
theorem d24_30 : decode jdk_52_method_5_code 30 = .ok (.ishl, 1) := by decide +kernel
theorem d24_31 : decode jdk_52_method_5_code 31 = .ok (.istore_n 1, 1) := by decide +kernel
theorem d24_32 : decode jdk_52_method_5_code 32 = .ok (.aload_n 0, 1) := by decide +kernel
theorem d24_33 : decode jdk_52_method_5_code 33 = .ok (.iload_n 1, 1) := by decide +kernel
theorem d24_34 : decode jdk_52_method_5_code 34 = .ok (.iinc 1 1, 3) := by decide +kernel
theorem d24_37 : decode jdk_52_method_5_code 37 = .ok (.baload, 1) := by decide +kernel
theorem d24_38 : decode jdk_52_method_5_code 38 = .ok (.sipush 255, 3) := by decide +kernel
theorem d24_41 : decode jdk_52_method_5_code 41 = .ok (.iand, 1) := by decide +kernel
theorem d24_42 : decode jdk_52_method_5_code 42 = .ok (.getstatic 59, 3) := by decide +kernel
theorem d24_45 : decode jdk_52_method_5_code 45 = .ok (.ishl, 1) := by decide +kernel
theorem d24_46 : decode jdk_52_method_5_code 46 = .ok (.aload_n 0, 1) := by decide +kernel
theorem d24_47 : decode jdk_52_method_5_code 47 = .ok (.iload_n 1, 1) := by decide +kernel
theorem d24_48 : decode jdk_52_method_5_code 48 = .ok (.baload, 1) := by decide +kernel
theorem d24_49 : decode jdk_52_method_5_code 49 = .ok (.sipush 255, 3) := by decide +kernel
theorem d24_52 : decode jdk_52_method_5_code 52 = .ok (.iand, 1) := by decide +kernel
theorem d24_53 : decode jdk_52_method_5_code 53 = .ok (.getstatic 63, 3) := by decide +kernel
theorem d24_56 : decode jdk_52_method_5_code 56 = .ok (.ishl, 1) := by decide +kernel
theorem d24_57 : decode jdk_52_method_5_code 57 = .ok (.ior, 1) := by decide +kernel
theorem d24_58 : decode jdk_52_method_5_code 58 = .ok (.i2c, 1) := by decide +kernel
theorem d24_59 : decode jdk_52_method_5_code 59 = .ok (.ireturn, 1) := by decide +kernel
theorem d25_0 : decode jdk_52_method_40_code 0 = .ok (.iload_n 2, 1) := by decide +kernel
theorem d25_1 : decode jdk_52_method_40_code 1 = .ok (.iconst 0, 1) := by decide +kernel
theorem d25_2 : decode jdk_52_method_40_code 2 = .ok (.invokestatic 224, 3) := by decide +kernel
theorem d25_5 : decode jdk_52_method_40_code 5 = .ok (.istore_n 2, 1) := by decide +kernel
theorem d25_6 : decode jdk_52_method_40_code 6 = .ok (.iload_n 3, 1) := by decide +kernel
theorem d25_7 : decode jdk_52_method_40_code 7 = .ok (.aload_n 0, 1) := by decide +kernel
theorem d25_8 : decode jdk_52_method_40_code 8 = .ok (.arraylength, 1) := by decide +kernel
theorem d25_9 : decode jdk_52_method_40_code 9 = .ok (.iconst 1, 1) := by decide +kernel
theorem d25_10 : decode jdk_52_method_40_code 10 = .ok (.ishr, 1) := by decide +kernel
theorem d25_11 : decode jdk_52_method_40_code 11 = .ok (.invokestatic 183, 3) := by decide +kernel
theorem d25_14 : decode jdk_52_method_40_code 14 = .ok (.istore_n 3, 1) := by decide +kernel
theorem d25_15 : decode jdk_52_method_40_code 15 = .ok (.iload_n 2, 1) := by decide +kernel
theorem d25_16 : decode jdk_52_method_40_code 16 = .ok (.iload_n 3, 1) := by decide +kernel
theorem d25_17 : decode jdk_52_method_40_code 17 = .ok (.if_icmp .lt 5, 3) := by decide +kernel
theorem d25_22 : decode jdk_52_method_40_code 22 = .ok (.iload_n 1, 1) := by decide +kernel
theorem d25_23 : decode jdk_52_method_40_code 23 = .ok (.ldc 227, 2) := by decide +kernel
theorem d25_25 : decode jdk_52_method_40_code 25 = .ok (.if_icmp .ge 11, 3) := by decide +kernel
theorem d25_28 : decode jdk_52_method_40_code 28 = .ok (.aload_n 0, 1) := by decide +kernel
theorem d25_29 : decode jdk_52_method_40_code 29 = .ok (.iload_n 1, 1) := by decide +kernel
theorem d25_30 : decode jdk_52_method_40_code 30 = .ok (.iload_n 2, 1) := by decide +kernel
theorem d25_31 : decode jdk_52_method_40_code 31 = .ok (.iload_n 3, 1) := by decide +kernel
theorem d25_32 : decode jdk_52_method_40_code 32 = .ok (.invokestatic 228, 3) := by decide +kernel
theorem d25_35 : decode jdk_52_method_40_code 35 = .ok (.ireturn, 1) := by decide +kernel
theorem d26_0 : decode jdk_52_method_47_code 0 = .ok (.iload_n 2, 1) := by decide +kernel
theorem d26_1 : decode jdk_52_method_47_code 1 = .ok (.iload_n 3, 1) := by decide +kernel
theorem d26_2 : decode jdk_52_method_47_code 2 = .ok (.aload_n 0, 1) := by decide +kernel
theorem d26_3 : decode jdk_52_method_47_code 3 = .ok (.invokestatic 96, 3) := by decide +kernel
theorem d26_6 : decode jdk_52_method_47_code 6 = .ok (.aload_n 0, 1) := by decide +kernel
theorem d26_7 : decode jdk_52_method_47_code 7 = .ok (.iload_n 1, 1) := by decide +kernel
theorem d26_8 : decode jdk_52_method_47_code 8 = .ok (.iload_n 2, 1) := by decide +kernel
theorem d26_9 : decode jdk_52_method_47_code 9 = .ok (.iload_n 3, 1) := by decide +kernel
theorem d26_10 : decode jdk_52_method_47_code 10 = .ok (.invokestatic 244, 3) := by decide +kernel
theorem d26_13 : decode jdk_52_method_47_code 13 = .ok (.ireturn, 1) := by decide +kernel
theorem d27_0 : decode jdk_52_method_93_code 0 = .ok (.iload_n 0, 1) := by decide +kernel
theorem d27_1 : decode jdk_52_method_93_code 1 = .ok (.iload_n 1, 1) := by decide +kernel
theorem d27_2 : decode jdk_52_method_93_code 2 = .ok (.aload_n 2, 1) := by decide +kernel
theorem d27_3 : decode jdk_52_method_93_code 3 = .ok (.invokestatic 48, 3) := by decide +kernel
theorem d27_6 : decode jdk_52_method_93_code 6 = .ok (.invokestatic 241, 3) := by decide +kernel
theorem d27_9 : decode jdk_52_method_93_code 9 = .ok (.return_, 1) := by decide +kernel
theorem d28_0 : decode jdk_52_method_6_code 0 = .ok (.aload_n 0, 1) := by decide +kernel
theorem d28_1 : decode jdk_52_method_6_code 1 = .ok (.arraylength, 1) := by decide +kernel
theorem d28_2 : decode jdk_52_method_6_code 2 = .ok (.iconst 1, 1) := by decide +kernel
theorem d28_3 : decode jdk_52_method_6_code 3 = .ok (.ishr, 1) := by decide +kernel
theorem d28_4 : decode jdk_52_method_6_code 4 = .ok (.ireturn, 1) := by decide +kernel
theorem d29_0 : decode jdk_42_method_158_code 0 = .ok (.iload_n 0, 1) := by decide +kernel
theorem d29_1 : decode jdk_42_method_158_code 1 = .ok (.iload_n 1, 1) := by decide +kernel
theorem d29_2 : decode jdk_42_method_158_code 2 = .ok (.iload_n 2, 1) := by decide +kernel
theorem d29_3 : decode jdk_42_method_158_code 3 = .ok (.getstatic 1053, 3) := by decide +kernel
theorem d29_6 : decode jdk_42_method_158_code 6 = .ok (.invokestatic 1062, 3) := by decide +kernel
theorem d29_9 : decode jdk_42_method_158_code 9 = .ok (.pop, 1) := by decide +kernel
theorem d29_10 : decode jdk_42_method_158_code 10 = .ok (.return_, 1) := by decide +kernel
theorem d30_0 : decode jdk_41_method_12_code 0 = .ok (.iload_n 0, 1) := by decide +kernel
theorem d30_1 : decode jdk_41_method_12_code 1 = .ok (.ifCond .lt 13, 3) := by decide +kernel
theorem d30_4 : decode jdk_41_method_12_code 4 = .ok (.iload_n 0, 1) := by decide +kernel
theorem d30_5 : decode jdk_41_method_12_code 5 = .ok (.iload_n 1, 1) := by decide +kernel
theorem d30_6 : decode jdk_41_method_12_code 6 = .ok (.if_icmp .gt 8, 3) := by decide +kernel
theorem d30_9 : decode jdk_41_method_12_code 9 = .ok (.iload_n 1, 1) := by decide +kernel
theorem d30_10 : decode jdk_41_method_12_code 10 = .ok (.iload_n 2, 1) := by decide +kernel
theorem d30_11 : decode jdk_41_method_12_code 11 = .ok (.if_icmp .le 11, 3) := by decide +kernel
theorem d30_22 : decode jdk_41_method_12_code 22 = .ok (.iload_n 0, 1) := by decide +kernel
theorem d30_23 : decode jdk_41_method_12_code 23 = .ok (.ireturn, 1) := by decide +kernel
theorem d31_0 : decode jdk_52_method_48_code 0 = .ok (.iload_n 2, 1) := by decide +kernel
theorem d31_1 : decode jdk_52_method_48_code 1 = .ok (.istore 4, 2) := by decide +kernel
theorem d31_3 : decode jdk_52_method_48_code 3 = .ok (.iload 4, 2) := by decide +kernel
theorem d31_5 : decode jdk_52_method_48_code 5 = .ok (.iload_n 3, 1) := by decide +kernel
theorem d31_6 : decode jdk_52_method_48_code 6 = .ok (.if_icmp .ge 22, 3) := by decide +kernel
theorem d31_9 : decode jdk_52_method_48_code 9 = .ok (.aload_n 0, 1) := by decide +kernel
theorem d31_10 : decode jdk_52_method_48_code 10 = .ok (.iload 4, 2) := by decide +kernel
theorem d31_12 : decode jdk_52_method_48_code 12 = .ok (.invokestatic 71, 3) := by decide +kernel
theorem d31_15 : decode jdk_52_method_48_code 15 = .ok (.iload_n 1, 1) := by decide +kernel
theorem d31_16 : decode jdk_52_method_48_code 16 = .ok (.if_icmp .ne 6, 3) := by decide +kernel
theorem d31_19 : decode jdk_52_method_48_code 19 = .ok (.iload 4, 2) := by decide +kernel
theorem d31_21 : decode jdk_52_method_48_code 21 = .ok (.ireturn, 1) := by decide +kernel
theorem d31_22 : decode jdk_52_method_48_code 22 = .ok (.iinc 4 1, 3) := by decide +kernel
theorem d31_25 : decode jdk_52_method_48_code 25 = .ok (.goto (-22), 3) := by decide +kernel
theorem d31_28 : decode jdk_52_method_48_code 28 = .ok (.iconst (-1), 1) := by decide +kernel
theorem d31_29 : decode jdk_52_method_48_code 29 = .ok (.ireturn, 1) := by decide +kernel
theorem pd_0 : parseMethodDescriptor "(I)Z" = some ⟨[.int], some .boolean⟩ := by decide +kernel
theorem pd_1 : parseMethodDescriptor "(II)I" = some ⟨[.int, .int], some .int⟩ := by decide +kernel
theorem pd_2 : parseMethodDescriptor "()Z" = some ⟨[], some .boolean⟩ := by decide +kernel
theorem pd_3 : parseMethodDescriptor "()I" = some ⟨[], some .int⟩ := by decide +kernel
theorem pd_4 : parseMethodDescriptor "([BIII)I" = some ⟨[(.array .byte), .int, .int, .int], some .int⟩ := by decide +kernel
theorem pd_5 : parseMethodDescriptor "(I)I" = some ⟨[.int], some .int⟩ := by decide +kernel
theorem pd_6 : parseMethodDescriptor "(I)[B" = some ⟨[.int], some (.array .byte)⟩ := by decide +kernel
theorem pd_7 : parseMethodDescriptor "([BII)V" = some ⟨[(.array .byte), .int, .int], none⟩ := by decide +kernel
theorem pd_8 : parseMethodDescriptor "([CI[BII)I" = some ⟨[(.array .char), .int, (.array .byte), .int, .int], some .int⟩ := by decide +kernel
theorem pd_9 : parseMethodDescriptor "([CII)[B" = some ⟨[(.array .char), .int, .int], some (.array .byte)⟩ := by decide +kernel
theorem pd_10 : parseMethodDescriptor "([BI)C" = some ⟨[(.array .byte), .int], some .char⟩ := by decide +kernel
theorem pd_11 : parseMethodDescriptor "([BI)B" = some ⟨[(.array .byte), .int], some .byte⟩ := by decide +kernel
theorem pd_12 : parseMethodDescriptor "([CIILjava/lang/Void;)V" = some ⟨[(.array .char), .int, .int, (.object "java/lang/Void")], none⟩ := by decide +kernel
theorem pd_13 : parseMethodDescriptor "([B)I" = some ⟨[(.array .byte)], some .int⟩ := by decide +kernel
theorem pd_14 : parseMethodDescriptor "(IIILjava/util/function/BiFunction;)I" = some ⟨[.int, .int, .int, (.object "java/util/function/BiFunction")], some .int⟩ := by decide +kernel
theorem pd_15 : parseMethodDescriptor "(III)V" = some ⟨[.int, .int, .int], none⟩ := by decide +kernel
theorem pd_16 : parseMethodDescriptor "(II[B)V" = some ⟨[.int, .int, (.array .byte)], none⟩ := by decide +kernel
theorem pd_17 : parseMethodDescriptor "()B" = some ⟨[], some .byte⟩ := by decide +kernel
theorem pd_18 : parseMethodDescriptor "(I)C" = some ⟨[.int], some .char⟩ := by decide +kernel
theorem pd_19 : parseMethodDescriptor "([C)V" = some ⟨[(.array .char)], none⟩ := by decide +kernel
theorem pd_20 : parseMethodDescriptor "(Ljava/lang/String;)Z" = some ⟨[(.object "java/lang/String")], some .boolean⟩ := by decide +kernel
theorem pd_21 : parseMethodDescriptor "(C)Z" = some ⟨[.char], some .boolean⟩ := by decide +kernel
theorem rmDraw (l : Launch) (Z : State) (a0 : Array Value) (hw : own_W Z a0) (p0 : Int32) (h0 : Heap) (O0 : Old Z Z.heap.size h0)  :
    own_NC l Z (⟨"com/example/caseward/caseward/core/RightFitsFieldPinLaw", "draw", "(I)C"⟩ : MethodName) method_3_code 2 (some .char) ({ frames := 0, cells := 0, slots := 0, locals := 0 } : Room) #[(.int p0)] h0 (fun v h => ∃ k : Int32, own_C k ∧ v = some (.int k) ∧ h = h0) := by
  refine own_nc (plainFor_of_name pnl0) ?_
  intro p e s m below meth c s₁ S0 X0 hx hby hml hret hnm hown hZ e0 cc
  have N0 := Fr.nil Z.heap.size
  have c0 : Go p e below S0 s₁ (mkF m 0 #[.val (.int p0), .unset] []) := cc.trans (XT.entry rfl)
  have c1 : Go p e below S0 s₁ (mkF m 8 #[.val (.int p0), .val (.int (((p0.toUInt32 >>> ((16 : Int32) &&& 31).toUInt32).toInt32) &&& (3 : Int32)))] [(.int (((p0.toUInt32 >>> ((16 : Int32) &&& 31).toUInt32).toInt32) &&& (3 : Int32)))]) := c0.trans (by
    refine XS.iloadN X0.here hx rfl (hb hby d2_0) rfl ?_
    refine XS.bipush X0.here hx rfl (hb hby d2_1) ?_
    refine XS.iushr X0.here hx rfl (hb hby d2_3) rfl ?_
    refine XS.iconst X0.here hx rfl (hb hby d2_4) ?_
    refine XS.iand X0.here hx rfl (hb hby d2_5) rfl ?_
    refine XS.istoreN X0.here hx rfl (hb hby d2_6) rfl (l' := #[.val (.int p0), .val (.int (((p0.toUInt32 >>> ((16 : Int32) &&& 31).toUInt32).toInt32) &&& (3 : Int32)))]) rfl ?_
    refine XS.iloadN X0.here hx rfl (hb hby d2_7) rfl ?_
    exact .refl _)
  by_cases hc2 : (((p0.toUInt32 >>> ((16 : Int32) &&& 31).toUInt32).toInt32) &&& (3 : Int32)) = (0 : Int32)
  · skip
    have c3 : Go p e below S0 s₁ (mkF m 13 #[.val (.int p0), .val (.int (((p0.toUInt32 >>> ((16 : Int32) &&& 31).toUInt32).toInt32) &&& (3 : Int32)))] [(.int 44)]) := c1.trans (by
      refine XS.ifNo X0.here hx rfl (hb hby d2_8) rfl ((if0 _ _).trans (teq hc2).2) ?_
      refine XS.bipush X0.here hx rfl (hb hby d2_11) ?_
      exact .refl _)
    refine ⟨s₁, (some (.int (44 : Int32))), _, _, _, X0, by decide, by decide, (fun q => by cases q), N0, ?_, fun fs hr => ?_⟩
    · rw [e0]
      exact ⟨_, ⟨by decide, by decide⟩, rfl, rfl⟩
    · exact c3.trans (retN X0 hx (t := .char) hret (by simp) (hb hby d2_13) hr)
  · skip
    have c5 : Go p e below S0 s₁ (mkF m 16 #[.val (.int p0), .val (.int (((p0.toUInt32 >>> ((16 : Int32) &&& 31).toUInt32).toInt32) &&& (3 : Int32)))] [(.int 1), (.int (((p0.toUInt32 >>> ((16 : Int32) &&& 31).toUInt32).toInt32) &&& (3 : Int32)))]) := c1.trans (by
      refine XS.ifYes X0.here hx rfl (pc0 := 8) (pc' := 14) rfl (hb hby d2_8) rfl ((if0 _ _).trans (feq hc2).2) (by decide) (by decide) ?_
      refine XS.iloadN X0.here hx rfl (hb hby d2_14) rfl ?_
      refine XS.iconst X0.here hx rfl (hb hby d2_15) ?_
      exact .refl _)
    by_cases hc6 : (((p0.toUInt32 >>> ((16 : Int32) &&& 31).toUInt32).toInt32) &&& (3 : Int32)) = (1 : Int32)
    · skip
      have c7 : Go p e below S0 s₁ (mkF m 21 #[.val (.int p0), .val (.int (((p0.toUInt32 >>> ((16 : Int32) &&& 31).toUInt32).toInt32) &&& (3 : Int32)))] [(.int 10)]) := c5.trans (by
        refine XS.icmpNo X0.here hx rfl (hb hby d2_16) rfl (teq hc6).2 ?_
        refine XS.bipush X0.here hx rfl (hb hby d2_19) ?_
        exact .refl _)
      refine ⟨s₁, (some (.int (10 : Int32))), _, _, _, X0, by decide, by decide, (fun q => by cases q), N0, ?_, fun fs hr => ?_⟩
      · rw [e0]
        exact ⟨_, ⟨by decide, by decide⟩, rfl, rfl⟩
      · exact c7.trans (retN X0 hx (t := .char) hret (by simp) (hb hby d2_21) hr)
    · skip
      have c9 : Go p e below S0 s₁ (mkF m 24 #[.val (.int p0), .val (.int (((p0.toUInt32 >>> ((16 : Int32) &&& 31).toUInt32).toInt32) &&& (3 : Int32)))] [(.int 2), (.int (((p0.toUInt32 >>> ((16 : Int32) &&& 31).toUInt32).toInt32) &&& (3 : Int32)))]) := c5.trans (by
        refine XS.icmpYes X0.here hx rfl (pc0 := 16) (pc' := 22) rfl (hb hby d2_16) rfl (feq hc6).2 (by decide) (by decide) ?_
        refine XS.iloadN X0.here hx rfl (hb hby d2_22) rfl ?_
        refine XS.iconst X0.here hx rfl (hb hby d2_23) ?_
        exact .refl _)
      by_cases hc10 : (((p0.toUInt32 >>> ((16 : Int32) &&& 31).toUInt32).toInt32) &&& (3 : Int32)) = (2 : Int32)
      · skip
        have c11 : Go p e below S0 s₁ (mkF m 29 #[.val (.int p0), .val (.int (((p0.toUInt32 >>> ((16 : Int32) &&& 31).toUInt32).toInt32) &&& (3 : Int32)))] [(.int 13)]) := c9.trans (by
          refine XS.icmpNo X0.here hx rfl (hb hby d2_24) rfl (teq hc10).2 ?_
          refine XS.bipush X0.here hx rfl (hb hby d2_27) ?_
          exact .refl _)
        refine ⟨s₁, (some (.int (13 : Int32))), _, _, _, X0, by decide, by decide, (fun q => by cases q), N0, ?_, fun fs hr => ?_⟩
        · rw [e0]
          exact ⟨_, ⟨by decide, by decide⟩, rfl, rfl⟩
        · exact c11.trans (retN X0 hx (t := .char) hret (by simp) (hb hby d2_29) hr)
      · skip
        have c14 : Go p e below S0 s₁ (mkF m 35 #[.val (.int p0), .val (.int (((p0.toUInt32 >>> ((16 : Int32) &&& 31).toUInt32).toInt32) &&& (3 : Int32)))] [(.int ((p0 &&& (65535 : Int32)).toUInt32.toUInt16.toUInt32.toInt32))]) := c9.trans (by
          refine XS.icmpYes X0.here hx rfl (pc0 := 24) (pc' := 30) rfl (hb hby d2_24) rfl (feq hc10).2 (by decide) (by decide) ?_
          refine XS.iloadN X0.here hx rfl (hb hby d2_30) rfl ?_
          refine X0.ldcInt hx hown (mvT hZ (gw hw 87 rfl)) (g := (mkF m 31 #[.val (.int p0), .val (.int (((p0.toUInt32 >>> ((16 : Int32) &&& 31).toUInt32).toInt32) &&& (3 : Int32)))] [(.int p0)])) rfl (hb hby d2_31) _ ?_
          refine XS.iand X0.here hx rfl (hb hby d2_33) rfl ?_
          refine XS.i2c X0.here hx rfl (hb hby d2_34) rfl ?_
          exact .refl _)
        refine ⟨s₁, (some (.int (nar .char ((p0 &&& (65535 : Int32)).toUInt32.toUInt16.toUInt32.toInt32)))), _, _, _, X0, by decide, by decide, (fun q => by cases q), N0, ?_, fun fs hr => ?_⟩
        · rw [e0]
          exact ⟨_, own_chr _, rfl, rfl⟩
        · exact c14.trans (retN X0 hx (t := .char) hret (by simp) (hb hby d2_35) hr)
theorem rmBad (l : Launch) (Z : State) (a0 : Array Value) (hw : own_W Z a0) (k : Int32) (h0 : Heap) (O0 : Old Z Z.heap.size h0)  :
    own_NC l Z (⟨"com/example/caseward/caseward/core/RightFitsFieldPinLaw", "bad", "(C)Z"⟩ : MethodName) method_4_code 1 (some .boolean) ({ frames := 0, cells := 0, slots := 0, locals := 0 } : Room) #[(.int k)] h0 (fun v h => v = some (.int (own_i (own_bad k))) ∧ h = h0) := by
  refine own_nc (plainFor_of_name pnl0) ?_
  intro p e s m below meth c s₁ S0 X0 hx hby hml hret hnm hown hZ e0 cc
  have N0 := Fr.nil Z.heap.size
  have c0 : Go p e below S0 s₁ (mkF m 0 #[.val (.int k)] []) := cc.trans (XT.entry rfl)
  have c1 : Go p e below S0 s₁ (mkF m 3 #[.val (.int k)] [(.int 44), (.int k)]) := c0.trans (by
    refine XS.iloadN X0.here hx rfl (hb hby d18_0) rfl ?_
    refine XS.bipush X0.here hx rfl (hb hby d18_1) ?_
    exact .refl _)
  by_cases hc2 : k = (44 : Int32)
  · skip
    have c3 : Go p e below S0 s₁ (mkF m 23 #[.val (.int k)] [(.int 1)]) := c1.trans (by
      refine XS.icmpYes X0.here hx rfl (pc0 := 3) (pc' := 18) rfl (hb hby d18_3) rfl (teq hc2).1 (by decide) (by decide) ?_
      refine XS.iconst X0.here hx rfl (hb hby d18_18) ?_
      refine XS.goto X0.here hx rfl (pc0 := 19) (pc' := 23) rfl (hb hby d18_19) (by decide) (by decide) ?_
      exact .refl _)
    refine ⟨s₁, (some (.int (1 : Int32))), _, _, _, X0, by decide, by decide, (fun q => by cases q), N0, ?_, fun fs hr => ?_⟩
    · rw [e0]
      exact ⟨by simp [own_bad, own_i, hc2], rfl⟩
    · exact c3.trans (retN X0 hx (t := .boolean) hret (by simp) (hb hby d18_23) hr)
  · skip
    have c5 : Go p e below S0 s₁ (mkF m 9 #[.val (.int k)] [(.int 10), (.int k)]) := c1.trans (by
      refine XS.icmpNo X0.here hx rfl (hb hby d18_3) rfl (feq hc2).1 ?_
      refine XS.iloadN X0.here hx rfl (hb hby d18_6) rfl ?_
      refine XS.bipush X0.here hx rfl (hb hby d18_7) ?_
      exact .refl _)
    by_cases hc6 : k = (10 : Int32)
    · skip
      have c7 : Go p e below S0 s₁ (mkF m 23 #[.val (.int k)] [(.int 1)]) := c5.trans (by
        refine XS.icmpYes X0.here hx rfl (pc0 := 9) (pc' := 18) rfl (hb hby d18_9) rfl (teq hc6).1 (by decide) (by decide) ?_
        refine XS.iconst X0.here hx rfl (hb hby d18_18) ?_
        refine XS.goto X0.here hx rfl (pc0 := 19) (pc' := 23) rfl (hb hby d18_19) (by decide) (by decide) ?_
        exact .refl _)
      refine ⟨s₁, (some (.int (1 : Int32))), _, _, _, X0, by decide, by decide, (fun q => by cases q), N0, ?_, fun fs hr => ?_⟩
      · rw [e0]
        exact ⟨by simp [own_bad, own_i, hc2, hc6], rfl⟩
      · exact c7.trans (retN X0 hx (t := .boolean) hret (by simp) (hb hby d18_23) hr)
    · skip
      have c9 : Go p e below S0 s₁ (mkF m 15 #[.val (.int k)] [(.int 13), (.int k)]) := c5.trans (by
        refine XS.icmpNo X0.here hx rfl (hb hby d18_9) rfl (feq hc6).1 ?_
        refine XS.iloadN X0.here hx rfl (hb hby d18_12) rfl ?_
        refine XS.bipush X0.here hx rfl (hb hby d18_13) ?_
        exact .refl _)
      by_cases hc10 : k = (13 : Int32)
      · skip
        have c11 : Go p e below S0 s₁ (mkF m 23 #[.val (.int k)] [(.int 1)]) := c9.trans (by
          refine XS.icmpNo X0.here hx rfl (hb hby d18_15) rfl (teq hc10).2 ?_
          refine XS.iconst X0.here hx rfl (hb hby d18_18) ?_
          refine XS.goto X0.here hx rfl (pc0 := 19) (pc' := 23) rfl (hb hby d18_19) (by decide) (by decide) ?_
          exact .refl _)
        refine ⟨s₁, (some (.int (1 : Int32))), _, _, _, X0, by decide, by decide, (fun q => by cases q), N0, ?_, fun fs hr => ?_⟩
        · rw [e0]
          exact ⟨by simp [own_bad, own_i, hc2, hc6, hc10], rfl⟩
        · exact c11.trans (retN X0 hx (t := .boolean) hret (by simp) (hb hby d18_23) hr)
      · skip
        have c13 : Go p e below S0 s₁ (mkF m 23 #[.val (.int k)] [(.int 0)]) := c9.trans (by
          refine XS.icmpYes X0.here hx rfl (pc0 := 15) (pc' := 22) rfl (hb hby d18_15) rfl (feq hc10).2 (by decide) (by decide) ?_
          refine XS.iconst X0.here hx rfl (hb hby d18_22) ?_
          exact .refl _)
        refine ⟨s₁, (some (.int (0 : Int32))), _, _, _, X0, by decide, by decide, (fun q => by cases q), N0, ?_, fun fs hr => ?_⟩
        · rw [e0]
          exact ⟨by simp [own_bad, own_i, hc2, hc6, hc10], rfl⟩
        · exact c13.trans (retN X0 hx (t := .boolean) hret (by simp) (hb hby d18_23) hr)
theorem rmMin4 (l : Launch) (Z : State) (a0 : Array Value) (hw : own_W Z a0) (k : Int32) (h0 : Heap) (O0 : Old Z Z.heap.size h0)  :
    own_NC l Z (⟨"java/lang/Math", "min", "(II)I"⟩ : MethodName) jdk_29_method_69_code 2 (some .int) ({ frames := 0, cells := 0, slots := 0, locals := 0 } : Room) #[(.int k), (.int 4)] h0 (fun v h => v = some (.int (own_min4 k)) ∧ h = h0) := by
  refine own_nc (Jvm.Free.JP.mathPlain rfl (by decide +kernel)) ?_
  intro p e s m below meth c s₁ S0 X0 hx hby hml hret hnm hown hZ e0 cc
  have N0 := Fr.nil Z.heap.size
  have c0 : Go p e below S0 s₁ (mkF m 0 #[.val (.int k), .val (.int 4)] []) := cc.trans (XT.entry rfl)
  have c1 : Go p e below S0 s₁ (mkF m 2 #[.val (.int k), .val (.int 4)] [(.int 4), (.int k)]) := c0.trans (by
    refine XS.iloadN X0.here hx rfl (hb hby d1_0) rfl ?_
    refine XS.iloadN X0.here hx rfl (hb hby d1_1) rfl ?_
    exact .refl _)
  by_cases hc2 : (4 : Int32) < k
  · skip
    have c3 : Go p e below S0 s₁ (mkF m 10 #[.val (.int k), .val (.int 4)] [(.int 4)]) := c1.trans (by
      refine XS.icmpYes X0.here hx rfl (pc0 := 2) (pc' := 9) rfl (hb hby d1_2) rfl (tlt hc2).2.2.1 (by decide) (by decide) ?_
      refine XS.iloadN X0.here hx rfl (hb hby d1_9) rfl ?_
      exact .refl _)
    refine ⟨s₁, (some (.int 4)), _, _, _, X0, by decide, by decide, (fun q => by cases q), N0, ?_, fun fs hr => ?_⟩
    · rw [e0]
      exact ⟨by simp [own_min4, hc2], rfl⟩
    · exact c3.trans (retI X0 hx hret (hb hby d1_10) hr)
  · skip
    have c5 : Go p e below S0 s₁ (mkF m 10 #[.val (.int k), .val (.int 4)] [(.int k)]) := c1.trans (by
      refine XS.icmpNo X0.here hx rfl (hb hby d1_2) rfl (flt hc2).2.2.1 ?_
      refine XS.iloadN X0.here hx rfl (hb hby d1_5) rfl ?_
      refine XS.goto X0.here hx rfl (pc0 := 6) (pc' := 10) rfl (hb hby d1_6) (by decide) (by decide) ?_
      exact .refl _)
    refine ⟨s₁, (some (.int k)), _, _, _, X0, by decide, by decide, (fun q => by cases q), N0, ?_, fun fs hr => ?_⟩
    · rw [e0]
      exact ⟨by simp [own_min4, hc2], rfl⟩
    · exact c5.trans (retI X0 hx hret (hb hby d1_10) hr)
theorem rmCan (l : Launch) (Z : State) (a0 : Array Value) (hw : own_W Z a0) (k : Int32) (h0 : Heap) (O0 : Old Z Z.heap.size h0) (hk : own_B k) :
    own_NC l Z (⟨"java/lang/StringLatin1", "canEncode", "(I)Z"⟩ : MethodName) jdk_43_method_4_code 1 (some .boolean) ({ frames := 0, cells := 0, slots := 0, locals := 0 } : Room) #[(.int k)] h0 (fun v h => v = some (.int (1 : Int32)) ∧ h = h0) := by
  refine own_nc (plainFor_of_name pnl1) ?_
  intro p e s m below meth c s₁ S0 X0 hx hby hml hret hnm hown hZ e0 cc
  have N0 := Fr.nil Z.heap.size
  have c0 : Go p e below S0 s₁ (mkF m 0 #[.val (.int k)] []) := cc.trans (XT.entry rfl)
  have c1 : Go p e below S0 s₁ (mkF m 16 #[.val (.int k)] [(.int 1)]) := c0.trans (by
    refine XS.iloadN X0.here hx rfl (hb hby d13_0) rfl ?_
    refine XS.ifNo X0.here hx rfl (hb hby d13_1) rfl ((if0 _ _).trans (flt hk.rng.1).1) ?_
    refine XS.iloadN X0.here hx rfl (hb hby d13_4) rfl ?_
    refine XS.sipush X0.here hx rfl (hb hby d13_5) ?_
    refine XS.icmpNo X0.here hx rfl (hb hby d13_8) rfl (flt hk.rng.2).2.2.1 ?_
    refine XS.iconst X0.here hx rfl (hb hby d13_11) ?_
    refine XS.goto X0.here hx rfl (pc0 := 12) (pc' := 16) rfl (hb hby d13_12) (by decide) (by decide) ?_
    exact .refl _)
  refine ⟨s₁, (some (.int (1 : Int32))), _, _, _, X0, by decide, by decide, (fun q => by cases q), N0, ?_, fun fs hr => ?_⟩
  · rw [e0]
    exact ⟨rfl, rfl⟩
  · exact c1.trans (retN X0 hx (t := .boolean) hret (by simp) (hb hby d13_16) hr)
theorem rmMax_0_0 (l : Launch) (Z : State) (a0 : Array Value) (hw : own_W Z a0)  (h0 : Heap) (O0 : Old Z Z.heap.size h0)  :
    own_NC l Z (⟨"java/lang/Math", "max", "(II)I"⟩ : MethodName) jdk_29_method_65_code 2 (some .int) ({ frames := 0, cells := 0, slots := 0, locals := 0 } : Room) #[(.int 0), (.int 0)] h0 (fun v h => v = some (.int (0 : Int32)) ∧ h = h0) := by
  refine own_nc (Jvm.Free.JP.mathPlain rfl (by decide +kernel)) ?_
  intro p e s m below meth c s₁ S0 X0 hx hby hml hret hnm hown hZ e0 cc
  have N0 := Fr.nil Z.heap.size
  have c0 : Go p e below S0 s₁ (mkF m 0 #[.val (.int 0), .val (.int 0)] []) := cc.trans (XT.entry rfl)
  have c1 : Go p e below S0 s₁ (mkF m 10 #[.val (.int 0), .val (.int 0)] [(.int 0)]) := c0.trans (by
    refine XS.iloadN X0.here hx rfl (hb hby d14_0) rfl ?_
    refine XS.iloadN X0.here hx rfl (hb hby d14_1) rfl ?_
    refine XS.icmpNo X0.here hx rfl (hb hby d14_2) rfl (flt (by decide : ¬ ((0 : Int32) < (0 : Int32)))).1 ?_
    refine XS.iloadN X0.here hx rfl (hb hby d14_5) rfl ?_
    refine XS.goto X0.here hx rfl (pc0 := 6) (pc' := 10) rfl (hb hby d14_6) (by decide) (by decide) ?_
    exact .refl _)
  refine ⟨s₁, (some (.int 0)), _, _, _, X0, by decide, by decide, (fun q => by cases q), N0, ?_, fun fs hr => ?_⟩
  · rw [e0]
    exact ⟨rfl, rfl⟩
  · exact c1.trans (retI X0 hx hret (hb hby d14_10) hr)
theorem rmMin_0_0 (l : Launch) (Z : State) (a0 : Array Value) (hw : own_W Z a0)  (h0 : Heap) (O0 : Old Z Z.heap.size h0)  :
    own_NC l Z (⟨"java/lang/Math", "min", "(II)I"⟩ : MethodName) jdk_29_method_69_code 2 (some .int) ({ frames := 0, cells := 0, slots := 0, locals := 0 } : Room) #[(.int 0), (.int 0)] h0 (fun v h => v = some (.int (0 : Int32)) ∧ h = h0) := by
  refine own_nc (Jvm.Free.JP.mathPlain rfl (by decide +kernel)) ?_
  intro p e s m below meth c s₁ S0 X0 hx hby hml hret hnm hown hZ e0 cc
  have N0 := Fr.nil Z.heap.size
  have c0 : Go p e below S0 s₁ (mkF m 0 #[.val (.int 0), .val (.int 0)] []) := cc.trans (XT.entry rfl)
  have c1 : Go p e below S0 s₁ (mkF m 10 #[.val (.int 0), .val (.int 0)] [(.int 0)]) := c0.trans (by
    refine XS.iloadN X0.here hx rfl (hb hby d1_0) rfl ?_
    refine XS.iloadN X0.here hx rfl (hb hby d1_1) rfl ?_
    refine XS.icmpNo X0.here hx rfl (hb hby d1_2) rfl (flt (by decide : ¬ ((0 : Int32) < (0 : Int32)))).2.2.1 ?_
    refine XS.iloadN X0.here hx rfl (hb hby d1_5) rfl ?_
    refine XS.goto X0.here hx rfl (pc0 := 6) (pc' := 10) rfl (hb hby d1_6) (by decide) (by decide) ?_
    exact .refl _)
  refine ⟨s₁, (some (.int 0)), _, _, _, X0, by decide, by decide, (fun q => by cases q), N0, ?_, fun fs hr => ?_⟩
  · rw [e0]
    exact ⟨rfl, rfl⟩
  · exact c1.trans (retI X0 hx hret (hb hby d1_10) hr)
theorem rmL1I0 (l : Launch) (Z : State) (a0 : Array Value) (hw : own_W Z a0) (t : Addr) (kb : ClassId) (k : Int32)  (h0 : Heap) (O0 : Old Z Z.heap.size h0) (Kt : Arv Z h0 t kb .byte (0 : Int32) [] (.int (0 : Int32))) (hk : own_B k)  :
    own_NC l Z (⟨"java/lang/StringLatin1", "indexOf", "([BIII)I"⟩ : MethodName) jdk_43_method_22_code 4 (some .int) ({ frames := 1, cells := 0, slots := 0, locals := 20 } : Room) #[(.ref t), (.int k), (.int 0), (.int 0)] h0 (fun v h => (∃ r : Int32, v = some (.int r) ∧ decide (r < (0 : Int32)) = !own_has [] k) ∧ h = h0) := by
  refine own_nc (plainFor_of_name pnl1) ?_
  intro p e s m below meth c s₁ S0 X0 hx hby hml hret hnm hown hZ e0 cc
  have N0 := Fr.nil Z.heap.size
  have c0 : Go p e below S0 s₁ (mkF m 0 #[.val (.ref t), .val (.int k), .val (.int 0), .val (.int 0)] []) := cc.trans (XT.entry rfl)
  have c1 : Go p e below S0 s₁ (mkF m 1 #[.val (.ref t), .val (.int k), .val (.int 0), .val (.int 0)] [(.int k)]) := c0.trans (by
    refine XS.iloadN X0.here hx rfl (hb hby d12_0) rfl ?_
    exact .refl _)
  obtain ⟨v2, T2, L2, X2, ⟨N2', rfl, e2⟩, c2'⟩ := own_stat X0 hx hml hZ hown (gw hw 64 rfl) (gw hw 65 rfl) (gw hw 62 rfl) (gw hw 66 rfl) (by decide) (kc := 0) (ks := 0) (h := h0) (W := 0) (argsL := [(.int k)]) (rest := []) (own_pay (W := 0) (rmCan l Z a0 hw k h0 O0 hk) hZ (gw hw 66 rfl) (gw hw 62 rfl) (by decide) (by decide)) c1 (lenOf pd_0 rfl) rfl (hb hby d12_1) e0
  have N2 := Fr.app N0 N2'
  have c2 : Go p e below S0 T2 (mkF m 4 #[.val (.ref t), .val (.int k), .val (.int 0), .val (.int 0)] [(.int 1)]) := c2'
  have c3 : Go p e below S0 T2 (mkF m 11 #[.val (.ref t), .val (.int k), .val (.int 0), .val (.int 0)] [(.int 0), (.int 0)]) := c2.trans (by
    refine XS.ifYes X2.here hx rfl (pc0 := 4) (pc' := 9) rfl (hb hby d12_4) rfl ((if0 _ _).trans (feq (by decide : ¬ ((1 : Int32) = (0 : Int32)))).2) (by decide) (by decide) ?_
    refine XS.iloadN X2.here hx rfl (hb hby d12_9) rfl ?_
    refine XS.iconst X2.here hx rfl (hb hby d12_10) ?_
    exact .refl _)
  obtain ⟨v4, T4, L4, X4, ⟨N4', rfl, e4⟩, c4'⟩ := own_stat X2 hx hml hZ hown (gw hw 67 rfl) (gw hw 68 rfl) (gw hw 2 rfl) (gw hw 69 rfl) (by decide) (kc := 0) (ks := 0) (h := h0) (W := 0) (argsL := [(.int 0), (.int 0)]) (rest := []) (own_pay (W := 0) (rmMax_0_0 l Z a0 hw h0 O0) hZ (gw hw 69 rfl) (gw hw 2 rfl) (by decide) (by decide)) c3 (lenOf pd_1 rfl) rfl (hb hby d12_11) e2
  have N4 := Fr.app N2 N4'
  have c4 : Go p e below S0 T4 (mkF m 14 #[.val (.ref t), .val (.int k), .val (.int 0), .val (.int 0)] [(.int 0)]) := c4'
  obtain ⟨cl5, Ar5, q5, S5, M5, H5, G5⟩ := id Kt
  have c6 : Go p e below S0 T4 (mkF m 18 #[.val (.ref t), .val (.int k), .val (.int 0), .val (.int 0)] [(.int 0), (.int 0)]) := c4.trans (by
    refine XS.istoreN X4.here hx rfl (hb hby d12_14) rfl (l' := #[.val (.ref t), .val (.int k), .val (.int 0), .val (.int 0)]) rfl ?_
    refine XS.iloadN X4.here hx rfl (hb hby d12_15) rfl ?_
    refine XS.aloadN X4.here hx rfl (hb hby d12_16) rfl rfl ?_
    refine X4.arraylength hx (by rw [show T4.heap = h0 from e4]; exact Ar5.1) (State.isArrayOf_alike (hZ).alike Ar5.2.1) (g := (mkF m 17 #[.val (.ref t), .val (.int k), .val (.int 0), .val (.int 0)] [(.ref t), (.int 0)])) rfl rfl (hb hby d12_17) _ ?_
    rw [len_of S5 M5]
    exact .refl _)
  obtain ⟨v7, T7, L7, X7, ⟨N7', rfl, e7⟩, c7'⟩ := own_stat X4 hx hml hZ hown (gw hw 70 rfl) (gw hw 1 rfl) (gw hw 2 rfl) (gw hw 3 rfl) (by decide) (kc := 0) (ks := 0) (h := h0) (W := 0) (argsL := [(.int 0), (.int 0)]) (rest := []) (own_pay (W := 0) (rmMin_0_0 l Z a0 hw h0 O0) hZ (gw hw 3 rfl) (gw hw 2 rfl) (by decide) (by decide)) c6 (lenOf pd_1 rfl) rfl (hb hby d12_18) e4
  have N7 := Fr.app N4 N7'
  have c7 : Go p e below S0 T7 (mkF m 21 #[.val (.ref t), .val (.int k), .val (.int 0), .val (.int 0)] [(.int 0)]) := c7'
  have c8 : Go p e below S0 T7 (mkF m 28 #[.val (.ref t), .val (.int k), .val (.int 0), .val (.int 0)] [(.int (-1))]) := c7.trans (by
    refine XS.istoreN X7.here hx rfl (hb hby d12_21) rfl (l' := #[.val (.ref t), .val (.int k), .val (.int 0), .val (.int 0)]) rfl ?_
    refine XS.iloadN X7.here hx rfl (hb hby d12_22) rfl ?_
    refine XS.iloadN X7.here hx rfl (hb hby d12_23) rfl ?_
    refine XS.icmpNo X7.here hx rfl (hb hby d12_24) rfl (flt (by decide : ¬ ((0 : Int32) < (0 : Int32)))).1 ?_
    refine XS.iconst X7.here hx rfl (hb hby d12_27) ?_
    exact .refl _)
  refine ⟨T7, (some (.int (-1))), _, _, _, X7, by decide, by decide, (fun q => by cases q), N7, ?_, fun fs hr => ?_⟩
  · rw [e7]
    exact ⟨⟨_, rfl, by simp [own_has]⟩, rfl⟩
  · exact c8.trans (retI X7 hx hret (hb hby d12_28) hr)
theorem rmIsL (l : Launch) (Z : State) (a0 : Array Value) (hw : own_W Z a0) (x : Addr) (z : Int32) (fm : Value) (h0 : Heap) (O0 : Old Z Z.heap.size h0) (Cd : Fld Z h0 x "java/lang/String" "coder" "B" (.int (0 : Int32))) (hs : own_S Z z fm) :
    own_NC l Z (⟨"java/lang/String", "isLatin1", "()Z"⟩ : MethodName) jdk_42_method_154_code 1 (some .boolean) ({ frames := 0, cells := 0, slots := 0, locals := 0 } : Room) #[(.ref x)] h0 (fun v h => v = some (.int (1 : Int32)) ∧ h = h0) := by
  refine own_nc (plainFor_of_name pnl2) ?_
  intro p e s m below meth c s₁ S0 X0 hx hby hml hret hnm hown hZ e0 cc
  have N0 := Fr.nil Z.heap.size
  have c0 : Go p e below S0 s₁ (mkF m 0 #[.val (.ref x)] []) := cc.trans (XT.entry rfl)
  obtain ⟨SC, hz, SF, hfm, SA, SH, SL⟩ := id hs
  obtain ⟨T1, X1, e1, st1⟩ := getS2 X0 hx hZ hown (host := "") (Or.inl (gw hw 49 rfl)) Via.refl e0 (SC.ext O0.2) (g := (mkF m 0 #[.val (.ref x)] [])) rfl (hb hby d9_0)
  obtain ⟨T2, X2, e2, st2⟩ := getF X1 hx hZ hown (host := "") (Or.inl (gw hw 29 rfl)) Via.refl e1 Cd (g := (mkF m 7 #[.val (.ref x)] [(.ref x)])) rfl rfl (hb hby d9_7)
  have c3 : Go p e below S0 T2 (mkF m 18 #[.val (.ref x)] [(.int 1)]) := c0.trans (by
    refine st1 _ ?_
    refine XS.ifNo X1.here hx rfl (hb hby d9_3) rfl ((if0 _ _).trans (feq hz).1) ?_
    refine XS.aloadN X1.here hx rfl (hb hby d9_6) rfl rfl ?_
    refine st2 _ ?_
    show Steps p.tables e below (T2.setTop (mkF m 10 #[.val (.ref x)] [(.int 0)])) _
    refine XS.ifNo X2.here hx rfl (hb hby d9_10) rfl ((if0 _ _).trans (teq (by decide : (0 : Int32) = (0 : Int32))).2) ?_
    refine XS.iconst X2.here hx rfl (hb hby d9_13) ?_
    refine XS.goto X2.here hx rfl (pc0 := 14) (pc' := 18) rfl (hb hby d9_14) (by decide) (by decide) ?_
    exact .refl _)
  refine ⟨T2, (some (.int (1 : Int32))), _, _, _, X2, by decide, by decide, (fun q => by cases q), N0, ?_, fun fs hr => ?_⟩
  · rw [e2]
    exact ⟨rfl, rfl⟩
  · exact c3.trans (retN X2 hx (t := .boolean) hret (by simp) (hb hby d9_18) hr)
theorem rmIxIIL0 (l : Launch) (Z : State) (a0 : Array Value) (hw : own_W Z a0) (x t : Addr) (kb : ClassId) (k : Int32)  (z : Int32) (fm : Value) (h0 : Heap) (O0 : Old Z Z.heap.size h0) (E : Exa Z h0 x "java/lang/String") (V : Fld Z h0 x "java/lang/String" "value" "[B" (.ref t)) (Cd : Fld Z h0 x "java/lang/String" "coder" "B" (.int (0 : Int32))) (K : Arv Z h0 t kb .byte (Int32.ofNat ([] : List Int32).length) ((([] : List Int32).map (fun c : Int32 => c.toInt8.toInt32)).map Value.int) (.int (0 : Int32))) (hk : own_B k)  (hs : own_S Z z fm) :
    own_NC l Z (⟨"java/lang/String", "indexOf", "(II)I"⟩ : MethodName) jdk_42_method_80_code 3 (some .int) ({ frames := 2, cells := 0, slots := 0, locals := 60 } : Room) #[(.ref x), (.int k), (.int 0)] h0 (fun v h => (∃ r : Int32, v = some (.int r) ∧ decide (r < (0 : Int32)) = !own_has [] k) ∧ h = h0) := by
  refine own_nc (plainFor_of_name pnl2) ?_
  intro p e s m below meth c s₁ S0 X0 hx hby hml hret hnm hown hZ e0 cc
  have N0 := Fr.nil Z.heap.size
  have c0 : Go p e below S0 s₁ (mkF m 0 #[.val (.ref x), .val (.int k), .val (.int 0)] []) := cc.trans (XT.entry rfl)
  obtain ⟨SC, hz, SF, hfm, SA, SH, SL⟩ := id hs
  have c1 : Go p e below S0 s₁ (mkF m 1 #[.val (.ref x), .val (.int k), .val (.int 0)] [(.ref x)]) := c0.trans (by
    refine XS.aloadN X0.here hx rfl (hb hby d8_0) rfl rfl ?_
    exact .refl _)
  obtain ⟨v2, T2, L2, X2, ⟨N2', rfl, e2⟩, c2'⟩ := own_virt X0 hx hml hZ hown (gw hw 44 rfl) (gw hw 45 rfl) (gw hw 47 rfl) (gw hw 46 rfl) (gw hw 47 rfl) (by decide) (kc := 0) (ks := 0) (h := h0) (W := 0) (b := x) (argsL := []) (rest := []) (own_pay (W := 0) (rmIsL l Z a0 hw x z fm h0 O0 Cd hs) hZ (gw hw 48 rfl) (gw hw 11 rfl) (by decide) (by decide)) E c1 (lenOf pd_2 rfl) rfl (hb hby d8_1) e0
  have N2 := Fr.app N0 N2'
  have c2 : Go p e below S0 T2 (mkF m 4 #[.val (.ref x), .val (.int k), .val (.int 0)] [(.int 1)]) := c2'
  obtain ⟨T3, X3, e3, st3⟩ := getF X2 hx hZ hown (host := "") (Or.inl (gw hw 28 rfl)) Via.refl e2 V (g := (mkF m 8 #[.val (.ref x), .val (.int k), .val (.int 0)] [(.ref x)])) rfl rfl (hb hby d8_8)
  have c4 : Go p e below S0 T3 (mkF m 14 #[.val (.ref x), .val (.int k), .val (.int 0)] [(.ref x), (.int 0), (.int k), (.ref t)]) := c2.trans (by
    refine XS.ifNo X2.here hx rfl (hb hby d8_4) rfl ((if0 _ _).trans (feq (by decide : ¬ ((1 : Int32) = (0 : Int32)))).1) ?_
    refine XS.aloadN X2.here hx rfl (hb hby d8_7) rfl rfl ?_
    refine st3 _ ?_
    refine XS.iloadN X3.here hx rfl (hb hby d8_11) rfl ?_
    refine XS.iloadN X3.here hx rfl (hb hby d8_12) rfl ?_
    refine XS.aloadN X3.here hx rfl (hb hby d8_13) rfl rfl ?_
    exact .refl _)
  obtain ⟨v5, T5, L5, X5, ⟨rfl, rfl, e5⟩, c5'⟩ := own_virt X3 hx hml hZ hown (gw hw 50 rfl) (gw hw 51 rfl) (gw hw 53 rfl) (gw hw 52 rfl) (gw hw 53 rfl) (by decide) (Q := fun v h' L => v = some (.int (Int32.ofNat ([] : List Int32).length)) ∧ L = [] ∧ h' = h0) (kc := 0) (ks := 0) (h := h0) (W := 3) (b := x) (argsL := []) (rest := [(.int 0), (.int k), (.ref t)]) (StrChars.Road.lenW (s := s) (R := ({ frames := 2, cells := 0, slots := 0, locals := 60 } : Room)) (W := 3) hZ (own_wl hw) (kI := 4) (gw hw 10 rfl) (cs := []) E V Cd K (StrChars.Road.codOf (n := ([] : List Int32).length) rfl (fun c hc => (own_nil c hc).rng.2)) (fun c hc => (own_nil c hc).rng2) (SC.ext O0.2) hz (Nat.le_of_ble_eq_true rfl) (by decide) (by decide)) E c4 (lenOf pd_3 rfl) rfl (hb hby d8_14) e3
  have N5 := Fr.app N2 (Fr.nil _)
  have c5 : Go p e below S0 T5 (mkF m 17 #[.val (.ref x), .val (.int k), .val (.int 0)] [(.int 0), (.int 0), (.int k), (.ref t)]) := c5'
  obtain ⟨v6, T6, L6, X6, ⟨N6', ⟨r6, rfl, hr6⟩, e6⟩, c6'⟩ := own_stat X5 hx hml hZ hown (gw hw 60 rfl) (gw hw 61 rfl) (gw hw 62 rfl) (gw hw 63 rfl) (by decide) (kc := 0) (ks := 0) (h := h0) (W := 0) (argsL := [(.ref t), (.int k), (.int 0), (.int 0)]) (rest := []) (own_pay (W := 0) (rmL1I0 l Z a0 hw t kb k  h0 O0 K hk ) hZ (gw hw 63 rfl) (gw hw 62 rfl) (by decide) (by decide)) c5 (lenOf pd_4 rfl) rfl (hb hby d8_17) e5
  have N6 := Fr.app N5 N6'
  have c6 : Go p e below S0 T6 (mkF m 20 #[.val (.ref x), .val (.int k), .val (.int 0)] [(.int r6)]) := c6'
  have c7 : Go p e below S0 T6 (mkF m 36 #[.val (.ref x), .val (.int k), .val (.int 0)] [(.int r6)]) := c6.trans (by
    refine XS.goto X6.here hx rfl (pc0 := 20) (pc' := 36) rfl (hb hby d8_20) (by decide) (by decide) ?_
    exact .refl _)
  refine ⟨T6, (some (.int r6)), _, _, _, X6, by decide, by decide, (fun q => by cases q), N6, ?_, fun fs hr => ?_⟩
  · rw [e6]
    exact ⟨⟨_, rfl, hr6⟩, rfl⟩
  · exact c7.trans (retI X6 hx hret (hb hby d8_36) hr)
theorem rmIxL0 (l : Launch) (Z : State) (a0 : Array Value) (hw : own_W Z a0) (x t : Addr) (kb : ClassId) (k : Int32)  (z : Int32) (fm : Value) (h0 : Heap) (O0 : Old Z Z.heap.size h0) (E : Exa Z h0 x "java/lang/String") (V : Fld Z h0 x "java/lang/String" "value" "[B" (.ref t)) (Cd : Fld Z h0 x "java/lang/String" "coder" "B" (.int (0 : Int32))) (K : Arv Z h0 t kb .byte (Int32.ofNat ([] : List Int32).length) ((([] : List Int32).map (fun c : Int32 => c.toInt8.toInt32)).map Value.int) (.int (0 : Int32))) (hk : own_B k)  (hs : own_S Z z fm) :
    own_NC l Z (⟨"java/lang/String", "indexOf", "(I)I"⟩ : MethodName) jdk_42_method_79_code 2 (some .int) ({ frames := 3, cells := 0, slots := 0, locals := 80 } : Room) #[(.ref x), (.int k)] h0 (fun v h => (∃ r : Int32, v = some (.int r) ∧ decide (r < (0 : Int32)) = !own_has [] k) ∧ h = h0) := by
  refine own_nc (plainFor_of_name pnl2) ?_
  intro p e s m below meth c s₁ S0 X0 hx hby hml hret hnm hown hZ e0 cc
  have N0 := Fr.nil Z.heap.size
  have c0 : Go p e below S0 s₁ (mkF m 0 #[.val (.ref x), .val (.int k)] []) := cc.trans (XT.entry rfl)
  obtain ⟨SC, hz, SF, hfm, SA, SH, SL⟩ := id hs
  have c1 : Go p e below S0 s₁ (mkF m 3 #[.val (.ref x), .val (.int k)] [(.int 0), (.int k), (.ref x)]) := c0.trans (by
    refine XS.aloadN X0.here hx rfl (hb hby d7_0) rfl rfl ?_
    refine XS.iloadN X0.here hx rfl (hb hby d7_1) rfl ?_
    refine XS.iconst X0.here hx rfl (hb hby d7_2) ?_
    exact .refl _)
  obtain ⟨v2, T2, L2, X2, ⟨N2', ⟨r2, rfl, hr2⟩, e2⟩, c2'⟩ := own_virt X0 hx hml hZ hown (gw hw 39 rfl) (gw hw 40 rfl) (gw hw 42 rfl) (gw hw 41 rfl) (gw hw 42 rfl) (by decide) (kc := 0) (ks := 0) (h := h0) (W := 0) (b := x) (argsL := [(.int k), (.int 0)]) (rest := []) (own_pay (W := 0) (rmIxIIL0 l Z a0 hw x t kb k  z fm h0 O0 E V Cd K hk  hs) hZ (gw hw 43 rfl) (gw hw 11 rfl) (by decide) (by decide)) E c1 (lenOf pd_1 rfl) rfl (hb hby d7_3) e0
  have N2 := Fr.app N0 N2'
  have c2 : Go p e below S0 T2 (mkF m 6 #[.val (.ref x), .val (.int k)] [(.int r2)]) := c2'
  refine ⟨T2, (some (.int r2)), _, _, _, X2, by decide, by decide, (fun q => by cases q), N2, ?_, fun fs hr => ?_⟩
  · rw [e2]
    exact ⟨⟨_, rfl, hr2⟩, rfl⟩
  · exact c2.trans (retI X2 hx hret (hb hby d7_6) hr)
theorem rmFitL0 (l : Launch) (Z : State) (a0 : Array Value) (hw : own_W Z a0) (x t : Addr) (kb : ClassId)  (z : Int32) (fm : Value) (h0 : Heap) (O0 : Old Z Z.heap.size h0) (E : Exa Z h0 x "java/lang/String") (V : Fld Z h0 x "java/lang/String" "value" "[B" (.ref t)) (Cd : Fld Z h0 x "java/lang/String" "coder" "B" (.int (0 : Int32))) (K : Arv Z h0 t kb .byte (Int32.ofNat ([] : List Int32).length) ((([] : List Int32).map (fun c : Int32 => c.toInt8.toInt32)).map Value.int) (.int (0 : Int32)))  (hs : own_S Z z fm) :
    own_NC l Z (⟨"com/example/caseward/caseward/core/Right", "fitsField", "(Ljava/lang/String;)Z"⟩ : MethodName) prog_47_method_5_code 1 (some .boolean) ({ frames := 4, cells := 0, slots := 0, locals := 100 } : Room) #[(.ref x)] h0 (fun v h => v = some (.int (own_i (!own_has [] (44 : Int32) && !own_has [] (10 : Int32) && !own_has [] (13 : Int32)))) ∧ h = h0) := by
  refine own_nc (plainFor_of_name pnl3) ?_
  intro p e s m below meth c s₁ S0 X0 hx hby hml hret hnm hown hZ e0 cc
  have N0 := Fr.nil Z.heap.size
  have c0 : Go p e below S0 s₁ (mkF m 0 #[.val (.ref x)] []) := cc.trans (XT.entry rfl)
  obtain ⟨SC, hz, SF, hfm, SA, SH, SL⟩ := id hs
  have c1 : Go p e below S0 s₁ (mkF m 3 #[.val (.ref x)] [(.int 44), (.ref x)]) := c0.trans (by
    refine XS.aloadN X0.here hx rfl (hb hby d6_0) rfl rfl ?_
    refine XS.bipush X0.here hx rfl (hb hby d6_1) ?_
    exact .refl _)
  obtain ⟨v2, T2, L2, X2, ⟨N2', ⟨r2, rfl, hr2⟩, e2⟩, c2'⟩ := own_virt X0 hx hml hZ hown (gw hw 34 rfl) (gw hw 35 rfl) (gw hw 37 rfl) (gw hw 36 rfl) (gw hw 37 rfl) (by decide) (kc := 0) (ks := 0) (h := h0) (W := 0) (b := x) (argsL := [(.int 44)]) (rest := []) (own_pay (W := 0) (rmIxL0 l Z a0 hw x t kb (44 : Int32)  z fm h0 O0 E V Cd K (own_Bl 44 (by decide))  hs) hZ (gw hw 38 rfl) (gw hw 11 rfl) (by decide) (by decide)) E c1 (lenOf pd_5 rfl) rfl (hb hby d6_3) e0
  have N2 := Fr.app N0 N2'
  have c2 : Go p e below S0 T2 (mkF m 6 #[.val (.ref x)] [(.int r2)]) := c2'
  by_cases hc3 : r2 < (0 : Int32)
  · skip
    have c4 : Go p e below S0 T2 (mkF m 12 #[.val (.ref x)] [(.int 10), (.ref x)]) := c2.trans (by
      refine XS.ifNo X2.here hx rfl (hb hby d6_6) rfl ((if0 _ _).trans (tlt hc3).2.1) ?_
      refine XS.aloadN X2.here hx rfl (hb hby d6_9) rfl rfl ?_
      refine XS.bipush X2.here hx rfl (hb hby d6_10) ?_
      exact .refl _)
    obtain ⟨v5, T5, L5, X5, ⟨N5', ⟨r5, rfl, hr5⟩, e5⟩, c5'⟩ := own_virt X2 hx hml hZ hown (gw hw 34 rfl) (gw hw 35 rfl) (gw hw 37 rfl) (gw hw 36 rfl) (gw hw 37 rfl) (by decide) (kc := 0) (ks := 0) (h := h0) (W := 0) (b := x) (argsL := [(.int 10)]) (rest := []) (own_pay (W := 0) (rmIxL0 l Z a0 hw x t kb (10 : Int32)  z fm h0 O0 E V Cd K (own_Bl 10 (by decide))  hs) hZ (gw hw 38 rfl) (gw hw 11 rfl) (by decide) (by decide)) E c4 (lenOf pd_5 rfl) rfl (hb hby d6_12) e2
    have N5 := Fr.app N2 N5'
    have c5 : Go p e below S0 T5 (mkF m 15 #[.val (.ref x)] [(.int r5)]) := c5'
    by_cases hc6 : r5 < (0 : Int32)
    · skip
      have c7 : Go p e below S0 T5 (mkF m 21 #[.val (.ref x)] [(.int 13), (.ref x)]) := c5.trans (by
        refine XS.ifNo X5.here hx rfl (hb hby d6_15) rfl ((if0 _ _).trans (tlt hc6).2.1) ?_
        refine XS.aloadN X5.here hx rfl (hb hby d6_18) rfl rfl ?_
        refine XS.bipush X5.here hx rfl (hb hby d6_19) ?_
        exact .refl _)
      obtain ⟨v8, T8, L8, X8, ⟨N8', ⟨r8, rfl, hr8⟩, e8⟩, c8'⟩ := own_virt X5 hx hml hZ hown (gw hw 34 rfl) (gw hw 35 rfl) (gw hw 37 rfl) (gw hw 36 rfl) (gw hw 37 rfl) (by decide) (kc := 0) (ks := 0) (h := h0) (W := 0) (b := x) (argsL := [(.int 13)]) (rest := []) (own_pay (W := 0) (rmIxL0 l Z a0 hw x t kb (13 : Int32)  z fm h0 O0 E V Cd K (own_Bl 13 (by decide))  hs) hZ (gw hw 38 rfl) (gw hw 11 rfl) (by decide) (by decide)) E c7 (lenOf pd_5 rfl) rfl (hb hby d6_21) e5
      have N8 := Fr.app N5 N8'
      have c8 : Go p e below S0 T8 (mkF m 24 #[.val (.ref x)] [(.int r8)]) := c8'
      by_cases hc9 : r8 < (0 : Int32)
      · skip
        have c10 : Go p e below S0 T8 (mkF m 32 #[.val (.ref x)] [(.int 1)]) := c8.trans (by
          refine XS.ifNo X8.here hx rfl (hb hby d6_24) rfl ((if0 _ _).trans (tlt hc9).2.1) ?_
          refine XS.iconst X8.here hx rfl (hb hby d6_27) ?_
          refine XS.goto X8.here hx rfl (pc0 := 28) (pc' := 32) rfl (hb hby d6_28) (by decide) (by decide) ?_
          exact .refl _)
        refine ⟨T8, (some (.int (1 : Int32))), _, _, _, X8, by decide, by decide, (fun q => by cases q), N8, ?_, fun fs hr => ?_⟩
        · rw [e8]
          have q2' := own_rdec hr2
          have q5' := own_rdec hr5
          have q8' := own_rdec hr8
          exact ⟨by simp [own_i, (q2').mpr hc3, (q5').mpr hc6, (q8').mpr hc9], rfl⟩
        · exact c10.trans (retN X8 hx (t := .boolean) hret (by simp) (hb hby d6_32) hr)
      · skip
        have c12 : Go p e below S0 T8 (mkF m 32 #[.val (.ref x)] [(.int 0)]) := c8.trans (by
          refine XS.ifYes X8.here hx rfl (pc0 := 24) (pc' := 31) rfl (hb hby d6_24) rfl ((if0 _ _).trans (flt hc9).2.1) (by decide) (by decide) ?_
          refine XS.iconst X8.here hx rfl (hb hby d6_31) ?_
          exact .refl _)
        refine ⟨T8, (some (.int (0 : Int32))), _, _, _, X8, by decide, by decide, (fun q => by cases q), N8, ?_, fun fs hr => ?_⟩
        · rw [e8]
          have q2' := own_rdec hr2
          have q5' := own_rdec hr5
          have q8' := own_rdec hr8
          exact ⟨by simp [own_i, (q2').mpr hc3, (q5').mpr hc6, (show _ = false from Bool.eq_false_iff.mpr (fun z => hc9 ((q8').mp z)))], rfl⟩
        · exact c12.trans (retN X8 hx (t := .boolean) hret (by simp) (hb hby d6_32) hr)
    · skip
      have c14 : Go p e below S0 T5 (mkF m 32 #[.val (.ref x)] [(.int 0)]) := c5.trans (by
        refine XS.ifYes X5.here hx rfl (pc0 := 15) (pc' := 31) rfl (hb hby d6_15) rfl ((if0 _ _).trans (flt hc6).2.1) (by decide) (by decide) ?_
        refine XS.iconst X5.here hx rfl (hb hby d6_31) ?_
        exact .refl _)
      refine ⟨T5, (some (.int (0 : Int32))), _, _, _, X5, by decide, by decide, (fun q => by cases q), N5, ?_, fun fs hr => ?_⟩
      · rw [e5]
        have q2' := own_rdec hr2
        have q5' := own_rdec hr5
        exact ⟨by simp [own_i, (q2').mpr hc3, (show _ = false from Bool.eq_false_iff.mpr (fun z => hc6 ((q5').mp z)))], rfl⟩
      · exact c14.trans (retN X5 hx (t := .boolean) hret (by simp) (hb hby d6_32) hr)
  · skip
    have c16 : Go p e below S0 T2 (mkF m 32 #[.val (.ref x)] [(.int 0)]) := c2.trans (by
      refine XS.ifYes X2.here hx rfl (pc0 := 6) (pc' := 31) rfl (hb hby d6_6) rfl ((if0 _ _).trans (flt hc3).2.1) (by decide) (by decide) ?_
      refine XS.iconst X2.here hx rfl (hb hby d6_31) ?_
      exact .refl _)
    refine ⟨T2, (some (.int (0 : Int32))), _, _, _, X2, by decide, by decide, (fun q => by cases q), N2, ?_, fun fs hr => ?_⟩
    · rw [e2]
      have q2' := own_rdec hr2
      exact ⟨by simp [own_i, (show _ = false from Bool.eq_false_iff.mpr (fun z => hc3 ((q2').mp z)))], rfl⟩
    · exact c16.trans (retN X2 hx (t := .boolean) hret (by simp) (hb hby d6_32) hr)
theorem rmL1C1 (l : Launch) (Z : State) (a0 : Array Value) (hw : own_W Z a0) (t : Addr) (kb : ClassId) (k : Int32) (xa : Int32) (h0 : Heap) (O0 : Old Z Z.heap.size h0) (Kt : Arv Z h0 t kb .byte (1 : Int32) [(.int (xa.toInt8.toInt32))] (.int (0 : Int32))) (hk : own_B k) (hBxa : own_B xa) :
    own_NC l Z (⟨"java/lang/StringLatin1", "indexOfChar", "([BIII)I"⟩ : MethodName) jdk_43_method_23_code 6 (some .int) ({ frames := 0, cells := 0, slots := 0, locals := 0 } : Room) #[(.ref t), (.int k), (.int 0), (.int 1)] h0 (fun v h => (∃ r : Int32, v = some (.int r) ∧ decide (r < (0 : Int32)) = !own_has [xa] k) ∧ h = h0) := by
  refine own_nc (plainFor_of_name pnl1) ?_
  intro p e s m below meth c s₁ S0 X0 hx hby hml hret hnm hown hZ e0 cc
  have N0 := Fr.nil Z.heap.size
  have c0 : Go p e below S0 s₁ (mkF m 0 #[.val (.ref t), .val (.int k), .val (.int 0), .val (.int 1), .unset, .unset] []) := cc.trans (XT.entry rfl)
  obtain ⟨cl1, Ar1, q1, S1, M1, H1, G1⟩ := id Kt
  have hin1 : ¬ ((0 : Int32) < 0 ∨ cl1.slots.size ≤ ((0 : Int32)).toNatClampNeg) := inb_of S1 ⟨by decide, by decide⟩
  have hat1 := Has.at (v := .int (xa.toInt8.toInt32)) H1 hin1 rfl
  have c2 : Go p e below S0 s₁ (mkF m 19 #[.val (.ref t), .val (.int k), .val (.int 0), .val (.int 1), .val (.int (k.toInt8.toInt32)), .val (.int 0)] [(.int (k.toInt8.toInt32)), (.int (xa.toInt8.toInt32))]) := c0.trans (by
    refine XS.iloadN X0.here hx rfl (hb hby d19_0) rfl ?_
    refine XS.i2b X0.here hx rfl (hb hby d19_1) rfl ?_
    refine XS.istore X0.here hx rfl (hb hby d19_2) rfl (l' := #[.val (.ref t), .val (.int k), .val (.int 0), .val (.int 1), .val (.int (k.toInt8.toInt32)), .unset]) rfl ?_
    refine XS.iloadN X0.here hx rfl (hb hby d19_4) rfl ?_
    refine XS.istore X0.here hx rfl (hb hby d19_5) rfl (l' := #[.val (.ref t), .val (.int k), .val (.int 0), .val (.int 1), .val (.int (k.toInt8.toInt32)), .val (.int 0)]) rfl ?_
    refine XS.iload X0.here hx rfl (hb hby d19_7) rfl ?_
    refine XS.iloadN X0.here hx rfl (hb hby d19_9) rfl ?_
    refine XS.icmpNo X0.here hx rfl (hb hby d19_10) rfl (tlt (by decide : (0 : Int32) < (1 : Int32))).2.1 ?_
    refine XS.aloadN X0.here hx rfl (hb hby d19_13) rfl rfl ?_
    show Steps p.tables e below (s₁.setTop (mkF m 14 #[.val (.ref t), .val (.int k), .val (.int 0), .val (.int 1), .val (.int (k.toInt8.toInt32)), .val (.int 0)] [(.ref t)])) _
    refine XS.iload X0.here hx rfl (hb hby d19_14) rfl ?_
    refine X0.baloadBytes hx (cell := cl1) (by rw [show s₁.heap = h0 from e0]; exact Ar1.1) (State.isArrayOf_alike (hZ).alike Ar1.2.1) Ar1.2.2 hin1 hat1 (g := (mkF m 16 #[.val (.ref t), .val (.int k), .val (.int 0), .val (.int 1), .val (.int (k.toInt8.toInt32)), .val (.int 0)] [(.int 0), (.ref t)])) rfl rfl (hb hby d19_16) _ ?_
    refine XS.iload X0.here hx rfl (hb hby d19_17) rfl ?_
    exact .refl _)
  by_cases hc3 : (xa.toInt8.toInt32) = (k.toInt8.toInt32)
  · skip
    have c4 : Go p e below S0 s₁ (mkF m 24 #[.val (.ref t), .val (.int k), .val (.int 0), .val (.int 1), .val (.int (k.toInt8.toInt32)), .val (.int 0)] [(.int 0)]) := c2.trans (by
      refine XS.icmpNo X0.here hx rfl (hb hby d19_19) rfl (teq hc3).2 ?_
      refine XS.iload X0.here hx rfl (hb hby d19_22) rfl ?_
      exact .refl _)
    refine ⟨s₁, (some (.int 0)), _, _, _, X0, by decide, by decide, (fun q => by cases q), N0, ?_, fun fs hr => ?_⟩
    · rw [e0]
      simp only [hBxa.inj hk] at hc3
      exact ⟨⟨_, rfl, by simp [own_has, hc3]⟩, rfl⟩
    · exact c4.trans (retI X0 hx hret (hb hby d19_24) hr)
  · skip
    have c6 : Go p e below S0 s₁ (mkF m 32 #[.val (.ref t), .val (.int k), .val (.int 0), .val (.int 1), .val (.int (k.toInt8.toInt32)), .val (.int 1)] [(.int (-1))]) := c2.trans (by
      refine XS.icmpYes X0.here hx rfl (pc0 := 19) (pc' := 25) rfl (hb hby d19_19) rfl (feq hc3).2 (by decide) (by decide) ?_
      refine XS.iinc X0.here hx rfl (hb hby d19_25) rfl (l' := #[.val (.ref t), .val (.int k), .val (.int 0), .val (.int 1), .val (.int (k.toInt8.toInt32)), .val (.int 1)]) rfl ?_
      refine XS.goto X0.here hx rfl (pc0 := 28) (pc' := 7) rfl (hb hby d19_28) (by decide) (by decide) ?_
      refine XS.iload X0.here hx rfl (hb hby d19_7) rfl ?_
      refine XS.iloadN X0.here hx rfl (hb hby d19_9) rfl ?_
      refine XS.icmpYes X0.here hx rfl (pc0 := 10) (pc' := 31) rfl (hb hby d19_10) rfl (flt (by decide : ¬ ((1 : Int32) < (1 : Int32)))).2.1 (by decide) (by decide) ?_
      refine XS.iconst X0.here hx rfl (hb hby d19_31) ?_
      exact .refl _)
    refine ⟨s₁, (some (.int (-1))), _, _, _, X0, by decide, by decide, (fun q => by cases q), N0, ?_, fun fs hr => ?_⟩
    · rw [e0]
      simp only [hBxa.inj hk] at hc3
      exact ⟨⟨_, rfl, by simp [own_has, hc3]⟩, rfl⟩
    · exact c6.trans (retI X0 hx hret (hb hby d19_32) hr)
theorem rmMin_1_1 (l : Launch) (Z : State) (a0 : Array Value) (hw : own_W Z a0)  (h0 : Heap) (O0 : Old Z Z.heap.size h0)  :
    own_NC l Z (⟨"java/lang/Math", "min", "(II)I"⟩ : MethodName) jdk_29_method_69_code 2 (some .int) ({ frames := 0, cells := 0, slots := 0, locals := 0 } : Room) #[(.int 1), (.int 1)] h0 (fun v h => v = some (.int (1 : Int32)) ∧ h = h0) := by
  refine own_nc (Jvm.Free.JP.mathPlain rfl (by decide +kernel)) ?_
  intro p e s m below meth c s₁ S0 X0 hx hby hml hret hnm hown hZ e0 cc
  have N0 := Fr.nil Z.heap.size
  have c0 : Go p e below S0 s₁ (mkF m 0 #[.val (.int 1), .val (.int 1)] []) := cc.trans (XT.entry rfl)
  have c1 : Go p e below S0 s₁ (mkF m 10 #[.val (.int 1), .val (.int 1)] [(.int 1)]) := c0.trans (by
    refine XS.iloadN X0.here hx rfl (hb hby d1_0) rfl ?_
    refine XS.iloadN X0.here hx rfl (hb hby d1_1) rfl ?_
    refine XS.icmpNo X0.here hx rfl (hb hby d1_2) rfl (flt (by decide : ¬ ((1 : Int32) < (1 : Int32)))).2.2.1 ?_
    refine XS.iloadN X0.here hx rfl (hb hby d1_5) rfl ?_
    refine XS.goto X0.here hx rfl (pc0 := 6) (pc' := 10) rfl (hb hby d1_6) (by decide) (by decide) ?_
    exact .refl _)
  refine ⟨s₁, (some (.int 1)), _, _, _, X0, by decide, by decide, (fun q => by cases q), N0, ?_, fun fs hr => ?_⟩
  · rw [e0]
    exact ⟨rfl, rfl⟩
  · exact c1.trans (retI X0 hx hret (hb hby d1_10) hr)
theorem rmL1I1 (l : Launch) (Z : State) (a0 : Array Value) (hw : own_W Z a0) (t : Addr) (kb : ClassId) (k : Int32) (xa : Int32) (h0 : Heap) (O0 : Old Z Z.heap.size h0) (Kt : Arv Z h0 t kb .byte (1 : Int32) [(.int (xa.toInt8.toInt32))] (.int (0 : Int32))) (hk : own_B k) (hBxa : own_B xa) :
    own_NC l Z (⟨"java/lang/StringLatin1", "indexOf", "([BIII)I"⟩ : MethodName) jdk_43_method_22_code 4 (some .int) ({ frames := 1, cells := 0, slots := 0, locals := 20 } : Room) #[(.ref t), (.int k), (.int 0), (.int 1)] h0 (fun v h => (∃ r : Int32, v = some (.int r) ∧ decide (r < (0 : Int32)) = !own_has [xa] k) ∧ h = h0) := by
  refine own_nc (plainFor_of_name pnl1) ?_
  intro p e s m below meth c s₁ S0 X0 hx hby hml hret hnm hown hZ e0 cc
  have N0 := Fr.nil Z.heap.size
  have c0 : Go p e below S0 s₁ (mkF m 0 #[.val (.ref t), .val (.int k), .val (.int 0), .val (.int 1)] []) := cc.trans (XT.entry rfl)
  have c1 : Go p e below S0 s₁ (mkF m 1 #[.val (.ref t), .val (.int k), .val (.int 0), .val (.int 1)] [(.int k)]) := c0.trans (by
    refine XS.iloadN X0.here hx rfl (hb hby d12_0) rfl ?_
    exact .refl _)
  obtain ⟨v2, T2, L2, X2, ⟨N2', rfl, e2⟩, c2'⟩ := own_stat X0 hx hml hZ hown (gw hw 64 rfl) (gw hw 65 rfl) (gw hw 62 rfl) (gw hw 66 rfl) (by decide) (kc := 0) (ks := 0) (h := h0) (W := 0) (argsL := [(.int k)]) (rest := []) (own_pay (W := 0) (rmCan l Z a0 hw k h0 O0 hk) hZ (gw hw 66 rfl) (gw hw 62 rfl) (by decide) (by decide)) c1 (lenOf pd_0 rfl) rfl (hb hby d12_1) e0
  have N2 := Fr.app N0 N2'
  have c2 : Go p e below S0 T2 (mkF m 4 #[.val (.ref t), .val (.int k), .val (.int 0), .val (.int 1)] [(.int 1)]) := c2'
  have c3 : Go p e below S0 T2 (mkF m 11 #[.val (.ref t), .val (.int k), .val (.int 0), .val (.int 1)] [(.int 0), (.int 0)]) := c2.trans (by
    refine XS.ifYes X2.here hx rfl (pc0 := 4) (pc' := 9) rfl (hb hby d12_4) rfl ((if0 _ _).trans (feq (by decide : ¬ ((1 : Int32) = (0 : Int32)))).2) (by decide) (by decide) ?_
    refine XS.iloadN X2.here hx rfl (hb hby d12_9) rfl ?_
    refine XS.iconst X2.here hx rfl (hb hby d12_10) ?_
    exact .refl _)
  obtain ⟨v4, T4, L4, X4, ⟨N4', rfl, e4⟩, c4'⟩ := own_stat X2 hx hml hZ hown (gw hw 67 rfl) (gw hw 68 rfl) (gw hw 2 rfl) (gw hw 69 rfl) (by decide) (kc := 0) (ks := 0) (h := h0) (W := 0) (argsL := [(.int 0), (.int 0)]) (rest := []) (own_pay (W := 0) (rmMax_0_0 l Z a0 hw h0 O0) hZ (gw hw 69 rfl) (gw hw 2 rfl) (by decide) (by decide)) c3 (lenOf pd_1 rfl) rfl (hb hby d12_11) e2
  have N4 := Fr.app N2 N4'
  have c4 : Go p e below S0 T4 (mkF m 14 #[.val (.ref t), .val (.int k), .val (.int 0), .val (.int 1)] [(.int 0)]) := c4'
  obtain ⟨cl5, Ar5, q5, S5, M5, H5, G5⟩ := id Kt
  have c6 : Go p e below S0 T4 (mkF m 18 #[.val (.ref t), .val (.int k), .val (.int 0), .val (.int 1)] [(.int 1), (.int 1)]) := c4.trans (by
    refine XS.istoreN X4.here hx rfl (hb hby d12_14) rfl (l' := #[.val (.ref t), .val (.int k), .val (.int 0), .val (.int 1)]) rfl ?_
    refine XS.iloadN X4.here hx rfl (hb hby d12_15) rfl ?_
    refine XS.aloadN X4.here hx rfl (hb hby d12_16) rfl rfl ?_
    refine X4.arraylength hx (by rw [show T4.heap = h0 from e4]; exact Ar5.1) (State.isArrayOf_alike (hZ).alike Ar5.2.1) (g := (mkF m 17 #[.val (.ref t), .val (.int k), .val (.int 0), .val (.int 1)] [(.ref t), (.int 1)])) rfl rfl (hb hby d12_17) _ ?_
    rw [len_of S5 M5]
    exact .refl _)
  obtain ⟨v7, T7, L7, X7, ⟨N7', rfl, e7⟩, c7'⟩ := own_stat X4 hx hml hZ hown (gw hw 70 rfl) (gw hw 1 rfl) (gw hw 2 rfl) (gw hw 3 rfl) (by decide) (kc := 0) (ks := 0) (h := h0) (W := 0) (argsL := [(.int 1), (.int 1)]) (rest := []) (own_pay (W := 0) (rmMin_1_1 l Z a0 hw h0 O0) hZ (gw hw 3 rfl) (gw hw 2 rfl) (by decide) (by decide)) c6 (lenOf pd_1 rfl) rfl (hb hby d12_18) e4
  have N7 := Fr.app N4 N7'
  have c7 : Go p e below S0 T7 (mkF m 21 #[.val (.ref t), .val (.int k), .val (.int 0), .val (.int 1)] [(.int 1)]) := c7'
  have c8 : Go p e below S0 T7 (mkF m 33 #[.val (.ref t), .val (.int k), .val (.int 0), .val (.int 1)] [(.int 1), (.int 0), (.int k), (.ref t)]) := c7.trans (by
    refine XS.istoreN X7.here hx rfl (hb hby d12_21) rfl (l' := #[.val (.ref t), .val (.int k), .val (.int 0), .val (.int 1)]) rfl ?_
    refine XS.iloadN X7.here hx rfl (hb hby d12_22) rfl ?_
    refine XS.iloadN X7.here hx rfl (hb hby d12_23) rfl ?_
    refine XS.icmpYes X7.here hx rfl (pc0 := 24) (pc' := 29) rfl (hb hby d12_24) rfl (tlt (by decide : (0 : Int32) < (1 : Int32))).1 (by decide) (by decide) ?_
    refine XS.aloadN X7.here hx rfl (hb hby d12_29) rfl rfl ?_
    refine XS.iloadN X7.here hx rfl (hb hby d12_30) rfl ?_
    refine XS.iloadN X7.here hx rfl (hb hby d12_31) rfl ?_
    refine XS.iloadN X7.here hx rfl (hb hby d12_32) rfl ?_
    exact .refl _)
  obtain ⟨v9, T9, L9, X9, ⟨N9', ⟨r9, rfl, hr9⟩, e9⟩, c9'⟩ := own_stat X7 hx hml hZ hown (gw hw 84 rfl) (gw hw 85 rfl) (gw hw 62 rfl) (gw hw 86 rfl) (by decide) (kc := 0) (ks := 0) (h := h0) (W := 0) (argsL := [(.ref t), (.int k), (.int 0), (.int 1)]) (rest := []) (own_pay (W := 0) (rmL1C1 l Z a0 hw t kb k xa h0 O0 Kt hk hBxa) hZ (gw hw 86 rfl) (gw hw 62 rfl) (by decide) (by decide)) c8 (lenOf pd_4 rfl) rfl (hb hby d12_33) e7
  have N9 := Fr.app N7 N9'
  have c9 : Go p e below S0 T9 (mkF m 36 #[.val (.ref t), .val (.int k), .val (.int 0), .val (.int 1)] [(.int r9)]) := c9'
  refine ⟨T9, (some (.int r9)), _, _, _, X9, by decide, by decide, (fun q => by cases q), N9, ?_, fun fs hr => ?_⟩
  · rw [e9]
    exact ⟨⟨_, rfl, hr9⟩, rfl⟩
  · exact c9.trans (retI X9 hx hret (hb hby d12_36) hr)
theorem rmIxIIL1 (l : Launch) (Z : State) (a0 : Array Value) (hw : own_W Z a0) (x t : Addr) (kb : ClassId) (k : Int32) (xa : Int32) (z : Int32) (fm : Value) (h0 : Heap) (O0 : Old Z Z.heap.size h0) (E : Exa Z h0 x "java/lang/String") (V : Fld Z h0 x "java/lang/String" "value" "[B" (.ref t)) (Cd : Fld Z h0 x "java/lang/String" "coder" "B" (.int (0 : Int32))) (K : Arv Z h0 t kb .byte (Int32.ofNat ([xa] : List Int32).length) ((([xa] : List Int32).map (fun c : Int32 => c.toInt8.toInt32)).map Value.int) (.int (0 : Int32))) (hk : own_B k) (hBxa : own_B xa) (hs : own_S Z z fm) :
    own_NC l Z (⟨"java/lang/String", "indexOf", "(II)I"⟩ : MethodName) jdk_42_method_80_code 3 (some .int) ({ frames := 2, cells := 0, slots := 0, locals := 60 } : Room) #[(.ref x), (.int k), (.int 0)] h0 (fun v h => (∃ r : Int32, v = some (.int r) ∧ decide (r < (0 : Int32)) = !own_has [xa] k) ∧ h = h0) := by
  refine own_nc (plainFor_of_name pnl2) ?_
  intro p e s m below meth c s₁ S0 X0 hx hby hml hret hnm hown hZ e0 cc
  have N0 := Fr.nil Z.heap.size
  have c0 : Go p e below S0 s₁ (mkF m 0 #[.val (.ref x), .val (.int k), .val (.int 0)] []) := cc.trans (XT.entry rfl)
  obtain ⟨SC, hz, SF, hfm, SA, SH, SL⟩ := id hs
  have c1 : Go p e below S0 s₁ (mkF m 1 #[.val (.ref x), .val (.int k), .val (.int 0)] [(.ref x)]) := c0.trans (by
    refine XS.aloadN X0.here hx rfl (hb hby d8_0) rfl rfl ?_
    exact .refl _)
  obtain ⟨v2, T2, L2, X2, ⟨N2', rfl, e2⟩, c2'⟩ := own_virt X0 hx hml hZ hown (gw hw 44 rfl) (gw hw 45 rfl) (gw hw 47 rfl) (gw hw 46 rfl) (gw hw 47 rfl) (by decide) (kc := 0) (ks := 0) (h := h0) (W := 0) (b := x) (argsL := []) (rest := []) (own_pay (W := 0) (rmIsL l Z a0 hw x z fm h0 O0 Cd hs) hZ (gw hw 48 rfl) (gw hw 11 rfl) (by decide) (by decide)) E c1 (lenOf pd_2 rfl) rfl (hb hby d8_1) e0
  have N2 := Fr.app N0 N2'
  have c2 : Go p e below S0 T2 (mkF m 4 #[.val (.ref x), .val (.int k), .val (.int 0)] [(.int 1)]) := c2'
  obtain ⟨T3, X3, e3, st3⟩ := getF X2 hx hZ hown (host := "") (Or.inl (gw hw 28 rfl)) Via.refl e2 V (g := (mkF m 8 #[.val (.ref x), .val (.int k), .val (.int 0)] [(.ref x)])) rfl rfl (hb hby d8_8)
  have c4 : Go p e below S0 T3 (mkF m 14 #[.val (.ref x), .val (.int k), .val (.int 0)] [(.ref x), (.int 0), (.int k), (.ref t)]) := c2.trans (by
    refine XS.ifNo X2.here hx rfl (hb hby d8_4) rfl ((if0 _ _).trans (feq (by decide : ¬ ((1 : Int32) = (0 : Int32)))).1) ?_
    refine XS.aloadN X2.here hx rfl (hb hby d8_7) rfl rfl ?_
    refine st3 _ ?_
    refine XS.iloadN X3.here hx rfl (hb hby d8_11) rfl ?_
    refine XS.iloadN X3.here hx rfl (hb hby d8_12) rfl ?_
    refine XS.aloadN X3.here hx rfl (hb hby d8_13) rfl rfl ?_
    exact .refl _)
  obtain ⟨v5, T5, L5, X5, ⟨rfl, rfl, e5⟩, c5'⟩ := own_virt X3 hx hml hZ hown (gw hw 50 rfl) (gw hw 51 rfl) (gw hw 53 rfl) (gw hw 52 rfl) (gw hw 53 rfl) (by decide) (Q := fun v h' L => v = some (.int (Int32.ofNat ([xa] : List Int32).length)) ∧ L = [] ∧ h' = h0) (kc := 0) (ks := 0) (h := h0) (W := 3) (b := x) (argsL := []) (rest := [(.int 0), (.int k), (.ref t)]) (StrChars.Road.lenW (s := s) (R := ({ frames := 2, cells := 0, slots := 0, locals := 60 } : Room)) (W := 3) hZ (own_wl hw) (kI := 4) (gw hw 10 rfl) (cs := [xa]) E V Cd K (StrChars.Road.codOf (n := ([xa] : List Int32).length) rfl (fun c hc => ((own_cons hBxa own_nil) c hc).rng.2)) (fun c hc => ((own_cons hBxa own_nil) c hc).rng2) (SC.ext O0.2) hz (Nat.le_of_ble_eq_true rfl) (by decide) (by decide)) E c4 (lenOf pd_3 rfl) rfl (hb hby d8_14) e3
  have N5 := Fr.app N2 (Fr.nil _)
  have c5 : Go p e below S0 T5 (mkF m 17 #[.val (.ref x), .val (.int k), .val (.int 0)] [(.int 1), (.int 0), (.int k), (.ref t)]) := c5'
  obtain ⟨v6, T6, L6, X6, ⟨N6', ⟨r6, rfl, hr6⟩, e6⟩, c6'⟩ := own_stat X5 hx hml hZ hown (gw hw 60 rfl) (gw hw 61 rfl) (gw hw 62 rfl) (gw hw 63 rfl) (by decide) (kc := 0) (ks := 0) (h := h0) (W := 0) (argsL := [(.ref t), (.int k), (.int 0), (.int 1)]) (rest := []) (own_pay (W := 0) (rmL1I1 l Z a0 hw t kb k xa h0 O0 K hk hBxa) hZ (gw hw 63 rfl) (gw hw 62 rfl) (by decide) (by decide)) c5 (lenOf pd_4 rfl) rfl (hb hby d8_17) e5
  have N6 := Fr.app N5 N6'
  have c6 : Go p e below S0 T6 (mkF m 20 #[.val (.ref x), .val (.int k), .val (.int 0)] [(.int r6)]) := c6'
  have c7 : Go p e below S0 T6 (mkF m 36 #[.val (.ref x), .val (.int k), .val (.int 0)] [(.int r6)]) := c6.trans (by
    refine XS.goto X6.here hx rfl (pc0 := 20) (pc' := 36) rfl (hb hby d8_20) (by decide) (by decide) ?_
    exact .refl _)
  refine ⟨T6, (some (.int r6)), _, _, _, X6, by decide, by decide, (fun q => by cases q), N6, ?_, fun fs hr => ?_⟩
  · rw [e6]
    exact ⟨⟨_, rfl, hr6⟩, rfl⟩
  · exact c7.trans (retI X6 hx hret (hb hby d8_36) hr)
theorem rmIxL1 (l : Launch) (Z : State) (a0 : Array Value) (hw : own_W Z a0) (x t : Addr) (kb : ClassId) (k : Int32) (xa : Int32) (z : Int32) (fm : Value) (h0 : Heap) (O0 : Old Z Z.heap.size h0) (E : Exa Z h0 x "java/lang/String") (V : Fld Z h0 x "java/lang/String" "value" "[B" (.ref t)) (Cd : Fld Z h0 x "java/lang/String" "coder" "B" (.int (0 : Int32))) (K : Arv Z h0 t kb .byte (Int32.ofNat ([xa] : List Int32).length) ((([xa] : List Int32).map (fun c : Int32 => c.toInt8.toInt32)).map Value.int) (.int (0 : Int32))) (hk : own_B k) (hBxa : own_B xa) (hs : own_S Z z fm) :
    own_NC l Z (⟨"java/lang/String", "indexOf", "(I)I"⟩ : MethodName) jdk_42_method_79_code 2 (some .int) ({ frames := 3, cells := 0, slots := 0, locals := 80 } : Room) #[(.ref x), (.int k)] h0 (fun v h => (∃ r : Int32, v = some (.int r) ∧ decide (r < (0 : Int32)) = !own_has [xa] k) ∧ h = h0) := by
  refine own_nc (plainFor_of_name pnl2) ?_
  intro p e s m below meth c s₁ S0 X0 hx hby hml hret hnm hown hZ e0 cc
  have N0 := Fr.nil Z.heap.size
  have c0 : Go p e below S0 s₁ (mkF m 0 #[.val (.ref x), .val (.int k)] []) := cc.trans (XT.entry rfl)
  obtain ⟨SC, hz, SF, hfm, SA, SH, SL⟩ := id hs
  have c1 : Go p e below S0 s₁ (mkF m 3 #[.val (.ref x), .val (.int k)] [(.int 0), (.int k), (.ref x)]) := c0.trans (by
    refine XS.aloadN X0.here hx rfl (hb hby d7_0) rfl rfl ?_
    refine XS.iloadN X0.here hx rfl (hb hby d7_1) rfl ?_
    refine XS.iconst X0.here hx rfl (hb hby d7_2) ?_
    exact .refl _)
  obtain ⟨v2, T2, L2, X2, ⟨N2', ⟨r2, rfl, hr2⟩, e2⟩, c2'⟩ := own_virt X0 hx hml hZ hown (gw hw 39 rfl) (gw hw 40 rfl) (gw hw 42 rfl) (gw hw 41 rfl) (gw hw 42 rfl) (by decide) (kc := 0) (ks := 0) (h := h0) (W := 0) (b := x) (argsL := [(.int k), (.int 0)]) (rest := []) (own_pay (W := 0) (rmIxIIL1 l Z a0 hw x t kb k xa z fm h0 O0 E V Cd K hk hBxa hs) hZ (gw hw 43 rfl) (gw hw 11 rfl) (by decide) (by decide)) E c1 (lenOf pd_1 rfl) rfl (hb hby d7_3) e0
  have N2 := Fr.app N0 N2'
  have c2 : Go p e below S0 T2 (mkF m 6 #[.val (.ref x), .val (.int k)] [(.int r2)]) := c2'
  refine ⟨T2, (some (.int r2)), _, _, _, X2, by decide, by decide, (fun q => by cases q), N2, ?_, fun fs hr => ?_⟩
  · rw [e2]
    exact ⟨⟨_, rfl, hr2⟩, rfl⟩
  · exact c2.trans (retI X2 hx hret (hb hby d7_6) hr)
theorem rmFitL1 (l : Launch) (Z : State) (a0 : Array Value) (hw : own_W Z a0) (x t : Addr) (kb : ClassId) (xa : Int32) (z : Int32) (fm : Value) (h0 : Heap) (O0 : Old Z Z.heap.size h0) (E : Exa Z h0 x "java/lang/String") (V : Fld Z h0 x "java/lang/String" "value" "[B" (.ref t)) (Cd : Fld Z h0 x "java/lang/String" "coder" "B" (.int (0 : Int32))) (K : Arv Z h0 t kb .byte (Int32.ofNat ([xa] : List Int32).length) ((([xa] : List Int32).map (fun c : Int32 => c.toInt8.toInt32)).map Value.int) (.int (0 : Int32))) (hBxa : own_B xa) (hs : own_S Z z fm) :
    own_NC l Z (⟨"com/example/caseward/caseward/core/Right", "fitsField", "(Ljava/lang/String;)Z"⟩ : MethodName) prog_47_method_5_code 1 (some .boolean) ({ frames := 4, cells := 0, slots := 0, locals := 100 } : Room) #[(.ref x)] h0 (fun v h => v = some (.int (own_i (!own_has [xa] (44 : Int32) && !own_has [xa] (10 : Int32) && !own_has [xa] (13 : Int32)))) ∧ h = h0) := by
  refine own_nc (plainFor_of_name pnl3) ?_
  intro p e s m below meth c s₁ S0 X0 hx hby hml hret hnm hown hZ e0 cc
  have N0 := Fr.nil Z.heap.size
  have c0 : Go p e below S0 s₁ (mkF m 0 #[.val (.ref x)] []) := cc.trans (XT.entry rfl)
  obtain ⟨SC, hz, SF, hfm, SA, SH, SL⟩ := id hs
  have c1 : Go p e below S0 s₁ (mkF m 3 #[.val (.ref x)] [(.int 44), (.ref x)]) := c0.trans (by
    refine XS.aloadN X0.here hx rfl (hb hby d6_0) rfl rfl ?_
    refine XS.bipush X0.here hx rfl (hb hby d6_1) ?_
    exact .refl _)
  obtain ⟨v2, T2, L2, X2, ⟨N2', ⟨r2, rfl, hr2⟩, e2⟩, c2'⟩ := own_virt X0 hx hml hZ hown (gw hw 34 rfl) (gw hw 35 rfl) (gw hw 37 rfl) (gw hw 36 rfl) (gw hw 37 rfl) (by decide) (kc := 0) (ks := 0) (h := h0) (W := 0) (b := x) (argsL := [(.int 44)]) (rest := []) (own_pay (W := 0) (rmIxL1 l Z a0 hw x t kb (44 : Int32) xa z fm h0 O0 E V Cd K (own_Bl 44 (by decide)) hBxa hs) hZ (gw hw 38 rfl) (gw hw 11 rfl) (by decide) (by decide)) E c1 (lenOf pd_5 rfl) rfl (hb hby d6_3) e0
  have N2 := Fr.app N0 N2'
  have c2 : Go p e below S0 T2 (mkF m 6 #[.val (.ref x)] [(.int r2)]) := c2'
  by_cases hc3 : r2 < (0 : Int32)
  · skip
    have c4 : Go p e below S0 T2 (mkF m 12 #[.val (.ref x)] [(.int 10), (.ref x)]) := c2.trans (by
      refine XS.ifNo X2.here hx rfl (hb hby d6_6) rfl ((if0 _ _).trans (tlt hc3).2.1) ?_
      refine XS.aloadN X2.here hx rfl (hb hby d6_9) rfl rfl ?_
      refine XS.bipush X2.here hx rfl (hb hby d6_10) ?_
      exact .refl _)
    obtain ⟨v5, T5, L5, X5, ⟨N5', ⟨r5, rfl, hr5⟩, e5⟩, c5'⟩ := own_virt X2 hx hml hZ hown (gw hw 34 rfl) (gw hw 35 rfl) (gw hw 37 rfl) (gw hw 36 rfl) (gw hw 37 rfl) (by decide) (kc := 0) (ks := 0) (h := h0) (W := 0) (b := x) (argsL := [(.int 10)]) (rest := []) (own_pay (W := 0) (rmIxL1 l Z a0 hw x t kb (10 : Int32) xa z fm h0 O0 E V Cd K (own_Bl 10 (by decide)) hBxa hs) hZ (gw hw 38 rfl) (gw hw 11 rfl) (by decide) (by decide)) E c4 (lenOf pd_5 rfl) rfl (hb hby d6_12) e2
    have N5 := Fr.app N2 N5'
    have c5 : Go p e below S0 T5 (mkF m 15 #[.val (.ref x)] [(.int r5)]) := c5'
    by_cases hc6 : r5 < (0 : Int32)
    · skip
      have c7 : Go p e below S0 T5 (mkF m 21 #[.val (.ref x)] [(.int 13), (.ref x)]) := c5.trans (by
        refine XS.ifNo X5.here hx rfl (hb hby d6_15) rfl ((if0 _ _).trans (tlt hc6).2.1) ?_
        refine XS.aloadN X5.here hx rfl (hb hby d6_18) rfl rfl ?_
        refine XS.bipush X5.here hx rfl (hb hby d6_19) ?_
        exact .refl _)
      obtain ⟨v8, T8, L8, X8, ⟨N8', ⟨r8, rfl, hr8⟩, e8⟩, c8'⟩ := own_virt X5 hx hml hZ hown (gw hw 34 rfl) (gw hw 35 rfl) (gw hw 37 rfl) (gw hw 36 rfl) (gw hw 37 rfl) (by decide) (kc := 0) (ks := 0) (h := h0) (W := 0) (b := x) (argsL := [(.int 13)]) (rest := []) (own_pay (W := 0) (rmIxL1 l Z a0 hw x t kb (13 : Int32) xa z fm h0 O0 E V Cd K (own_Bl 13 (by decide)) hBxa hs) hZ (gw hw 38 rfl) (gw hw 11 rfl) (by decide) (by decide)) E c7 (lenOf pd_5 rfl) rfl (hb hby d6_21) e5
      have N8 := Fr.app N5 N8'
      have c8 : Go p e below S0 T8 (mkF m 24 #[.val (.ref x)] [(.int r8)]) := c8'
      by_cases hc9 : r8 < (0 : Int32)
      · skip
        have c10 : Go p e below S0 T8 (mkF m 32 #[.val (.ref x)] [(.int 1)]) := c8.trans (by
          refine XS.ifNo X8.here hx rfl (hb hby d6_24) rfl ((if0 _ _).trans (tlt hc9).2.1) ?_
          refine XS.iconst X8.here hx rfl (hb hby d6_27) ?_
          refine XS.goto X8.here hx rfl (pc0 := 28) (pc' := 32) rfl (hb hby d6_28) (by decide) (by decide) ?_
          exact .refl _)
        refine ⟨T8, (some (.int (1 : Int32))), _, _, _, X8, by decide, by decide, (fun q => by cases q), N8, ?_, fun fs hr => ?_⟩
        · rw [e8]
          have q2' := own_rdec hr2
          have q5' := own_rdec hr5
          have q8' := own_rdec hr8
          exact ⟨by simp [own_i, (q2').mpr hc3, (q5').mpr hc6, (q8').mpr hc9], rfl⟩
        · exact c10.trans (retN X8 hx (t := .boolean) hret (by simp) (hb hby d6_32) hr)
      · skip
        have c12 : Go p e below S0 T8 (mkF m 32 #[.val (.ref x)] [(.int 0)]) := c8.trans (by
          refine XS.ifYes X8.here hx rfl (pc0 := 24) (pc' := 31) rfl (hb hby d6_24) rfl ((if0 _ _).trans (flt hc9).2.1) (by decide) (by decide) ?_
          refine XS.iconst X8.here hx rfl (hb hby d6_31) ?_
          exact .refl _)
        refine ⟨T8, (some (.int (0 : Int32))), _, _, _, X8, by decide, by decide, (fun q => by cases q), N8, ?_, fun fs hr => ?_⟩
        · rw [e8]
          have q2' := own_rdec hr2
          have q5' := own_rdec hr5
          have q8' := own_rdec hr8
          exact ⟨by simp [own_i, (q2').mpr hc3, (q5').mpr hc6, (show _ = false from Bool.eq_false_iff.mpr (fun z => hc9 ((q8').mp z)))], rfl⟩
        · exact c12.trans (retN X8 hx (t := .boolean) hret (by simp) (hb hby d6_32) hr)
    · skip
      have c14 : Go p e below S0 T5 (mkF m 32 #[.val (.ref x)] [(.int 0)]) := c5.trans (by
        refine XS.ifYes X5.here hx rfl (pc0 := 15) (pc' := 31) rfl (hb hby d6_15) rfl ((if0 _ _).trans (flt hc6).2.1) (by decide) (by decide) ?_
        refine XS.iconst X5.here hx rfl (hb hby d6_31) ?_
        exact .refl _)
      refine ⟨T5, (some (.int (0 : Int32))), _, _, _, X5, by decide, by decide, (fun q => by cases q), N5, ?_, fun fs hr => ?_⟩
      · rw [e5]
        have q2' := own_rdec hr2
        have q5' := own_rdec hr5
        exact ⟨by simp [own_i, (q2').mpr hc3, (show _ = false from Bool.eq_false_iff.mpr (fun z => hc6 ((q5').mp z)))], rfl⟩
      · exact c14.trans (retN X5 hx (t := .boolean) hret (by simp) (hb hby d6_32) hr)
  · skip
    have c16 : Go p e below S0 T2 (mkF m 32 #[.val (.ref x)] [(.int 0)]) := c2.trans (by
      refine XS.ifYes X2.here hx rfl (pc0 := 6) (pc' := 31) rfl (hb hby d6_6) rfl ((if0 _ _).trans (flt hc3).2.1) (by decide) (by decide) ?_
      refine XS.iconst X2.here hx rfl (hb hby d6_31) ?_
      exact .refl _)
    refine ⟨T2, (some (.int (0 : Int32))), _, _, _, X2, by decide, by decide, (fun q => by cases q), N2, ?_, fun fs hr => ?_⟩
    · rw [e2]
      have q2' := own_rdec hr2
      exact ⟨by simp [own_i, (show _ = false from Bool.eq_false_iff.mpr (fun z => hc3 ((q2').mp z)))], rfl⟩
    · exact c16.trans (retN X2 hx (t := .boolean) hret (by simp) (hb hby d6_32) hr)
theorem rmL1C2 (l : Launch) (Z : State) (a0 : Array Value) (hw : own_W Z a0) (t : Addr) (kb : ClassId) (k : Int32) (xa xb : Int32) (h0 : Heap) (O0 : Old Z Z.heap.size h0) (Kt : Arv Z h0 t kb .byte (2 : Int32) [(.int (xa.toInt8.toInt32)), (.int (xb.toInt8.toInt32))] (.int (0 : Int32))) (hk : own_B k) (hBxa : own_B xa) (hBxb : own_B xb) :
    own_NC l Z (⟨"java/lang/StringLatin1", "indexOfChar", "([BIII)I"⟩ : MethodName) jdk_43_method_23_code 6 (some .int) ({ frames := 0, cells := 0, slots := 0, locals := 0 } : Room) #[(.ref t), (.int k), (.int 0), (.int 2)] h0 (fun v h => (∃ r : Int32, v = some (.int r) ∧ decide (r < (0 : Int32)) = !own_has [xa, xb] k) ∧ h = h0) := by
  refine own_nc (plainFor_of_name pnl1) ?_
  intro p e s m below meth c s₁ S0 X0 hx hby hml hret hnm hown hZ e0 cc
  have N0 := Fr.nil Z.heap.size
  have c0 : Go p e below S0 s₁ (mkF m 0 #[.val (.ref t), .val (.int k), .val (.int 0), .val (.int 2), .unset, .unset] []) := cc.trans (XT.entry rfl)
  obtain ⟨cl1, Ar1, q1, S1, M1, H1, G1⟩ := id Kt
  have hin1 : ¬ ((0 : Int32) < 0 ∨ cl1.slots.size ≤ ((0 : Int32)).toNatClampNeg) := inb_of S1 ⟨by decide, by decide⟩
  have hat1 := Has.at (v := .int (xa.toInt8.toInt32)) H1 hin1 rfl
  have c2 : Go p e below S0 s₁ (mkF m 19 #[.val (.ref t), .val (.int k), .val (.int 0), .val (.int 2), .val (.int (k.toInt8.toInt32)), .val (.int 0)] [(.int (k.toInt8.toInt32)), (.int (xa.toInt8.toInt32))]) := c0.trans (by
    refine XS.iloadN X0.here hx rfl (hb hby d19_0) rfl ?_
    refine XS.i2b X0.here hx rfl (hb hby d19_1) rfl ?_
    refine XS.istore X0.here hx rfl (hb hby d19_2) rfl (l' := #[.val (.ref t), .val (.int k), .val (.int 0), .val (.int 2), .val (.int (k.toInt8.toInt32)), .unset]) rfl ?_
    refine XS.iloadN X0.here hx rfl (hb hby d19_4) rfl ?_
    refine XS.istore X0.here hx rfl (hb hby d19_5) rfl (l' := #[.val (.ref t), .val (.int k), .val (.int 0), .val (.int 2), .val (.int (k.toInt8.toInt32)), .val (.int 0)]) rfl ?_
    refine XS.iload X0.here hx rfl (hb hby d19_7) rfl ?_
    refine XS.iloadN X0.here hx rfl (hb hby d19_9) rfl ?_
    refine XS.icmpNo X0.here hx rfl (hb hby d19_10) rfl (tlt (by decide : (0 : Int32) < (2 : Int32))).2.1 ?_
    refine XS.aloadN X0.here hx rfl (hb hby d19_13) rfl rfl ?_
    show Steps p.tables e below (s₁.setTop (mkF m 14 #[.val (.ref t), .val (.int k), .val (.int 0), .val (.int 2), .val (.int (k.toInt8.toInt32)), .val (.int 0)] [(.ref t)])) _
    refine XS.iload X0.here hx rfl (hb hby d19_14) rfl ?_
    refine X0.baloadBytes hx (cell := cl1) (by rw [show s₁.heap = h0 from e0]; exact Ar1.1) (State.isArrayOf_alike (hZ).alike Ar1.2.1) Ar1.2.2 hin1 hat1 (g := (mkF m 16 #[.val (.ref t), .val (.int k), .val (.int 0), .val (.int 2), .val (.int (k.toInt8.toInt32)), .val (.int 0)] [(.int 0), (.ref t)])) rfl rfl (hb hby d19_16) _ ?_
    refine XS.iload X0.here hx rfl (hb hby d19_17) rfl ?_
    exact .refl _)
  by_cases hc3 : (xa.toInt8.toInt32) = (k.toInt8.toInt32)
  · skip
    have c4 : Go p e below S0 s₁ (mkF m 24 #[.val (.ref t), .val (.int k), .val (.int 0), .val (.int 2), .val (.int (k.toInt8.toInt32)), .val (.int 0)] [(.int 0)]) := c2.trans (by
      refine XS.icmpNo X0.here hx rfl (hb hby d19_19) rfl (teq hc3).2 ?_
      refine XS.iload X0.here hx rfl (hb hby d19_22) rfl ?_
      exact .refl _)
    refine ⟨s₁, (some (.int 0)), _, _, _, X0, by decide, by decide, (fun q => by cases q), N0, ?_, fun fs hr => ?_⟩
    · rw [e0]
      simp only [hBxa.inj hk, hBxb.inj hk] at hc3
      exact ⟨⟨_, rfl, by simp [own_has, hc3]⟩, rfl⟩
    · exact c4.trans (retI X0 hx hret (hb hby d19_24) hr)
  · skip
    obtain ⟨cl6, Ar6, q6, S6, M6, H6, G6⟩ := id Kt
    have hin6 : ¬ ((1 : Int32) < 0 ∨ cl6.slots.size ≤ ((1 : Int32)).toNatClampNeg) := inb_of S6 ⟨by decide, by decide⟩
    have hat6 := Has.at (v := .int (xb.toInt8.toInt32)) H6 hin6 rfl
    have c7 : Go p e below S0 s₁ (mkF m 19 #[.val (.ref t), .val (.int k), .val (.int 0), .val (.int 2), .val (.int (k.toInt8.toInt32)), .val (.int 1)] [(.int (k.toInt8.toInt32)), (.int (xb.toInt8.toInt32))]) := c2.trans (by
      refine XS.icmpYes X0.here hx rfl (pc0 := 19) (pc' := 25) rfl (hb hby d19_19) rfl (feq hc3).2 (by decide) (by decide) ?_
      refine XS.iinc X0.here hx rfl (hb hby d19_25) rfl (l' := #[.val (.ref t), .val (.int k), .val (.int 0), .val (.int 2), .val (.int (k.toInt8.toInt32)), .val (.int 1)]) rfl ?_
      refine XS.goto X0.here hx rfl (pc0 := 28) (pc' := 7) rfl (hb hby d19_28) (by decide) (by decide) ?_
      refine XS.iload X0.here hx rfl (hb hby d19_7) rfl ?_
      refine XS.iloadN X0.here hx rfl (hb hby d19_9) rfl ?_
      refine XS.icmpNo X0.here hx rfl (hb hby d19_10) rfl (tlt (by decide : (1 : Int32) < (2 : Int32))).2.1 ?_
      refine XS.aloadN X0.here hx rfl (hb hby d19_13) rfl rfl ?_
      refine XS.iload X0.here hx rfl (hb hby d19_14) rfl ?_
      refine X0.baloadBytes hx (cell := cl6) (by rw [show s₁.heap = h0 from e0]; exact Ar6.1) (State.isArrayOf_alike (hZ).alike Ar6.2.1) Ar6.2.2 hin6 hat6 (g := (mkF m 16 #[.val (.ref t), .val (.int k), .val (.int 0), .val (.int 2), .val (.int (k.toInt8.toInt32)), .val (.int 1)] [(.int 1), (.ref t)])) rfl rfl (hb hby d19_16) _ ?_
      refine XS.iload X0.here hx rfl (hb hby d19_17) rfl ?_
      show Steps p.tables e below (s₁.setTop (mkF m 19 #[.val (.ref t), .val (.int k), .val (.int 0), .val (.int 2), .val (.int (k.toInt8.toInt32)), .val (.int 1)] [(.int (k.toInt8.toInt32)), (.int (xb.toInt8.toInt32))])) _
      exact .refl _)
    by_cases hc8 : (xb.toInt8.toInt32) = (k.toInt8.toInt32)
    · skip
      have c9 : Go p e below S0 s₁ (mkF m 24 #[.val (.ref t), .val (.int k), .val (.int 0), .val (.int 2), .val (.int (k.toInt8.toInt32)), .val (.int 1)] [(.int 1)]) := c7.trans (by
        refine XS.icmpNo X0.here hx rfl (hb hby d19_19) rfl (teq hc8).2 ?_
        refine XS.iload X0.here hx rfl (hb hby d19_22) rfl ?_
        exact .refl _)
      refine ⟨s₁, (some (.int 1)), _, _, _, X0, by decide, by decide, (fun q => by cases q), N0, ?_, fun fs hr => ?_⟩
      · rw [e0]
        simp only [hBxa.inj hk, hBxb.inj hk] at hc3 hc8
        exact ⟨⟨_, rfl, by simp [own_has, hc3, hc8]⟩, rfl⟩
      · exact c9.trans (retI X0 hx hret (hb hby d19_24) hr)
    · skip
      have c11 : Go p e below S0 s₁ (mkF m 32 #[.val (.ref t), .val (.int k), .val (.int 0), .val (.int 2), .val (.int (k.toInt8.toInt32)), .val (.int 2)] [(.int (-1))]) := c7.trans (by
        refine XS.icmpYes X0.here hx rfl (pc0 := 19) (pc' := 25) rfl (hb hby d19_19) rfl (feq hc8).2 (by decide) (by decide) ?_
        refine XS.iinc X0.here hx rfl (hb hby d19_25) rfl (l' := #[.val (.ref t), .val (.int k), .val (.int 0), .val (.int 2), .val (.int (k.toInt8.toInt32)), .val (.int 2)]) rfl ?_
        refine XS.goto X0.here hx rfl (pc0 := 28) (pc' := 7) rfl (hb hby d19_28) (by decide) (by decide) ?_
        refine XS.iload X0.here hx rfl (hb hby d19_7) rfl ?_
        refine XS.iloadN X0.here hx rfl (hb hby d19_9) rfl ?_
        refine XS.icmpYes X0.here hx rfl (pc0 := 10) (pc' := 31) rfl (hb hby d19_10) rfl (flt (by decide : ¬ ((2 : Int32) < (2 : Int32)))).2.1 (by decide) (by decide) ?_
        refine XS.iconst X0.here hx rfl (hb hby d19_31) ?_
        exact .refl _)
      refine ⟨s₁, (some (.int (-1))), _, _, _, X0, by decide, by decide, (fun q => by cases q), N0, ?_, fun fs hr => ?_⟩
      · rw [e0]
        simp only [hBxa.inj hk, hBxb.inj hk] at hc3 hc8
        exact ⟨⟨_, rfl, by simp [own_has, hc3, hc8]⟩, rfl⟩
      · exact c11.trans (retI X0 hx hret (hb hby d19_32) hr)
theorem rmMin_2_2 (l : Launch) (Z : State) (a0 : Array Value) (hw : own_W Z a0)  (h0 : Heap) (O0 : Old Z Z.heap.size h0)  :
    own_NC l Z (⟨"java/lang/Math", "min", "(II)I"⟩ : MethodName) jdk_29_method_69_code 2 (some .int) ({ frames := 0, cells := 0, slots := 0, locals := 0 } : Room) #[(.int 2), (.int 2)] h0 (fun v h => v = some (.int (2 : Int32)) ∧ h = h0) := by
  refine own_nc (Jvm.Free.JP.mathPlain rfl (by decide +kernel)) ?_
  intro p e s m below meth c s₁ S0 X0 hx hby hml hret hnm hown hZ e0 cc
  have N0 := Fr.nil Z.heap.size
  have c0 : Go p e below S0 s₁ (mkF m 0 #[.val (.int 2), .val (.int 2)] []) := cc.trans (XT.entry rfl)
  have c1 : Go p e below S0 s₁ (mkF m 10 #[.val (.int 2), .val (.int 2)] [(.int 2)]) := c0.trans (by
    refine XS.iloadN X0.here hx rfl (hb hby d1_0) rfl ?_
    refine XS.iloadN X0.here hx rfl (hb hby d1_1) rfl ?_
    refine XS.icmpNo X0.here hx rfl (hb hby d1_2) rfl (flt (by decide : ¬ ((2 : Int32) < (2 : Int32)))).2.2.1 ?_
    refine XS.iloadN X0.here hx rfl (hb hby d1_5) rfl ?_
    refine XS.goto X0.here hx rfl (pc0 := 6) (pc' := 10) rfl (hb hby d1_6) (by decide) (by decide) ?_
    exact .refl _)
  refine ⟨s₁, (some (.int 2)), _, _, _, X0, by decide, by decide, (fun q => by cases q), N0, ?_, fun fs hr => ?_⟩
  · rw [e0]
    exact ⟨rfl, rfl⟩
  · exact c1.trans (retI X0 hx hret (hb hby d1_10) hr)
theorem rmL1I2 (l : Launch) (Z : State) (a0 : Array Value) (hw : own_W Z a0) (t : Addr) (kb : ClassId) (k : Int32) (xa xb : Int32) (h0 : Heap) (O0 : Old Z Z.heap.size h0) (Kt : Arv Z h0 t kb .byte (2 : Int32) [(.int (xa.toInt8.toInt32)), (.int (xb.toInt8.toInt32))] (.int (0 : Int32))) (hk : own_B k) (hBxa : own_B xa) (hBxb : own_B xb) :
    own_NC l Z (⟨"java/lang/StringLatin1", "indexOf", "([BIII)I"⟩ : MethodName) jdk_43_method_22_code 4 (some .int) ({ frames := 1, cells := 0, slots := 0, locals := 20 } : Room) #[(.ref t), (.int k), (.int 0), (.int 2)] h0 (fun v h => (∃ r : Int32, v = some (.int r) ∧ decide (r < (0 : Int32)) = !own_has [xa, xb] k) ∧ h = h0) := by
  refine own_nc (plainFor_of_name pnl1) ?_
  intro p e s m below meth c s₁ S0 X0 hx hby hml hret hnm hown hZ e0 cc
  have N0 := Fr.nil Z.heap.size
  have c0 : Go p e below S0 s₁ (mkF m 0 #[.val (.ref t), .val (.int k), .val (.int 0), .val (.int 2)] []) := cc.trans (XT.entry rfl)
  have c1 : Go p e below S0 s₁ (mkF m 1 #[.val (.ref t), .val (.int k), .val (.int 0), .val (.int 2)] [(.int k)]) := c0.trans (by
    refine XS.iloadN X0.here hx rfl (hb hby d12_0) rfl ?_
    exact .refl _)
  obtain ⟨v2, T2, L2, X2, ⟨N2', rfl, e2⟩, c2'⟩ := own_stat X0 hx hml hZ hown (gw hw 64 rfl) (gw hw 65 rfl) (gw hw 62 rfl) (gw hw 66 rfl) (by decide) (kc := 0) (ks := 0) (h := h0) (W := 0) (argsL := [(.int k)]) (rest := []) (own_pay (W := 0) (rmCan l Z a0 hw k h0 O0 hk) hZ (gw hw 66 rfl) (gw hw 62 rfl) (by decide) (by decide)) c1 (lenOf pd_0 rfl) rfl (hb hby d12_1) e0
  have N2 := Fr.app N0 N2'
  have c2 : Go p e below S0 T2 (mkF m 4 #[.val (.ref t), .val (.int k), .val (.int 0), .val (.int 2)] [(.int 1)]) := c2'
  have c3 : Go p e below S0 T2 (mkF m 11 #[.val (.ref t), .val (.int k), .val (.int 0), .val (.int 2)] [(.int 0), (.int 0)]) := c2.trans (by
    refine XS.ifYes X2.here hx rfl (pc0 := 4) (pc' := 9) rfl (hb hby d12_4) rfl ((if0 _ _).trans (feq (by decide : ¬ ((1 : Int32) = (0 : Int32)))).2) (by decide) (by decide) ?_
    refine XS.iloadN X2.here hx rfl (hb hby d12_9) rfl ?_
    refine XS.iconst X2.here hx rfl (hb hby d12_10) ?_
    exact .refl _)
  obtain ⟨v4, T4, L4, X4, ⟨N4', rfl, e4⟩, c4'⟩ := own_stat X2 hx hml hZ hown (gw hw 67 rfl) (gw hw 68 rfl) (gw hw 2 rfl) (gw hw 69 rfl) (by decide) (kc := 0) (ks := 0) (h := h0) (W := 0) (argsL := [(.int 0), (.int 0)]) (rest := []) (own_pay (W := 0) (rmMax_0_0 l Z a0 hw h0 O0) hZ (gw hw 69 rfl) (gw hw 2 rfl) (by decide) (by decide)) c3 (lenOf pd_1 rfl) rfl (hb hby d12_11) e2
  have N4 := Fr.app N2 N4'
  have c4 : Go p e below S0 T4 (mkF m 14 #[.val (.ref t), .val (.int k), .val (.int 0), .val (.int 2)] [(.int 0)]) := c4'
  obtain ⟨cl5, Ar5, q5, S5, M5, H5, G5⟩ := id Kt
  have c6 : Go p e below S0 T4 (mkF m 18 #[.val (.ref t), .val (.int k), .val (.int 0), .val (.int 2)] [(.int 2), (.int 2)]) := c4.trans (by
    refine XS.istoreN X4.here hx rfl (hb hby d12_14) rfl (l' := #[.val (.ref t), .val (.int k), .val (.int 0), .val (.int 2)]) rfl ?_
    refine XS.iloadN X4.here hx rfl (hb hby d12_15) rfl ?_
    refine XS.aloadN X4.here hx rfl (hb hby d12_16) rfl rfl ?_
    refine X4.arraylength hx (by rw [show T4.heap = h0 from e4]; exact Ar5.1) (State.isArrayOf_alike (hZ).alike Ar5.2.1) (g := (mkF m 17 #[.val (.ref t), .val (.int k), .val (.int 0), .val (.int 2)] [(.ref t), (.int 2)])) rfl rfl (hb hby d12_17) _ ?_
    rw [len_of S5 M5]
    exact .refl _)
  obtain ⟨v7, T7, L7, X7, ⟨N7', rfl, e7⟩, c7'⟩ := own_stat X4 hx hml hZ hown (gw hw 70 rfl) (gw hw 1 rfl) (gw hw 2 rfl) (gw hw 3 rfl) (by decide) (kc := 0) (ks := 0) (h := h0) (W := 0) (argsL := [(.int 2), (.int 2)]) (rest := []) (own_pay (W := 0) (rmMin_2_2 l Z a0 hw h0 O0) hZ (gw hw 3 rfl) (gw hw 2 rfl) (by decide) (by decide)) c6 (lenOf pd_1 rfl) rfl (hb hby d12_18) e4
  have N7 := Fr.app N4 N7'
  have c7 : Go p e below S0 T7 (mkF m 21 #[.val (.ref t), .val (.int k), .val (.int 0), .val (.int 2)] [(.int 2)]) := c7'
  have c8 : Go p e below S0 T7 (mkF m 33 #[.val (.ref t), .val (.int k), .val (.int 0), .val (.int 2)] [(.int 2), (.int 0), (.int k), (.ref t)]) := c7.trans (by
    refine XS.istoreN X7.here hx rfl (hb hby d12_21) rfl (l' := #[.val (.ref t), .val (.int k), .val (.int 0), .val (.int 2)]) rfl ?_
    refine XS.iloadN X7.here hx rfl (hb hby d12_22) rfl ?_
    refine XS.iloadN X7.here hx rfl (hb hby d12_23) rfl ?_
    refine XS.icmpYes X7.here hx rfl (pc0 := 24) (pc' := 29) rfl (hb hby d12_24) rfl (tlt (by decide : (0 : Int32) < (2 : Int32))).1 (by decide) (by decide) ?_
    refine XS.aloadN X7.here hx rfl (hb hby d12_29) rfl rfl ?_
    refine XS.iloadN X7.here hx rfl (hb hby d12_30) rfl ?_
    refine XS.iloadN X7.here hx rfl (hb hby d12_31) rfl ?_
    refine XS.iloadN X7.here hx rfl (hb hby d12_32) rfl ?_
    exact .refl _)
  obtain ⟨v9, T9, L9, X9, ⟨N9', ⟨r9, rfl, hr9⟩, e9⟩, c9'⟩ := own_stat X7 hx hml hZ hown (gw hw 84 rfl) (gw hw 85 rfl) (gw hw 62 rfl) (gw hw 86 rfl) (by decide) (kc := 0) (ks := 0) (h := h0) (W := 0) (argsL := [(.ref t), (.int k), (.int 0), (.int 2)]) (rest := []) (own_pay (W := 0) (rmL1C2 l Z a0 hw t kb k xa xb h0 O0 Kt hk hBxa hBxb) hZ (gw hw 86 rfl) (gw hw 62 rfl) (by decide) (by decide)) c8 (lenOf pd_4 rfl) rfl (hb hby d12_33) e7
  have N9 := Fr.app N7 N9'
  have c9 : Go p e below S0 T9 (mkF m 36 #[.val (.ref t), .val (.int k), .val (.int 0), .val (.int 2)] [(.int r9)]) := c9'
  refine ⟨T9, (some (.int r9)), _, _, _, X9, by decide, by decide, (fun q => by cases q), N9, ?_, fun fs hr => ?_⟩
  · rw [e9]
    exact ⟨⟨_, rfl, hr9⟩, rfl⟩
  · exact c9.trans (retI X9 hx hret (hb hby d12_36) hr)
theorem rmIxIIL2 (l : Launch) (Z : State) (a0 : Array Value) (hw : own_W Z a0) (x t : Addr) (kb : ClassId) (k : Int32) (xa xb : Int32) (z : Int32) (fm : Value) (h0 : Heap) (O0 : Old Z Z.heap.size h0) (E : Exa Z h0 x "java/lang/String") (V : Fld Z h0 x "java/lang/String" "value" "[B" (.ref t)) (Cd : Fld Z h0 x "java/lang/String" "coder" "B" (.int (0 : Int32))) (K : Arv Z h0 t kb .byte (Int32.ofNat ([xa, xb] : List Int32).length) ((([xa, xb] : List Int32).map (fun c : Int32 => c.toInt8.toInt32)).map Value.int) (.int (0 : Int32))) (hk : own_B k) (hBxa : own_B xa) (hBxb : own_B xb) (hs : own_S Z z fm) :
    own_NC l Z (⟨"java/lang/String", "indexOf", "(II)I"⟩ : MethodName) jdk_42_method_80_code 3 (some .int) ({ frames := 2, cells := 0, slots := 0, locals := 60 } : Room) #[(.ref x), (.int k), (.int 0)] h0 (fun v h => (∃ r : Int32, v = some (.int r) ∧ decide (r < (0 : Int32)) = !own_has [xa, xb] k) ∧ h = h0) := by
  refine own_nc (plainFor_of_name pnl2) ?_
  intro p e s m below meth c s₁ S0 X0 hx hby hml hret hnm hown hZ e0 cc
  have N0 := Fr.nil Z.heap.size
  have c0 : Go p e below S0 s₁ (mkF m 0 #[.val (.ref x), .val (.int k), .val (.int 0)] []) := cc.trans (XT.entry rfl)
  obtain ⟨SC, hz, SF, hfm, SA, SH, SL⟩ := id hs
  have c1 : Go p e below S0 s₁ (mkF m 1 #[.val (.ref x), .val (.int k), .val (.int 0)] [(.ref x)]) := c0.trans (by
    refine XS.aloadN X0.here hx rfl (hb hby d8_0) rfl rfl ?_
    exact .refl _)
  obtain ⟨v2, T2, L2, X2, ⟨N2', rfl, e2⟩, c2'⟩ := own_virt X0 hx hml hZ hown (gw hw 44 rfl) (gw hw 45 rfl) (gw hw 47 rfl) (gw hw 46 rfl) (gw hw 47 rfl) (by decide) (kc := 0) (ks := 0) (h := h0) (W := 0) (b := x) (argsL := []) (rest := []) (own_pay (W := 0) (rmIsL l Z a0 hw x z fm h0 O0 Cd hs) hZ (gw hw 48 rfl) (gw hw 11 rfl) (by decide) (by decide)) E c1 (lenOf pd_2 rfl) rfl (hb hby d8_1) e0
  have N2 := Fr.app N0 N2'
  have c2 : Go p e below S0 T2 (mkF m 4 #[.val (.ref x), .val (.int k), .val (.int 0)] [(.int 1)]) := c2'
  obtain ⟨T3, X3, e3, st3⟩ := getF X2 hx hZ hown (host := "") (Or.inl (gw hw 28 rfl)) Via.refl e2 V (g := (mkF m 8 #[.val (.ref x), .val (.int k), .val (.int 0)] [(.ref x)])) rfl rfl (hb hby d8_8)
  have c4 : Go p e below S0 T3 (mkF m 14 #[.val (.ref x), .val (.int k), .val (.int 0)] [(.ref x), (.int 0), (.int k), (.ref t)]) := c2.trans (by
    refine XS.ifNo X2.here hx rfl (hb hby d8_4) rfl ((if0 _ _).trans (feq (by decide : ¬ ((1 : Int32) = (0 : Int32)))).1) ?_
    refine XS.aloadN X2.here hx rfl (hb hby d8_7) rfl rfl ?_
    refine st3 _ ?_
    refine XS.iloadN X3.here hx rfl (hb hby d8_11) rfl ?_
    refine XS.iloadN X3.here hx rfl (hb hby d8_12) rfl ?_
    refine XS.aloadN X3.here hx rfl (hb hby d8_13) rfl rfl ?_
    exact .refl _)
  obtain ⟨v5, T5, L5, X5, ⟨rfl, rfl, e5⟩, c5'⟩ := own_virt X3 hx hml hZ hown (gw hw 50 rfl) (gw hw 51 rfl) (gw hw 53 rfl) (gw hw 52 rfl) (gw hw 53 rfl) (by decide) (Q := fun v h' L => v = some (.int (Int32.ofNat ([xa, xb] : List Int32).length)) ∧ L = [] ∧ h' = h0) (kc := 0) (ks := 0) (h := h0) (W := 3) (b := x) (argsL := []) (rest := [(.int 0), (.int k), (.ref t)]) (StrChars.Road.lenW (s := s) (R := ({ frames := 2, cells := 0, slots := 0, locals := 60 } : Room)) (W := 3) hZ (own_wl hw) (kI := 4) (gw hw 10 rfl) (cs := [xa, xb]) E V Cd K (StrChars.Road.codOf (n := ([xa, xb] : List Int32).length) rfl (fun c hc => ((own_cons hBxa (own_cons hBxb own_nil)) c hc).rng.2)) (fun c hc => ((own_cons hBxa (own_cons hBxb own_nil)) c hc).rng2) (SC.ext O0.2) hz (Nat.le_of_ble_eq_true rfl) (by decide) (by decide)) E c4 (lenOf pd_3 rfl) rfl (hb hby d8_14) e3
  have N5 := Fr.app N2 (Fr.nil _)
  have c5 : Go p e below S0 T5 (mkF m 17 #[.val (.ref x), .val (.int k), .val (.int 0)] [(.int 2), (.int 0), (.int k), (.ref t)]) := c5'
  obtain ⟨v6, T6, L6, X6, ⟨N6', ⟨r6, rfl, hr6⟩, e6⟩, c6'⟩ := own_stat X5 hx hml hZ hown (gw hw 60 rfl) (gw hw 61 rfl) (gw hw 62 rfl) (gw hw 63 rfl) (by decide) (kc := 0) (ks := 0) (h := h0) (W := 0) (argsL := [(.ref t), (.int k), (.int 0), (.int 2)]) (rest := []) (own_pay (W := 0) (rmL1I2 l Z a0 hw t kb k xa xb h0 O0 K hk hBxa hBxb) hZ (gw hw 63 rfl) (gw hw 62 rfl) (by decide) (by decide)) c5 (lenOf pd_4 rfl) rfl (hb hby d8_17) e5
  have N6 := Fr.app N5 N6'
  have c6 : Go p e below S0 T6 (mkF m 20 #[.val (.ref x), .val (.int k), .val (.int 0)] [(.int r6)]) := c6'
  have c7 : Go p e below S0 T6 (mkF m 36 #[.val (.ref x), .val (.int k), .val (.int 0)] [(.int r6)]) := c6.trans (by
    refine XS.goto X6.here hx rfl (pc0 := 20) (pc' := 36) rfl (hb hby d8_20) (by decide) (by decide) ?_
    exact .refl _)
  refine ⟨T6, (some (.int r6)), _, _, _, X6, by decide, by decide, (fun q => by cases q), N6, ?_, fun fs hr => ?_⟩
  · rw [e6]
    exact ⟨⟨_, rfl, hr6⟩, rfl⟩
  · exact c7.trans (retI X6 hx hret (hb hby d8_36) hr)
theorem rmIxL2 (l : Launch) (Z : State) (a0 : Array Value) (hw : own_W Z a0) (x t : Addr) (kb : ClassId) (k : Int32) (xa xb : Int32) (z : Int32) (fm : Value) (h0 : Heap) (O0 : Old Z Z.heap.size h0) (E : Exa Z h0 x "java/lang/String") (V : Fld Z h0 x "java/lang/String" "value" "[B" (.ref t)) (Cd : Fld Z h0 x "java/lang/String" "coder" "B" (.int (0 : Int32))) (K : Arv Z h0 t kb .byte (Int32.ofNat ([xa, xb] : List Int32).length) ((([xa, xb] : List Int32).map (fun c : Int32 => c.toInt8.toInt32)).map Value.int) (.int (0 : Int32))) (hk : own_B k) (hBxa : own_B xa) (hBxb : own_B xb) (hs : own_S Z z fm) :
    own_NC l Z (⟨"java/lang/String", "indexOf", "(I)I"⟩ : MethodName) jdk_42_method_79_code 2 (some .int) ({ frames := 3, cells := 0, slots := 0, locals := 80 } : Room) #[(.ref x), (.int k)] h0 (fun v h => (∃ r : Int32, v = some (.int r) ∧ decide (r < (0 : Int32)) = !own_has [xa, xb] k) ∧ h = h0) := by
  refine own_nc (plainFor_of_name pnl2) ?_
  intro p e s m below meth c s₁ S0 X0 hx hby hml hret hnm hown hZ e0 cc
  have N0 := Fr.nil Z.heap.size
  have c0 : Go p e below S0 s₁ (mkF m 0 #[.val (.ref x), .val (.int k)] []) := cc.trans (XT.entry rfl)
  obtain ⟨SC, hz, SF, hfm, SA, SH, SL⟩ := id hs
  have c1 : Go p e below S0 s₁ (mkF m 3 #[.val (.ref x), .val (.int k)] [(.int 0), (.int k), (.ref x)]) := c0.trans (by
    refine XS.aloadN X0.here hx rfl (hb hby d7_0) rfl rfl ?_
    refine XS.iloadN X0.here hx rfl (hb hby d7_1) rfl ?_
    refine XS.iconst X0.here hx rfl (hb hby d7_2) ?_
    exact .refl _)
  obtain ⟨v2, T2, L2, X2, ⟨N2', ⟨r2, rfl, hr2⟩, e2⟩, c2'⟩ := own_virt X0 hx hml hZ hown (gw hw 39 rfl) (gw hw 40 rfl) (gw hw 42 rfl) (gw hw 41 rfl) (gw hw 42 rfl) (by decide) (kc := 0) (ks := 0) (h := h0) (W := 0) (b := x) (argsL := [(.int k), (.int 0)]) (rest := []) (own_pay (W := 0) (rmIxIIL2 l Z a0 hw x t kb k xa xb z fm h0 O0 E V Cd K hk hBxa hBxb hs) hZ (gw hw 43 rfl) (gw hw 11 rfl) (by decide) (by decide)) E c1 (lenOf pd_1 rfl) rfl (hb hby d7_3) e0
  have N2 := Fr.app N0 N2'
  have c2 : Go p e below S0 T2 (mkF m 6 #[.val (.ref x), .val (.int k)] [(.int r2)]) := c2'
  refine ⟨T2, (some (.int r2)), _, _, _, X2, by decide, by decide, (fun q => by cases q), N2, ?_, fun fs hr => ?_⟩
  · rw [e2]
    exact ⟨⟨_, rfl, hr2⟩, rfl⟩
  · exact c2.trans (retI X2 hx hret (hb hby d7_6) hr)
theorem rmFitL2 (l : Launch) (Z : State) (a0 : Array Value) (hw : own_W Z a0) (x t : Addr) (kb : ClassId) (xa xb : Int32) (z : Int32) (fm : Value) (h0 : Heap) (O0 : Old Z Z.heap.size h0) (E : Exa Z h0 x "java/lang/String") (V : Fld Z h0 x "java/lang/String" "value" "[B" (.ref t)) (Cd : Fld Z h0 x "java/lang/String" "coder" "B" (.int (0 : Int32))) (K : Arv Z h0 t kb .byte (Int32.ofNat ([xa, xb] : List Int32).length) ((([xa, xb] : List Int32).map (fun c : Int32 => c.toInt8.toInt32)).map Value.int) (.int (0 : Int32))) (hBxa : own_B xa) (hBxb : own_B xb) (hs : own_S Z z fm) :
    own_NC l Z (⟨"com/example/caseward/caseward/core/Right", "fitsField", "(Ljava/lang/String;)Z"⟩ : MethodName) prog_47_method_5_code 1 (some .boolean) ({ frames := 4, cells := 0, slots := 0, locals := 100 } : Room) #[(.ref x)] h0 (fun v h => v = some (.int (own_i (!own_has [xa, xb] (44 : Int32) && !own_has [xa, xb] (10 : Int32) && !own_has [xa, xb] (13 : Int32)))) ∧ h = h0) := by
  refine own_nc (plainFor_of_name pnl3) ?_
  intro p e s m below meth c s₁ S0 X0 hx hby hml hret hnm hown hZ e0 cc
  have N0 := Fr.nil Z.heap.size
  have c0 : Go p e below S0 s₁ (mkF m 0 #[.val (.ref x)] []) := cc.trans (XT.entry rfl)
  obtain ⟨SC, hz, SF, hfm, SA, SH, SL⟩ := id hs
  have c1 : Go p e below S0 s₁ (mkF m 3 #[.val (.ref x)] [(.int 44), (.ref x)]) := c0.trans (by
    refine XS.aloadN X0.here hx rfl (hb hby d6_0) rfl rfl ?_
    refine XS.bipush X0.here hx rfl (hb hby d6_1) ?_
    exact .refl _)
  obtain ⟨v2, T2, L2, X2, ⟨N2', ⟨r2, rfl, hr2⟩, e2⟩, c2'⟩ := own_virt X0 hx hml hZ hown (gw hw 34 rfl) (gw hw 35 rfl) (gw hw 37 rfl) (gw hw 36 rfl) (gw hw 37 rfl) (by decide) (kc := 0) (ks := 0) (h := h0) (W := 0) (b := x) (argsL := [(.int 44)]) (rest := []) (own_pay (W := 0) (rmIxL2 l Z a0 hw x t kb (44 : Int32) xa xb z fm h0 O0 E V Cd K (own_Bl 44 (by decide)) hBxa hBxb hs) hZ (gw hw 38 rfl) (gw hw 11 rfl) (by decide) (by decide)) E c1 (lenOf pd_5 rfl) rfl (hb hby d6_3) e0
  have N2 := Fr.app N0 N2'
  have c2 : Go p e below S0 T2 (mkF m 6 #[.val (.ref x)] [(.int r2)]) := c2'
  by_cases hc3 : r2 < (0 : Int32)
  · skip
    have c4 : Go p e below S0 T2 (mkF m 12 #[.val (.ref x)] [(.int 10), (.ref x)]) := c2.trans (by
      refine XS.ifNo X2.here hx rfl (hb hby d6_6) rfl ((if0 _ _).trans (tlt hc3).2.1) ?_
      refine XS.aloadN X2.here hx rfl (hb hby d6_9) rfl rfl ?_
      refine XS.bipush X2.here hx rfl (hb hby d6_10) ?_
      exact .refl _)
    obtain ⟨v5, T5, L5, X5, ⟨N5', ⟨r5, rfl, hr5⟩, e5⟩, c5'⟩ := own_virt X2 hx hml hZ hown (gw hw 34 rfl) (gw hw 35 rfl) (gw hw 37 rfl) (gw hw 36 rfl) (gw hw 37 rfl) (by decide) (kc := 0) (ks := 0) (h := h0) (W := 0) (b := x) (argsL := [(.int 10)]) (rest := []) (own_pay (W := 0) (rmIxL2 l Z a0 hw x t kb (10 : Int32) xa xb z fm h0 O0 E V Cd K (own_Bl 10 (by decide)) hBxa hBxb hs) hZ (gw hw 38 rfl) (gw hw 11 rfl) (by decide) (by decide)) E c4 (lenOf pd_5 rfl) rfl (hb hby d6_12) e2
    have N5 := Fr.app N2 N5'
    have c5 : Go p e below S0 T5 (mkF m 15 #[.val (.ref x)] [(.int r5)]) := c5'
    by_cases hc6 : r5 < (0 : Int32)
    · skip
      have c7 : Go p e below S0 T5 (mkF m 21 #[.val (.ref x)] [(.int 13), (.ref x)]) := c5.trans (by
        refine XS.ifNo X5.here hx rfl (hb hby d6_15) rfl ((if0 _ _).trans (tlt hc6).2.1) ?_
        refine XS.aloadN X5.here hx rfl (hb hby d6_18) rfl rfl ?_
        refine XS.bipush X5.here hx rfl (hb hby d6_19) ?_
        exact .refl _)
      obtain ⟨v8, T8, L8, X8, ⟨N8', ⟨r8, rfl, hr8⟩, e8⟩, c8'⟩ := own_virt X5 hx hml hZ hown (gw hw 34 rfl) (gw hw 35 rfl) (gw hw 37 rfl) (gw hw 36 rfl) (gw hw 37 rfl) (by decide) (kc := 0) (ks := 0) (h := h0) (W := 0) (b := x) (argsL := [(.int 13)]) (rest := []) (own_pay (W := 0) (rmIxL2 l Z a0 hw x t kb (13 : Int32) xa xb z fm h0 O0 E V Cd K (own_Bl 13 (by decide)) hBxa hBxb hs) hZ (gw hw 38 rfl) (gw hw 11 rfl) (by decide) (by decide)) E c7 (lenOf pd_5 rfl) rfl (hb hby d6_21) e5
      have N8 := Fr.app N5 N8'
      have c8 : Go p e below S0 T8 (mkF m 24 #[.val (.ref x)] [(.int r8)]) := c8'
      by_cases hc9 : r8 < (0 : Int32)
      · skip
        have c10 : Go p e below S0 T8 (mkF m 32 #[.val (.ref x)] [(.int 1)]) := c8.trans (by
          refine XS.ifNo X8.here hx rfl (hb hby d6_24) rfl ((if0 _ _).trans (tlt hc9).2.1) ?_
          refine XS.iconst X8.here hx rfl (hb hby d6_27) ?_
          refine XS.goto X8.here hx rfl (pc0 := 28) (pc' := 32) rfl (hb hby d6_28) (by decide) (by decide) ?_
          exact .refl _)
        refine ⟨T8, (some (.int (1 : Int32))), _, _, _, X8, by decide, by decide, (fun q => by cases q), N8, ?_, fun fs hr => ?_⟩
        · rw [e8]
          have q2' := own_rdec hr2
          have q5' := own_rdec hr5
          have q8' := own_rdec hr8
          exact ⟨by simp [own_i, (q2').mpr hc3, (q5').mpr hc6, (q8').mpr hc9], rfl⟩
        · exact c10.trans (retN X8 hx (t := .boolean) hret (by simp) (hb hby d6_32) hr)
      · skip
        have c12 : Go p e below S0 T8 (mkF m 32 #[.val (.ref x)] [(.int 0)]) := c8.trans (by
          refine XS.ifYes X8.here hx rfl (pc0 := 24) (pc' := 31) rfl (hb hby d6_24) rfl ((if0 _ _).trans (flt hc9).2.1) (by decide) (by decide) ?_
          refine XS.iconst X8.here hx rfl (hb hby d6_31) ?_
          exact .refl _)
        refine ⟨T8, (some (.int (0 : Int32))), _, _, _, X8, by decide, by decide, (fun q => by cases q), N8, ?_, fun fs hr => ?_⟩
        · rw [e8]
          have q2' := own_rdec hr2
          have q5' := own_rdec hr5
          have q8' := own_rdec hr8
          exact ⟨by simp [own_i, (q2').mpr hc3, (q5').mpr hc6, (show _ = false from Bool.eq_false_iff.mpr (fun z => hc9 ((q8').mp z)))], rfl⟩
        · exact c12.trans (retN X8 hx (t := .boolean) hret (by simp) (hb hby d6_32) hr)
    · skip
      have c14 : Go p e below S0 T5 (mkF m 32 #[.val (.ref x)] [(.int 0)]) := c5.trans (by
        refine XS.ifYes X5.here hx rfl (pc0 := 15) (pc' := 31) rfl (hb hby d6_15) rfl ((if0 _ _).trans (flt hc6).2.1) (by decide) (by decide) ?_
        refine XS.iconst X5.here hx rfl (hb hby d6_31) ?_
        exact .refl _)
      refine ⟨T5, (some (.int (0 : Int32))), _, _, _, X5, by decide, by decide, (fun q => by cases q), N5, ?_, fun fs hr => ?_⟩
      · rw [e5]
        have q2' := own_rdec hr2
        have q5' := own_rdec hr5
        exact ⟨by simp [own_i, (q2').mpr hc3, (show _ = false from Bool.eq_false_iff.mpr (fun z => hc6 ((q5').mp z)))], rfl⟩
      · exact c14.trans (retN X5 hx (t := .boolean) hret (by simp) (hb hby d6_32) hr)
  · skip
    have c16 : Go p e below S0 T2 (mkF m 32 #[.val (.ref x)] [(.int 0)]) := c2.trans (by
      refine XS.ifYes X2.here hx rfl (pc0 := 6) (pc' := 31) rfl (hb hby d6_6) rfl ((if0 _ _).trans (flt hc3).2.1) (by decide) (by decide) ?_
      refine XS.iconst X2.here hx rfl (hb hby d6_31) ?_
      exact .refl _)
    refine ⟨T2, (some (.int (0 : Int32))), _, _, _, X2, by decide, by decide, (fun q => by cases q), N2, ?_, fun fs hr => ?_⟩
    · rw [e2]
      have q2' := own_rdec hr2
      exact ⟨by simp [own_i, (show _ = false from Bool.eq_false_iff.mpr (fun z => hc3 ((q2').mp z)))], rfl⟩
    · exact c16.trans (retN X2 hx (t := .boolean) hret (by simp) (hb hby d6_32) hr)
theorem rmL1C3 (l : Launch) (Z : State) (a0 : Array Value) (hw : own_W Z a0) (t : Addr) (kb : ClassId) (k : Int32) (xa xb xc : Int32) (h0 : Heap) (O0 : Old Z Z.heap.size h0) (Kt : Arv Z h0 t kb .byte (3 : Int32) [(.int (xa.toInt8.toInt32)), (.int (xb.toInt8.toInt32)), (.int (xc.toInt8.toInt32))] (.int (0 : Int32))) (hk : own_B k) (hBxa : own_B xa) (hBxb : own_B xb) (hBxc : own_B xc) :
    own_NC l Z (⟨"java/lang/StringLatin1", "indexOfChar", "([BIII)I"⟩ : MethodName) jdk_43_method_23_code 6 (some .int) ({ frames := 0, cells := 0, slots := 0, locals := 0 } : Room) #[(.ref t), (.int k), (.int 0), (.int 3)] h0 (fun v h => (∃ r : Int32, v = some (.int r) ∧ decide (r < (0 : Int32)) = !own_has [xa, xb, xc] k) ∧ h = h0) := by
  refine own_nc (plainFor_of_name pnl1) ?_
  intro p e s m below meth c s₁ S0 X0 hx hby hml hret hnm hown hZ e0 cc
  have N0 := Fr.nil Z.heap.size
  have c0 : Go p e below S0 s₁ (mkF m 0 #[.val (.ref t), .val (.int k), .val (.int 0), .val (.int 3), .unset, .unset] []) := cc.trans (XT.entry rfl)
  obtain ⟨cl1, Ar1, q1, S1, M1, H1, G1⟩ := id Kt
  have hin1 : ¬ ((0 : Int32) < 0 ∨ cl1.slots.size ≤ ((0 : Int32)).toNatClampNeg) := inb_of S1 ⟨by decide, by decide⟩
  have hat1 := Has.at (v := .int (xa.toInt8.toInt32)) H1 hin1 rfl
  have c2 : Go p e below S0 s₁ (mkF m 19 #[.val (.ref t), .val (.int k), .val (.int 0), .val (.int 3), .val (.int (k.toInt8.toInt32)), .val (.int 0)] [(.int (k.toInt8.toInt32)), (.int (xa.toInt8.toInt32))]) := c0.trans (by
    refine XS.iloadN X0.here hx rfl (hb hby d19_0) rfl ?_
    refine XS.i2b X0.here hx rfl (hb hby d19_1) rfl ?_
    refine XS.istore X0.here hx rfl (hb hby d19_2) rfl (l' := #[.val (.ref t), .val (.int k), .val (.int 0), .val (.int 3), .val (.int (k.toInt8.toInt32)), .unset]) rfl ?_
    refine XS.iloadN X0.here hx rfl (hb hby d19_4) rfl ?_
    refine XS.istore X0.here hx rfl (hb hby d19_5) rfl (l' := #[.val (.ref t), .val (.int k), .val (.int 0), .val (.int 3), .val (.int (k.toInt8.toInt32)), .val (.int 0)]) rfl ?_
    refine XS.iload X0.here hx rfl (hb hby d19_7) rfl ?_
    refine XS.iloadN X0.here hx rfl (hb hby d19_9) rfl ?_
    refine XS.icmpNo X0.here hx rfl (hb hby d19_10) rfl (tlt (by decide : (0 : Int32) < (3 : Int32))).2.1 ?_
    refine XS.aloadN X0.here hx rfl (hb hby d19_13) rfl rfl ?_
    show Steps p.tables e below (s₁.setTop (mkF m 14 #[.val (.ref t), .val (.int k), .val (.int 0), .val (.int 3), .val (.int (k.toInt8.toInt32)), .val (.int 0)] [(.ref t)])) _
    refine XS.iload X0.here hx rfl (hb hby d19_14) rfl ?_
    refine X0.baloadBytes hx (cell := cl1) (by rw [show s₁.heap = h0 from e0]; exact Ar1.1) (State.isArrayOf_alike (hZ).alike Ar1.2.1) Ar1.2.2 hin1 hat1 (g := (mkF m 16 #[.val (.ref t), .val (.int k), .val (.int 0), .val (.int 3), .val (.int (k.toInt8.toInt32)), .val (.int 0)] [(.int 0), (.ref t)])) rfl rfl (hb hby d19_16) _ ?_
    refine XS.iload X0.here hx rfl (hb hby d19_17) rfl ?_
    exact .refl _)
  by_cases hc3 : (xa.toInt8.toInt32) = (k.toInt8.toInt32)
  · skip
    have c4 : Go p e below S0 s₁ (mkF m 24 #[.val (.ref t), .val (.int k), .val (.int 0), .val (.int 3), .val (.int (k.toInt8.toInt32)), .val (.int 0)] [(.int 0)]) := c2.trans (by
      refine XS.icmpNo X0.here hx rfl (hb hby d19_19) rfl (teq hc3).2 ?_
      refine XS.iload X0.here hx rfl (hb hby d19_22) rfl ?_
      exact .refl _)
    refine ⟨s₁, (some (.int 0)), _, _, _, X0, by decide, by decide, (fun q => by cases q), N0, ?_, fun fs hr => ?_⟩
    · rw [e0]
      simp only [hBxa.inj hk, hBxb.inj hk, hBxc.inj hk] at hc3
      exact ⟨⟨_, rfl, by simp [own_has, hc3]⟩, rfl⟩
    · exact c4.trans (retI X0 hx hret (hb hby d19_24) hr)
  · skip
    obtain ⟨cl6, Ar6, q6, S6, M6, H6, G6⟩ := id Kt
    have hin6 : ¬ ((1 : Int32) < 0 ∨ cl6.slots.size ≤ ((1 : Int32)).toNatClampNeg) := inb_of S6 ⟨by decide, by decide⟩
    have hat6 := Has.at (v := .int (xb.toInt8.toInt32)) H6 hin6 rfl
    have c7 : Go p e below S0 s₁ (mkF m 19 #[.val (.ref t), .val (.int k), .val (.int 0), .val (.int 3), .val (.int (k.toInt8.toInt32)), .val (.int 1)] [(.int (k.toInt8.toInt32)), (.int (xb.toInt8.toInt32))]) := c2.trans (by
      refine XS.icmpYes X0.here hx rfl (pc0 := 19) (pc' := 25) rfl (hb hby d19_19) rfl (feq hc3).2 (by decide) (by decide) ?_
      refine XS.iinc X0.here hx rfl (hb hby d19_25) rfl (l' := #[.val (.ref t), .val (.int k), .val (.int 0), .val (.int 3), .val (.int (k.toInt8.toInt32)), .val (.int 1)]) rfl ?_
      refine XS.goto X0.here hx rfl (pc0 := 28) (pc' := 7) rfl (hb hby d19_28) (by decide) (by decide) ?_
      refine XS.iload X0.here hx rfl (hb hby d19_7) rfl ?_
      refine XS.iloadN X0.here hx rfl (hb hby d19_9) rfl ?_
      refine XS.icmpNo X0.here hx rfl (hb hby d19_10) rfl (tlt (by decide : (1 : Int32) < (3 : Int32))).2.1 ?_
      refine XS.aloadN X0.here hx rfl (hb hby d19_13) rfl rfl ?_
      refine XS.iload X0.here hx rfl (hb hby d19_14) rfl ?_
      refine X0.baloadBytes hx (cell := cl6) (by rw [show s₁.heap = h0 from e0]; exact Ar6.1) (State.isArrayOf_alike (hZ).alike Ar6.2.1) Ar6.2.2 hin6 hat6 (g := (mkF m 16 #[.val (.ref t), .val (.int k), .val (.int 0), .val (.int 3), .val (.int (k.toInt8.toInt32)), .val (.int 1)] [(.int 1), (.ref t)])) rfl rfl (hb hby d19_16) _ ?_
      refine XS.iload X0.here hx rfl (hb hby d19_17) rfl ?_
      show Steps p.tables e below (s₁.setTop (mkF m 19 #[.val (.ref t), .val (.int k), .val (.int 0), .val (.int 3), .val (.int (k.toInt8.toInt32)), .val (.int 1)] [(.int (k.toInt8.toInt32)), (.int (xb.toInt8.toInt32))])) _
      exact .refl _)
    by_cases hc8 : (xb.toInt8.toInt32) = (k.toInt8.toInt32)
    · skip
      have c9 : Go p e below S0 s₁ (mkF m 24 #[.val (.ref t), .val (.int k), .val (.int 0), .val (.int 3), .val (.int (k.toInt8.toInt32)), .val (.int 1)] [(.int 1)]) := c7.trans (by
        refine XS.icmpNo X0.here hx rfl (hb hby d19_19) rfl (teq hc8).2 ?_
        refine XS.iload X0.here hx rfl (hb hby d19_22) rfl ?_
        exact .refl _)
      refine ⟨s₁, (some (.int 1)), _, _, _, X0, by decide, by decide, (fun q => by cases q), N0, ?_, fun fs hr => ?_⟩
      · rw [e0]
        simp only [hBxa.inj hk, hBxb.inj hk, hBxc.inj hk] at hc3 hc8
        exact ⟨⟨_, rfl, by simp [own_has, hc3, hc8]⟩, rfl⟩
      · exact c9.trans (retI X0 hx hret (hb hby d19_24) hr)
    · skip
      obtain ⟨cl11, Ar11, q11, S11, M11, H11, G11⟩ := id Kt
      have hin11 : ¬ ((2 : Int32) < 0 ∨ cl11.slots.size ≤ ((2 : Int32)).toNatClampNeg) := inb_of S11 ⟨by decide, by decide⟩
      have hat11 := Has.at (v := .int (xc.toInt8.toInt32)) H11 hin11 rfl
      have c12 : Go p e below S0 s₁ (mkF m 19 #[.val (.ref t), .val (.int k), .val (.int 0), .val (.int 3), .val (.int (k.toInt8.toInt32)), .val (.int 2)] [(.int (k.toInt8.toInt32)), (.int (xc.toInt8.toInt32))]) := c7.trans (by
        refine XS.icmpYes X0.here hx rfl (pc0 := 19) (pc' := 25) rfl (hb hby d19_19) rfl (feq hc8).2 (by decide) (by decide) ?_
        refine XS.iinc X0.here hx rfl (hb hby d19_25) rfl (l' := #[.val (.ref t), .val (.int k), .val (.int 0), .val (.int 3), .val (.int (k.toInt8.toInt32)), .val (.int 2)]) rfl ?_
        refine XS.goto X0.here hx rfl (pc0 := 28) (pc' := 7) rfl (hb hby d19_28) (by decide) (by decide) ?_
        refine XS.iload X0.here hx rfl (hb hby d19_7) rfl ?_
        refine XS.iloadN X0.here hx rfl (hb hby d19_9) rfl ?_
        refine XS.icmpNo X0.here hx rfl (hb hby d19_10) rfl (tlt (by decide : (2 : Int32) < (3 : Int32))).2.1 ?_
        refine XS.aloadN X0.here hx rfl (hb hby d19_13) rfl rfl ?_
        refine XS.iload X0.here hx rfl (hb hby d19_14) rfl ?_
        refine X0.baloadBytes hx (cell := cl11) (by rw [show s₁.heap = h0 from e0]; exact Ar11.1) (State.isArrayOf_alike (hZ).alike Ar11.2.1) Ar11.2.2 hin11 hat11 (g := (mkF m 16 #[.val (.ref t), .val (.int k), .val (.int 0), .val (.int 3), .val (.int (k.toInt8.toInt32)), .val (.int 2)] [(.int 2), (.ref t)])) rfl rfl (hb hby d19_16) _ ?_
        refine XS.iload X0.here hx rfl (hb hby d19_17) rfl ?_
        show Steps p.tables e below (s₁.setTop (mkF m 19 #[.val (.ref t), .val (.int k), .val (.int 0), .val (.int 3), .val (.int (k.toInt8.toInt32)), .val (.int 2)] [(.int (k.toInt8.toInt32)), (.int (xc.toInt8.toInt32))])) _
        exact .refl _)
      by_cases hc13 : (xc.toInt8.toInt32) = (k.toInt8.toInt32)
      · skip
        have c14 : Go p e below S0 s₁ (mkF m 24 #[.val (.ref t), .val (.int k), .val (.int 0), .val (.int 3), .val (.int (k.toInt8.toInt32)), .val (.int 2)] [(.int 2)]) := c12.trans (by
          refine XS.icmpNo X0.here hx rfl (hb hby d19_19) rfl (teq hc13).2 ?_
          refine XS.iload X0.here hx rfl (hb hby d19_22) rfl ?_
          exact .refl _)
        refine ⟨s₁, (some (.int 2)), _, _, _, X0, by decide, by decide, (fun q => by cases q), N0, ?_, fun fs hr => ?_⟩
        · rw [e0]
          simp only [hBxa.inj hk, hBxb.inj hk, hBxc.inj hk] at hc3 hc8 hc13
          exact ⟨⟨_, rfl, by simp [own_has, hc3, hc8, hc13]⟩, rfl⟩
        · exact c14.trans (retI X0 hx hret (hb hby d19_24) hr)
      · skip
        have c16 : Go p e below S0 s₁ (mkF m 32 #[.val (.ref t), .val (.int k), .val (.int 0), .val (.int 3), .val (.int (k.toInt8.toInt32)), .val (.int 3)] [(.int (-1))]) := c12.trans (by
          refine XS.icmpYes X0.here hx rfl (pc0 := 19) (pc' := 25) rfl (hb hby d19_19) rfl (feq hc13).2 (by decide) (by decide) ?_
          refine XS.iinc X0.here hx rfl (hb hby d19_25) rfl (l' := #[.val (.ref t), .val (.int k), .val (.int 0), .val (.int 3), .val (.int (k.toInt8.toInt32)), .val (.int 3)]) rfl ?_
          refine XS.goto X0.here hx rfl (pc0 := 28) (pc' := 7) rfl (hb hby d19_28) (by decide) (by decide) ?_
          refine XS.iload X0.here hx rfl (hb hby d19_7) rfl ?_
          refine XS.iloadN X0.here hx rfl (hb hby d19_9) rfl ?_
          refine XS.icmpYes X0.here hx rfl (pc0 := 10) (pc' := 31) rfl (hb hby d19_10) rfl (flt (by decide : ¬ ((3 : Int32) < (3 : Int32)))).2.1 (by decide) (by decide) ?_
          refine XS.iconst X0.here hx rfl (hb hby d19_31) ?_
          exact .refl _)
        refine ⟨s₁, (some (.int (-1))), _, _, _, X0, by decide, by decide, (fun q => by cases q), N0, ?_, fun fs hr => ?_⟩
        · rw [e0]
          simp only [hBxa.inj hk, hBxb.inj hk, hBxc.inj hk] at hc3 hc8 hc13
          exact ⟨⟨_, rfl, by simp [own_has, hc3, hc8, hc13]⟩, rfl⟩
        · exact c16.trans (retI X0 hx hret (hb hby d19_32) hr)
theorem rmMin_3_3 (l : Launch) (Z : State) (a0 : Array Value) (hw : own_W Z a0)  (h0 : Heap) (O0 : Old Z Z.heap.size h0)  :
    own_NC l Z (⟨"java/lang/Math", "min", "(II)I"⟩ : MethodName) jdk_29_method_69_code 2 (some .int) ({ frames := 0, cells := 0, slots := 0, locals := 0 } : Room) #[(.int 3), (.int 3)] h0 (fun v h => v = some (.int (3 : Int32)) ∧ h = h0) := by
  refine own_nc (Jvm.Free.JP.mathPlain rfl (by decide +kernel)) ?_
  intro p e s m below meth c s₁ S0 X0 hx hby hml hret hnm hown hZ e0 cc
  have N0 := Fr.nil Z.heap.size
  have c0 : Go p e below S0 s₁ (mkF m 0 #[.val (.int 3), .val (.int 3)] []) := cc.trans (XT.entry rfl)
  have c1 : Go p e below S0 s₁ (mkF m 10 #[.val (.int 3), .val (.int 3)] [(.int 3)]) := c0.trans (by
    refine XS.iloadN X0.here hx rfl (hb hby d1_0) rfl ?_
    refine XS.iloadN X0.here hx rfl (hb hby d1_1) rfl ?_
    refine XS.icmpNo X0.here hx rfl (hb hby d1_2) rfl (flt (by decide : ¬ ((3 : Int32) < (3 : Int32)))).2.2.1 ?_
    refine XS.iloadN X0.here hx rfl (hb hby d1_5) rfl ?_
    refine XS.goto X0.here hx rfl (pc0 := 6) (pc' := 10) rfl (hb hby d1_6) (by decide) (by decide) ?_
    exact .refl _)
  refine ⟨s₁, (some (.int 3)), _, _, _, X0, by decide, by decide, (fun q => by cases q), N0, ?_, fun fs hr => ?_⟩
  · rw [e0]
    exact ⟨rfl, rfl⟩
  · exact c1.trans (retI X0 hx hret (hb hby d1_10) hr)
theorem rmL1I3 (l : Launch) (Z : State) (a0 : Array Value) (hw : own_W Z a0) (t : Addr) (kb : ClassId) (k : Int32) (xa xb xc : Int32) (h0 : Heap) (O0 : Old Z Z.heap.size h0) (Kt : Arv Z h0 t kb .byte (3 : Int32) [(.int (xa.toInt8.toInt32)), (.int (xb.toInt8.toInt32)), (.int (xc.toInt8.toInt32))] (.int (0 : Int32))) (hk : own_B k) (hBxa : own_B xa) (hBxb : own_B xb) (hBxc : own_B xc) :
    own_NC l Z (⟨"java/lang/StringLatin1", "indexOf", "([BIII)I"⟩ : MethodName) jdk_43_method_22_code 4 (some .int) ({ frames := 1, cells := 0, slots := 0, locals := 20 } : Room) #[(.ref t), (.int k), (.int 0), (.int 3)] h0 (fun v h => (∃ r : Int32, v = some (.int r) ∧ decide (r < (0 : Int32)) = !own_has [xa, xb, xc] k) ∧ h = h0) := by
  refine own_nc (plainFor_of_name pnl1) ?_
  intro p e s m below meth c s₁ S0 X0 hx hby hml hret hnm hown hZ e0 cc
  have N0 := Fr.nil Z.heap.size
  have c0 : Go p e below S0 s₁ (mkF m 0 #[.val (.ref t), .val (.int k), .val (.int 0), .val (.int 3)] []) := cc.trans (XT.entry rfl)
  have c1 : Go p e below S0 s₁ (mkF m 1 #[.val (.ref t), .val (.int k), .val (.int 0), .val (.int 3)] [(.int k)]) := c0.trans (by
    refine XS.iloadN X0.here hx rfl (hb hby d12_0) rfl ?_
    exact .refl _)
  obtain ⟨v2, T2, L2, X2, ⟨N2', rfl, e2⟩, c2'⟩ := own_stat X0 hx hml hZ hown (gw hw 64 rfl) (gw hw 65 rfl) (gw hw 62 rfl) (gw hw 66 rfl) (by decide) (kc := 0) (ks := 0) (h := h0) (W := 0) (argsL := [(.int k)]) (rest := []) (own_pay (W := 0) (rmCan l Z a0 hw k h0 O0 hk) hZ (gw hw 66 rfl) (gw hw 62 rfl) (by decide) (by decide)) c1 (lenOf pd_0 rfl) rfl (hb hby d12_1) e0
  have N2 := Fr.app N0 N2'
  have c2 : Go p e below S0 T2 (mkF m 4 #[.val (.ref t), .val (.int k), .val (.int 0), .val (.int 3)] [(.int 1)]) := c2'
  have c3 : Go p e below S0 T2 (mkF m 11 #[.val (.ref t), .val (.int k), .val (.int 0), .val (.int 3)] [(.int 0), (.int 0)]) := c2.trans (by
    refine XS.ifYes X2.here hx rfl (pc0 := 4) (pc' := 9) rfl (hb hby d12_4) rfl ((if0 _ _).trans (feq (by decide : ¬ ((1 : Int32) = (0 : Int32)))).2) (by decide) (by decide) ?_
    refine XS.iloadN X2.here hx rfl (hb hby d12_9) rfl ?_
    refine XS.iconst X2.here hx rfl (hb hby d12_10) ?_
    exact .refl _)
  obtain ⟨v4, T4, L4, X4, ⟨N4', rfl, e4⟩, c4'⟩ := own_stat X2 hx hml hZ hown (gw hw 67 rfl) (gw hw 68 rfl) (gw hw 2 rfl) (gw hw 69 rfl) (by decide) (kc := 0) (ks := 0) (h := h0) (W := 0) (argsL := [(.int 0), (.int 0)]) (rest := []) (own_pay (W := 0) (rmMax_0_0 l Z a0 hw h0 O0) hZ (gw hw 69 rfl) (gw hw 2 rfl) (by decide) (by decide)) c3 (lenOf pd_1 rfl) rfl (hb hby d12_11) e2
  have N4 := Fr.app N2 N4'
  have c4 : Go p e below S0 T4 (mkF m 14 #[.val (.ref t), .val (.int k), .val (.int 0), .val (.int 3)] [(.int 0)]) := c4'
  obtain ⟨cl5, Ar5, q5, S5, M5, H5, G5⟩ := id Kt
  have c6 : Go p e below S0 T4 (mkF m 18 #[.val (.ref t), .val (.int k), .val (.int 0), .val (.int 3)] [(.int 3), (.int 3)]) := c4.trans (by
    refine XS.istoreN X4.here hx rfl (hb hby d12_14) rfl (l' := #[.val (.ref t), .val (.int k), .val (.int 0), .val (.int 3)]) rfl ?_
    refine XS.iloadN X4.here hx rfl (hb hby d12_15) rfl ?_
    refine XS.aloadN X4.here hx rfl (hb hby d12_16) rfl rfl ?_
    refine X4.arraylength hx (by rw [show T4.heap = h0 from e4]; exact Ar5.1) (State.isArrayOf_alike (hZ).alike Ar5.2.1) (g := (mkF m 17 #[.val (.ref t), .val (.int k), .val (.int 0), .val (.int 3)] [(.ref t), (.int 3)])) rfl rfl (hb hby d12_17) _ ?_
    rw [len_of S5 M5]
    exact .refl _)
  obtain ⟨v7, T7, L7, X7, ⟨N7', rfl, e7⟩, c7'⟩ := own_stat X4 hx hml hZ hown (gw hw 70 rfl) (gw hw 1 rfl) (gw hw 2 rfl) (gw hw 3 rfl) (by decide) (kc := 0) (ks := 0) (h := h0) (W := 0) (argsL := [(.int 3), (.int 3)]) (rest := []) (own_pay (W := 0) (rmMin_3_3 l Z a0 hw h0 O0) hZ (gw hw 3 rfl) (gw hw 2 rfl) (by decide) (by decide)) c6 (lenOf pd_1 rfl) rfl (hb hby d12_18) e4
  have N7 := Fr.app N4 N7'
  have c7 : Go p e below S0 T7 (mkF m 21 #[.val (.ref t), .val (.int k), .val (.int 0), .val (.int 3)] [(.int 3)]) := c7'
  have c8 : Go p e below S0 T7 (mkF m 33 #[.val (.ref t), .val (.int k), .val (.int 0), .val (.int 3)] [(.int 3), (.int 0), (.int k), (.ref t)]) := c7.trans (by
    refine XS.istoreN X7.here hx rfl (hb hby d12_21) rfl (l' := #[.val (.ref t), .val (.int k), .val (.int 0), .val (.int 3)]) rfl ?_
    refine XS.iloadN X7.here hx rfl (hb hby d12_22) rfl ?_
    refine XS.iloadN X7.here hx rfl (hb hby d12_23) rfl ?_
    refine XS.icmpYes X7.here hx rfl (pc0 := 24) (pc' := 29) rfl (hb hby d12_24) rfl (tlt (by decide : (0 : Int32) < (3 : Int32))).1 (by decide) (by decide) ?_
    refine XS.aloadN X7.here hx rfl (hb hby d12_29) rfl rfl ?_
    refine XS.iloadN X7.here hx rfl (hb hby d12_30) rfl ?_
    refine XS.iloadN X7.here hx rfl (hb hby d12_31) rfl ?_
    refine XS.iloadN X7.here hx rfl (hb hby d12_32) rfl ?_
    exact .refl _)
  obtain ⟨v9, T9, L9, X9, ⟨N9', ⟨r9, rfl, hr9⟩, e9⟩, c9'⟩ := own_stat X7 hx hml hZ hown (gw hw 84 rfl) (gw hw 85 rfl) (gw hw 62 rfl) (gw hw 86 rfl) (by decide) (kc := 0) (ks := 0) (h := h0) (W := 0) (argsL := [(.ref t), (.int k), (.int 0), (.int 3)]) (rest := []) (own_pay (W := 0) (rmL1C3 l Z a0 hw t kb k xa xb xc h0 O0 Kt hk hBxa hBxb hBxc) hZ (gw hw 86 rfl) (gw hw 62 rfl) (by decide) (by decide)) c8 (lenOf pd_4 rfl) rfl (hb hby d12_33) e7
  have N9 := Fr.app N7 N9'
  have c9 : Go p e below S0 T9 (mkF m 36 #[.val (.ref t), .val (.int k), .val (.int 0), .val (.int 3)] [(.int r9)]) := c9'
  refine ⟨T9, (some (.int r9)), _, _, _, X9, by decide, by decide, (fun q => by cases q), N9, ?_, fun fs hr => ?_⟩
  · rw [e9]
    exact ⟨⟨_, rfl, hr9⟩, rfl⟩
  · exact c9.trans (retI X9 hx hret (hb hby d12_36) hr)
theorem rmIxIIL3 (l : Launch) (Z : State) (a0 : Array Value) (hw : own_W Z a0) (x t : Addr) (kb : ClassId) (k : Int32) (xa xb xc : Int32) (z : Int32) (fm : Value) (h0 : Heap) (O0 : Old Z Z.heap.size h0) (E : Exa Z h0 x "java/lang/String") (V : Fld Z h0 x "java/lang/String" "value" "[B" (.ref t)) (Cd : Fld Z h0 x "java/lang/String" "coder" "B" (.int (0 : Int32))) (K : Arv Z h0 t kb .byte (Int32.ofNat ([xa, xb, xc] : List Int32).length) ((([xa, xb, xc] : List Int32).map (fun c : Int32 => c.toInt8.toInt32)).map Value.int) (.int (0 : Int32))) (hk : own_B k) (hBxa : own_B xa) (hBxb : own_B xb) (hBxc : own_B xc) (hs : own_S Z z fm) :
    own_NC l Z (⟨"java/lang/String", "indexOf", "(II)I"⟩ : MethodName) jdk_42_method_80_code 3 (some .int) ({ frames := 2, cells := 0, slots := 0, locals := 60 } : Room) #[(.ref x), (.int k), (.int 0)] h0 (fun v h => (∃ r : Int32, v = some (.int r) ∧ decide (r < (0 : Int32)) = !own_has [xa, xb, xc] k) ∧ h = h0) := by
  refine own_nc (plainFor_of_name pnl2) ?_
  intro p e s m below meth c s₁ S0 X0 hx hby hml hret hnm hown hZ e0 cc
  have N0 := Fr.nil Z.heap.size
  have c0 : Go p e below S0 s₁ (mkF m 0 #[.val (.ref x), .val (.int k), .val (.int 0)] []) := cc.trans (XT.entry rfl)
  obtain ⟨SC, hz, SF, hfm, SA, SH, SL⟩ := id hs
  have c1 : Go p e below S0 s₁ (mkF m 1 #[.val (.ref x), .val (.int k), .val (.int 0)] [(.ref x)]) := c0.trans (by
    refine XS.aloadN X0.here hx rfl (hb hby d8_0) rfl rfl ?_
    exact .refl _)
  obtain ⟨v2, T2, L2, X2, ⟨N2', rfl, e2⟩, c2'⟩ := own_virt X0 hx hml hZ hown (gw hw 44 rfl) (gw hw 45 rfl) (gw hw 47 rfl) (gw hw 46 rfl) (gw hw 47 rfl) (by decide) (kc := 0) (ks := 0) (h := h0) (W := 0) (b := x) (argsL := []) (rest := []) (own_pay (W := 0) (rmIsL l Z a0 hw x z fm h0 O0 Cd hs) hZ (gw hw 48 rfl) (gw hw 11 rfl) (by decide) (by decide)) E c1 (lenOf pd_2 rfl) rfl (hb hby d8_1) e0
  have N2 := Fr.app N0 N2'
  have c2 : Go p e below S0 T2 (mkF m 4 #[.val (.ref x), .val (.int k), .val (.int 0)] [(.int 1)]) := c2'
  obtain ⟨T3, X3, e3, st3⟩ := getF X2 hx hZ hown (host := "") (Or.inl (gw hw 28 rfl)) Via.refl e2 V (g := (mkF m 8 #[.val (.ref x), .val (.int k), .val (.int 0)] [(.ref x)])) rfl rfl (hb hby d8_8)
  have c4 : Go p e below S0 T3 (mkF m 14 #[.val (.ref x), .val (.int k), .val (.int 0)] [(.ref x), (.int 0), (.int k), (.ref t)]) := c2.trans (by
    refine XS.ifNo X2.here hx rfl (hb hby d8_4) rfl ((if0 _ _).trans (feq (by decide : ¬ ((1 : Int32) = (0 : Int32)))).1) ?_
    refine XS.aloadN X2.here hx rfl (hb hby d8_7) rfl rfl ?_
    refine st3 _ ?_
    refine XS.iloadN X3.here hx rfl (hb hby d8_11) rfl ?_
    refine XS.iloadN X3.here hx rfl (hb hby d8_12) rfl ?_
    refine XS.aloadN X3.here hx rfl (hb hby d8_13) rfl rfl ?_
    exact .refl _)
  obtain ⟨v5, T5, L5, X5, ⟨rfl, rfl, e5⟩, c5'⟩ := own_virt X3 hx hml hZ hown (gw hw 50 rfl) (gw hw 51 rfl) (gw hw 53 rfl) (gw hw 52 rfl) (gw hw 53 rfl) (by decide) (Q := fun v h' L => v = some (.int (Int32.ofNat ([xa, xb, xc] : List Int32).length)) ∧ L = [] ∧ h' = h0) (kc := 0) (ks := 0) (h := h0) (W := 3) (b := x) (argsL := []) (rest := [(.int 0), (.int k), (.ref t)]) (StrChars.Road.lenW (s := s) (R := ({ frames := 2, cells := 0, slots := 0, locals := 60 } : Room)) (W := 3) hZ (own_wl hw) (kI := 4) (gw hw 10 rfl) (cs := [xa, xb, xc]) E V Cd K (StrChars.Road.codOf (n := ([xa, xb, xc] : List Int32).length) rfl (fun c hc => ((own_cons hBxa (own_cons hBxb (own_cons hBxc own_nil))) c hc).rng.2)) (fun c hc => ((own_cons hBxa (own_cons hBxb (own_cons hBxc own_nil))) c hc).rng2) (SC.ext O0.2) hz (Nat.le_of_ble_eq_true rfl) (by decide) (by decide)) E c4 (lenOf pd_3 rfl) rfl (hb hby d8_14) e3
  have N5 := Fr.app N2 (Fr.nil _)
  have c5 : Go p e below S0 T5 (mkF m 17 #[.val (.ref x), .val (.int k), .val (.int 0)] [(.int 3), (.int 0), (.int k), (.ref t)]) := c5'
  obtain ⟨v6, T6, L6, X6, ⟨N6', ⟨r6, rfl, hr6⟩, e6⟩, c6'⟩ := own_stat X5 hx hml hZ hown (gw hw 60 rfl) (gw hw 61 rfl) (gw hw 62 rfl) (gw hw 63 rfl) (by decide) (kc := 0) (ks := 0) (h := h0) (W := 0) (argsL := [(.ref t), (.int k), (.int 0), (.int 3)]) (rest := []) (own_pay (W := 0) (rmL1I3 l Z a0 hw t kb k xa xb xc h0 O0 K hk hBxa hBxb hBxc) hZ (gw hw 63 rfl) (gw hw 62 rfl) (by decide) (by decide)) c5 (lenOf pd_4 rfl) rfl (hb hby d8_17) e5
  have N6 := Fr.app N5 N6'
  have c6 : Go p e below S0 T6 (mkF m 20 #[.val (.ref x), .val (.int k), .val (.int 0)] [(.int r6)]) := c6'
  have c7 : Go p e below S0 T6 (mkF m 36 #[.val (.ref x), .val (.int k), .val (.int 0)] [(.int r6)]) := c6.trans (by
    refine XS.goto X6.here hx rfl (pc0 := 20) (pc' := 36) rfl (hb hby d8_20) (by decide) (by decide) ?_
    exact .refl _)
  refine ⟨T6, (some (.int r6)), _, _, _, X6, by decide, by decide, (fun q => by cases q), N6, ?_, fun fs hr => ?_⟩
  · rw [e6]
    exact ⟨⟨_, rfl, hr6⟩, rfl⟩
  · exact c7.trans (retI X6 hx hret (hb hby d8_36) hr)
theorem rmIxL3 (l : Launch) (Z : State) (a0 : Array Value) (hw : own_W Z a0) (x t : Addr) (kb : ClassId) (k : Int32) (xa xb xc : Int32) (z : Int32) (fm : Value) (h0 : Heap) (O0 : Old Z Z.heap.size h0) (E : Exa Z h0 x "java/lang/String") (V : Fld Z h0 x "java/lang/String" "value" "[B" (.ref t)) (Cd : Fld Z h0 x "java/lang/String" "coder" "B" (.int (0 : Int32))) (K : Arv Z h0 t kb .byte (Int32.ofNat ([xa, xb, xc] : List Int32).length) ((([xa, xb, xc] : List Int32).map (fun c : Int32 => c.toInt8.toInt32)).map Value.int) (.int (0 : Int32))) (hk : own_B k) (hBxa : own_B xa) (hBxb : own_B xb) (hBxc : own_B xc) (hs : own_S Z z fm) :
    own_NC l Z (⟨"java/lang/String", "indexOf", "(I)I"⟩ : MethodName) jdk_42_method_79_code 2 (some .int) ({ frames := 3, cells := 0, slots := 0, locals := 80 } : Room) #[(.ref x), (.int k)] h0 (fun v h => (∃ r : Int32, v = some (.int r) ∧ decide (r < (0 : Int32)) = !own_has [xa, xb, xc] k) ∧ h = h0) := by
  refine own_nc (plainFor_of_name pnl2) ?_
  intro p e s m below meth c s₁ S0 X0 hx hby hml hret hnm hown hZ e0 cc
  have N0 := Fr.nil Z.heap.size
  have c0 : Go p e below S0 s₁ (mkF m 0 #[.val (.ref x), .val (.int k)] []) := cc.trans (XT.entry rfl)
  obtain ⟨SC, hz, SF, hfm, SA, SH, SL⟩ := id hs
  have c1 : Go p e below S0 s₁ (mkF m 3 #[.val (.ref x), .val (.int k)] [(.int 0), (.int k), (.ref x)]) := c0.trans (by
    refine XS.aloadN X0.here hx rfl (hb hby d7_0) rfl rfl ?_
    refine XS.iloadN X0.here hx rfl (hb hby d7_1) rfl ?_
    refine XS.iconst X0.here hx rfl (hb hby d7_2) ?_
    exact .refl _)
  obtain ⟨v2, T2, L2, X2, ⟨N2', ⟨r2, rfl, hr2⟩, e2⟩, c2'⟩ := own_virt X0 hx hml hZ hown (gw hw 39 rfl) (gw hw 40 rfl) (gw hw 42 rfl) (gw hw 41 rfl) (gw hw 42 rfl) (by decide) (kc := 0) (ks := 0) (h := h0) (W := 0) (b := x) (argsL := [(.int k), (.int 0)]) (rest := []) (own_pay (W := 0) (rmIxIIL3 l Z a0 hw x t kb k xa xb xc z fm h0 O0 E V Cd K hk hBxa hBxb hBxc hs) hZ (gw hw 43 rfl) (gw hw 11 rfl) (by decide) (by decide)) E c1 (lenOf pd_1 rfl) rfl (hb hby d7_3) e0
  have N2 := Fr.app N0 N2'
  have c2 : Go p e below S0 T2 (mkF m 6 #[.val (.ref x), .val (.int k)] [(.int r2)]) := c2'
  refine ⟨T2, (some (.int r2)), _, _, _, X2, by decide, by decide, (fun q => by cases q), N2, ?_, fun fs hr => ?_⟩
  · rw [e2]
    exact ⟨⟨_, rfl, hr2⟩, rfl⟩
  · exact c2.trans (retI X2 hx hret (hb hby d7_6) hr)
theorem rmFitL3 (l : Launch) (Z : State) (a0 : Array Value) (hw : own_W Z a0) (x t : Addr) (kb : ClassId) (xa xb xc : Int32) (z : Int32) (fm : Value) (h0 : Heap) (O0 : Old Z Z.heap.size h0) (E : Exa Z h0 x "java/lang/String") (V : Fld Z h0 x "java/lang/String" "value" "[B" (.ref t)) (Cd : Fld Z h0 x "java/lang/String" "coder" "B" (.int (0 : Int32))) (K : Arv Z h0 t kb .byte (Int32.ofNat ([xa, xb, xc] : List Int32).length) ((([xa, xb, xc] : List Int32).map (fun c : Int32 => c.toInt8.toInt32)).map Value.int) (.int (0 : Int32))) (hBxa : own_B xa) (hBxb : own_B xb) (hBxc : own_B xc) (hs : own_S Z z fm) :
    own_NC l Z (⟨"com/example/caseward/caseward/core/Right", "fitsField", "(Ljava/lang/String;)Z"⟩ : MethodName) prog_47_method_5_code 1 (some .boolean) ({ frames := 4, cells := 0, slots := 0, locals := 100 } : Room) #[(.ref x)] h0 (fun v h => v = some (.int (own_i (!own_has [xa, xb, xc] (44 : Int32) && !own_has [xa, xb, xc] (10 : Int32) && !own_has [xa, xb, xc] (13 : Int32)))) ∧ h = h0) := by
  refine own_nc (plainFor_of_name pnl3) ?_
  intro p e s m below meth c s₁ S0 X0 hx hby hml hret hnm hown hZ e0 cc
  have N0 := Fr.nil Z.heap.size
  have c0 : Go p e below S0 s₁ (mkF m 0 #[.val (.ref x)] []) := cc.trans (XT.entry rfl)
  obtain ⟨SC, hz, SF, hfm, SA, SH, SL⟩ := id hs
  have c1 : Go p e below S0 s₁ (mkF m 3 #[.val (.ref x)] [(.int 44), (.ref x)]) := c0.trans (by
    refine XS.aloadN X0.here hx rfl (hb hby d6_0) rfl rfl ?_
    refine XS.bipush X0.here hx rfl (hb hby d6_1) ?_
    exact .refl _)
  obtain ⟨v2, T2, L2, X2, ⟨N2', ⟨r2, rfl, hr2⟩, e2⟩, c2'⟩ := own_virt X0 hx hml hZ hown (gw hw 34 rfl) (gw hw 35 rfl) (gw hw 37 rfl) (gw hw 36 rfl) (gw hw 37 rfl) (by decide) (kc := 0) (ks := 0) (h := h0) (W := 0) (b := x) (argsL := [(.int 44)]) (rest := []) (own_pay (W := 0) (rmIxL3 l Z a0 hw x t kb (44 : Int32) xa xb xc z fm h0 O0 E V Cd K (own_Bl 44 (by decide)) hBxa hBxb hBxc hs) hZ (gw hw 38 rfl) (gw hw 11 rfl) (by decide) (by decide)) E c1 (lenOf pd_5 rfl) rfl (hb hby d6_3) e0
  have N2 := Fr.app N0 N2'
  have c2 : Go p e below S0 T2 (mkF m 6 #[.val (.ref x)] [(.int r2)]) := c2'
  by_cases hc3 : r2 < (0 : Int32)
  · skip
    have c4 : Go p e below S0 T2 (mkF m 12 #[.val (.ref x)] [(.int 10), (.ref x)]) := c2.trans (by
      refine XS.ifNo X2.here hx rfl (hb hby d6_6) rfl ((if0 _ _).trans (tlt hc3).2.1) ?_
      refine XS.aloadN X2.here hx rfl (hb hby d6_9) rfl rfl ?_
      refine XS.bipush X2.here hx rfl (hb hby d6_10) ?_
      exact .refl _)
    obtain ⟨v5, T5, L5, X5, ⟨N5', ⟨r5, rfl, hr5⟩, e5⟩, c5'⟩ := own_virt X2 hx hml hZ hown (gw hw 34 rfl) (gw hw 35 rfl) (gw hw 37 rfl) (gw hw 36 rfl) (gw hw 37 rfl) (by decide) (kc := 0) (ks := 0) (h := h0) (W := 0) (b := x) (argsL := [(.int 10)]) (rest := []) (own_pay (W := 0) (rmIxL3 l Z a0 hw x t kb (10 : Int32) xa xb xc z fm h0 O0 E V Cd K (own_Bl 10 (by decide)) hBxa hBxb hBxc hs) hZ (gw hw 38 rfl) (gw hw 11 rfl) (by decide) (by decide)) E c4 (lenOf pd_5 rfl) rfl (hb hby d6_12) e2
    have N5 := Fr.app N2 N5'
    have c5 : Go p e below S0 T5 (mkF m 15 #[.val (.ref x)] [(.int r5)]) := c5'
    by_cases hc6 : r5 < (0 : Int32)
    · skip
      have c7 : Go p e below S0 T5 (mkF m 21 #[.val (.ref x)] [(.int 13), (.ref x)]) := c5.trans (by
        refine XS.ifNo X5.here hx rfl (hb hby d6_15) rfl ((if0 _ _).trans (tlt hc6).2.1) ?_
        refine XS.aloadN X5.here hx rfl (hb hby d6_18) rfl rfl ?_
        refine XS.bipush X5.here hx rfl (hb hby d6_19) ?_
        exact .refl _)
      obtain ⟨v8, T8, L8, X8, ⟨N8', ⟨r8, rfl, hr8⟩, e8⟩, c8'⟩ := own_virt X5 hx hml hZ hown (gw hw 34 rfl) (gw hw 35 rfl) (gw hw 37 rfl) (gw hw 36 rfl) (gw hw 37 rfl) (by decide) (kc := 0) (ks := 0) (h := h0) (W := 0) (b := x) (argsL := [(.int 13)]) (rest := []) (own_pay (W := 0) (rmIxL3 l Z a0 hw x t kb (13 : Int32) xa xb xc z fm h0 O0 E V Cd K (own_Bl 13 (by decide)) hBxa hBxb hBxc hs) hZ (gw hw 38 rfl) (gw hw 11 rfl) (by decide) (by decide)) E c7 (lenOf pd_5 rfl) rfl (hb hby d6_21) e5
      have N8 := Fr.app N5 N8'
      have c8 : Go p e below S0 T8 (mkF m 24 #[.val (.ref x)] [(.int r8)]) := c8'
      by_cases hc9 : r8 < (0 : Int32)
      · skip
        have c10 : Go p e below S0 T8 (mkF m 32 #[.val (.ref x)] [(.int 1)]) := c8.trans (by
          refine XS.ifNo X8.here hx rfl (hb hby d6_24) rfl ((if0 _ _).trans (tlt hc9).2.1) ?_
          refine XS.iconst X8.here hx rfl (hb hby d6_27) ?_
          refine XS.goto X8.here hx rfl (pc0 := 28) (pc' := 32) rfl (hb hby d6_28) (by decide) (by decide) ?_
          exact .refl _)
        refine ⟨T8, (some (.int (1 : Int32))), _, _, _, X8, by decide, by decide, (fun q => by cases q), N8, ?_, fun fs hr => ?_⟩
        · rw [e8]
          have q2' := own_rdec hr2
          have q5' := own_rdec hr5
          have q8' := own_rdec hr8
          exact ⟨by simp [own_i, (q2').mpr hc3, (q5').mpr hc6, (q8').mpr hc9], rfl⟩
        · exact c10.trans (retN X8 hx (t := .boolean) hret (by simp) (hb hby d6_32) hr)
      · skip
        have c12 : Go p e below S0 T8 (mkF m 32 #[.val (.ref x)] [(.int 0)]) := c8.trans (by
          refine XS.ifYes X8.here hx rfl (pc0 := 24) (pc' := 31) rfl (hb hby d6_24) rfl ((if0 _ _).trans (flt hc9).2.1) (by decide) (by decide) ?_
          refine XS.iconst X8.here hx rfl (hb hby d6_31) ?_
          exact .refl _)
        refine ⟨T8, (some (.int (0 : Int32))), _, _, _, X8, by decide, by decide, (fun q => by cases q), N8, ?_, fun fs hr => ?_⟩
        · rw [e8]
          have q2' := own_rdec hr2
          have q5' := own_rdec hr5
          have q8' := own_rdec hr8
          exact ⟨by simp [own_i, (q2').mpr hc3, (q5').mpr hc6, (show _ = false from Bool.eq_false_iff.mpr (fun z => hc9 ((q8').mp z)))], rfl⟩
        · exact c12.trans (retN X8 hx (t := .boolean) hret (by simp) (hb hby d6_32) hr)
    · skip
      have c14 : Go p e below S0 T5 (mkF m 32 #[.val (.ref x)] [(.int 0)]) := c5.trans (by
        refine XS.ifYes X5.here hx rfl (pc0 := 15) (pc' := 31) rfl (hb hby d6_15) rfl ((if0 _ _).trans (flt hc6).2.1) (by decide) (by decide) ?_
        refine XS.iconst X5.here hx rfl (hb hby d6_31) ?_
        exact .refl _)
      refine ⟨T5, (some (.int (0 : Int32))), _, _, _, X5, by decide, by decide, (fun q => by cases q), N5, ?_, fun fs hr => ?_⟩
      · rw [e5]
        have q2' := own_rdec hr2
        have q5' := own_rdec hr5
        exact ⟨by simp [own_i, (q2').mpr hc3, (show _ = false from Bool.eq_false_iff.mpr (fun z => hc6 ((q5').mp z)))], rfl⟩
      · exact c14.trans (retN X5 hx (t := .boolean) hret (by simp) (hb hby d6_32) hr)
  · skip
    have c16 : Go p e below S0 T2 (mkF m 32 #[.val (.ref x)] [(.int 0)]) := c2.trans (by
      refine XS.ifYes X2.here hx rfl (pc0 := 6) (pc' := 31) rfl (hb hby d6_6) rfl ((if0 _ _).trans (flt hc3).2.1) (by decide) (by decide) ?_
      refine XS.iconst X2.here hx rfl (hb hby d6_31) ?_
      exact .refl _)
    refine ⟨T2, (some (.int (0 : Int32))), _, _, _, X2, by decide, by decide, (fun q => by cases q), N2, ?_, fun fs hr => ?_⟩
    · rw [e2]
      have q2' := own_rdec hr2
      exact ⟨by simp [own_i, (show _ = false from Bool.eq_false_iff.mpr (fun z => hc3 ((q2').mp z)))], rfl⟩
    · exact c16.trans (retN X2 hx (t := .boolean) hret (by simp) (hb hby d6_32) hr)
theorem rmL1C4 (l : Launch) (Z : State) (a0 : Array Value) (hw : own_W Z a0) (t : Addr) (kb : ClassId) (k : Int32) (xa xb xc xd : Int32) (h0 : Heap) (O0 : Old Z Z.heap.size h0) (Kt : Arv Z h0 t kb .byte (4 : Int32) [(.int (xa.toInt8.toInt32)), (.int (xb.toInt8.toInt32)), (.int (xc.toInt8.toInt32)), (.int (xd.toInt8.toInt32))] (.int (0 : Int32))) (hk : own_B k) (hBxa : own_B xa) (hBxb : own_B xb) (hBxc : own_B xc) (hBxd : own_B xd) :
    own_NC l Z (⟨"java/lang/StringLatin1", "indexOfChar", "([BIII)I"⟩ : MethodName) jdk_43_method_23_code 6 (some .int) ({ frames := 0, cells := 0, slots := 0, locals := 0 } : Room) #[(.ref t), (.int k), (.int 0), (.int 4)] h0 (fun v h => (∃ r : Int32, v = some (.int r) ∧ decide (r < (0 : Int32)) = !own_has [xa, xb, xc, xd] k) ∧ h = h0) := by
  refine own_nc (plainFor_of_name pnl1) ?_
  intro p e s m below meth c s₁ S0 X0 hx hby hml hret hnm hown hZ e0 cc
  have N0 := Fr.nil Z.heap.size
  have c0 : Go p e below S0 s₁ (mkF m 0 #[.val (.ref t), .val (.int k), .val (.int 0), .val (.int 4), .unset, .unset] []) := cc.trans (XT.entry rfl)
  obtain ⟨cl1, Ar1, q1, S1, M1, H1, G1⟩ := id Kt
  have hin1 : ¬ ((0 : Int32) < 0 ∨ cl1.slots.size ≤ ((0 : Int32)).toNatClampNeg) := inb_of S1 ⟨by decide, by decide⟩
  have hat1 := Has.at (v := .int (xa.toInt8.toInt32)) H1 hin1 rfl
  have c2 : Go p e below S0 s₁ (mkF m 19 #[.val (.ref t), .val (.int k), .val (.int 0), .val (.int 4), .val (.int (k.toInt8.toInt32)), .val (.int 0)] [(.int (k.toInt8.toInt32)), (.int (xa.toInt8.toInt32))]) := c0.trans (by
    refine XS.iloadN X0.here hx rfl (hb hby d19_0) rfl ?_
    refine XS.i2b X0.here hx rfl (hb hby d19_1) rfl ?_
    refine XS.istore X0.here hx rfl (hb hby d19_2) rfl (l' := #[.val (.ref t), .val (.int k), .val (.int 0), .val (.int 4), .val (.int (k.toInt8.toInt32)), .unset]) rfl ?_
    refine XS.iloadN X0.here hx rfl (hb hby d19_4) rfl ?_
    refine XS.istore X0.here hx rfl (hb hby d19_5) rfl (l' := #[.val (.ref t), .val (.int k), .val (.int 0), .val (.int 4), .val (.int (k.toInt8.toInt32)), .val (.int 0)]) rfl ?_
    refine XS.iload X0.here hx rfl (hb hby d19_7) rfl ?_
    refine XS.iloadN X0.here hx rfl (hb hby d19_9) rfl ?_
    refine XS.icmpNo X0.here hx rfl (hb hby d19_10) rfl (tlt (by decide : (0 : Int32) < (4 : Int32))).2.1 ?_
    refine XS.aloadN X0.here hx rfl (hb hby d19_13) rfl rfl ?_
    show Steps p.tables e below (s₁.setTop (mkF m 14 #[.val (.ref t), .val (.int k), .val (.int 0), .val (.int 4), .val (.int (k.toInt8.toInt32)), .val (.int 0)] [(.ref t)])) _
    refine XS.iload X0.here hx rfl (hb hby d19_14) rfl ?_
    refine X0.baloadBytes hx (cell := cl1) (by rw [show s₁.heap = h0 from e0]; exact Ar1.1) (State.isArrayOf_alike (hZ).alike Ar1.2.1) Ar1.2.2 hin1 hat1 (g := (mkF m 16 #[.val (.ref t), .val (.int k), .val (.int 0), .val (.int 4), .val (.int (k.toInt8.toInt32)), .val (.int 0)] [(.int 0), (.ref t)])) rfl rfl (hb hby d19_16) _ ?_
    refine XS.iload X0.here hx rfl (hb hby d19_17) rfl ?_
    exact .refl _)
  by_cases hc3 : (xa.toInt8.toInt32) = (k.toInt8.toInt32)
  · skip
    have c4 : Go p e below S0 s₁ (mkF m 24 #[.val (.ref t), .val (.int k), .val (.int 0), .val (.int 4), .val (.int (k.toInt8.toInt32)), .val (.int 0)] [(.int 0)]) := c2.trans (by
      refine XS.icmpNo X0.here hx rfl (hb hby d19_19) rfl (teq hc3).2 ?_
      refine XS.iload X0.here hx rfl (hb hby d19_22) rfl ?_
      exact .refl _)
    refine ⟨s₁, (some (.int 0)), _, _, _, X0, by decide, by decide, (fun q => by cases q), N0, ?_, fun fs hr => ?_⟩
    · rw [e0]
      simp only [hBxa.inj hk, hBxb.inj hk, hBxc.inj hk, hBxd.inj hk] at hc3
      exact ⟨⟨_, rfl, by simp [own_has, hc3]⟩, rfl⟩
    · exact c4.trans (retI X0 hx hret (hb hby d19_24) hr)
  · skip
    obtain ⟨cl6, Ar6, q6, S6, M6, H6, G6⟩ := id Kt
    have hin6 : ¬ ((1 : Int32) < 0 ∨ cl6.slots.size ≤ ((1 : Int32)).toNatClampNeg) := inb_of S6 ⟨by decide, by decide⟩
    have hat6 := Has.at (v := .int (xb.toInt8.toInt32)) H6 hin6 rfl
    have c7 : Go p e below S0 s₁ (mkF m 19 #[.val (.ref t), .val (.int k), .val (.int 0), .val (.int 4), .val (.int (k.toInt8.toInt32)), .val (.int 1)] [(.int (k.toInt8.toInt32)), (.int (xb.toInt8.toInt32))]) := c2.trans (by
      refine XS.icmpYes X0.here hx rfl (pc0 := 19) (pc' := 25) rfl (hb hby d19_19) rfl (feq hc3).2 (by decide) (by decide) ?_
      refine XS.iinc X0.here hx rfl (hb hby d19_25) rfl (l' := #[.val (.ref t), .val (.int k), .val (.int 0), .val (.int 4), .val (.int (k.toInt8.toInt32)), .val (.int 1)]) rfl ?_
      refine XS.goto X0.here hx rfl (pc0 := 28) (pc' := 7) rfl (hb hby d19_28) (by decide) (by decide) ?_
      refine XS.iload X0.here hx rfl (hb hby d19_7) rfl ?_
      refine XS.iloadN X0.here hx rfl (hb hby d19_9) rfl ?_
      refine XS.icmpNo X0.here hx rfl (hb hby d19_10) rfl (tlt (by decide : (1 : Int32) < (4 : Int32))).2.1 ?_
      refine XS.aloadN X0.here hx rfl (hb hby d19_13) rfl rfl ?_
      refine XS.iload X0.here hx rfl (hb hby d19_14) rfl ?_
      refine X0.baloadBytes hx (cell := cl6) (by rw [show s₁.heap = h0 from e0]; exact Ar6.1) (State.isArrayOf_alike (hZ).alike Ar6.2.1) Ar6.2.2 hin6 hat6 (g := (mkF m 16 #[.val (.ref t), .val (.int k), .val (.int 0), .val (.int 4), .val (.int (k.toInt8.toInt32)), .val (.int 1)] [(.int 1), (.ref t)])) rfl rfl (hb hby d19_16) _ ?_
      refine XS.iload X0.here hx rfl (hb hby d19_17) rfl ?_
      show Steps p.tables e below (s₁.setTop (mkF m 19 #[.val (.ref t), .val (.int k), .val (.int 0), .val (.int 4), .val (.int (k.toInt8.toInt32)), .val (.int 1)] [(.int (k.toInt8.toInt32)), (.int (xb.toInt8.toInt32))])) _
      exact .refl _)
    by_cases hc8 : (xb.toInt8.toInt32) = (k.toInt8.toInt32)
    · skip
      have c9 : Go p e below S0 s₁ (mkF m 24 #[.val (.ref t), .val (.int k), .val (.int 0), .val (.int 4), .val (.int (k.toInt8.toInt32)), .val (.int 1)] [(.int 1)]) := c7.trans (by
        refine XS.icmpNo X0.here hx rfl (hb hby d19_19) rfl (teq hc8).2 ?_
        refine XS.iload X0.here hx rfl (hb hby d19_22) rfl ?_
        exact .refl _)
      refine ⟨s₁, (some (.int 1)), _, _, _, X0, by decide, by decide, (fun q => by cases q), N0, ?_, fun fs hr => ?_⟩
      · rw [e0]
        simp only [hBxa.inj hk, hBxb.inj hk, hBxc.inj hk, hBxd.inj hk] at hc3 hc8
        exact ⟨⟨_, rfl, by simp [own_has, hc3, hc8]⟩, rfl⟩
      · exact c9.trans (retI X0 hx hret (hb hby d19_24) hr)
    · skip
      obtain ⟨cl11, Ar11, q11, S11, M11, H11, G11⟩ := id Kt
      have hin11 : ¬ ((2 : Int32) < 0 ∨ cl11.slots.size ≤ ((2 : Int32)).toNatClampNeg) := inb_of S11 ⟨by decide, by decide⟩
      have hat11 := Has.at (v := .int (xc.toInt8.toInt32)) H11 hin11 rfl
      have c12 : Go p e below S0 s₁ (mkF m 19 #[.val (.ref t), .val (.int k), .val (.int 0), .val (.int 4), .val (.int (k.toInt8.toInt32)), .val (.int 2)] [(.int (k.toInt8.toInt32)), (.int (xc.toInt8.toInt32))]) := c7.trans (by
        refine XS.icmpYes X0.here hx rfl (pc0 := 19) (pc' := 25) rfl (hb hby d19_19) rfl (feq hc8).2 (by decide) (by decide) ?_
        refine XS.iinc X0.here hx rfl (hb hby d19_25) rfl (l' := #[.val (.ref t), .val (.int k), .val (.int 0), .val (.int 4), .val (.int (k.toInt8.toInt32)), .val (.int 2)]) rfl ?_
        refine XS.goto X0.here hx rfl (pc0 := 28) (pc' := 7) rfl (hb hby d19_28) (by decide) (by decide) ?_
        refine XS.iload X0.here hx rfl (hb hby d19_7) rfl ?_
        refine XS.iloadN X0.here hx rfl (hb hby d19_9) rfl ?_
        refine XS.icmpNo X0.here hx rfl (hb hby d19_10) rfl (tlt (by decide : (2 : Int32) < (4 : Int32))).2.1 ?_
        refine XS.aloadN X0.here hx rfl (hb hby d19_13) rfl rfl ?_
        refine XS.iload X0.here hx rfl (hb hby d19_14) rfl ?_
        refine X0.baloadBytes hx (cell := cl11) (by rw [show s₁.heap = h0 from e0]; exact Ar11.1) (State.isArrayOf_alike (hZ).alike Ar11.2.1) Ar11.2.2 hin11 hat11 (g := (mkF m 16 #[.val (.ref t), .val (.int k), .val (.int 0), .val (.int 4), .val (.int (k.toInt8.toInt32)), .val (.int 2)] [(.int 2), (.ref t)])) rfl rfl (hb hby d19_16) _ ?_
        refine XS.iload X0.here hx rfl (hb hby d19_17) rfl ?_
        show Steps p.tables e below (s₁.setTop (mkF m 19 #[.val (.ref t), .val (.int k), .val (.int 0), .val (.int 4), .val (.int (k.toInt8.toInt32)), .val (.int 2)] [(.int (k.toInt8.toInt32)), (.int (xc.toInt8.toInt32))])) _
        exact .refl _)
      by_cases hc13 : (xc.toInt8.toInt32) = (k.toInt8.toInt32)
      · skip
        have c14 : Go p e below S0 s₁ (mkF m 24 #[.val (.ref t), .val (.int k), .val (.int 0), .val (.int 4), .val (.int (k.toInt8.toInt32)), .val (.int 2)] [(.int 2)]) := c12.trans (by
          refine XS.icmpNo X0.here hx rfl (hb hby d19_19) rfl (teq hc13).2 ?_
          refine XS.iload X0.here hx rfl (hb hby d19_22) rfl ?_
          exact .refl _)
        refine ⟨s₁, (some (.int 2)), _, _, _, X0, by decide, by decide, (fun q => by cases q), N0, ?_, fun fs hr => ?_⟩
        · rw [e0]
          simp only [hBxa.inj hk, hBxb.inj hk, hBxc.inj hk, hBxd.inj hk] at hc3 hc8 hc13
          exact ⟨⟨_, rfl, by simp [own_has, hc3, hc8, hc13]⟩, rfl⟩
        · exact c14.trans (retI X0 hx hret (hb hby d19_24) hr)
      · skip
        obtain ⟨cl16, Ar16, q16, S16, M16, H16, G16⟩ := id Kt
        have hin16 : ¬ ((3 : Int32) < 0 ∨ cl16.slots.size ≤ ((3 : Int32)).toNatClampNeg) := inb_of S16 ⟨by decide, by decide⟩
        have hat16 := Has.at (v := .int (xd.toInt8.toInt32)) H16 hin16 rfl
        have c17 : Go p e below S0 s₁ (mkF m 19 #[.val (.ref t), .val (.int k), .val (.int 0), .val (.int 4), .val (.int (k.toInt8.toInt32)), .val (.int 3)] [(.int (k.toInt8.toInt32)), (.int (xd.toInt8.toInt32))]) := c12.trans (by
          refine XS.icmpYes X0.here hx rfl (pc0 := 19) (pc' := 25) rfl (hb hby d19_19) rfl (feq hc13).2 (by decide) (by decide) ?_
          refine XS.iinc X0.here hx rfl (hb hby d19_25) rfl (l' := #[.val (.ref t), .val (.int k), .val (.int 0), .val (.int 4), .val (.int (k.toInt8.toInt32)), .val (.int 3)]) rfl ?_
          refine XS.goto X0.here hx rfl (pc0 := 28) (pc' := 7) rfl (hb hby d19_28) (by decide) (by decide) ?_
          refine XS.iload X0.here hx rfl (hb hby d19_7) rfl ?_
          refine XS.iloadN X0.here hx rfl (hb hby d19_9) rfl ?_
          refine XS.icmpNo X0.here hx rfl (hb hby d19_10) rfl (tlt (by decide : (3 : Int32) < (4 : Int32))).2.1 ?_
          refine XS.aloadN X0.here hx rfl (hb hby d19_13) rfl rfl ?_
          refine XS.iload X0.here hx rfl (hb hby d19_14) rfl ?_
          refine X0.baloadBytes hx (cell := cl16) (by rw [show s₁.heap = h0 from e0]; exact Ar16.1) (State.isArrayOf_alike (hZ).alike Ar16.2.1) Ar16.2.2 hin16 hat16 (g := (mkF m 16 #[.val (.ref t), .val (.int k), .val (.int 0), .val (.int 4), .val (.int (k.toInt8.toInt32)), .val (.int 3)] [(.int 3), (.ref t)])) rfl rfl (hb hby d19_16) _ ?_
          refine XS.iload X0.here hx rfl (hb hby d19_17) rfl ?_
          show Steps p.tables e below (s₁.setTop (mkF m 19 #[.val (.ref t), .val (.int k), .val (.int 0), .val (.int 4), .val (.int (k.toInt8.toInt32)), .val (.int 3)] [(.int (k.toInt8.toInt32)), (.int (xd.toInt8.toInt32))])) _
          exact .refl _)
        by_cases hc18 : (xd.toInt8.toInt32) = (k.toInt8.toInt32)
        · skip
          have c19 : Go p e below S0 s₁ (mkF m 24 #[.val (.ref t), .val (.int k), .val (.int 0), .val (.int 4), .val (.int (k.toInt8.toInt32)), .val (.int 3)] [(.int 3)]) := c17.trans (by
            refine XS.icmpNo X0.here hx rfl (hb hby d19_19) rfl (teq hc18).2 ?_
            refine XS.iload X0.here hx rfl (hb hby d19_22) rfl ?_
            exact .refl _)
          refine ⟨s₁, (some (.int 3)), _, _, _, X0, by decide, by decide, (fun q => by cases q), N0, ?_, fun fs hr => ?_⟩
          · rw [e0]
            simp only [hBxa.inj hk, hBxb.inj hk, hBxc.inj hk, hBxd.inj hk] at hc3 hc8 hc13 hc18
            exact ⟨⟨_, rfl, by simp [own_has, hc3, hc8, hc13, hc18]⟩, rfl⟩
          · exact c19.trans (retI X0 hx hret (hb hby d19_24) hr)
        · skip
          have c21 : Go p e below S0 s₁ (mkF m 32 #[.val (.ref t), .val (.int k), .val (.int 0), .val (.int 4), .val (.int (k.toInt8.toInt32)), .val (.int 4)] [(.int (-1))]) := c17.trans (by
            refine XS.icmpYes X0.here hx rfl (pc0 := 19) (pc' := 25) rfl (hb hby d19_19) rfl (feq hc18).2 (by decide) (by decide) ?_
            refine XS.iinc X0.here hx rfl (hb hby d19_25) rfl (l' := #[.val (.ref t), .val (.int k), .val (.int 0), .val (.int 4), .val (.int (k.toInt8.toInt32)), .val (.int 4)]) rfl ?_
            refine XS.goto X0.here hx rfl (pc0 := 28) (pc' := 7) rfl (hb hby d19_28) (by decide) (by decide) ?_
            refine XS.iload X0.here hx rfl (hb hby d19_7) rfl ?_
            refine XS.iloadN X0.here hx rfl (hb hby d19_9) rfl ?_
            refine XS.icmpYes X0.here hx rfl (pc0 := 10) (pc' := 31) rfl (hb hby d19_10) rfl (flt (by decide : ¬ ((4 : Int32) < (4 : Int32)))).2.1 (by decide) (by decide) ?_
            refine XS.iconst X0.here hx rfl (hb hby d19_31) ?_
            exact .refl _)
          refine ⟨s₁, (some (.int (-1))), _, _, _, X0, by decide, by decide, (fun q => by cases q), N0, ?_, fun fs hr => ?_⟩
          · rw [e0]
            simp only [hBxa.inj hk, hBxb.inj hk, hBxc.inj hk, hBxd.inj hk] at hc3 hc8 hc13 hc18
            exact ⟨⟨_, rfl, by simp [own_has, hc3, hc8, hc13, hc18]⟩, rfl⟩
          · exact c21.trans (retI X0 hx hret (hb hby d19_32) hr)
theorem rmMin_4_4 (l : Launch) (Z : State) (a0 : Array Value) (hw : own_W Z a0)  (h0 : Heap) (O0 : Old Z Z.heap.size h0)  :
    own_NC l Z (⟨"java/lang/Math", "min", "(II)I"⟩ : MethodName) jdk_29_method_69_code 2 (some .int) ({ frames := 0, cells := 0, slots := 0, locals := 0 } : Room) #[(.int 4), (.int 4)] h0 (fun v h => v = some (.int (4 : Int32)) ∧ h = h0) := by
  refine own_nc (Jvm.Free.JP.mathPlain rfl (by decide +kernel)) ?_
  intro p e s m below meth c s₁ S0 X0 hx hby hml hret hnm hown hZ e0 cc
  have N0 := Fr.nil Z.heap.size
  have c0 : Go p e below S0 s₁ (mkF m 0 #[.val (.int 4), .val (.int 4)] []) := cc.trans (XT.entry rfl)
  have c1 : Go p e below S0 s₁ (mkF m 10 #[.val (.int 4), .val (.int 4)] [(.int 4)]) := c0.trans (by
    refine XS.iloadN X0.here hx rfl (hb hby d1_0) rfl ?_
    refine XS.iloadN X0.here hx rfl (hb hby d1_1) rfl ?_
    refine XS.icmpNo X0.here hx rfl (hb hby d1_2) rfl (flt (by decide : ¬ ((4 : Int32) < (4 : Int32)))).2.2.1 ?_
    refine XS.iloadN X0.here hx rfl (hb hby d1_5) rfl ?_
    refine XS.goto X0.here hx rfl (pc0 := 6) (pc' := 10) rfl (hb hby d1_6) (by decide) (by decide) ?_
    exact .refl _)
  refine ⟨s₁, (some (.int 4)), _, _, _, X0, by decide, by decide, (fun q => by cases q), N0, ?_, fun fs hr => ?_⟩
  · rw [e0]
    exact ⟨rfl, rfl⟩
  · exact c1.trans (retI X0 hx hret (hb hby d1_10) hr)
theorem rmL1I4 (l : Launch) (Z : State) (a0 : Array Value) (hw : own_W Z a0) (t : Addr) (kb : ClassId) (k : Int32) (xa xb xc xd : Int32) (h0 : Heap) (O0 : Old Z Z.heap.size h0) (Kt : Arv Z h0 t kb .byte (4 : Int32) [(.int (xa.toInt8.toInt32)), (.int (xb.toInt8.toInt32)), (.int (xc.toInt8.toInt32)), (.int (xd.toInt8.toInt32))] (.int (0 : Int32))) (hk : own_B k) (hBxa : own_B xa) (hBxb : own_B xb) (hBxc : own_B xc) (hBxd : own_B xd) :
    own_NC l Z (⟨"java/lang/StringLatin1", "indexOf", "([BIII)I"⟩ : MethodName) jdk_43_method_22_code 4 (some .int) ({ frames := 1, cells := 0, slots := 0, locals := 20 } : Room) #[(.ref t), (.int k), (.int 0), (.int 4)] h0 (fun v h => (∃ r : Int32, v = some (.int r) ∧ decide (r < (0 : Int32)) = !own_has [xa, xb, xc, xd] k) ∧ h = h0) := by
  refine own_nc (plainFor_of_name pnl1) ?_
  intro p e s m below meth c s₁ S0 X0 hx hby hml hret hnm hown hZ e0 cc
  have N0 := Fr.nil Z.heap.size
  have c0 : Go p e below S0 s₁ (mkF m 0 #[.val (.ref t), .val (.int k), .val (.int 0), .val (.int 4)] []) := cc.trans (XT.entry rfl)
  have c1 : Go p e below S0 s₁ (mkF m 1 #[.val (.ref t), .val (.int k), .val (.int 0), .val (.int 4)] [(.int k)]) := c0.trans (by
    refine XS.iloadN X0.here hx rfl (hb hby d12_0) rfl ?_
    exact .refl _)
  obtain ⟨v2, T2, L2, X2, ⟨N2', rfl, e2⟩, c2'⟩ := own_stat X0 hx hml hZ hown (gw hw 64 rfl) (gw hw 65 rfl) (gw hw 62 rfl) (gw hw 66 rfl) (by decide) (kc := 0) (ks := 0) (h := h0) (W := 0) (argsL := [(.int k)]) (rest := []) (own_pay (W := 0) (rmCan l Z a0 hw k h0 O0 hk) hZ (gw hw 66 rfl) (gw hw 62 rfl) (by decide) (by decide)) c1 (lenOf pd_0 rfl) rfl (hb hby d12_1) e0
  have N2 := Fr.app N0 N2'
  have c2 : Go p e below S0 T2 (mkF m 4 #[.val (.ref t), .val (.int k), .val (.int 0), .val (.int 4)] [(.int 1)]) := c2'
  have c3 : Go p e below S0 T2 (mkF m 11 #[.val (.ref t), .val (.int k), .val (.int 0), .val (.int 4)] [(.int 0), (.int 0)]) := c2.trans (by
    refine XS.ifYes X2.here hx rfl (pc0 := 4) (pc' := 9) rfl (hb hby d12_4) rfl ((if0 _ _).trans (feq (by decide : ¬ ((1 : Int32) = (0 : Int32)))).2) (by decide) (by decide) ?_
    refine XS.iloadN X2.here hx rfl (hb hby d12_9) rfl ?_
    refine XS.iconst X2.here hx rfl (hb hby d12_10) ?_
    exact .refl _)
  obtain ⟨v4, T4, L4, X4, ⟨N4', rfl, e4⟩, c4'⟩ := own_stat X2 hx hml hZ hown (gw hw 67 rfl) (gw hw 68 rfl) (gw hw 2 rfl) (gw hw 69 rfl) (by decide) (kc := 0) (ks := 0) (h := h0) (W := 0) (argsL := [(.int 0), (.int 0)]) (rest := []) (own_pay (W := 0) (rmMax_0_0 l Z a0 hw h0 O0) hZ (gw hw 69 rfl) (gw hw 2 rfl) (by decide) (by decide)) c3 (lenOf pd_1 rfl) rfl (hb hby d12_11) e2
  have N4 := Fr.app N2 N4'
  have c4 : Go p e below S0 T4 (mkF m 14 #[.val (.ref t), .val (.int k), .val (.int 0), .val (.int 4)] [(.int 0)]) := c4'
  obtain ⟨cl5, Ar5, q5, S5, M5, H5, G5⟩ := id Kt
  have c6 : Go p e below S0 T4 (mkF m 18 #[.val (.ref t), .val (.int k), .val (.int 0), .val (.int 4)] [(.int 4), (.int 4)]) := c4.trans (by
    refine XS.istoreN X4.here hx rfl (hb hby d12_14) rfl (l' := #[.val (.ref t), .val (.int k), .val (.int 0), .val (.int 4)]) rfl ?_
    refine XS.iloadN X4.here hx rfl (hb hby d12_15) rfl ?_
    refine XS.aloadN X4.here hx rfl (hb hby d12_16) rfl rfl ?_
    refine X4.arraylength hx (by rw [show T4.heap = h0 from e4]; exact Ar5.1) (State.isArrayOf_alike (hZ).alike Ar5.2.1) (g := (mkF m 17 #[.val (.ref t), .val (.int k), .val (.int 0), .val (.int 4)] [(.ref t), (.int 4)])) rfl rfl (hb hby d12_17) _ ?_
    rw [len_of S5 M5]
    exact .refl _)
  obtain ⟨v7, T7, L7, X7, ⟨N7', rfl, e7⟩, c7'⟩ := own_stat X4 hx hml hZ hown (gw hw 70 rfl) (gw hw 1 rfl) (gw hw 2 rfl) (gw hw 3 rfl) (by decide) (kc := 0) (ks := 0) (h := h0) (W := 0) (argsL := [(.int 4), (.int 4)]) (rest := []) (own_pay (W := 0) (rmMin_4_4 l Z a0 hw h0 O0) hZ (gw hw 3 rfl) (gw hw 2 rfl) (by decide) (by decide)) c6 (lenOf pd_1 rfl) rfl (hb hby d12_18) e4
  have N7 := Fr.app N4 N7'
  have c7 : Go p e below S0 T7 (mkF m 21 #[.val (.ref t), .val (.int k), .val (.int 0), .val (.int 4)] [(.int 4)]) := c7'
  have c8 : Go p e below S0 T7 (mkF m 33 #[.val (.ref t), .val (.int k), .val (.int 0), .val (.int 4)] [(.int 4), (.int 0), (.int k), (.ref t)]) := c7.trans (by
    refine XS.istoreN X7.here hx rfl (hb hby d12_21) rfl (l' := #[.val (.ref t), .val (.int k), .val (.int 0), .val (.int 4)]) rfl ?_
    refine XS.iloadN X7.here hx rfl (hb hby d12_22) rfl ?_
    refine XS.iloadN X7.here hx rfl (hb hby d12_23) rfl ?_
    refine XS.icmpYes X7.here hx rfl (pc0 := 24) (pc' := 29) rfl (hb hby d12_24) rfl (tlt (by decide : (0 : Int32) < (4 : Int32))).1 (by decide) (by decide) ?_
    refine XS.aloadN X7.here hx rfl (hb hby d12_29) rfl rfl ?_
    refine XS.iloadN X7.here hx rfl (hb hby d12_30) rfl ?_
    refine XS.iloadN X7.here hx rfl (hb hby d12_31) rfl ?_
    refine XS.iloadN X7.here hx rfl (hb hby d12_32) rfl ?_
    exact .refl _)
  obtain ⟨v9, T9, L9, X9, ⟨N9', ⟨r9, rfl, hr9⟩, e9⟩, c9'⟩ := own_stat X7 hx hml hZ hown (gw hw 84 rfl) (gw hw 85 rfl) (gw hw 62 rfl) (gw hw 86 rfl) (by decide) (kc := 0) (ks := 0) (h := h0) (W := 0) (argsL := [(.ref t), (.int k), (.int 0), (.int 4)]) (rest := []) (own_pay (W := 0) (rmL1C4 l Z a0 hw t kb k xa xb xc xd h0 O0 Kt hk hBxa hBxb hBxc hBxd) hZ (gw hw 86 rfl) (gw hw 62 rfl) (by decide) (by decide)) c8 (lenOf pd_4 rfl) rfl (hb hby d12_33) e7
  have N9 := Fr.app N7 N9'
  have c9 : Go p e below S0 T9 (mkF m 36 #[.val (.ref t), .val (.int k), .val (.int 0), .val (.int 4)] [(.int r9)]) := c9'
  refine ⟨T9, (some (.int r9)), _, _, _, X9, by decide, by decide, (fun q => by cases q), N9, ?_, fun fs hr => ?_⟩
  · rw [e9]
    exact ⟨⟨_, rfl, hr9⟩, rfl⟩
  · exact c9.trans (retI X9 hx hret (hb hby d12_36) hr)
theorem rmIxIIL4 (l : Launch) (Z : State) (a0 : Array Value) (hw : own_W Z a0) (x t : Addr) (kb : ClassId) (k : Int32) (xa xb xc xd : Int32) (z : Int32) (fm : Value) (h0 : Heap) (O0 : Old Z Z.heap.size h0) (E : Exa Z h0 x "java/lang/String") (V : Fld Z h0 x "java/lang/String" "value" "[B" (.ref t)) (Cd : Fld Z h0 x "java/lang/String" "coder" "B" (.int (0 : Int32))) (K : Arv Z h0 t kb .byte (Int32.ofNat ([xa, xb, xc, xd] : List Int32).length) ((([xa, xb, xc, xd] : List Int32).map (fun c : Int32 => c.toInt8.toInt32)).map Value.int) (.int (0 : Int32))) (hk : own_B k) (hBxa : own_B xa) (hBxb : own_B xb) (hBxc : own_B xc) (hBxd : own_B xd) (hs : own_S Z z fm) :
    own_NC l Z (⟨"java/lang/String", "indexOf", "(II)I"⟩ : MethodName) jdk_42_method_80_code 3 (some .int) ({ frames := 2, cells := 0, slots := 0, locals := 60 } : Room) #[(.ref x), (.int k), (.int 0)] h0 (fun v h => (∃ r : Int32, v = some (.int r) ∧ decide (r < (0 : Int32)) = !own_has [xa, xb, xc, xd] k) ∧ h = h0) := by
  refine own_nc (plainFor_of_name pnl2) ?_
  intro p e s m below meth c s₁ S0 X0 hx hby hml hret hnm hown hZ e0 cc
  have N0 := Fr.nil Z.heap.size
  have c0 : Go p e below S0 s₁ (mkF m 0 #[.val (.ref x), .val (.int k), .val (.int 0)] []) := cc.trans (XT.entry rfl)
  obtain ⟨SC, hz, SF, hfm, SA, SH, SL⟩ := id hs
  have c1 : Go p e below S0 s₁ (mkF m 1 #[.val (.ref x), .val (.int k), .val (.int 0)] [(.ref x)]) := c0.trans (by
    refine XS.aloadN X0.here hx rfl (hb hby d8_0) rfl rfl ?_
    exact .refl _)
  obtain ⟨v2, T2, L2, X2, ⟨N2', rfl, e2⟩, c2'⟩ := own_virt X0 hx hml hZ hown (gw hw 44 rfl) (gw hw 45 rfl) (gw hw 47 rfl) (gw hw 46 rfl) (gw hw 47 rfl) (by decide) (kc := 0) (ks := 0) (h := h0) (W := 0) (b := x) (argsL := []) (rest := []) (own_pay (W := 0) (rmIsL l Z a0 hw x z fm h0 O0 Cd hs) hZ (gw hw 48 rfl) (gw hw 11 rfl) (by decide) (by decide)) E c1 (lenOf pd_2 rfl) rfl (hb hby d8_1) e0
  have N2 := Fr.app N0 N2'
  have c2 : Go p e below S0 T2 (mkF m 4 #[.val (.ref x), .val (.int k), .val (.int 0)] [(.int 1)]) := c2'
  obtain ⟨T3, X3, e3, st3⟩ := getF X2 hx hZ hown (host := "") (Or.inl (gw hw 28 rfl)) Via.refl e2 V (g := (mkF m 8 #[.val (.ref x), .val (.int k), .val (.int 0)] [(.ref x)])) rfl rfl (hb hby d8_8)
  have c4 : Go p e below S0 T3 (mkF m 14 #[.val (.ref x), .val (.int k), .val (.int 0)] [(.ref x), (.int 0), (.int k), (.ref t)]) := c2.trans (by
    refine XS.ifNo X2.here hx rfl (hb hby d8_4) rfl ((if0 _ _).trans (feq (by decide : ¬ ((1 : Int32) = (0 : Int32)))).1) ?_
    refine XS.aloadN X2.here hx rfl (hb hby d8_7) rfl rfl ?_
    refine st3 _ ?_
    refine XS.iloadN X3.here hx rfl (hb hby d8_11) rfl ?_
    refine XS.iloadN X3.here hx rfl (hb hby d8_12) rfl ?_
    refine XS.aloadN X3.here hx rfl (hb hby d8_13) rfl rfl ?_
    exact .refl _)
  obtain ⟨v5, T5, L5, X5, ⟨rfl, rfl, e5⟩, c5'⟩ := own_virt X3 hx hml hZ hown (gw hw 50 rfl) (gw hw 51 rfl) (gw hw 53 rfl) (gw hw 52 rfl) (gw hw 53 rfl) (by decide) (Q := fun v h' L => v = some (.int (Int32.ofNat ([xa, xb, xc, xd] : List Int32).length)) ∧ L = [] ∧ h' = h0) (kc := 0) (ks := 0) (h := h0) (W := 3) (b := x) (argsL := []) (rest := [(.int 0), (.int k), (.ref t)]) (StrChars.Road.lenW (s := s) (R := ({ frames := 2, cells := 0, slots := 0, locals := 60 } : Room)) (W := 3) hZ (own_wl hw) (kI := 4) (gw hw 10 rfl) (cs := [xa, xb, xc, xd]) E V Cd K (StrChars.Road.codOf (n := ([xa, xb, xc, xd] : List Int32).length) rfl (fun c hc => ((own_cons hBxa (own_cons hBxb (own_cons hBxc (own_cons hBxd own_nil)))) c hc).rng.2)) (fun c hc => ((own_cons hBxa (own_cons hBxb (own_cons hBxc (own_cons hBxd own_nil)))) c hc).rng2) (SC.ext O0.2) hz (Nat.le_of_ble_eq_true rfl) (by decide) (by decide)) E c4 (lenOf pd_3 rfl) rfl (hb hby d8_14) e3
  have N5 := Fr.app N2 (Fr.nil _)
  have c5 : Go p e below S0 T5 (mkF m 17 #[.val (.ref x), .val (.int k), .val (.int 0)] [(.int 4), (.int 0), (.int k), (.ref t)]) := c5'
  obtain ⟨v6, T6, L6, X6, ⟨N6', ⟨r6, rfl, hr6⟩, e6⟩, c6'⟩ := own_stat X5 hx hml hZ hown (gw hw 60 rfl) (gw hw 61 rfl) (gw hw 62 rfl) (gw hw 63 rfl) (by decide) (kc := 0) (ks := 0) (h := h0) (W := 0) (argsL := [(.ref t), (.int k), (.int 0), (.int 4)]) (rest := []) (own_pay (W := 0) (rmL1I4 l Z a0 hw t kb k xa xb xc xd h0 O0 K hk hBxa hBxb hBxc hBxd) hZ (gw hw 63 rfl) (gw hw 62 rfl) (by decide) (by decide)) c5 (lenOf pd_4 rfl) rfl (hb hby d8_17) e5
  have N6 := Fr.app N5 N6'
  have c6 : Go p e below S0 T6 (mkF m 20 #[.val (.ref x), .val (.int k), .val (.int 0)] [(.int r6)]) := c6'
  have c7 : Go p e below S0 T6 (mkF m 36 #[.val (.ref x), .val (.int k), .val (.int 0)] [(.int r6)]) := c6.trans (by
    refine XS.goto X6.here hx rfl (pc0 := 20) (pc' := 36) rfl (hb hby d8_20) (by decide) (by decide) ?_
    exact .refl _)
  refine ⟨T6, (some (.int r6)), _, _, _, X6, by decide, by decide, (fun q => by cases q), N6, ?_, fun fs hr => ?_⟩
  · rw [e6]
    exact ⟨⟨_, rfl, hr6⟩, rfl⟩
  · exact c7.trans (retI X6 hx hret (hb hby d8_36) hr)
theorem rmIxL4 (l : Launch) (Z : State) (a0 : Array Value) (hw : own_W Z a0) (x t : Addr) (kb : ClassId) (k : Int32) (xa xb xc xd : Int32) (z : Int32) (fm : Value) (h0 : Heap) (O0 : Old Z Z.heap.size h0) (E : Exa Z h0 x "java/lang/String") (V : Fld Z h0 x "java/lang/String" "value" "[B" (.ref t)) (Cd : Fld Z h0 x "java/lang/String" "coder" "B" (.int (0 : Int32))) (K : Arv Z h0 t kb .byte (Int32.ofNat ([xa, xb, xc, xd] : List Int32).length) ((([xa, xb, xc, xd] : List Int32).map (fun c : Int32 => c.toInt8.toInt32)).map Value.int) (.int (0 : Int32))) (hk : own_B k) (hBxa : own_B xa) (hBxb : own_B xb) (hBxc : own_B xc) (hBxd : own_B xd) (hs : own_S Z z fm) :
    own_NC l Z (⟨"java/lang/String", "indexOf", "(I)I"⟩ : MethodName) jdk_42_method_79_code 2 (some .int) ({ frames := 3, cells := 0, slots := 0, locals := 80 } : Room) #[(.ref x), (.int k)] h0 (fun v h => (∃ r : Int32, v = some (.int r) ∧ decide (r < (0 : Int32)) = !own_has [xa, xb, xc, xd] k) ∧ h = h0) := by
  refine own_nc (plainFor_of_name pnl2) ?_
  intro p e s m below meth c s₁ S0 X0 hx hby hml hret hnm hown hZ e0 cc
  have N0 := Fr.nil Z.heap.size
  have c0 : Go p e below S0 s₁ (mkF m 0 #[.val (.ref x), .val (.int k)] []) := cc.trans (XT.entry rfl)
  obtain ⟨SC, hz, SF, hfm, SA, SH, SL⟩ := id hs
  have c1 : Go p e below S0 s₁ (mkF m 3 #[.val (.ref x), .val (.int k)] [(.int 0), (.int k), (.ref x)]) := c0.trans (by
    refine XS.aloadN X0.here hx rfl (hb hby d7_0) rfl rfl ?_
    refine XS.iloadN X0.here hx rfl (hb hby d7_1) rfl ?_
    refine XS.iconst X0.here hx rfl (hb hby d7_2) ?_
    exact .refl _)
  obtain ⟨v2, T2, L2, X2, ⟨N2', ⟨r2, rfl, hr2⟩, e2⟩, c2'⟩ := own_virt X0 hx hml hZ hown (gw hw 39 rfl) (gw hw 40 rfl) (gw hw 42 rfl) (gw hw 41 rfl) (gw hw 42 rfl) (by decide) (kc := 0) (ks := 0) (h := h0) (W := 0) (b := x) (argsL := [(.int k), (.int 0)]) (rest := []) (own_pay (W := 0) (rmIxIIL4 l Z a0 hw x t kb k xa xb xc xd z fm h0 O0 E V Cd K hk hBxa hBxb hBxc hBxd hs) hZ (gw hw 43 rfl) (gw hw 11 rfl) (by decide) (by decide)) E c1 (lenOf pd_1 rfl) rfl (hb hby d7_3) e0
  have N2 := Fr.app N0 N2'
  have c2 : Go p e below S0 T2 (mkF m 6 #[.val (.ref x), .val (.int k)] [(.int r2)]) := c2'
  refine ⟨T2, (some (.int r2)), _, _, _, X2, by decide, by decide, (fun q => by cases q), N2, ?_, fun fs hr => ?_⟩
  · rw [e2]
    exact ⟨⟨_, rfl, hr2⟩, rfl⟩
  · exact c2.trans (retI X2 hx hret (hb hby d7_6) hr)
theorem rmFitL4 (l : Launch) (Z : State) (a0 : Array Value) (hw : own_W Z a0) (x t : Addr) (kb : ClassId) (xa xb xc xd : Int32) (z : Int32) (fm : Value) (h0 : Heap) (O0 : Old Z Z.heap.size h0) (E : Exa Z h0 x "java/lang/String") (V : Fld Z h0 x "java/lang/String" "value" "[B" (.ref t)) (Cd : Fld Z h0 x "java/lang/String" "coder" "B" (.int (0 : Int32))) (K : Arv Z h0 t kb .byte (Int32.ofNat ([xa, xb, xc, xd] : List Int32).length) ((([xa, xb, xc, xd] : List Int32).map (fun c : Int32 => c.toInt8.toInt32)).map Value.int) (.int (0 : Int32))) (hBxa : own_B xa) (hBxb : own_B xb) (hBxc : own_B xc) (hBxd : own_B xd) (hs : own_S Z z fm) :
    own_NC l Z (⟨"com/example/caseward/caseward/core/Right", "fitsField", "(Ljava/lang/String;)Z"⟩ : MethodName) prog_47_method_5_code 1 (some .boolean) ({ frames := 4, cells := 0, slots := 0, locals := 100 } : Room) #[(.ref x)] h0 (fun v h => v = some (.int (own_i (!own_has [xa, xb, xc, xd] (44 : Int32) && !own_has [xa, xb, xc, xd] (10 : Int32) && !own_has [xa, xb, xc, xd] (13 : Int32)))) ∧ h = h0) := by
  refine own_nc (plainFor_of_name pnl3) ?_
  intro p e s m below meth c s₁ S0 X0 hx hby hml hret hnm hown hZ e0 cc
  have N0 := Fr.nil Z.heap.size
  have c0 : Go p e below S0 s₁ (mkF m 0 #[.val (.ref x)] []) := cc.trans (XT.entry rfl)
  obtain ⟨SC, hz, SF, hfm, SA, SH, SL⟩ := id hs
  have c1 : Go p e below S0 s₁ (mkF m 3 #[.val (.ref x)] [(.int 44), (.ref x)]) := c0.trans (by
    refine XS.aloadN X0.here hx rfl (hb hby d6_0) rfl rfl ?_
    refine XS.bipush X0.here hx rfl (hb hby d6_1) ?_
    exact .refl _)
  obtain ⟨v2, T2, L2, X2, ⟨N2', ⟨r2, rfl, hr2⟩, e2⟩, c2'⟩ := own_virt X0 hx hml hZ hown (gw hw 34 rfl) (gw hw 35 rfl) (gw hw 37 rfl) (gw hw 36 rfl) (gw hw 37 rfl) (by decide) (kc := 0) (ks := 0) (h := h0) (W := 0) (b := x) (argsL := [(.int 44)]) (rest := []) (own_pay (W := 0) (rmIxL4 l Z a0 hw x t kb (44 : Int32) xa xb xc xd z fm h0 O0 E V Cd K (own_Bl 44 (by decide)) hBxa hBxb hBxc hBxd hs) hZ (gw hw 38 rfl) (gw hw 11 rfl) (by decide) (by decide)) E c1 (lenOf pd_5 rfl) rfl (hb hby d6_3) e0
  have N2 := Fr.app N0 N2'
  have c2 : Go p e below S0 T2 (mkF m 6 #[.val (.ref x)] [(.int r2)]) := c2'
  by_cases hc3 : r2 < (0 : Int32)
  · skip
    have c4 : Go p e below S0 T2 (mkF m 12 #[.val (.ref x)] [(.int 10), (.ref x)]) := c2.trans (by
      refine XS.ifNo X2.here hx rfl (hb hby d6_6) rfl ((if0 _ _).trans (tlt hc3).2.1) ?_
      refine XS.aloadN X2.here hx rfl (hb hby d6_9) rfl rfl ?_
      refine XS.bipush X2.here hx rfl (hb hby d6_10) ?_
      exact .refl _)
    obtain ⟨v5, T5, L5, X5, ⟨N5', ⟨r5, rfl, hr5⟩, e5⟩, c5'⟩ := own_virt X2 hx hml hZ hown (gw hw 34 rfl) (gw hw 35 rfl) (gw hw 37 rfl) (gw hw 36 rfl) (gw hw 37 rfl) (by decide) (kc := 0) (ks := 0) (h := h0) (W := 0) (b := x) (argsL := [(.int 10)]) (rest := []) (own_pay (W := 0) (rmIxL4 l Z a0 hw x t kb (10 : Int32) xa xb xc xd z fm h0 O0 E V Cd K (own_Bl 10 (by decide)) hBxa hBxb hBxc hBxd hs) hZ (gw hw 38 rfl) (gw hw 11 rfl) (by decide) (by decide)) E c4 (lenOf pd_5 rfl) rfl (hb hby d6_12) e2
    have N5 := Fr.app N2 N5'
    have c5 : Go p e below S0 T5 (mkF m 15 #[.val (.ref x)] [(.int r5)]) := c5'
    by_cases hc6 : r5 < (0 : Int32)
    · skip
      have c7 : Go p e below S0 T5 (mkF m 21 #[.val (.ref x)] [(.int 13), (.ref x)]) := c5.trans (by
        refine XS.ifNo X5.here hx rfl (hb hby d6_15) rfl ((if0 _ _).trans (tlt hc6).2.1) ?_
        refine XS.aloadN X5.here hx rfl (hb hby d6_18) rfl rfl ?_
        refine XS.bipush X5.here hx rfl (hb hby d6_19) ?_
        exact .refl _)
      obtain ⟨v8, T8, L8, X8, ⟨N8', ⟨r8, rfl, hr8⟩, e8⟩, c8'⟩ := own_virt X5 hx hml hZ hown (gw hw 34 rfl) (gw hw 35 rfl) (gw hw 37 rfl) (gw hw 36 rfl) (gw hw 37 rfl) (by decide) (kc := 0) (ks := 0) (h := h0) (W := 0) (b := x) (argsL := [(.int 13)]) (rest := []) (own_pay (W := 0) (rmIxL4 l Z a0 hw x t kb (13 : Int32) xa xb xc xd z fm h0 O0 E V Cd K (own_Bl 13 (by decide)) hBxa hBxb hBxc hBxd hs) hZ (gw hw 38 rfl) (gw hw 11 rfl) (by decide) (by decide)) E c7 (lenOf pd_5 rfl) rfl (hb hby d6_21) e5
      have N8 := Fr.app N5 N8'
      have c8 : Go p e below S0 T8 (mkF m 24 #[.val (.ref x)] [(.int r8)]) := c8'
      by_cases hc9 : r8 < (0 : Int32)
      · skip
        have c10 : Go p e below S0 T8 (mkF m 32 #[.val (.ref x)] [(.int 1)]) := c8.trans (by
          refine XS.ifNo X8.here hx rfl (hb hby d6_24) rfl ((if0 _ _).trans (tlt hc9).2.1) ?_
          refine XS.iconst X8.here hx rfl (hb hby d6_27) ?_
          refine XS.goto X8.here hx rfl (pc0 := 28) (pc' := 32) rfl (hb hby d6_28) (by decide) (by decide) ?_
          exact .refl _)
        refine ⟨T8, (some (.int (1 : Int32))), _, _, _, X8, by decide, by decide, (fun q => by cases q), N8, ?_, fun fs hr => ?_⟩
        · rw [e8]
          have q2' := own_rdec hr2
          have q5' := own_rdec hr5
          have q8' := own_rdec hr8
          exact ⟨by simp [own_i, (q2').mpr hc3, (q5').mpr hc6, (q8').mpr hc9], rfl⟩
        · exact c10.trans (retN X8 hx (t := .boolean) hret (by simp) (hb hby d6_32) hr)
      · skip
        have c12 : Go p e below S0 T8 (mkF m 32 #[.val (.ref x)] [(.int 0)]) := c8.trans (by
          refine XS.ifYes X8.here hx rfl (pc0 := 24) (pc' := 31) rfl (hb hby d6_24) rfl ((if0 _ _).trans (flt hc9).2.1) (by decide) (by decide) ?_
          refine XS.iconst X8.here hx rfl (hb hby d6_31) ?_
          exact .refl _)
        refine ⟨T8, (some (.int (0 : Int32))), _, _, _, X8, by decide, by decide, (fun q => by cases q), N8, ?_, fun fs hr => ?_⟩
        · rw [e8]
          have q2' := own_rdec hr2
          have q5' := own_rdec hr5
          have q8' := own_rdec hr8
          exact ⟨by simp [own_i, (q2').mpr hc3, (q5').mpr hc6, (show _ = false from Bool.eq_false_iff.mpr (fun z => hc9 ((q8').mp z)))], rfl⟩
        · exact c12.trans (retN X8 hx (t := .boolean) hret (by simp) (hb hby d6_32) hr)
    · skip
      have c14 : Go p e below S0 T5 (mkF m 32 #[.val (.ref x)] [(.int 0)]) := c5.trans (by
        refine XS.ifYes X5.here hx rfl (pc0 := 15) (pc' := 31) rfl (hb hby d6_15) rfl ((if0 _ _).trans (flt hc6).2.1) (by decide) (by decide) ?_
        refine XS.iconst X5.here hx rfl (hb hby d6_31) ?_
        exact .refl _)
      refine ⟨T5, (some (.int (0 : Int32))), _, _, _, X5, by decide, by decide, (fun q => by cases q), N5, ?_, fun fs hr => ?_⟩
      · rw [e5]
        have q2' := own_rdec hr2
        have q5' := own_rdec hr5
        exact ⟨by simp [own_i, (q2').mpr hc3, (show _ = false from Bool.eq_false_iff.mpr (fun z => hc6 ((q5').mp z)))], rfl⟩
      · exact c14.trans (retN X5 hx (t := .boolean) hret (by simp) (hb hby d6_32) hr)
  · skip
    have c16 : Go p e below S0 T2 (mkF m 32 #[.val (.ref x)] [(.int 0)]) := c2.trans (by
      refine XS.ifYes X2.here hx rfl (pc0 := 6) (pc' := 31) rfl (hb hby d6_6) rfl ((if0 _ _).trans (flt hc3).2.1) (by decide) (by decide) ?_
      refine XS.iconst X2.here hx rfl (hb hby d6_31) ?_
      exact .refl _)
    refine ⟨T2, (some (.int (0 : Int32))), _, _, _, X2, by decide, by decide, (fun q => by cases q), N2, ?_, fun fs hr => ?_⟩
    · rw [e2]
      have q2' := own_rdec hr2
      exact ⟨by simp [own_i, (show _ = false from Bool.eq_false_iff.mpr (fun z => hc3 ((q2').mp z)))], rfl⟩
    · exact c16.trans (retN X2 hx (t := .boolean) hret (by simp) (hb hby d6_32) hr)
theorem rmPut (l : Launch) (Z : State) (a0 : Array Value) (hw : own_W Z a0) (t : Addr) (kb : ClassId) (vs : List Value) (L i : Nat) (k : Int32) (z : Int32) (fm : Value) (h0 : Heap) (O0 : Old Z Z.heap.size h0) (Kt : Arv Z h0 t kb .byte (Int32.ofNat L) vs (.int (0 : Int32))) (hL : vs.length = L) (h8 : L ≤ 8) (hi : 2 * i + 1 < L) (gt : Z.heap.size ≤ t) (hs : own_S Z z fm) :
    own_NC l Z (⟨"java/lang/StringUTF16", "putChar", "([BII)V"⟩ : MethodName) jdk_52_method_4_code 3 none ({ frames := 0, cells := 0, slots := 0, locals := 0 } : Room) #[(.ref t), (.int (Int32.ofNat i)), (.int k)] h0 (fun v h => v = none ∧ Keep h0 h [t] ∧ Arv Z h t kb .byte (Int32.ofNat L) ((vs.set (2 * i) (.int (own_lo k))).set (2 * i + 1) (.int (own_hi k))) (.int (0 : Int32))) := by
  refine own_nc (plainFor_of_name pnl4) ?_
  intro p e s m below meth c s₁ S0 X0 hx hby hml hret hnm hown hZ e0 cc
  have N0 := Fr.nil Z.heap.size
  have c0 : Go p e below S0 s₁ (mkF m 0 #[.val (.ref t), .val (.int (Int32.ofNat i)), .val (.int k)] []) := cc.trans (XT.entry rfl)
  obtain ⟨SC, hz, SF, hfm, SA, SH, SL⟩ := id hs
  obtain ⟨T1, X1, e1, st1⟩ := getS2 X0 hx hZ hown (host := "") (Or.inl (gw hw 101 rfl)) Via.refl e0 (SA.ext O0.2) (g := (mkF m 0 #[.val (.ref t), .val (.int (Int32.ofNat i)), .val (.int k)] [])) rfl (hb hby d23_0)
  have c2 : Go p e below S0 T1 (mkF m 31 #[.val (.ref t), .val (.int (Int32.ofNat i)), .val (.int k)] [(.int ((Int32.ofNat i) <<< ((1 : Int32) &&& 31)))]) := c0.trans (by
    refine st1 _ ?_
    refine XS.ifYes X1.here hx rfl (pc0 := 3) (pc' := 28) rfl (hb hby d23_3) rfl ((if0 _ _).trans (feq (by decide : ¬ ((1 : Int32) = (0 : Int32)))).2) (by decide) (by decide) ?_
    refine XS.iloadN X1.here hx rfl (hb hby d23_28) rfl ?_
    refine XS.iconst X1.here hx rfl (hb hby d23_29) ?_
    refine XS.ishl X1.here hx rfl (hb hby d23_30) rfl ?_
    exact .refl _)
  have c3 : Go p e below S0 T1 (mkF m 31 #[.val (.ref t), .val (.int (Int32.ofNat i)), .val (.int k)] [(.int (Int32.ofNat (2 * i)))]) := by rw [← own_shl1 (by omega)]; exact c2
  obtain ⟨T4, X4, e4, st4⟩ := getS2 X1 hx hZ hown (host := "") (Or.inl (gw hw 102 rfl)) Via.refl e1 (SH.ext O0.2) (g := (mkF m 38 #[.val (.ref t), .val (.int ((Int32.ofNat (2 * i)) + (1 : Int32))), .val (.int k)] [(.int k), (.int (Int32.ofNat (2 * i))), (.ref t)])) rfl (hb hby d23_38)
  obtain ⟨cl5, Ar5, q5, S5, M5, H5, G5⟩ := id Kt
  have hin5 : ¬ ((Int32.ofNat (2 * i)) < 0 ∨ cl5.slots.size ≤ ((Int32.ofNat (2 * i))).toNatClampNeg) := inb_of S5 ⟨own_nn (by omega), (own_lt32 (by omega) (by omega)).mpr (by omega)⟩
  obtain ⟨T5, h5, X5, e5, W5, st5⟩ := stB X4 hx hZ e4 Ar5 (j := (Int32.ofNat (2 * i))) hin5 (g := (mkF m 43 #[.val (.ref t), .val (.int ((Int32.ofNat (2 * i)) + (1 : Int32))), .val (.int k)] [(.int ((k >>> ((0 : Int32) &&& 31)).toInt8.toInt32)), (.int (Int32.ofNat (2 * i))), (.ref t)])) rfl rfl (hb hby d23_43)
  have V5 := Arv.set Ar5 q5 S5 M5 H5 G5 (fits_nar_byte _) W5 (2 * i) (own_tcn (by omega)) (by rw [hL]; omega)
  have N5 := Fr.snoc X5 N0 gt
  rw [own_b2] at V5
  obtain ⟨T6, X6, e6, st6⟩ := getS2 X5 hx hZ hown (host := "") (Or.inl (gw hw 103 rfl)) Via.refl e5 (SL.ext (O0.wr W5 gt).2) (g := (mkF m 47 #[.val (.ref t), .val (.int ((Int32.ofNat (2 * i)) + (1 : Int32))), .val (.int k)] [(.int k), (.int ((Int32.ofNat (2 * i)) + (1 : Int32))), (.ref t)])) rfl (hb hby d23_47)
  obtain ⟨cl7, Ar7, q7, S7, M7, H7, G7⟩ := id V5
  have hin7 : ¬ (((Int32.ofNat (2 * i)) + (1 : Int32)) < 0 ∨ cl7.slots.size ≤ (((Int32.ofNat (2 * i)) + (1 : Int32))).toNatClampNeg) := inb_of S7 (by rw [own_succ]; exact ⟨own_nn (by omega), (own_lt32 (by omega) (by omega)).mpr (by omega)⟩)
  obtain ⟨T7, h7, X7, e7, W7, st7⟩ := stB X6 hx hZ e6 Ar7 (j := ((Int32.ofNat (2 * i)) + (1 : Int32))) hin7 (g := (mkF m 52 #[.val (.ref t), .val (.int ((Int32.ofNat (2 * i)) + (1 : Int32))), .val (.int k)] [(.int ((k >>> ((8 : Int32) &&& 31)).toInt8.toInt32)), (.int ((Int32.ofNat (2 * i)) + (1 : Int32))), (.ref t)])) rfl rfl (hb hby d23_52)
  have V7 := Arv.set Ar7 q7 S7 M7 H7 G7 (fits_nar_byte _) W7 (2 * i + 1) (by rw [own_succ]; exact own_tcn (by omega)) (by rw [List.length_set, hL]; omega)
  have N7 := Fr.snoc X7 N5 gt
  rw [own_b2] at V7
  have c8 : Go p e below S0 T7 (mkF m 53 #[.val (.ref t), .val (.int ((Int32.ofNat (2 * i)) + (1 : Int32))), .val (.int k)] []) := c3.trans (by
    refine XS.istoreN X1.here hx rfl (hb hby d23_31) rfl (l' := #[.val (.ref t), .val (.int (Int32.ofNat (2 * i))), .val (.int k)]) rfl ?_
    refine XS.aloadN X1.here hx rfl (hb hby d23_32) rfl rfl ?_
    refine XS.iloadN X1.here hx rfl (hb hby d23_33) rfl ?_
    refine XS.iinc X1.here hx rfl (hb hby d23_34) rfl (l' := #[.val (.ref t), .val (.int ((Int32.ofNat (2 * i)) + (1 : Int32))), .val (.int k)]) rfl ?_
    refine XS.iloadN X1.here hx rfl (hb hby d23_37) rfl ?_
    refine st4 _ ?_
    show Steps p.tables e below (T4.setTop (mkF m 41 #[.val (.ref t), .val (.int ((Int32.ofNat (2 * i)) + (1 : Int32))), .val (.int k)] [(.int 0), (.int k), (.int (Int32.ofNat (2 * i))), (.ref t)])) _
    refine XS.ishr X4.here hx rfl (hb hby d23_41) rfl ?_
    refine XS.i2b X4.here hx rfl (hb hby d23_42) rfl ?_
    refine st5 _ ?_
    refine XS.aloadN X5.here hx rfl (hb hby d23_44) rfl rfl ?_
    refine XS.iloadN X5.here hx rfl (hb hby d23_45) rfl ?_
    refine XS.iloadN X5.here hx rfl (hb hby d23_46) rfl ?_
    refine st6 _ ?_
    show Steps p.tables e below (T6.setTop (mkF m 50 #[.val (.ref t), .val (.int ((Int32.ofNat (2 * i)) + (1 : Int32))), .val (.int k)] [(.int 8), (.int k), (.int ((Int32.ofNat (2 * i)) + (1 : Int32))), (.ref t)])) _
    refine XS.ishr X6.here hx rfl (hb hby d23_50) rfl ?_
    refine XS.i2b X6.here hx rfl (hb hby d23_51) rfl ?_
    refine st7 _ ?_
    exact .refl _)
  refine ⟨T7, none, _, _, _, X7, by decide, by decide, (fun _ => rfl), N7, ?_, fun fs hr => ?_⟩
  · rw [e7]
    exact ⟨rfl, (((Keep.refl h0 [t]).wr W5 (Or.inl (List.mem_of_getElem? (i := 0) rfl))).wr W7 (Or.inl (List.mem_of_getElem? (i := 0) rfl))), V7⟩
  · exact c8.trans (X7.returnOut hx hret (hb hby d23_53) hr)
theorem rmGet (l : Launch) (Z : State) (a0 : Array Value) (hw : own_W Z a0) (t : Addr) (kb : ClassId) (vs : List Value) (L i : Nat) (k : Int32) (z : Int32) (fm : Value) (h0 : Heap) (O0 : Old Z Z.heap.size h0) (Kt : Arv Z h0 t kb .byte (Int32.ofNat L) vs (.int (0 : Int32))) (hL : vs.length = L) (h8 : L ≤ 8) (hi : 2 * i + 1 < L) (hb0 : vs.getD (2 * i) (.int (0 : Int32)) = .int (own_lo k)) (hb1 : vs.getD (2 * i + 1) (.int (0 : Int32)) = .int (own_hi k)) (hC : own_C k) (hs : own_S Z z fm) :
    own_NC l Z (⟨"java/lang/StringUTF16", "getChar", "([BI)C"⟩ : MethodName) jdk_52_method_5_code 2 (some .char) ({ frames := 0, cells := 0, slots := 0, locals := 0 } : Room) #[(.ref t), (.int (Int32.ofNat i))] h0 (fun v h => v = some (.int k) ∧ h = h0) := by
  refine own_nc (plainFor_of_name pnl4) ?_
  intro p e s m below meth c s₁ S0 X0 hx hby hml hret hnm hown hZ e0 cc
  have N0 := Fr.nil Z.heap.size
  have c0 : Go p e below S0 s₁ (mkF m 0 #[.val (.ref t), .val (.int (Int32.ofNat i))] []) := cc.trans (XT.entry rfl)
  obtain ⟨SC, hz, SF, hfm, SA, SH, SL⟩ := id hs
  obtain ⟨T1, X1, e1, st1⟩ := getS2 X0 hx hZ hown (host := "") (Or.inl (gw hw 101 rfl)) Via.refl e0 (SA.ext O0.2) (g := (mkF m 0 #[.val (.ref t), .val (.int (Int32.ofNat i))] [])) rfl (hb hby d24_0)
  have c2 : Go p e below S0 T1 (mkF m 31 #[.val (.ref t), .val (.int (Int32.ofNat i))] [(.int ((Int32.ofNat i) <<< ((1 : Int32) &&& 31)))]) := c0.trans (by
    refine st1 _ ?_
    refine XS.ifYes X1.here hx rfl (pc0 := 3) (pc' := 28) rfl (hb hby d24_3) rfl ((if0 _ _).trans (feq (by decide : ¬ ((1 : Int32) = (0 : Int32)))).2) (by decide) (by decide) ?_
    refine XS.iloadN X1.here hx rfl (hb hby d24_28) rfl ?_
    refine XS.iconst X1.here hx rfl (hb hby d24_29) ?_
    refine XS.ishl X1.here hx rfl (hb hby d24_30) rfl ?_
    exact .refl _)
  have c3 : Go p e below S0 T1 (mkF m 31 #[.val (.ref t), .val (.int (Int32.ofNat i))] [(.int (Int32.ofNat (2 * i)))]) := by rw [← own_shl1 (by omega)]; exact c2
  obtain ⟨cl4, Ar4, q4, S4, M4, H4, G4⟩ := id Kt
  have hin4 : ¬ ((Int32.ofNat (2 * i)) < 0 ∨ cl4.slots.size ≤ ((Int32.ofNat (2 * i))).toNatClampNeg) := inb_of S4 ⟨own_nn (by omega), (own_lt32 (by omega) (by omega)).mpr (by omega)⟩
  have hat4 := Has.at (v := .int (own_lo k)) H4 hin4 (by rw [(own_tcn (by omega))]; exact hb0)
  obtain ⟨T5, X5, e5, st5⟩ := getS2 X1 hx hZ hown (host := "") (Or.inl (gw hw 102 rfl)) Via.refl e1 (SH.ext O0.2) (g := (mkF m 42 #[.val (.ref t), .val (.int ((Int32.ofNat (2 * i)) + (1 : Int32)))] [(.int ((own_lo k) &&& (255 : Int32)))])) rfl (hb hby d24_42)
  obtain ⟨cl6, Ar6, q6, S6, M6, H6, G6⟩ := id Kt
  have hin6 : ¬ (((Int32.ofNat (2 * i)) + (1 : Int32)) < 0 ∨ cl6.slots.size ≤ (((Int32.ofNat (2 * i)) + (1 : Int32))).toNatClampNeg) := inb_of S6 (by rw [own_succ]; exact ⟨own_nn (by omega), (own_lt32 (by omega) (by omega)).mpr (by omega)⟩)
  have hat6 := Has.at (v := .int (own_hi k)) H6 hin6 (by rw [show (Int32.ofNat (2 * i) + (1 : Int32)).toNatClampNeg = 2 * i + 1 from (by rw [own_succ]; exact own_tcn (by omega))]; exact hb1)
  obtain ⟨T7, X7, e7, st7⟩ := getS2 X5 hx hZ hown (host := "") (Or.inl (gw hw 103 rfl)) Via.refl e5 (SL.ext O0.2) (g := (mkF m 53 #[.val (.ref t), .val (.int ((Int32.ofNat (2 * i)) + (1 : Int32)))] [(.int ((own_hi k) &&& (255 : Int32))), (.int (((own_lo k) &&& (255 : Int32)) <<< ((0 : Int32) &&& 31)))])) rfl (hb hby d24_53)
  have c8 : Go p e below S0 T7 (mkF m 59 #[.val (.ref t), .val (.int ((Int32.ofNat (2 * i)) + (1 : Int32)))] [(.int (((((own_lo k) &&& (255 : Int32)) <<< ((0 : Int32) &&& 31)) ||| (((own_hi k) &&& (255 : Int32)) <<< ((8 : Int32) &&& 31))).toUInt32.toUInt16.toUInt32.toInt32))]) := c3.trans (by
    refine XS.istoreN X1.here hx rfl (hb hby d24_31) rfl (l' := #[.val (.ref t), .val (.int (Int32.ofNat (2 * i)))]) rfl ?_
    refine XS.aloadN X1.here hx rfl (hb hby d24_32) rfl rfl ?_
    refine XS.iloadN X1.here hx rfl (hb hby d24_33) rfl ?_
    refine XS.iinc X1.here hx rfl (hb hby d24_34) rfl (l' := #[.val (.ref t), .val (.int ((Int32.ofNat (2 * i)) + (1 : Int32)))]) rfl ?_
    refine X1.baloadBytes hx (cell := cl4) (by rw [show T1.heap = h0 from e1]; exact Ar4.1) (State.isArrayOf_alike (hZ).alike Ar4.2.1) Ar4.2.2 hin4 hat4 (g := (mkF m 37 #[.val (.ref t), .val (.int ((Int32.ofNat (2 * i)) + (1 : Int32)))] [(.int (Int32.ofNat (2 * i))), (.ref t)])) rfl rfl (hb hby d24_37) _ ?_
    refine XS.sipush X1.here hx rfl (hb hby d24_38) ?_
    refine XS.iand X1.here hx rfl (hb hby d24_41) rfl ?_
    refine st5 _ ?_
    show Steps p.tables e below (T5.setTop (mkF m 45 #[.val (.ref t), .val (.int ((Int32.ofNat (2 * i)) + (1 : Int32)))] [(.int 0), (.int ((own_lo k) &&& (255 : Int32)))])) _
    refine XS.ishl X5.here hx rfl (hb hby d24_45) rfl ?_
    refine XS.aloadN X5.here hx rfl (hb hby d24_46) rfl rfl ?_
    refine XS.iloadN X5.here hx rfl (hb hby d24_47) rfl ?_
    refine X5.baloadBytes hx (cell := cl6) (by rw [show T5.heap = h0 from e5]; exact Ar6.1) (State.isArrayOf_alike (hZ).alike Ar6.2.1) Ar6.2.2 hin6 hat6 (g := (mkF m 48 #[.val (.ref t), .val (.int ((Int32.ofNat (2 * i)) + (1 : Int32)))] [(.int ((Int32.ofNat (2 * i)) + (1 : Int32))), (.ref t), (.int (((own_lo k) &&& (255 : Int32)) <<< ((0 : Int32) &&& 31)))])) rfl rfl (hb hby d24_48) _ ?_
    refine XS.sipush X5.here hx rfl (hb hby d24_49) ?_
    refine XS.iand X5.here hx rfl (hb hby d24_52) rfl ?_
    refine st7 _ ?_
    show Steps p.tables e below (T7.setTop (mkF m 56 #[.val (.ref t), .val (.int ((Int32.ofNat (2 * i)) + (1 : Int32)))] [(.int 8), (.int ((own_hi k) &&& (255 : Int32))), (.int (((own_lo k) &&& (255 : Int32)) <<< ((0 : Int32) &&& 31)))])) _
    refine XS.ishl X7.here hx rfl (hb hby d24_56) rfl ?_
    refine XS.ior X7.here hx rfl (hb hby d24_57) rfl ?_
    refine XS.i2c X7.here hx rfl (hb hby d24_58) rfl ?_
    exact .refl _)
  refine ⟨T7, (some (.int (nar .char (((((own_lo k) &&& (255 : Int32)) <<< ((0 : Int32) &&& 31)) ||| (((own_hi k) &&& (255 : Int32)) <<< ((8 : Int32) &&& 31))).toUInt32.toUInt16.toUInt32.toInt32)))), _, _, _, X7, by decide, by decide, (fun q => by cases q), N0, ?_, fun fs hr => ?_⟩
  · rw [e7]
    exact ⟨by rw [own_join hC], rfl⟩
  · exact c8.trans (retN X7 hx (t := .char) hret (by simp) (hb hby d24_59) hr)
theorem rmNBL1 (l : Launch) (Z : State) (a0 : Array Value) (hw : own_W Z a0)  (h0 : Heap) (O0 : Old Z Z.heap.size h0)  :
    own_NC l Z (⟨"java/lang/StringUTF16", "newBytesLength", "(I)I"⟩ : MethodName) jdk_52_method_3_code 1 (some .int) ({ frames := 0, cells := 0, slots := 0, locals := 0 } : Room) #[(.int 1)] h0 (fun v h => v = some (.int (2 : Int32)) ∧ h = h0) := by
  refine own_nc (plainFor_of_name pnl4) ?_
  intro p e s m below meth c s₁ S0 X0 hx hby hml hret hnm hown hZ e0 cc
  have N0 := Fr.nil Z.heap.size
  have c0 : Go p e below S0 s₁ (mkF m 0 #[.val (.int 1)] []) := cc.trans (XT.entry rfl)
  have c2 : Go p e below S0 s₁ (mkF m 58 #[.val (.int 1)] [(.int 2)]) := c0.trans (by
    refine XS.iloadN X0.here hx rfl (hb hby d22_0) rfl ?_
    refine XS.ifYes X0.here hx rfl (pc0 := 1) (pc' := 12) rfl (hb hby d22_1) rfl ((if0 _ _).trans (flt (by decide : ¬ ((1 : Int32) < (0 : Int32)))).2.1) (by decide) (by decide) ?_
    refine XS.iloadN X0.here hx rfl (hb hby d22_12) rfl ?_
    refine X0.ldcInt hx hown (mvT hZ (gw hw 97 rfl)) (g := (mkF m 13 #[.val (.int 1)] [(.int 1)])) rfl (hb hby d22_13) _ ?_
    refine XS.icmpYes X0.here hx rfl (pc0 := 15) (pc' := 55) rfl (hb hby d22_15) rfl (tlt (by decide : (1 : Int32) < (1073741823 : Int32))).1 (by decide) (by decide) ?_
    refine XS.iloadN X0.here hx rfl (hb hby d22_55) rfl ?_
    refine XS.iconst X0.here hx rfl (hb hby d22_56) ?_
    refine XS.ishl X0.here hx rfl (hb hby d22_57) rfl ?_
    exact .refl _)
  refine ⟨s₁, (some (.int 2)), _, _, _, X0, by decide, by decide, (fun q => by cases q), N0, ?_, fun fs hr => ?_⟩
  · rw [e0]
    exact ⟨rfl, rfl⟩
  · exact c2.trans (retI X0 hx hret (hb hby d22_58) hr)
theorem rmNBF1 (l : Launch) (Z : State) (a0 : Array Value) (hw : own_W Z a0)  (h0 : Heap) (O0 : Old Z Z.heap.size h0)  :
    own_NC l Z (⟨"java/lang/StringUTF16", "newBytesFor", "(I)[B"⟩ : MethodName) jdk_52_method_2_code 1 (some (.array .byte)) ({ frames := 1, cells := 1, slots := 2, locals := 20 } : Room) #[(.int 1)] h0 (fun v h => ∃ (u : Addr) (ku : ClassId), v = some (.ref u) ∧ Keep h0 h [] ∧ h0.size ≤ u ∧ Z.heap.size ≤ u ∧ Arv Z h u ku .byte (2 : Int32) [(.int 0), (.int 0)] (.int (0 : Int32))) := by
  refine own_nc (plainFor_of_name pnl4) ?_
  intro p e s m below meth c s₁ S0 X0 hx hby hml hret hnm hown hZ e0 cc
  have N0 := Fr.nil Z.heap.size
  have c0 : Go p e below S0 s₁ (mkF m 0 #[.val (.int 1)] []) := cc.trans (XT.entry rfl)
  have c1 : Go p e below S0 s₁ (mkF m 1 #[.val (.int 1)] [(.int 1)]) := c0.trans (by
    refine XS.iloadN X0.here hx rfl (hb hby d21_0) rfl ?_
    exact .refl _)
  obtain ⟨v2, T2, L2, X2, ⟨N2', rfl, e2⟩, c2'⟩ := own_stat X0 hx hml hZ hown (gw hw 94 rfl) (gw hw 95 rfl) (gw hw 73 rfl) (gw hw 96 rfl) (by decide) (kc := 0) (ks := 0) (h := h0) (W := 0) (argsL := [(.int 1)]) (rest := []) (own_pay (W := 0) (rmNBL1 l Z a0 hw h0 O0) hZ (gw hw 96 rfl) (gw hw 73 rfl) (by decide) (by decide)) c1 (lenOf pd_5 rfl) rfl (hb hby d21_1) e0
  have N2 := Fr.app N0 N2'
  have c2 : Go p e below S0 T2 (mkF m 4 #[.val (.int 1)] [(.int 2)]) := c2'
  obtain ⟨T3, h3, k3, X3, e3, E3, A3, st3⟩ := newP X2 hx hZ (hw _ (List.mem_of_getElem? (i := 23) rfl)) e2 (g := (mkF m 4 #[.val (.int 1)] [(.int 2)])) rfl (hb hby d21_4) rfl (by decide) (cap := 2) (by decide) (by decide) (by decide) (by decide)
  obtain ⟨b3, g3⟩ : ∃ z, z = h0.size := ⟨_, rfl⟩
  rw [← g3] at A3 st3
  have lo3 : h0.size ≤ b3 := Nat.le_of_eq g3.symm
  have ge3 : Z.heap.size ≤ b3 := Nat.le_trans O0.2.1 lo3
  have V3 := Arv.new A3 (by decide)
  have V3a : Arv Z h3 b3 k3 .byte (2 : Int32) [(.int 0), (.int 0)] (.int (0 : Int32)) := V3.pad (pad_rep [] (.int (0 : Int32)) 2)
  have c4 : Go p e below S0 T3 (mkF m 6 #[.val (.int 1)] [(.ref b3)]) := c2.trans (by
    refine st3 _ ?_
    exact .refl _)
  refine ⟨T3, (some (.ref b3)), _, _, _, X3, by decide, by decide, (fun q => by cases q), N2, ?_, fun fs hr => ?_⟩
  · rw [e3]
    exact ⟨b3, k3, rfl, ((Keep.refl h0 []).ext E3), (Nat.le_trans (Keep.refl h0 []).1 lo3), ge3, V3a⟩
  · exact own_retR X3 hx c4 hret rfl rfl (hb hby d21_6) hr
theorem rmToB1 (l : Launch) (Z : State) (a0 : Array Value) (hw : own_W Z a0) (b : Addr) (kc : ClassId) (xa : Int32) (z : Int32) (fm : Value) (h0 : Heap) (O0 : Old Z Z.heap.size h0) (Kc : Arv Z h0 b kc .char (1 : Int32) [(.int xa)] (.int (0 : Int32))) (hs : own_S Z z fm) :
    own_NC l Z (⟨"java/lang/StringUTF16", "toBytes", "([CII)[B"⟩ : MethodName) jdk_52_method_14_code 5 (some (.array .byte)) ({ frames := 2, cells := 1, slots := 2, locals := 40 } : Room) #[(.ref b), (.int 0), (.int 1)] h0 (fun v h => ∃ (u : Addr) (ku : ClassId), v = some (.ref u) ∧ Keep h0 h [] ∧ h0.size ≤ u ∧ Arv Z h u ku .byte (2 : Int32) [(.int (own_lo xa)), (.int (own_hi xa))] (.int (0 : Int32))) := by
  refine own_nc (plainFor_of_name pnl4) ?_
  intro p e s m below meth c s₁ S0 X0 hx hby hml hret hnm hown hZ e0 cc
  have N0 := Fr.nil Z.heap.size
  have c0 : Go p e below S0 s₁ (mkF m 0 #[.val (.ref b), .val (.int 0), .val (.int 1), .unset, .unset] []) := cc.trans (XT.entry rfl)
  obtain ⟨SC, hz, SF, hfm, SA, SH, SL⟩ := id hs
  have c1 : Go p e below S0 s₁ (mkF m 1 #[.val (.ref b), .val (.int 0), .val (.int 1), .unset, .unset] [(.int 1)]) := c0.trans (by
    refine XS.iloadN X0.here hx rfl (hb hby d20_0) rfl ?_
    exact .refl _)
  obtain ⟨v2, T2, L2, X2, ⟨N2', u2, ku2, rfl, K2, lo2, ge2, Ku2⟩, c2'⟩ := own_stat X0 hx hml hZ hown (gw hw 91 rfl) (gw hw 92 rfl) (gw hw 73 rfl) (gw hw 93 rfl) (by decide) (kc := 1) (ks := 2) (h := h0) (W := 0) (argsL := [(.int 1)]) (rest := []) (own_pay (W := 0) (rmNBF1 l Z a0 hw h0 O0) hZ (gw hw 93 rfl) (gw hw 73 rfl) (by decide) (by decide)) c1 (lenOf pd_6 rfl) rfl (hb hby d20_1) e0
  have N2 := Fr.app N0 N2'
  have c2 : Go p e below S0 T2 (mkF m 4 #[.val (.ref b), .val (.int 0), .val (.int 1), .unset, .unset] [(.ref u2)]) := c2'
  obtain ⟨cl3, Ar3, q3, S3, M3, H3, G3⟩ := id (Kc.keep K2 nin0)
  have hin3 : ¬ ((0 : Int32) < 0 ∨ cl3.slots.size ≤ ((0 : Int32)).toNatClampNeg) := inb_of S3 ⟨by decide, by decide⟩
  have hat3 := Has.at (v := .int xa) H3 hin3 rfl
  have c4 : Go p e below S0 T2 (mkF m 20 #[.val (.ref b), .val (.int 0), .val (.int 1), .val (.ref u2), .val (.int 0)] [(.int xa), (.int 0), (.ref u2)]) := c2.trans (by
    refine XS.astoreN X2.here hx rfl (hb hby d20_4) rfl rfl (l' := #[.val (.ref b), .val (.int 0), .val (.int 1), .val (.ref u2), .unset]) rfl ?_
    refine XS.iconst X2.here hx rfl (hb hby d20_5) ?_
    refine XS.istore X2.here hx rfl (hb hby d20_6) rfl (l' := #[.val (.ref b), .val (.int 0), .val (.int 1), .val (.ref u2), .val (.int 0)]) rfl ?_
    refine XS.iload X2.here hx rfl (hb hby d20_8) rfl ?_
    refine XS.iloadN X2.here hx rfl (hb hby d20_10) rfl ?_
    refine XS.icmpNo X2.here hx rfl (hb hby d20_11) rfl (tlt (by decide : (0 : Int32) < (1 : Int32))).2.1 ?_
    refine XS.aloadN X2.here hx rfl (hb hby d20_14) rfl rfl ?_
    refine XS.iload X2.here hx rfl (hb hby d20_15) rfl ?_
    refine XS.aloadN X2.here hx rfl (hb hby d20_17) rfl rfl ?_
    show Steps p.tables e below (T2.setTop (mkF m 18 #[.val (.ref b), .val (.int 0), .val (.int 1), .val (.ref u2), .val (.int 0)] [(.ref b), (.int 0), (.ref u2)])) _
    refine XS.iloadN X2.here hx rfl (hb hby d20_18) rfl ?_
    refine X2.caload hx (cell := cl3) (by rw [show T2.heap = T2.heap from rfl]; exact Ar3.1) (State.isArrayOf_alike (hZ).alike Ar3.2.1) Ar3.2.2 hin3 hat3 (g := (mkF m 19 #[.val (.ref b), .val (.int 0), .val (.int 1), .val (.ref u2), .val (.int 0)] [(.int 0), (.ref b), (.int 0), (.ref u2)])) rfl rfl (hb hby d20_19) _ ?_
    exact .refl _)
  obtain ⟨v5, T5, L5, X5, ⟨N5', rfl, K5, Kq5⟩, c5'⟩ := own_stat X2 hx hml hZ hown (gw hw 98 rfl) (gw hw 99 rfl) (gw hw 73 rfl) (gw hw 100 rfl) (by decide) (kc := 0) (ks := 0) (h := T2.heap) (W := 0) (argsL := [(.ref u2), (.int 0), (.int xa)]) (rest := []) (own_pay (W := 0) (rmPut l Z a0 hw u2 ku2 [(.int 0), (.int 0)] 2 0 xa z fm T2.heap (O0.keep K2 all0) Ku2 rfl (by decide) (by decide) ge2 hs) hZ (gw hw 100 rfl) (gw hw 73 rfl) (by decide) (by decide)) c4 (lenOf pd_7 rfl) rfl (hb hby d20_20) rfl
  have N5 := Fr.app N2 N5'
  have c5 : Go p e below S0 T5 (mkF m 23 #[.val (.ref b), .val (.int 0), .val (.int 1), .val (.ref u2), .val (.int 0)] []) := c5'
  have Kr5 : Arv Z T5.heap u2 ku2 .byte (2 : Int32) [(.int (own_lo xa)), (.int (own_hi xa))] (.int (0 : Int32)) := Kq5
  have c6 : Go p e below S0 T5 (mkF m 33 #[.val (.ref b), .val (.int 1), .val (.int 1), .val (.ref u2), .val (.int 1)] [(.ref u2)]) := c5.trans (by
    refine XS.iinc X5.here hx rfl (hb hby d20_23) rfl (l' := #[.val (.ref b), .val (.int 1), .val (.int 1), .val (.ref u2), .val (.int 0)]) rfl ?_
    refine XS.iinc X5.here hx rfl (hb hby d20_26) rfl (l' := #[.val (.ref b), .val (.int 1), .val (.int 1), .val (.ref u2), .val (.int 1)]) rfl ?_
    refine XS.goto X5.here hx rfl (pc0 := 29) (pc' := 8) rfl (hb hby d20_29) (by decide) (by decide) ?_
    refine XS.iload X5.here hx rfl (hb hby d20_8) rfl ?_
    refine XS.iloadN X5.here hx rfl (hb hby d20_10) rfl ?_
    refine XS.icmpYes X5.here hx rfl (pc0 := 11) (pc' := 32) rfl (hb hby d20_11) rfl (flt (by decide : ¬ ((1 : Int32) < (1 : Int32)))).2.1 (by decide) (by decide) ?_
    refine XS.aloadN X5.here hx rfl (hb hby d20_32) rfl rfl ?_
    exact .refl _)
  refine ⟨T5, (some (.ref u2)), _, _, _, X5, by decide, by decide, (fun q => by cases q), N5, ?_, fun fs hr => ?_⟩
  · skip
    exact ⟨u2, ku2, rfl, (((Keep.refl h0 []).trans K2 all0).trans K5 (allS (Or.inr (Nat.le_trans (Keep.refl h0 []).1 lo2)) all0)), (Nat.le_trans (Keep.refl h0 []).1 lo2), Kr5⟩
  · exact own_retR X5 hx c6 hret rfl rfl (hb hby d20_33) hr
theorem rmCmp5_1 (l : Launch) (Z : State) (a0 : Array Value) (hw : own_W Z a0) (b d : Addr) (kc kd : ClassId) (xa : Int32) (h0 : Heap) (O0 : Old Z Z.heap.size h0) (Kc : Arv Z h0 b kc .char (1 : Int32) [(.int xa)] (.int (0 : Int32))) (Kd : Arv Z h0 d kd .byte (1 : Int32) [(.int 0)] (.int (0 : Int32))) (gd : Z.heap.size ≤ d) (hne : b ≠ d) (hbad : ¬ (¬ (255 : Int32) < xa)) :
    own_NC l Z (⟨"java/lang/StringUTF16", "compress", "([CI[BII)I"⟩ : MethodName) jdk_52_method_21_code 7 (some .int) ({ frames := 0, cells := 0, slots := 0, locals := 0 } : Room) #[(.ref b), (.int 0), (.ref d), (.int 0), (.int 1)] h0 (fun v h => Keep h0 h [d] ∧ (∃ i : Nat, v = some (.int (Int32.ofNat i)) ∧ i < 1 ∧ (255 : Int32) < ([xa] : List Int32).getD i 0)) := by
  refine own_nc (plainFor_of_name pnl4) ?_
  intro p e s m below meth c s₁ S0 X0 hx hby hml hret hnm hown hZ e0 cc
  have N0 := Fr.nil Z.heap.size
  have c0 : Go p e below S0 s₁ (mkF m 0 #[.val (.ref b), .val (.int 0), .val (.ref d), .val (.int 0), .val (.int 1), .unset, .unset] []) := cc.trans (XT.entry rfl)
  obtain ⟨cl1, Ar1, q1, S1, M1, H1, G1⟩ := id Kc
  have hin1 : ¬ ((0 : Int32) < 0 ∨ cl1.slots.size ≤ ((0 : Int32)).toNatClampNeg) := inb_of S1 ⟨by decide, by decide⟩
  have hat1 := Has.at (v := .int xa) H1 hin1 rfl
  have c2 : Go p e below S0 s₁ (mkF m 20 #[.val (.ref b), .val (.int 0), .val (.ref d), .val (.int 0), .val (.int 1), .val (.int 0), .val (.int xa)] [(.int 255), (.int xa)]) := c0.trans (by
    refine XS.iconst X0.here hx rfl (hb hby d16_0) ?_
    refine XS.istore X0.here hx rfl (hb hby d16_1) rfl (l' := #[.val (.ref b), .val (.int 0), .val (.ref d), .val (.int 0), .val (.int 1), .val (.int 0), .unset]) rfl ?_
    refine XS.iload X0.here hx rfl (hb hby d16_3) rfl ?_
    refine XS.iload X0.here hx rfl (hb hby d16_5) rfl ?_
    refine XS.icmpNo X0.here hx rfl (hb hby d16_7) rfl (tlt (by decide : (0 : Int32) < (1 : Int32))).2.1 ?_
    refine XS.aloadN X0.here hx rfl (hb hby d16_10) rfl rfl ?_
    refine XS.iloadN X0.here hx rfl (hb hby d16_11) rfl ?_
    refine X0.caload hx (cell := cl1) (by rw [show s₁.heap = h0 from e0]; exact Ar1.1) (State.isArrayOf_alike (hZ).alike Ar1.2.1) Ar1.2.2 hin1 hat1 (g := (mkF m 12 #[.val (.ref b), .val (.int 0), .val (.ref d), .val (.int 0), .val (.int 1), .val (.int 0), .unset] [(.int 0), (.ref b)])) rfl rfl (hb hby d16_12) _ ?_
    refine XS.istore X0.here hx rfl (hb hby d16_13) rfl (l' := #[.val (.ref b), .val (.int 0), .val (.ref d), .val (.int 0), .val (.int 1), .val (.int 0), .val (.int xa)]) rfl ?_
    show Steps p.tables e below (s₁.setTop (mkF m 15 #[.val (.ref b), .val (.int 0), .val (.ref d), .val (.int 0), .val (.int 1), .val (.int 0), .val (.int xa)] [])) _
    refine XS.iload X0.here hx rfl (hb hby d16_15) rfl ?_
    refine XS.sipush X0.here hx rfl (hb hby d16_17) ?_
    exact .refl _)
  by_cases hc3 : (255 : Int32) < xa
  · skip
    have c4 : Go p e below S0 s₁ (mkF m 25 #[.val (.ref b), .val (.int 0), .val (.ref d), .val (.int 0), .val (.int 1), .val (.int 0), .val (.int xa)] [(.int 0)]) := c2.trans (by
      refine XS.icmpNo X0.here hx rfl (hb hby d16_20) rfl (tlt hc3).2.2.2 ?_
      refine XS.iload X0.here hx rfl (hb hby d16_23) rfl ?_
      exact .refl _)
    refine ⟨s₁, (some (.int 0)), _, _, _, X0, by decide, by decide, (fun q => by cases q), N0, ?_, fun fs hr => ?_⟩
    · rw [e0]
      exact ⟨(Keep.refl h0 [d]), 0, rfl, by decide, hc3⟩
    · exact c4.trans (retI X0 hx hret (hb hby d16_25) hr)
  · skip
    obtain ⟨cl6, Ar6, q6, S6, M6, H6, G6⟩ := id Kd
    have hin6 : ¬ ((0 : Int32) < 0 ∨ cl6.slots.size ≤ ((0 : Int32)).toNatClampNeg) := inb_of S6 ⟨by decide, by decide⟩
    obtain ⟨T6, h6, X6, e6, W6, st6⟩ := stB X0 hx hZ e0 Ar6 (j := (0 : Int32)) hin6 (g := (mkF m 31 #[.val (.ref b), .val (.int 0), .val (.ref d), .val (.int 0), .val (.int 1), .val (.int 0), .val (.int xa)] [(.int (xa.toInt8.toInt32)), (.int 0), (.ref d)])) rfl rfl (hb hby d16_31)
    have V6 := Arv.set Ar6 q6 S6 M6 H6 G6 (fits_nar_byte _) W6 0 rfl (Nat.le_of_ble_eq_true rfl)
    have N6 := Fr.snoc X6 N0 gd
    rw [own_b2] at V6
    have V6a : Arv Z h6 d kd .byte (1 : Int32) [(.int (xa.toInt8.toInt32))] (.int (0 : Int32)) := V6
    have c7 : Go p e below S0 T6 (mkF m 46 #[.val (.ref b), .val (.int 1), .val (.ref d), .val (.int 1), .val (.int 1), .val (.int 1), .val (.int xa)] [(.int 1)]) := c2.trans (by
      refine XS.icmpYes X0.here hx rfl (pc0 := 20) (pc' := 26) rfl (hb hby d16_20) rfl (flt hc3).2.2.2 (by decide) (by decide) ?_
      refine XS.aloadN X0.here hx rfl (hb hby d16_26) rfl rfl ?_
      refine XS.iloadN X0.here hx rfl (hb hby d16_27) rfl ?_
      refine XS.iload X0.here hx rfl (hb hby d16_28) rfl ?_
      refine XS.i2b X0.here hx rfl (hb hby d16_30) rfl ?_
      refine st6 _ ?_
      show Steps p.tables e below (T6.setTop (mkF m 32 #[.val (.ref b), .val (.int 0), .val (.ref d), .val (.int 0), .val (.int 1), .val (.int 0), .val (.int xa)] [])) _
      refine XS.iinc X6.here hx rfl (hb hby d16_32) rfl (l' := #[.val (.ref b), .val (.int 1), .val (.ref d), .val (.int 0), .val (.int 1), .val (.int 0), .val (.int xa)]) rfl ?_
      refine XS.iinc X6.here hx rfl (hb hby d16_35) rfl (l' := #[.val (.ref b), .val (.int 1), .val (.ref d), .val (.int 1), .val (.int 1), .val (.int 0), .val (.int xa)]) rfl ?_
      refine XS.iinc X6.here hx rfl (hb hby d16_38) rfl (l' := #[.val (.ref b), .val (.int 1), .val (.ref d), .val (.int 1), .val (.int 1), .val (.int 1), .val (.int xa)]) rfl ?_
      refine XS.goto X6.here hx rfl (pc0 := 41) (pc' := 3) rfl (hb hby d16_41) (by decide) (by decide) ?_
      refine XS.iload X6.here hx rfl (hb hby d16_3) rfl ?_
      refine XS.iload X6.here hx rfl (hb hby d16_5) rfl ?_
      refine XS.icmpYes X6.here hx rfl (pc0 := 7) (pc' := 44) rfl (hb hby d16_7) rfl (flt (by decide : ¬ ((1 : Int32) < (1 : Int32)))).2.1 (by decide) (by decide) ?_
      refine XS.iload X6.here hx rfl (hb hby d16_44) rfl ?_
      exact .refl _)
    refine ⟨T6, (some (.int 1)), _, _, _, X6, by decide, by decide, (fun q => by cases q), N6, ?_, fun fs hr => ?_⟩
    · rw [e6]
      exact absurd hc3 hbad
    · exact c7.trans (retI X6 hx hret (hb hby d16_46) hr)
theorem own_gl1 (d : Value) (i : Nat) (xa : Int32) (h : i < 1) : ([(.int (own_lo xa)), (.int (own_hi xa))] : List Value).getD (2 * i) d = .int (own_lo (([xa] : List Int32).getD i 0)) ∧ ([(.int (own_lo xa)), (.int (own_hi xa))] : List Value).getD (2 * i + 1) d = .int (own_hi (([xa] : List Int32).getD i 0)) ∧ (own_C xa → own_C (([xa] : List Int32).getD i 0)) := by
  match i, h with
  | 0, _ => exact ⟨rfl, rfl, fun hxa => hxa⟩
theorem own_ne1 {i : Nat} (h : i < 1) : ¬ (Int32.ofNat i = (1 : Int32)) := by
  have t : ∀ i : Fin 1, ¬ (Int32.ofNat i.val = (1 : Int32)) := by decide
  exact t ⟨i, h⟩
theorem rmCmp3_1 (l : Launch) (Z : State) (a0 : Array Value) (hw : own_W Z a0) (b : Addr) (kc : ClassId) (xa : Int32) (z : Int32) (fm : Value) (h0 : Heap) (O0 : Old Z Z.heap.size h0) (Kc : Arv Z h0 b kc .char (1 : Int32) [(.int xa)] (.int (0 : Int32))) (hCxa : own_C xa) (hbad : ¬ (¬ (255 : Int32) < xa)) (hs : own_S Z z fm) :
    own_NC l Z (⟨"java/lang/StringUTF16", "compress", "([CII)[B"⟩ : MethodName) jdk_52_method_16_code 6 (some (.array .byte)) ({ frames := 3, cells := 2, slots := 3, locals := 60 } : Room) #[(.ref b), (.int 0), (.int 1)] h0 (fun v h => ∃ (u : Addr) (ku : ClassId), v = some (.ref u) ∧ Keep h0 h [] ∧ h0.size ≤ u ∧ Arv Z h u ku .byte (2 : Int32) [(.int (own_lo xa)), (.int (own_hi xa))] (.int (0 : Int32))) := by
  refine own_nc (plainFor_of_name pnl4) ?_
  intro p e s m below meth c s₁ S0 X0 hx hby hml hret hnm hown hZ e0 cc
  have N0 := Fr.nil Z.heap.size
  have c0 : Go p e below S0 s₁ (mkF m 0 #[.val (.ref b), .val (.int 0), .val (.int 1), .unset, .unset, .unset] []) := cc.trans (XT.entry rfl)
  obtain ⟨SC, hz, SF, hfm, SA, SH, SL⟩ := id hs
  obtain ⟨T1, h1, k1, X1, e1, E1, A1, st1⟩ := newP X0 hx hZ (hw _ (List.mem_of_getElem? (i := 23) rfl)) e0 (g := (mkF m 1 #[.val (.ref b), .val (.int 0), .val (.int 1), .unset, .unset, .unset] [(.int 1)])) rfl (hb hby d15_1) rfl (by decide) (cap := 1) (by decide) (by decide) (by decide) (by decide)
  obtain ⟨b1, g1⟩ : ∃ z, z = h0.size := ⟨_, rfl⟩
  rw [← g1] at A1 st1
  have lo1 : h0.size ≤ b1 := Nat.le_of_eq g1.symm
  have ge1 : Z.heap.size ≤ b1 := Nat.le_trans O0.2.1 lo1
  have V1 := Arv.new A1 (by decide)
  have V1a : Arv Z h1 b1 k1 .byte (1 : Int32) [(.int 0)] (.int (0 : Int32)) := V1.pad (pad_rep [] (.int (0 : Int32)) 1)
  have c2 : Go p e below S0 T1 (mkF m 9 #[.val (.ref b), .val (.int 0), .val (.int 1), .val (.ref b1), .unset, .unset] [(.int 1), (.int 0), (.ref b1), (.int 0), (.ref b)]) := c0.trans (by
    refine XS.iloadN X0.here hx rfl (hb hby d15_0) rfl ?_
    refine st1 _ ?_
    refine XS.astoreN X1.here hx rfl (hb hby d15_3) rfl rfl (l' := #[.val (.ref b), .val (.int 0), .val (.int 1), .val (.ref b1), .unset, .unset]) rfl ?_
    refine XS.aloadN X1.here hx rfl (hb hby d15_4) rfl rfl ?_
    refine XS.iloadN X1.here hx rfl (hb hby d15_5) rfl ?_
    refine XS.aloadN X1.here hx rfl (hb hby d15_6) rfl rfl ?_
    refine XS.iconst X1.here hx rfl (hb hby d15_7) ?_
    refine XS.iloadN X1.here hx rfl (hb hby d15_8) rfl ?_
    exact .refl _)
  obtain ⟨v3, T3, L3, X3, ⟨N3', K3, i3, rfl, hi3, hq3⟩, c3'⟩ := own_stat X1 hx hml hZ hown (gw hw 75 rfl) (gw hw 76 rfl) (gw hw 73 rfl) (gw hw 77 rfl) (by decide) (kc := 0) (ks := 0) (h := h1) (W := 0) (argsL := [(.ref b), (.int 0), (.ref b1), (.int 0), (.int 1)]) (rest := []) (own_pay (W := 0) (rmCmp5_1 l Z a0 hw b b1 kc k1 xa h1 (O0.ext E1) (Kc.ext E1) V1a ge1 (Nat.ne_of_lt (Nat.lt_of_lt_of_le Kc.lt lo1)) hbad) hZ (gw hw 77 rfl) (gw hw 73 rfl) (by decide) (by decide)) c2 (lenOf pd_8 rfl) rfl (hb hby d15_9) e1
  have N3 := Fr.app N0 N3'
  have c3 : Go p e below S0 T3 (mkF m 12 #[.val (.ref b), .val (.int 0), .val (.int 1), .val (.ref b1), .unset, .unset] [(.int (Int32.ofNat i3))]) := c3'
  have c4 : Go p e below S0 T3 (mkF m 23 #[.val (.ref b), .val (.int 0), .val (.int 1), .val (.ref b1), .val (.int (Int32.ofNat i3)), .unset] [(.int 1), (.int 0), (.ref b)]) := c3.trans (by
    refine XS.istore X3.here hx rfl (hb hby d15_12) rfl (l' := #[.val (.ref b), .val (.int 0), .val (.int 1), .val (.ref b1), .val (.int (Int32.ofNat i3)), .unset]) rfl ?_
    refine XS.iload X3.here hx rfl (hb hby d15_14) rfl ?_
    refine XS.iloadN X3.here hx rfl (hb hby d15_16) rfl ?_
    refine XS.icmpNo X3.here hx rfl (hb hby d15_17) rfl (feq (own_ne1 hi3)).1 ?_
    refine XS.aloadN X3.here hx rfl (hb hby d15_20) rfl rfl ?_
    refine XS.iloadN X3.here hx rfl (hb hby d15_21) rfl ?_
    refine XS.iloadN X3.here hx rfl (hb hby d15_22) rfl ?_
    exact .refl _)
  obtain ⟨v5, T5, L5, X5, ⟨N5', u5, ku5, rfl, K5, lo5, Ku5⟩, c5'⟩ := own_stat X3 hx hml hZ hown (gw hw 88 rfl) (gw hw 89 rfl) (gw hw 73 rfl) (gw hw 90 rfl) (by decide) (kc := 1) (ks := 2) (h := T3.heap) (W := 0) (argsL := [(.ref b), (.int 0), (.int 1)]) (rest := []) (own_pay (W := 0) (rmToB1 l Z a0 hw b kc xa z fm T3.heap ((O0.ext E1).keep K3 (allS ge1 all0)) ((Kc.ext E1).keep K3 (ninS (Nat.ne_of_lt (Nat.lt_of_lt_of_le Kc.lt lo1)) nin0)) hs) hZ (gw hw 90 rfl) (gw hw 73 rfl) (by decide) (by decide)) c4 (lenOf pd_9 rfl) rfl (hb hby d15_23) rfl
  have N5 := Fr.app N3 N5'
  have c5 : Go p e below S0 T5 (mkF m 26 #[.val (.ref b), .val (.int 0), .val (.int 1), .val (.ref b1), .val (.int (Int32.ofNat i3)), .unset] [(.ref u5)]) := c5'
  have c6 : Go p e below S0 T5 (mkF m 32 #[.val (.ref b), .val (.int 0), .val (.int 1), .val (.ref b1), .val (.int (Int32.ofNat i3)), .val (.ref u5)] [(.int (Int32.ofNat i3)), (.ref u5)]) := c5.trans (by
    refine XS.astore X5.here hx rfl (hb hby d15_26) rfl rfl (l' := #[.val (.ref b), .val (.int 0), .val (.int 1), .val (.ref b1), .val (.int (Int32.ofNat i3)), .val (.ref u5)]) rfl ?_
    refine XS.aload X5.here hx rfl (hb hby d15_28) rfl rfl ?_
    refine XS.iload X5.here hx rfl (hb hby d15_30) rfl ?_
    exact .refl _)
  obtain ⟨v7, T7, L7, X7, ⟨N7', rfl, e7⟩, c7'⟩ := own_stat X5 hx hml hZ hown (gw hw 104 rfl) (gw hw 105 rfl) (gw hw 73 rfl) (gw hw 106 rfl) (by decide) (kc := 0) (ks := 0) (h := T5.heap) (W := 0) (argsL := [(.ref u5), (.int (Int32.ofNat i3))]) (rest := []) (own_pay (W := 0) (rmGet l Z a0 hw u5 ku5 [(.int (own_lo xa)), (.int (own_hi xa))] 2 i3 (([xa] : List Int32).getD i3 0) z fm T5.heap (((O0.ext E1).keep K3 (allS ge1 all0)).keep K5 all0) Ku5 rfl (by decide) (by omega) (own_gl1 _ _ xa hi3).1 (own_gl1 _ _ xa hi3).2.1 ((own_gl1 (.int 0) _ xa hi3).2.2 hCxa) hs) hZ (gw hw 106 rfl) (gw hw 73 rfl) (by decide) (by decide)) c6 (lenOf pd_10 rfl) rfl (hb hby d15_32) rfl
  have N7 := Fr.app N5 N7'
  have c7 : Go p e below S0 T7 (mkF m 35 #[.val (.ref b), .val (.int 0), .val (.int 1), .val (.ref b1), .val (.int (Int32.ofNat i3)), .val (.ref u5)] [(.int (([xa] : List Int32).getD i3 0))]) := c7'
  have c8 : Go p e below S0 T7 (mkF m 56 #[.val (.ref b), .val (.int 0), .val (.int 1), .val (.ref b1), .val (.int (Int32.ofNat i3)), .val (.ref u5)] [(.ref u5)]) := c7.trans (by
    refine XS.sipush X7.here hx rfl (hb hby d15_35) ?_
    refine XS.icmpYes X7.here hx rfl (pc0 := 38) (pc' := 54) rfl (hb hby d15_38) rfl (tlt hq3).2.2.1 (by decide) (by decide) ?_
    refine XS.aload X7.here hx rfl (hb hby d15_54) rfl rfl ?_
    exact .refl _)
  refine ⟨T7, (some (.ref u5)), _, _, _, X7, by decide, by decide, (fun q => by cases q), N7, ?_, fun fs hr => ?_⟩
  · rw [e7]
    exact ⟨u5, ku5, rfl, ((((Keep.refl h0 []).ext E1).trans K3 (allS (Or.inr (Nat.le_trans (Keep.refl h0 []).1 lo1)) all0)).trans K5 all0), (Nat.le_trans (own_kz ((Keep.refl h0 []).ext E1) K3).1 lo5), Ku5⟩
  · exact own_retR X7 hx c8 hret rfl rfl (hb hby d15_56) hr
theorem rmCFAL1 (l : Launch) (Z : State) (a0 : Array Value) (hw : own_W Z a0) (t : Addr) (kb : ClassId) (xa : Int32) (h0 : Heap) (O0 : Old Z Z.heap.size h0) (Kt : Arv Z h0 t kb .byte (2 : Int32) [(.int (own_lo xa)), (.int (own_hi xa))] (.int (0 : Int32))) :
    own_NC l Z (⟨"java/lang/StringUTF16", "coderFromArrayLen", "([BI)B"⟩ : MethodName) jdk_52_method_15_code 2 (some .byte) ({ frames := 0, cells := 0, slots := 0, locals := 0 } : Room) #[(.ref t), (.int 1)] h0 (fun v h => v = some (.int (1 : Int32)) ∧ h = h0) := by
  refine own_nc (plainFor_of_name pnl4) ?_
  intro p e s m below meth c s₁ S0 X0 hx hby hml hret hnm hown hZ e0 cc
  have N0 := Fr.nil Z.heap.size
  have c0 : Go p e below S0 s₁ (mkF m 0 #[.val (.ref t), .val (.int 1)] []) := cc.trans (XT.entry rfl)
  obtain ⟨cl1, Ar1, q1, S1, M1, H1, G1⟩ := id Kt
  have c2 : Go p e below S0 s₁ (mkF m 8 #[.val (.ref t), .val (.int 1)] [(.int 1)]) := c0.trans (by
    refine XS.iloadN X0.here hx rfl (hb hby d17_0) rfl ?_
    refine XS.aloadN X0.here hx rfl (hb hby d17_1) rfl rfl ?_
    refine X0.arraylength hx (by rw [show s₁.heap = h0 from e0]; exact Ar1.1) (State.isArrayOf_alike (hZ).alike Ar1.2.1) (g := (mkF m 2 #[.val (.ref t), .val (.int 1)] [(.ref t), (.int 1)])) rfl rfl (hb hby d17_2) _ ?_
    rw [len_of S1 M1]
    refine XS.isub X0.here hx rfl (hb hby d17_3) rfl ?_
    refine XS.bipush X0.here hx rfl (hb hby d17_4) ?_
    refine XS.iushr X0.here hx rfl (hb hby d17_6) rfl ?_
    refine XS.i2b X0.here hx rfl (hb hby d17_7) rfl ?_
    exact .refl _)
  refine ⟨s₁, (some (.int (1 : Int32))), _, _, _, X0, by decide, by decide, (fun q => by cases q), N0, ?_, fun fs hr => ?_⟩
  · rw [e0]
    exact ⟨rfl, rfl⟩
  · exact c2.trans (retN X0 hx (t := .byte) hret (by simp) (hb hby d17_8) hr)
theorem rmUI4_1 (l : Launch) (Z : State) (a0 : Array Value) (hw : own_W Z a0) (x b : Addr) (kc : ClassId) (u1 u2 : Value) (xa : Int32) (z : Int32) (fm : Value) (h0 : Heap) (O0 : Old Z Z.heap.size h0) (E : Exa Z h0 x "java/lang/String") (V : Fld Z h0 x "java/lang/String" "value" "[B" u1) (Cd : Fld Z h0 x "java/lang/String" "coder" "B" u2) (gx : Z.heap.size ≤ x) (Kc : Arv Z h0 b kc .char (1 : Int32) [(.int xa)] (.int (0 : Int32))) (hCxa : own_C xa) (hbad : ¬ (¬ (255 : Int32) < xa)) (hs : own_S Z z fm) :
    own_NC l Z (⟨"java/lang/String", "<init>", "([CIILjava/lang/Void;)V"⟩ : MethodName) jdk_42_method_149_code 6 none ({ frames := 4, cells := 2, slots := 3, locals := 90 } : Room) #[(.ref x), (.ref b), (.int 0), (.int 1), .null] h0 (fun v h => v = none ∧ Keep h0 h [x] ∧ Exa Z h x "java/lang/String" ∧ Fld Z h x "java/lang/String" "coder" "B" (.int (1 : Int32)) ∧ ∃ (t : Addr) (kt : ClassId), h0.size ≤ t ∧ Fld Z h x "java/lang/String" "value" "[B" (.ref t) ∧ Arv Z h t kt .byte (2 : Int32) [(.int (own_lo xa)), (.int (own_hi xa))] (.int (0 : Int32))) := by
  refine own_nc (plainFor_of_name pnl2) ?_
  intro p e s m below meth c s₁ S0 X0 hx hby hml hret hnm hown hZ e0 cc
  have N0 := Fr.nil Z.heap.size
  have c0 : Go p e below S0 s₁ (mkF m 0 #[.val (.ref x), .val (.ref b), .val (.int 0), .val (.int 1), .val .null, .unset] []) := cc.trans (XT.entry rfl)
  obtain ⟨SC, hz, SF, hfm, SA, SH, SL⟩ := id hs
  obtain ⟨T1, X1, e1, st1⟩ := initO X0 hx hZ hown (gw hw 19 rfl) (gw hw 20 rfl) (gw hw 21 rfl) e0 (g := (mkF m 1 #[.val (.ref x), .val (.ref b), .val (.int 0), .val (.int 1), .val .null, .unset] [(.ref x)])) rfl (by rw [hml]; rfl) rfl (hb hby d4_1) (by decide) (W := 0) (by show 2 * 0 + _ ≤ _; exact Nat.le_of_eq rfl) (by decide)
  obtain ⟨T2, X2, e2, st2⟩ := getS2 X1 hx hZ hown (host := "") (Or.inl (gw hw 49 rfl)) Via.refl e1 (SC.ext O0.2) (g := (mkF m 27 #[.val (.ref x), .val (.ref b), .val (.int 0), .val (.int 1), .val .null, .unset] [])) rfl (hb hby d4_27)
  have c3 : Go p e below S0 T2 (mkF m 36 #[.val (.ref x), .val (.ref b), .val (.int 0), .val (.int 1), .val .null, .unset] [(.int 1), (.int 0), (.ref b)]) := c0.trans (by
    refine XS.aloadN X0.here hx rfl (hb hby d4_0) rfl rfl ?_
    refine st1 _ ?_
    refine XS.iloadN X1.here hx rfl (hb hby d4_4) rfl ?_
    refine XS.ifYes X1.here hx rfl (pc0 := 5) (pc' := 27) rfl (hb hby d4_5) rfl ((if0 _ _).trans (feq (by decide : ¬ ((1 : Int32) = (0 : Int32)))).2) (by decide) (by decide) ?_
    refine st2 _ ?_
    show Steps p.tables e below (T2.setTop (mkF m 30 #[.val (.ref x), .val (.ref b), .val (.int 0), .val (.int 1), .val .null, .unset] [(.int z)])) _
    refine XS.ifNo X2.here hx rfl (hb hby d4_30) rfl ((if0 _ _).trans (feq hz).1) ?_
    refine XS.aloadN X2.here hx rfl (hb hby d4_33) rfl rfl ?_
    refine XS.iloadN X2.here hx rfl (hb hby d4_34) rfl ?_
    refine XS.iloadN X2.here hx rfl (hb hby d4_35) rfl ?_
    exact .refl _)
  obtain ⟨v4, T4, L4, X4, ⟨N4', u4, ku4, rfl, K4, lo4, Ku4⟩, c4'⟩ := own_stat X2 hx hml hZ hown (gw hw 71 rfl) (gw hw 72 rfl) (gw hw 73 rfl) (gw hw 74 rfl) (by decide) (kc := 2) (ks := 3) (h := h0) (W := 0) (argsL := [(.ref b), (.int 0), (.int 1)]) (rest := []) (own_pay (W := 0) (rmCmp3_1 l Z a0 hw b kc xa z fm h0 O0 Kc hCxa hbad hs) hZ (gw hw 74 rfl) (gw hw 73 rfl) (by decide) (by decide)) c3 (lenOf pd_9 rfl) rfl (hb hby d4_36) e2
  have N4 := Fr.app N0 N4'
  have c4 : Go p e below S0 T4 (mkF m 39 #[.val (.ref x), .val (.ref b), .val (.int 0), .val (.int 1), .val .null, .unset] [(.ref u4)]) := c4'
  have c5 : Go p e below S0 T4 (mkF m 45 #[.val (.ref x), .val (.ref b), .val (.int 0), .val (.int 1), .val .null, .val (.ref u4)] [(.int 1), (.ref u4), (.ref x)]) := c4.trans (by
    refine XS.astore X4.here hx rfl (hb hby d4_39) rfl rfl (l' := #[.val (.ref x), .val (.ref b), .val (.int 0), .val (.int 1), .val .null, .val (.ref u4)]) rfl ?_
    refine XS.aloadN X4.here hx rfl (hb hby d4_41) rfl rfl ?_
    refine XS.aload X4.here hx rfl (hb hby d4_42) rfl rfl ?_
    refine XS.iloadN X4.here hx rfl (hb hby d4_44) rfl ?_
    exact .refl _)
  obtain ⟨v6, T6, L6, X6, ⟨N6', rfl, e6⟩, c6'⟩ := own_stat X4 hx hml hZ hown (gw hw 78 rfl) (gw hw 79 rfl) (gw hw 73 rfl) (gw hw 80 rfl) (by decide) (kc := 0) (ks := 0) (h := T4.heap) (W := 1) (argsL := [(.ref u4), (.int 1)]) (rest := [(.ref x)]) (own_pay (W := 1) (rmCFAL1 l Z a0 hw u4 ku4 xa T4.heap (O0.keep K4 all0) Ku4) hZ (gw hw 80 rfl) (gw hw 73 rfl) (by decide) (by decide)) c5 (lenOf pd_11 rfl) rfl (hb hby d4_45) rfl
  have N6 := Fr.app N4 N6'
  have c6 : Go p e below S0 T6 (mkF m 48 #[.val (.ref x), .val (.ref b), .val (.int 0), .val (.int 1), .val .null, .val (.ref u4)] [(.int 1), (.ref x)]) := c6'
  obtain ⟨T7, h7, X7, e7, W7, st7⟩ := putFN X6 hx hZ hown (gw hw 29 rfl) Via.refl e6 (Cd.keep K4 nin0) (E.keep K4) (Or.inr ⟨(gw hw 25 rfl), rfl, hnm⟩) (gw hw 10 rfl) (ty := .byte) (v' := (.int 1)) (by decide) rfl rfl (g := (mkF m 48 #[.val (.ref x), .val (.ref b), .val (.int 0), .val (.int 1), .val .null, .val (.ref u4)] [(.int 1), (.ref x)])) rfl rfl (hb hby d4_48)
  have N7 := Fr.snoc X7 N6 gx
  have Fw7 := (Cd.keep K4 nin0).same W7
  obtain ⟨T8, h8, X8, e8, W8, st8⟩ := putF X7 hx hZ hown (host := "") (Or.inl (gw hw 28 rfl)) Via.refl e7 ((V.keep K4 nin0).other W7 (Or.inr (slot_ne (Or.inr (gw hw 24 rfl)) (Or.inr (gw hw 25 rfl)) (by decide) (t := (.array .byte)) (t' := .byte) (by decide) (by decide)))) ((E.keep K4).wr W7) (Or.inr ⟨(gw hw 24 rfl), rfl, hnm⟩) (gw hw 10 rfl) (ty := (.array .byte)) (by decide) rfl rfl (g := (mkF m 54 #[.val (.ref x), .val (.ref b), .val (.int 0), .val (.int 1), .val .null, .val (.ref u4)] [(.ref u4), (.ref x)])) rfl rfl (hb hby d4_54)
  have N8 := Fr.snoc X8 N7 gx
  have Fw8 := ((V.keep K4 nin0).other W7 (Or.inr (slot_ne (Or.inr (gw hw 24 rfl)) (Or.inr (gw hw 25 rfl)) (by decide) (t := (.array .byte)) (t' := .byte) (by decide) (by decide)))).same W8
  have c9 : Go p e below S0 T8 (mkF m 57 #[.val (.ref x), .val (.ref b), .val (.int 0), .val (.int 1), .val .null, .val (.ref u4)] []) := c6.trans (by
    refine st7 _ ?_
    refine XS.aloadN X7.here hx rfl (hb hby d4_51) rfl rfl ?_
    refine XS.aload X7.here hx rfl (hb hby d4_52) rfl rfl ?_
    refine st8 _ ?_
    show Steps p.tables e below (T8.setTop (mkF m 57 #[.val (.ref x), .val (.ref b), .val (.int 0), .val (.int 1), .val .null, .val (.ref u4)] [])) _
    exact .refl _)
  refine ⟨T8, none, _, _, _, X8, by decide, by decide, (fun _ => rfl), N8, ?_, fun fs hr => ?_⟩
  · rw [e8]
    exact ⟨rfl, ((((Keep.refl h0 [x]).trans K4 all0).wr W7 (Or.inl (List.mem_of_getElem? (i := 0) rfl))).wr W8 (Or.inl (List.mem_of_getElem? (i := 0) rfl))), (((E.keep K4).wr W7).wr W8), (Fw7.other W8 (Or.inr (slot_ne (Or.inr (gw hw 25 rfl)) (Or.inr (gw hw 24 rfl)) (by decide) (t := .byte) (t' := (.array .byte)) (by decide) (by decide)))), u4, ku4, (Nat.le_trans (Keep.refl h0 []).1 lo4), Fw8, ((Ku4.other W7 (Ne.symm (Nat.ne_of_lt (Nat.lt_of_lt_of_le E.lt lo4)))).other W8 (Ne.symm (Nat.ne_of_lt (Nat.lt_of_lt_of_le E.lt lo4))))⟩
  · exact c9.trans (X8.returnOut hx hret (hb hby d4_57) hr)
theorem rmUI1_1 (l : Launch) (Z : State) (a0 : Array Value) (hw : own_W Z a0) (x b : Addr) (kc : ClassId) (u1 u2 : Value) (xa : Int32) (z : Int32) (fm : Value) (h0 : Heap) (O0 : Old Z Z.heap.size h0) (E : Exa Z h0 x "java/lang/String") (V : Fld Z h0 x "java/lang/String" "value" "[B" u1) (Cd : Fld Z h0 x "java/lang/String" "coder" "B" u2) (gx : Z.heap.size ≤ x) (Kc : Arv Z h0 b kc .char (1 : Int32) [(.int xa)] (.int (0 : Int32))) (hCxa : own_C xa) (hbad : ¬ (¬ (255 : Int32) < xa)) (hs : own_S Z z fm) :
    own_NC l Z (⟨"java/lang/String", "<init>", "([C)V"⟩ : MethodName) jdk_42_method_3_code 2 none ({ frames := 5, cells := 2, slots := 3, locals := 120 } : Room) #[(.ref x), (.ref b)] h0 (fun v h => v = none ∧ Keep h0 h [x] ∧ Exa Z h x "java/lang/String" ∧ Fld Z h x "java/lang/String" "coder" "B" (.int (1 : Int32)) ∧ ∃ (t : Addr) (kt : ClassId), h0.size ≤ t ∧ Fld Z h x "java/lang/String" "value" "[B" (.ref t) ∧ Arv Z h t kt .byte (2 : Int32) [(.int (own_lo xa)), (.int (own_hi xa))] (.int (0 : Int32))) := by
  refine own_nc (plainFor_of_name pnl2) ?_
  intro p e s m below meth c s₁ S0 X0 hx hby hml hret hnm hown hZ e0 cc
  have N0 := Fr.nil Z.heap.size
  have c0 : Go p e below S0 s₁ (mkF m 0 #[.val (.ref x), .val (.ref b)] []) := cc.trans (XT.entry rfl)
  obtain ⟨SC, hz, SF, hfm, SA, SH, SL⟩ := id hs
  obtain ⟨cl1, Ar1, q1, S1, M1, H1, G1⟩ := id Kc
  have c2 : Go p e below S0 s₁ (mkF m 6 #[.val (.ref x), .val (.ref b)] [.null, (.int 1), (.int 0), (.ref b), (.ref x)]) := c0.trans (by
    refine XS.aloadN X0.here hx rfl (hb hby d3_0) rfl rfl ?_
    refine XS.aloadN X0.here hx rfl (hb hby d3_1) rfl rfl ?_
    refine XS.iconst X0.here hx rfl (hb hby d3_2) ?_
    refine XS.aloadN X0.here hx rfl (hb hby d3_3) rfl rfl ?_
    refine X0.arraylength hx (by rw [show s₁.heap = h0 from e0]; exact Ar1.1) (State.isArrayOf_alike (hZ).alike Ar1.2.1) (g := (mkF m 4 #[.val (.ref x), .val (.ref b)] [(.ref b), (.int 0), (.ref b), (.ref x)])) rfl rfl (hb hby d3_4) _ ?_
    rw [len_of S1 M1]
    refine XS.aconstNull X0.here hx rfl (hb hby d3_5) ?_
    exact .refl _)
  obtain ⟨v3, T3, L3, X3, ⟨N3', rfl, K3, E3, Cd3, t3, kt3, lo3, V3, Kt3⟩, c3'⟩ := own_spec X0 hx hml hZ hown rfl (gw hw 15 rfl) (gw hw 16 rfl) (gw hw 18 rfl) (by decide) (kc := 2) (ks := 3) (h := h0) (W := 0) (b := x) (argsL := [(.ref b), (.int 0), (.int 1), .null]) (rest := []) (own_pay (W := 0) (rmUI4_1 l Z a0 hw x b kc u1 u2 xa z fm h0 O0 E V Cd gx Kc hCxa hbad hs) hZ (gw hw 18 rfl) (gw hw 11 rfl) (by decide) (by decide)) c2 (lenOf pd_12 rfl) rfl (hb hby d3_6) e0
  have N3 := Fr.app N0 N3'
  have c3 : Go p e below S0 T3 (mkF m 9 #[.val (.ref x), .val (.ref b)] []) := c3'
  refine ⟨T3, none, _, _, _, X3, by decide, by decide, (fun _ => rfl), N3, ?_, fun fs hr => ?_⟩
  · skip
    exact ⟨rfl, K3, E3, Cd3, t3, kt3, lo3, V3, Kt3⟩
  · exact c3.trans (X3.returnOut hx hret (hb hby d3_9) hr)
theorem rmLen16_1 (l : Launch) (Z : State) (a0 : Array Value) (hw : own_W Z a0) (t : Addr) (kb : ClassId) (xa : Int32) (h0 : Heap) (O0 : Old Z Z.heap.size h0) (Kt : Arv Z h0 t kb .byte (2 : Int32) [(.int (own_lo xa)), (.int (own_hi xa))] (.int (0 : Int32))) :
    own_NC l Z (⟨"java/lang/StringUTF16", "length", "([B)I"⟩ : MethodName) jdk_52_method_6_code 1 (some .int) ({ frames := 0, cells := 0, slots := 0, locals := 0 } : Room) #[(.ref t)] h0 (fun v h => v = some (.int (1 : Int32)) ∧ h = h0) := by
  refine own_nc (plainFor_of_name pnl4) ?_
  intro p e s m below meth c s₁ S0 X0 hx hby hml hret hnm hown hZ e0 cc
  have N0 := Fr.nil Z.heap.size
  have c0 : Go p e below S0 s₁ (mkF m 0 #[.val (.ref t)] []) := cc.trans (XT.entry rfl)
  obtain ⟨cl1, Ar1, q1, S1, M1, H1, G1⟩ := id Kt
  have c2 : Go p e below S0 s₁ (mkF m 4 #[.val (.ref t)] [(.int 1)]) := c0.trans (by
    refine XS.aloadN X0.here hx rfl (hb hby d28_0) rfl rfl ?_
    refine X0.arraylength hx (by rw [show s₁.heap = h0 from e0]; exact Ar1.1) (State.isArrayOf_alike (hZ).alike Ar1.2.1) (g := (mkF m 1 #[.val (.ref t)] [(.ref t)])) rfl rfl (hb hby d28_1) _ ?_
    rw [len_of S1 M1]
    refine XS.iconst X0.here hx rfl (hb hby d28_2) ?_
    refine XS.ishr X0.here hx rfl (hb hby d28_3) rfl ?_
    exact .refl _)
  refine ⟨s₁, (some (.int 1)), _, _, _, X0, by decide, by decide, (fun q => by cases q), N0, ?_, fun fs hr => ?_⟩
  · rw [e0]
    exact ⟨rfl, rfl⟩
  · exact c2.trans (retI X0 hx hret (hb hby d28_4) hr)
theorem rmCFT_0_1_1n (l : Launch) (Z : State) (a0 : Array Value) (hw : own_W Z a0)  (h0 : Heap) (O0 : Old Z Z.heap.size h0)  :
    own_NC l Z (⟨"jdk/internal/util/Preconditions", "checkFromToIndex", "(IIILjava/util/function/BiFunction;)I"⟩ : MethodName) jdk_41_method_12_code 4 (some .int) ({ frames := 0, cells := 0, slots := 0, locals := 0 } : Room) #[(.int 0), (.int 1), (.int 1), .null] h0 (fun v h => v = some (.int (0 : Int32)) ∧ h = h0) := by
  refine own_nc (plainFor_of_name pnl5) ?_
  intro p e s m below meth c s₁ S0 X0 hx hby hml hret hnm hown hZ e0 cc
  have N0 := Fr.nil Z.heap.size
  have c0 : Go p e below S0 s₁ (mkF m 0 #[.val (.int 0), .val (.int 1), .val (.int 1), .val .null] []) := cc.trans (XT.entry rfl)
  have c1 : Go p e below S0 s₁ (mkF m 23 #[.val (.int 0), .val (.int 1), .val (.int 1), .val .null] [(.int 0)]) := c0.trans (by
    refine XS.iloadN X0.here hx rfl (hb hby d30_0) rfl ?_
    refine XS.ifNo X0.here hx rfl (hb hby d30_1) rfl ((if0 _ _).trans (flt (by decide : ¬ ((0 : Int32) < (0 : Int32)))).1) ?_
    refine XS.iloadN X0.here hx rfl (hb hby d30_4) rfl ?_
    refine XS.iloadN X0.here hx rfl (hb hby d30_5) rfl ?_
    refine XS.icmpNo X0.here hx rfl (hb hby d30_6) rfl (flt (by decide : ¬ ((1 : Int32) < (0 : Int32)))).2.2.1 ?_
    refine XS.iloadN X0.here hx rfl (hb hby d30_9) rfl ?_
    refine XS.iloadN X0.here hx rfl (hb hby d30_10) rfl ?_
    refine XS.icmpYes X0.here hx rfl (pc0 := 11) (pc' := 22) rfl (hb hby d30_11) rfl (flt (by decide : ¬ ((1 : Int32) < (1 : Int32)))).2.2.2 (by decide) (by decide) ?_
    refine XS.iloadN X0.here hx rfl (hb hby d30_22) rfl ?_
    show Steps p.tables e below (s₁.setTop (mkF m 23 #[.val (.int 0), .val (.int 1), .val (.int 1), .val .null] [(.int 0)])) _
    exact .refl _)
  refine ⟨s₁, (some (.int 0)), _, _, _, X0, by decide, by decide, (fun q => by cases q), N0, ?_, fun fs hr => ?_⟩
  · rw [e0]
    exact ⟨rfl, rfl⟩
  · exact c1.trans (retI X0 hx hret (hb hby d30_23) hr)
theorem rmCFT_0_1_1r (l : Launch) (Z : State) (a0 : Array Value) (hw : own_W Z a0) (fa : Addr) (h0 : Heap) (O0 : Old Z Z.heap.size h0)  :
    own_NC l Z (⟨"jdk/internal/util/Preconditions", "checkFromToIndex", "(IIILjava/util/function/BiFunction;)I"⟩ : MethodName) jdk_41_method_12_code 4 (some .int) ({ frames := 0, cells := 0, slots := 0, locals := 0 } : Room) #[(.int 0), (.int 1), (.int 1), (.ref fa)] h0 (fun v h => v = some (.int (0 : Int32)) ∧ h = h0) := by
  refine own_nc (plainFor_of_name pnl5) ?_
  intro p e s m below meth c s₁ S0 X0 hx hby hml hret hnm hown hZ e0 cc
  have N0 := Fr.nil Z.heap.size
  have c0 : Go p e below S0 s₁ (mkF m 0 #[.val (.int 0), .val (.int 1), .val (.int 1), .val (.ref fa)] []) := cc.trans (XT.entry rfl)
  have c1 : Go p e below S0 s₁ (mkF m 23 #[.val (.int 0), .val (.int 1), .val (.int 1), .val (.ref fa)] [(.int 0)]) := c0.trans (by
    refine XS.iloadN X0.here hx rfl (hb hby d30_0) rfl ?_
    refine XS.ifNo X0.here hx rfl (hb hby d30_1) rfl ((if0 _ _).trans (flt (by decide : ¬ ((0 : Int32) < (0 : Int32)))).1) ?_
    refine XS.iloadN X0.here hx rfl (hb hby d30_4) rfl ?_
    refine XS.iloadN X0.here hx rfl (hb hby d30_5) rfl ?_
    refine XS.icmpNo X0.here hx rfl (hb hby d30_6) rfl (flt (by decide : ¬ ((1 : Int32) < (0 : Int32)))).2.2.1 ?_
    refine XS.iloadN X0.here hx rfl (hb hby d30_9) rfl ?_
    refine XS.iloadN X0.here hx rfl (hb hby d30_10) rfl ?_
    refine XS.icmpYes X0.here hx rfl (pc0 := 11) (pc' := 22) rfl (hb hby d30_11) rfl (flt (by decide : ¬ ((1 : Int32) < (1 : Int32)))).2.2.2 (by decide) (by decide) ?_
    refine XS.iloadN X0.here hx rfl (hb hby d30_22) rfl ?_
    show Steps p.tables e below (s₁.setTop (mkF m 23 #[.val (.int 0), .val (.int 1), .val (.int 1), .val (.ref fa)] [(.int 0)])) _
    exact .refl _)
  refine ⟨s₁, (some (.int 0)), _, _, _, X0, by decide, by decide, (fun q => by cases q), N0, ?_, fun fs hr => ?_⟩
  · rw [e0]
    exact ⟨rfl, rfl⟩
  · exact c1.trans (retI X0 hx hret (hb hby d30_23) hr)
theorem rmCFT_0_1_1 (l : Launch) (Z : State) (a0 : Array Value) (hw : ∀ d ∈ tables_1, d.before a0 Z = true) (fm : Value) (h0 : Heap) (O0 : Old Z Z.heap.size h0) (hfm : fm.isRef = true) : own_NC l Z (⟨"jdk/internal/util/Preconditions", "checkFromToIndex", "(IIILjava/util/function/BiFunction;)I"⟩ : MethodName) jdk_41_method_12_code 4 (some .int) ({ frames := 0, cells := 0, slots := 0, locals := 0 } : Room) #[(.int (0 : Int32)), (.int (1 : Int32)), (.int (1 : Int32)), fm] h0 (fun v h => v = some (.int (0 : Int32)) ∧ h = h0) := by
  rcases ref_cases hfm with rfl | ⟨fa, rfl⟩
  · exact rmCFT_0_1_1n l Z a0 hw h0 O0
  · exact rmCFT_0_1_1r l Z a0 hw fa h0 O0
theorem rmCBE_0_1_1 (l : Launch) (Z : State) (a0 : Array Value) (hw : own_W Z a0) (z : Int32) (fm : Value) (h0 : Heap) (O0 : Old Z Z.heap.size h0) (hs : own_S Z z fm) :
    own_NC l Z (⟨"java/lang/String", "checkBoundsBeginEnd", "(III)V"⟩ : MethodName) jdk_42_method_158_code 3 none ({ frames := 1, cells := 0, slots := 0, locals := 20 } : Room) #[(.int 0), (.int 1), (.int 1)] h0 (fun v h => v = none ∧ h = h0) := by
  refine own_nc (plainFor_of_name pnl2) ?_
  intro p e s m below meth c s₁ S0 X0 hx hby hml hret hnm hown hZ e0 cc
  have N0 := Fr.nil Z.heap.size
  have c0 : Go p e below S0 s₁ (mkF m 0 #[.val (.int 0), .val (.int 1), .val (.int 1)] []) := cc.trans (XT.entry rfl)
  obtain ⟨SC, hz, SF, hfm, SA, SH, SL⟩ := id hs
  obtain ⟨T1, X1, e1, st1⟩ := getS2 X0 hx hZ hown (host := "") (Or.inl (gw hw 125 rfl)) Via.refl e0 (SF.ext O0.2) (g := (mkF m 3 #[.val (.int 0), .val (.int 1), .val (.int 1)] [(.int 1), (.int 1), (.int 0)])) rfl (hb hby d29_3)
  have c2 : Go p e below S0 T1 (mkF m 6 #[.val (.int 0), .val (.int 1), .val (.int 1)] [fm, (.int 1), (.int 1), (.int 0)]) := c0.trans (by
    refine XS.iloadN X0.here hx rfl (hb hby d29_0) rfl ?_
    refine XS.iloadN X0.here hx rfl (hb hby d29_1) rfl ?_
    refine XS.iloadN X0.here hx rfl (hb hby d29_2) rfl ?_
    refine st1 _ ?_
    show Steps p.tables e below (T1.setTop (mkF m 6 #[.val (.int 0), .val (.int 1), .val (.int 1)] [fm, (.int 1), (.int 1), (.int 0)])) _
    exact .refl _)
  obtain ⟨v3, T3, L3, X3, ⟨N3', rfl, e3⟩, c3'⟩ := own_stat X1 hx hml hZ hown (gw hw 127 rfl) (gw hw 128 rfl) (gw hw 126 rfl) (gw hw 129 rfl) (by decide) (kc := 0) (ks := 0) (h := h0) (W := 0) (argsL := [(.int 0), (.int 1), (.int 1), fm]) (rest := []) (own_pay (W := 0) (rmCFT_0_1_1 l Z a0 hw fm h0 O0 hfm) hZ (gw hw 129 rfl) (gw hw 126 rfl) (by decide) (by decide)) c2 (lenOf pd_14 rfl) rfl (hb hby d29_6) e1
  have N3 := Fr.app N0 N3'
  have c3 : Go p e below S0 T3 (mkF m 9 #[.val (.int 0), .val (.int 1), .val (.int 1)] [(.int 0)]) := c3'
  have c4 : Go p e below S0 T3 (mkF m 10 #[.val (.int 0), .val (.int 1), .val (.int 1)] []) := c3.trans (by
    refine XS.pop X3.here hx rfl (hb hby d29_9) rfl rfl ?_
    exact .refl _)
  refine ⟨T3, none, _, _, _, X3, by decide, by decide, (fun _ => rfl), N3, ?_, fun fs hr => ?_⟩
  · rw [e3]
    exact ⟨rfl, rfl⟩
  · exact c4.trans (X3.returnOut hx hret (hb hby d29_10) hr)
theorem rmUCBE1 (l : Launch) (Z : State) (a0 : Array Value) (hw : own_W Z a0) (t : Addr) (kb : ClassId) (xa : Int32) (z : Int32) (fm : Value) (h0 : Heap) (O0 : Old Z Z.heap.size h0) (Kt : Arv Z h0 t kb .byte (2 : Int32) [(.int (own_lo xa)), (.int (own_hi xa))] (.int (0 : Int32))) (hs : own_S Z z fm) :
    own_NC l Z (⟨"java/lang/StringUTF16", "checkBoundsBeginEnd", "(II[B)V"⟩ : MethodName) jdk_52_method_93_code 3 none ({ frames := 2, cells := 0, slots := 0, locals := 40 } : Room) #[(.int 0), (.int 1), (.ref t)] h0 (fun v h => v = none ∧ h = h0) := by
  refine own_nc (plainFor_of_name pnl4) ?_
  intro p e s m below meth c s₁ S0 X0 hx hby hml hret hnm hown hZ e0 cc
  have N0 := Fr.nil Z.heap.size
  have c0 : Go p e below S0 s₁ (mkF m 0 #[.val (.int 0), .val (.int 1), .val (.ref t)] []) := cc.trans (XT.entry rfl)
  obtain ⟨SC, hz, SF, hfm, SA, SH, SL⟩ := id hs
  have c1 : Go p e below S0 s₁ (mkF m 3 #[.val (.int 0), .val (.int 1), .val (.ref t)] [(.ref t), (.int 1), (.int 0)]) := c0.trans (by
    refine XS.iloadN X0.here hx rfl (hb hby d27_0) rfl ?_
    refine XS.iloadN X0.here hx rfl (hb hby d27_1) rfl ?_
    refine XS.aloadN X0.here hx rfl (hb hby d27_2) rfl rfl ?_
    exact .refl _)
  obtain ⟨v2, T2, L2, X2, ⟨N2', rfl, e2⟩, c2'⟩ := own_stat X0 hx hml hZ hown (gw hw 119 rfl) (gw hw 120 rfl) (gw hw 73 rfl) (gw hw 121 rfl) (by decide) (kc := 0) (ks := 0) (h := h0) (W := 2) (argsL := [(.ref t)]) (rest := [(.int 1), (.int 0)]) (own_pay (W := 2) (rmLen16_1 l Z a0 hw t kb xa h0 O0 Kt) hZ (gw hw 121 rfl) (gw hw 73 rfl) (by decide) (by decide)) c1 (lenOf pd_13 rfl) rfl (hb hby d27_3) e0
  have N2 := Fr.app N0 N2'
  have c2 : Go p e below S0 T2 (mkF m 6 #[.val (.int 0), .val (.int 1), .val (.ref t)] [(.int 1), (.int 1), (.int 0)]) := c2'
  obtain ⟨v3, T3, L3, X3, ⟨N3', rfl, e3⟩, c3'⟩ := own_stat X2 hx hml hZ hown (gw hw 122 rfl) (gw hw 123 rfl) (gw hw 11 rfl) (gw hw 124 rfl) (by decide) (kc := 0) (ks := 0) (h := h0) (W := 0) (argsL := [(.int 0), (.int 1), (.int 1)]) (rest := []) (own_pay (W := 0) (rmCBE_0_1_1 l Z a0 hw z fm h0 O0 hs) hZ (gw hw 124 rfl) (gw hw 11 rfl) (by decide) (by decide)) c2 (lenOf pd_15 rfl) rfl (hb hby d27_6) e2
  have N3 := Fr.app N2 N3'
  have c3 : Go p e below S0 T3 (mkF m 9 #[.val (.int 0), .val (.int 1), .val (.ref t)] []) := c3'
  refine ⟨T3, none, _, _, _, X3, by decide, by decide, (fun _ => rfl), N3, ?_, fun fs hr => ?_⟩
  · rw [e3]
    exact ⟨rfl, rfl⟩
  · exact c3.trans (X3.returnOut hx hret (hb hby d27_9) hr)
theorem rmUUn1 (l : Launch) (Z : State) (a0 : Array Value) (hw : own_W Z a0) (t : Addr) (kb : ClassId) (k : Int32) (xa : Int32) (z : Int32) (fm : Value) (h0 : Heap) (O0 : Old Z Z.heap.size h0) (Kt : Arv Z h0 t kb .byte (2 : Int32) [(.int (own_lo xa)), (.int (own_hi xa))] (.int (0 : Int32))) (hCxa : own_C xa) (hs : own_S Z z fm) :
    own_NC l Z (⟨"java/lang/StringUTF16", "indexOfCharUnsafe", "([BIII)I"⟩ : MethodName) jdk_52_method_48_code 5 (some .int) ({ frames := 1, cells := 0, slots := 0, locals := 20 } : Room) #[(.ref t), (.int k), (.int 0), (.int 1)] h0 (fun v h => (∃ r : Int32, v = some (.int r) ∧ decide (r < (0 : Int32)) = !own_has [xa] k) ∧ h = h0) := by
  refine own_nc (plainFor_of_name pnl4) ?_
  intro p e s m below meth c s₁ S0 X0 hx hby hml hret hnm hown hZ e0 cc
  have N0 := Fr.nil Z.heap.size
  have c0 : Go p e below S0 s₁ (mkF m 0 #[.val (.ref t), .val (.int k), .val (.int 0), .val (.int 1), .unset] []) := cc.trans (XT.entry rfl)
  obtain ⟨SC, hz, SF, hfm, SA, SH, SL⟩ := id hs
  have c1 : Go p e below S0 s₁ (mkF m 12 #[.val (.ref t), .val (.int k), .val (.int 0), .val (.int 1), .val (.int 0)] [(.int 0), (.ref t)]) := c0.trans (by
    refine XS.iloadN X0.here hx rfl (hb hby d31_0) rfl ?_
    refine XS.istore X0.here hx rfl (hb hby d31_1) rfl (l' := #[.val (.ref t), .val (.int k), .val (.int 0), .val (.int 1), .val (.int 0)]) rfl ?_
    refine XS.iload X0.here hx rfl (hb hby d31_3) rfl ?_
    refine XS.iloadN X0.here hx rfl (hb hby d31_5) rfl ?_
    refine XS.icmpNo X0.here hx rfl (hb hby d31_6) rfl (tlt (by decide : (0 : Int32) < (1 : Int32))).2.1 ?_
    refine XS.aloadN X0.here hx rfl (hb hby d31_9) rfl rfl ?_
    refine XS.iload X0.here hx rfl (hb hby d31_10) rfl ?_
    exact .refl _)
  obtain ⟨v2, T2, L2, X2, ⟨N2', rfl, e2⟩, c2'⟩ := own_stat X0 hx hml hZ hown (gw hw 104 rfl) (gw hw 105 rfl) (gw hw 73 rfl) (gw hw 106 rfl) (by decide) (kc := 0) (ks := 0) (h := h0) (W := 0) (argsL := [(.ref t), (.int 0)]) (rest := []) (own_pay (W := 0) (rmGet l Z a0 hw t kb [(.int (own_lo xa)), (.int (own_hi xa))] 2 0 xa z fm h0 O0 Kt rfl (by decide) (by decide) rfl rfl hCxa hs) hZ (gw hw 106 rfl) (gw hw 73 rfl) (by decide) (by decide)) c1 (lenOf pd_10 rfl) rfl (hb hby d31_12) e0
  have N2 := Fr.app N0 N2'
  have c2 : Go p e below S0 T2 (mkF m 15 #[.val (.ref t), .val (.int k), .val (.int 0), .val (.int 1), .val (.int 0)] [(.int xa)]) := c2'
  have c3 : Go p e below S0 T2 (mkF m 16 #[.val (.ref t), .val (.int k), .val (.int 0), .val (.int 1), .val (.int 0)] [(.int k), (.int xa)]) := c2.trans (by
    refine XS.iloadN X2.here hx rfl (hb hby d31_15) rfl ?_
    exact .refl _)
  by_cases hc4 : xa = k
  · skip
    have c5 : Go p e below S0 T2 (mkF m 21 #[.val (.ref t), .val (.int k), .val (.int 0), .val (.int 1), .val (.int 0)] [(.int 0)]) := c3.trans (by
      refine XS.icmpNo X2.here hx rfl (hb hby d31_16) rfl (teq hc4).2 ?_
      refine XS.iload X2.here hx rfl (hb hby d31_19) rfl ?_
      exact .refl _)
    refine ⟨T2, (some (.int 0)), _, _, _, X2, by decide, by decide, (fun q => by cases q), N2, ?_, fun fs hr => ?_⟩
    · rw [e2]
      exact ⟨⟨_, rfl, by simp [own_has, hc4]⟩, rfl⟩
    · exact c5.trans (retI X2 hx hret (hb hby d31_21) hr)
  · skip
    have c7 : Go p e below S0 T2 (mkF m 29 #[.val (.ref t), .val (.int k), .val (.int 0), .val (.int 1), .val (.int 1)] [(.int (-1))]) := c3.trans (by
      refine XS.icmpYes X2.here hx rfl (pc0 := 16) (pc' := 22) rfl (hb hby d31_16) rfl (feq hc4).2 (by decide) (by decide) ?_
      refine XS.iinc X2.here hx rfl (hb hby d31_22) rfl (l' := #[.val (.ref t), .val (.int k), .val (.int 0), .val (.int 1), .val (.int 1)]) rfl ?_
      refine XS.goto X2.here hx rfl (pc0 := 25) (pc' := 3) rfl (hb hby d31_25) (by decide) (by decide) ?_
      refine XS.iload X2.here hx rfl (hb hby d31_3) rfl ?_
      refine XS.iloadN X2.here hx rfl (hb hby d31_5) rfl ?_
      refine XS.icmpYes X2.here hx rfl (pc0 := 6) (pc' := 28) rfl (hb hby d31_6) rfl (flt (by decide : ¬ ((1 : Int32) < (1 : Int32)))).2.1 (by decide) (by decide) ?_
      refine XS.iconst X2.here hx rfl (hb hby d31_28) ?_
      exact .refl _)
    refine ⟨T2, (some (.int (-1))), _, _, _, X2, by decide, by decide, (fun q => by cases q), N2, ?_, fun fs hr => ?_⟩
    · rw [e2]
      exact ⟨⟨_, rfl, by simp [own_has, hc4]⟩, rfl⟩
    · exact c7.trans (retI X2 hx hret (hb hby d31_29) hr)
theorem rmUIxC1 (l : Launch) (Z : State) (a0 : Array Value) (hw : own_W Z a0) (t : Addr) (kb : ClassId) (k : Int32) (xa : Int32) (z : Int32) (fm : Value) (h0 : Heap) (O0 : Old Z Z.heap.size h0) (Kt : Arv Z h0 t kb .byte (2 : Int32) [(.int (own_lo xa)), (.int (own_hi xa))] (.int (0 : Int32))) (hCxa : own_C xa) (hs : own_S Z z fm) :
    own_NC l Z (⟨"java/lang/StringUTF16", "indexOfChar", "([BIII)I"⟩ : MethodName) jdk_52_method_47_code 4 (some .int) ({ frames := 3, cells := 0, slots := 0, locals := 60 } : Room) #[(.ref t), (.int k), (.int 0), (.int 1)] h0 (fun v h => (∃ r : Int32, v = some (.int r) ∧ decide (r < (0 : Int32)) = !own_has [xa] k) ∧ h = h0) := by
  refine own_nc (plainFor_of_name pnl4) ?_
  intro p e s m below meth c s₁ S0 X0 hx hby hml hret hnm hown hZ e0 cc
  have N0 := Fr.nil Z.heap.size
  have c0 : Go p e below S0 s₁ (mkF m 0 #[.val (.ref t), .val (.int k), .val (.int 0), .val (.int 1)] []) := cc.trans (XT.entry rfl)
  obtain ⟨SC, hz, SF, hfm, SA, SH, SL⟩ := id hs
  have c1 : Go p e below S0 s₁ (mkF m 3 #[.val (.ref t), .val (.int k), .val (.int 0), .val (.int 1)] [(.ref t), (.int 1), (.int 0)]) := c0.trans (by
    refine XS.iloadN X0.here hx rfl (hb hby d26_0) rfl ?_
    refine XS.iloadN X0.here hx rfl (hb hby d26_1) rfl ?_
    refine XS.aloadN X0.here hx rfl (hb hby d26_2) rfl rfl ?_
    exact .refl _)
  obtain ⟨v2, T2, L2, X2, ⟨N2', rfl, e2⟩, c2'⟩ := own_stat X0 hx hml hZ hown (gw hw 116 rfl) (gw hw 117 rfl) (gw hw 73 rfl) (gw hw 118 rfl) (by decide) (kc := 0) (ks := 0) (h := h0) (W := 0) (argsL := [(.int 0), (.int 1), (.ref t)]) (rest := []) (own_pay (W := 0) (rmUCBE1 l Z a0 hw t kb xa z fm h0 O0 Kt hs) hZ (gw hw 118 rfl) (gw hw 73 rfl) (by decide) (by decide)) c1 (lenOf pd_16 rfl) rfl (hb hby d26_3) e0
  have N2 := Fr.app N0 N2'
  have c2 : Go p e below S0 T2 (mkF m 6 #[.val (.ref t), .val (.int k), .val (.int 0), .val (.int 1)] []) := c2'
  have c3 : Go p e below S0 T2 (mkF m 10 #[.val (.ref t), .val (.int k), .val (.int 0), .val (.int 1)] [(.int 1), (.int 0), (.int k), (.ref t)]) := c2.trans (by
    refine XS.aloadN X2.here hx rfl (hb hby d26_6) rfl rfl ?_
    refine XS.iloadN X2.here hx rfl (hb hby d26_7) rfl ?_
    refine XS.iloadN X2.here hx rfl (hb hby d26_8) rfl ?_
    refine XS.iloadN X2.here hx rfl (hb hby d26_9) rfl ?_
    exact .refl _)
  obtain ⟨v4, T4, L4, X4, ⟨N4', ⟨r4, rfl, hr4⟩, e4⟩, c4'⟩ := own_stat X2 hx hml hZ hown (gw hw 130 rfl) (gw hw 131 rfl) (gw hw 73 rfl) (gw hw 132 rfl) (by decide) (kc := 0) (ks := 0) (h := h0) (W := 0) (argsL := [(.ref t), (.int k), (.int 0), (.int 1)]) (rest := []) (own_pay (W := 0) (rmUUn1 l Z a0 hw t kb k xa z fm h0 O0 Kt hCxa hs) hZ (gw hw 132 rfl) (gw hw 73 rfl) (by decide) (by decide)) c3 (lenOf pd_4 rfl) rfl (hb hby d26_10) e2
  have N4 := Fr.app N2 N4'
  have c4 : Go p e below S0 T4 (mkF m 13 #[.val (.ref t), .val (.int k), .val (.int 0), .val (.int 1)] [(.int r4)]) := c4'
  refine ⟨T4, (some (.int r4)), _, _, _, X4, by decide, by decide, (fun q => by cases q), N4, ?_, fun fs hr => ?_⟩
  · rw [e4]
    exact ⟨⟨_, rfl, hr4⟩, rfl⟩
  · exact c4.trans (retI X4 hx hret (hb hby d26_13) hr)
theorem rmUIx1 (l : Launch) (Z : State) (a0 : Array Value) (hw : own_W Z a0) (t : Addr) (kb : ClassId) (k : Int32) (xa : Int32) (z : Int32) (fm : Value) (h0 : Heap) (O0 : Old Z Z.heap.size h0) (Kt : Arv Z h0 t kb .byte (2 : Int32) [(.int (own_lo xa)), (.int (own_hi xa))] (.int (0 : Int32))) (hCxa : own_C xa) (hs : own_S Z z fm) (hk : own_B k) :
    own_NC l Z (⟨"java/lang/StringUTF16", "indexOf", "([BIII)I"⟩ : MethodName) jdk_52_method_40_code 4 (some .int) ({ frames := 4, cells := 0, slots := 0, locals := 80 } : Room) #[(.ref t), (.int k), (.int 0), (.int 1)] h0 (fun v h => (∃ r : Int32, v = some (.int r) ∧ decide (r < (0 : Int32)) = !own_has [xa] k) ∧ h = h0) := by
  refine own_nc (plainFor_of_name pnl4) ?_
  intro p e s m below meth c s₁ S0 X0 hx hby hml hret hnm hown hZ e0 cc
  have N0 := Fr.nil Z.heap.size
  have c0 : Go p e below S0 s₁ (mkF m 0 #[.val (.ref t), .val (.int k), .val (.int 0), .val (.int 1)] []) := cc.trans (XT.entry rfl)
  obtain ⟨SC, hz, SF, hfm, SA, SH, SL⟩ := id hs
  have c1 : Go p e below S0 s₁ (mkF m 2 #[.val (.ref t), .val (.int k), .val (.int 0), .val (.int 1)] [(.int 0), (.int 0)]) := c0.trans (by
    refine XS.iloadN X0.here hx rfl (hb hby d25_0) rfl ?_
    refine XS.iconst X0.here hx rfl (hb hby d25_1) ?_
    exact .refl _)
  obtain ⟨v2, T2, L2, X2, ⟨N2', rfl, e2⟩, c2'⟩ := own_stat X0 hx hml hZ hown (gw hw 110 rfl) (gw hw 68 rfl) (gw hw 2 rfl) (gw hw 69 rfl) (by decide) (kc := 0) (ks := 0) (h := h0) (W := 0) (argsL := [(.int 0), (.int 0)]) (rest := []) (own_pay (W := 0) (rmMax_0_0 l Z a0 hw h0 O0) hZ (gw hw 69 rfl) (gw hw 2 rfl) (by decide) (by decide)) c1 (lenOf pd_1 rfl) rfl (hb hby d25_2) e0
  have N2 := Fr.app N0 N2'
  have c2 : Go p e below S0 T2 (mkF m 5 #[.val (.ref t), .val (.int k), .val (.int 0), .val (.int 1)] [(.int 0)]) := c2'
  obtain ⟨cl3, Ar3, q3, S3, M3, H3, G3⟩ := id Kt
  have c4 : Go p e below S0 T2 (mkF m 11 #[.val (.ref t), .val (.int k), .val (.int 0), .val (.int 1)] [(.int 1), (.int 1)]) := c2.trans (by
    refine XS.istoreN X2.here hx rfl (hb hby d25_5) rfl (l' := #[.val (.ref t), .val (.int k), .val (.int 0), .val (.int 1)]) rfl ?_
    refine XS.iloadN X2.here hx rfl (hb hby d25_6) rfl ?_
    refine XS.aloadN X2.here hx rfl (hb hby d25_7) rfl rfl ?_
    refine X2.arraylength hx (by rw [show T2.heap = h0 from e2]; exact Ar3.1) (State.isArrayOf_alike (hZ).alike Ar3.2.1) (g := (mkF m 8 #[.val (.ref t), .val (.int k), .val (.int 0), .val (.int 1)] [(.ref t), (.int 1)])) rfl rfl (hb hby d25_8) _ ?_
    rw [len_of S3 M3]
    refine XS.iconst X2.here hx rfl (hb hby d25_9) ?_
    refine XS.ishr X2.here hx rfl (hb hby d25_10) rfl ?_
    exact .refl _)
  obtain ⟨v5, T5, L5, X5, ⟨N5', rfl, e5⟩, c5'⟩ := own_stat X2 hx hml hZ hown (gw hw 111 rfl) (gw hw 1 rfl) (gw hw 2 rfl) (gw hw 3 rfl) (by decide) (kc := 0) (ks := 0) (h := h0) (W := 0) (argsL := [(.int 1), (.int 1)]) (rest := []) (own_pay (W := 0) (rmMin_1_1 l Z a0 hw h0 O0) hZ (gw hw 3 rfl) (gw hw 2 rfl) (by decide) (by decide)) c4 (lenOf pd_1 rfl) rfl (hb hby d25_11) e2
  have N5 := Fr.app N2 N5'
  have c5 : Go p e below S0 T5 (mkF m 14 #[.val (.ref t), .val (.int k), .val (.int 0), .val (.int 1)] [(.int 1)]) := c5'
  have c7 : Go p e below S0 T5 (mkF m 32 #[.val (.ref t), .val (.int k), .val (.int 0), .val (.int 1)] [(.int 1), (.int 0), (.int k), (.ref t)]) := c5.trans (by
    refine XS.istoreN X5.here hx rfl (hb hby d25_14) rfl (l' := #[.val (.ref t), .val (.int k), .val (.int 0), .val (.int 1)]) rfl ?_
    refine XS.iloadN X5.here hx rfl (hb hby d25_15) rfl ?_
    refine XS.iloadN X5.here hx rfl (hb hby d25_16) rfl ?_
    refine XS.icmpYes X5.here hx rfl (pc0 := 17) (pc' := 22) rfl (hb hby d25_17) rfl (tlt (by decide : (0 : Int32) < (1 : Int32))).1 (by decide) (by decide) ?_
    refine XS.iloadN X5.here hx rfl (hb hby d25_22) rfl ?_
    refine X5.ldcInt hx hown (mvT hZ (gw hw 112 rfl)) (g := (mkF m 23 #[.val (.ref t), .val (.int k), .val (.int 0), .val (.int 1)] [(.int k)])) rfl (hb hby d25_23) _ ?_
    refine XS.icmpNo X5.here hx rfl (hb hby d25_25) rfl (tlt (own_k16 hk)).2.1 ?_
    refine XS.aloadN X5.here hx rfl (hb hby d25_28) rfl rfl ?_
    refine XS.iloadN X5.here hx rfl (hb hby d25_29) rfl ?_
    show Steps p.tables e below (T5.setTop (mkF m 30 #[.val (.ref t), .val (.int k), .val (.int 0), .val (.int 1)] [(.int k), (.ref t)])) _
    refine XS.iloadN X5.here hx rfl (hb hby d25_30) rfl ?_
    refine XS.iloadN X5.here hx rfl (hb hby d25_31) rfl ?_
    exact .refl _)
  obtain ⟨v8, T8, L8, X8, ⟨N8', ⟨r8, rfl, hr8⟩, e8⟩, c8'⟩ := own_stat X5 hx hml hZ hown (gw hw 113 rfl) (gw hw 114 rfl) (gw hw 73 rfl) (gw hw 115 rfl) (by decide) (kc := 0) (ks := 0) (h := h0) (W := 0) (argsL := [(.ref t), (.int k), (.int 0), (.int 1)]) (rest := []) (own_pay (W := 0) (rmUIxC1 l Z a0 hw t kb k xa z fm h0 O0 Kt hCxa hs) hZ (gw hw 115 rfl) (gw hw 73 rfl) (by decide) (by decide)) c7 (lenOf pd_4 rfl) rfl (hb hby d25_32) e5
  have N8 := Fr.app N5 N8'
  have c8 : Go p e below S0 T8 (mkF m 35 #[.val (.ref t), .val (.int k), .val (.int 0), .val (.int 1)] [(.int r8)]) := c8'
  refine ⟨T8, (some (.int r8)), _, _, _, X8, by decide, by decide, (fun q => by cases q), N8, ?_, fun fs hr => ?_⟩
  · rw [e8]
    exact ⟨⟨_, rfl, hr8⟩, rfl⟩
  · exact c8.trans (retI X8 hx hret (hb hby d25_35) hr)
theorem rmIsU (l : Launch) (Z : State) (a0 : Array Value) (hw : own_W Z a0) (x : Addr) (z : Int32) (fm : Value) (h0 : Heap) (O0 : Old Z Z.heap.size h0) (Cd : Fld Z h0 x "java/lang/String" "coder" "B" (.int (1 : Int32))) (hs : own_S Z z fm) :
    own_NC l Z (⟨"java/lang/String", "isLatin1", "()Z"⟩ : MethodName) jdk_42_method_154_code 1 (some .boolean) ({ frames := 0, cells := 0, slots := 0, locals := 0 } : Room) #[(.ref x)] h0 (fun v h => v = some (.int (0 : Int32)) ∧ h = h0) := by
  refine own_nc (plainFor_of_name pnl2) ?_
  intro p e s m below meth c s₁ S0 X0 hx hby hml hret hnm hown hZ e0 cc
  have N0 := Fr.nil Z.heap.size
  have c0 : Go p e below S0 s₁ (mkF m 0 #[.val (.ref x)] []) := cc.trans (XT.entry rfl)
  obtain ⟨SC, hz, SF, hfm, SA, SH, SL⟩ := id hs
  obtain ⟨T1, X1, e1, st1⟩ := getS2 X0 hx hZ hown (host := "") (Or.inl (gw hw 49 rfl)) Via.refl e0 (SC.ext O0.2) (g := (mkF m 0 #[.val (.ref x)] [])) rfl (hb hby d9_0)
  obtain ⟨T2, X2, e2, st2⟩ := getF X1 hx hZ hown (host := "") (Or.inl (gw hw 29 rfl)) Via.refl e1 Cd (g := (mkF m 7 #[.val (.ref x)] [(.ref x)])) rfl rfl (hb hby d9_7)
  have c3 : Go p e below S0 T2 (mkF m 18 #[.val (.ref x)] [(.int 0)]) := c0.trans (by
    refine st1 _ ?_
    refine XS.ifNo X1.here hx rfl (hb hby d9_3) rfl ((if0 _ _).trans (feq hz).1) ?_
    refine XS.aloadN X1.here hx rfl (hb hby d9_6) rfl rfl ?_
    refine st2 _ ?_
    show Steps p.tables e below (T2.setTop (mkF m 10 #[.val (.ref x)] [(.int 1)])) _
    refine XS.ifYes X2.here hx rfl (pc0 := 10) (pc' := 17) rfl (hb hby d9_10) rfl ((if0 _ _).trans (feq (by decide : ¬ ((1 : Int32) = (0 : Int32)))).2) (by decide) (by decide) ?_
    refine XS.iconst X2.here hx rfl (hb hby d9_17) ?_
    exact .refl _)
  refine ⟨T2, (some (.int (0 : Int32))), _, _, _, X2, by decide, by decide, (fun q => by cases q), N0, ?_, fun fs hr => ?_⟩
  · rw [e2]
    exact ⟨rfl, rfl⟩
  · exact c3.trans (retN X2 hx (t := .boolean) hret (by simp) (hb hby d9_18) hr)
theorem rmCodU (l : Launch) (Z : State) (a0 : Array Value) (hw : own_W Z a0) (x : Addr) (z : Int32) (fm : Value) (h0 : Heap) (O0 : Old Z Z.heap.size h0) (Cd : Fld Z h0 x "java/lang/String" "coder" "B" (.int (1 : Int32))) (hs : own_S Z z fm) :
    own_NC l Z (⟨"java/lang/String", "coder", "()B"⟩ : MethodName) jdk_42_method_152_code 1 (some .byte) ({ frames := 0, cells := 0, slots := 0, locals := 0 } : Room) #[(.ref x)] h0 (fun v h => v = some (.int (1 : Int32)) ∧ h = h0) := by
  refine own_nc (plainFor_of_name pnl2) ?_
  intro p e s m below meth c s₁ S0 X0 hx hby hml hret hnm hown hZ e0 cc
  have N0 := Fr.nil Z.heap.size
  have c0 : Go p e below S0 s₁ (mkF m 0 #[.val (.ref x)] []) := cc.trans (XT.entry rfl)
  obtain ⟨SC, hz, SF, hfm, SA, SH, SL⟩ := id hs
  obtain ⟨T1, X1, e1, st1⟩ := getS2 X0 hx hZ hown (host := "") (Or.inl (gw hw 49 rfl)) Via.refl e0 (SC.ext O0.2) (g := (mkF m 0 #[.val (.ref x)] [])) rfl (hb hby d11_0)
  obtain ⟨T2, X2, e2, st2⟩ := getF X1 hx hZ hown (host := "") (Or.inl (gw hw 29 rfl)) Via.refl e1 Cd (g := (mkF m 7 #[.val (.ref x)] [(.ref x)])) rfl rfl (hb hby d11_7)
  have c3 : Go p e below S0 T2 (mkF m 14 #[.val (.ref x)] [(.int 1)]) := c0.trans (by
    refine st1 _ ?_
    refine XS.ifNo X1.here hx rfl (hb hby d11_3) rfl ((if0 _ _).trans (feq hz).1) ?_
    refine XS.aloadN X1.here hx rfl (hb hby d11_6) rfl rfl ?_
    refine st2 _ ?_
    show Steps p.tables e below (T2.setTop (mkF m 10 #[.val (.ref x)] [(.int 1)])) _
    refine XS.goto X2.here hx rfl (pc0 := 10) (pc' := 14) rfl (hb hby d11_10) (by decide) (by decide) ?_
    exact .refl _)
  refine ⟨T2, (some (.int (1 : Int32))), _, _, _, X2, by decide, by decide, (fun q => by cases q), N0, ?_, fun fs hr => ?_⟩
  · rw [e2]
    exact ⟨rfl, rfl⟩
  · exact c3.trans (retN X2 hx (t := .byte) hret (by simp) (hb hby d11_14) hr)
theorem rmLenU1 (l : Launch) (Z : State) (a0 : Array Value) (hw : own_W Z a0) (x t : Addr) (kb : ClassId) (xa : Int32) (z : Int32) (fm : Value) (h0 : Heap) (O0 : Old Z Z.heap.size h0) (E : Exa Z h0 x "java/lang/String") (V : Fld Z h0 x "java/lang/String" "value" "[B" (.ref t)) (Cd : Fld Z h0 x "java/lang/String" "coder" "B" (.int (1 : Int32))) (Kt : Arv Z h0 t kb .byte (2 : Int32) [(.int (own_lo xa)), (.int (own_hi xa))] (.int (0 : Int32))) (hs : own_S Z z fm) :
    own_NC l Z (⟨"java/lang/String", "length", "()I"⟩ : MethodName) jdk_42_method_54_code 1 (some .int) ({ frames := 1, cells := 0, slots := 0, locals := 20 } : Room) #[(.ref x)] h0 (fun v h => v = some (.int (1 : Int32)) ∧ h = h0) := by
  refine own_nc (plainFor_of_name pnl2) ?_
  intro p e s m below meth c s₁ S0 X0 hx hby hml hret hnm hown hZ e0 cc
  have N0 := Fr.nil Z.heap.size
  have c0 : Go p e below S0 s₁ (mkF m 0 #[.val (.ref x)] []) := cc.trans (XT.entry rfl)
  obtain ⟨SC, hz, SF, hfm, SA, SH, SL⟩ := id hs
  obtain ⟨T1, X1, e1, st1⟩ := getF X0 hx hZ hown (host := "") (Or.inl (gw hw 28 rfl)) Via.refl e0 V (g := (mkF m 1 #[.val (.ref x)] [(.ref x)])) rfl rfl (hb hby d10_1)
  obtain ⟨cl2, Ar2, q2, S2, M2, H2, G2⟩ := id Kt
  have c3 : Go p e below S0 T1 (mkF m 6 #[.val (.ref x)] [(.ref x), (.int 2)]) := c0.trans (by
    refine XS.aloadN X0.here hx rfl (hb hby d10_0) rfl rfl ?_
    refine st1 _ ?_
    refine X1.arraylength hx (by rw [show T1.heap = h0 from e1]; exact Ar2.1) (State.isArrayOf_alike (hZ).alike Ar2.2.1) (g := (mkF m 4 #[.val (.ref x)] [(.ref t)])) rfl rfl (hb hby d10_4) _ ?_
    rw [len_of S2 M2]
    refine XS.aloadN X1.here hx rfl (hb hby d10_5) rfl rfl ?_
    exact .refl _)
  obtain ⟨v4, T4, L4, X4, ⟨N4', rfl, e4⟩, c4'⟩ := own_virt X1 hx hml hZ hown (gw hw 55 rfl) (gw hw 56 rfl) (gw hw 58 rfl) (gw hw 57 rfl) (gw hw 58 rfl) (by decide) (kc := 0) (ks := 0) (h := h0) (W := 1) (b := x) (argsL := []) (rest := [(.int 2)]) (own_pay (W := 1) (rmCodU l Z a0 hw x z fm h0 O0 Cd hs) hZ (gw hw 59 rfl) (gw hw 11 rfl) (by decide) (by decide)) E c3 (lenOf pd_17 rfl) rfl (hb hby d10_6) e1
  have N4 := Fr.app N0 N4'
  have c4 : Go p e below S0 T4 (mkF m 9 #[.val (.ref x)] [(.int 1), (.int 2)]) := c4'
  have c5 : Go p e below S0 T4 (mkF m 10 #[.val (.ref x)] [(.int 1)]) := c4.trans (by
    refine XS.ishr X4.here hx rfl (hb hby d10_9) rfl ?_
    exact .refl _)
  refine ⟨T4, (some (.int 1)), _, _, _, X4, by decide, by decide, (fun q => by cases q), N4, ?_, fun fs hr => ?_⟩
  · rw [e4]
    exact ⟨rfl, rfl⟩
  · exact c5.trans (retI X4 hx hret (hb hby d10_10) hr)
theorem rmIxIIU1 (l : Launch) (Z : State) (a0 : Array Value) (hw : own_W Z a0) (x t : Addr) (kb : ClassId) (k : Int32) (xa : Int32) (z : Int32) (fm : Value) (h0 : Heap) (O0 : Old Z Z.heap.size h0) (E : Exa Z h0 x "java/lang/String") (V : Fld Z h0 x "java/lang/String" "value" "[B" (.ref t)) (Cd : Fld Z h0 x "java/lang/String" "coder" "B" (.int (1 : Int32))) (Kt : Arv Z h0 t kb .byte (2 : Int32) [(.int (own_lo xa)), (.int (own_hi xa))] (.int (0 : Int32))) (hk : own_B k) (hCxa : own_C xa) (hs : own_S Z z fm) :
    own_NC l Z (⟨"java/lang/String", "indexOf", "(II)I"⟩ : MethodName) jdk_42_method_80_code 3 (some .int) ({ frames := 5, cells := 0, slots := 0, locals := 110 } : Room) #[(.ref x), (.int k), (.int 0)] h0 (fun v h => (∃ r : Int32, v = some (.int r) ∧ decide (r < (0 : Int32)) = !own_has [xa] k) ∧ h = h0) := by
  refine own_nc (plainFor_of_name pnl2) ?_
  intro p e s m below meth c s₁ S0 X0 hx hby hml hret hnm hown hZ e0 cc
  have N0 := Fr.nil Z.heap.size
  have c0 : Go p e below S0 s₁ (mkF m 0 #[.val (.ref x), .val (.int k), .val (.int 0)] []) := cc.trans (XT.entry rfl)
  obtain ⟨SC, hz, SF, hfm, SA, SH, SL⟩ := id hs
  have c1 : Go p e below S0 s₁ (mkF m 1 #[.val (.ref x), .val (.int k), .val (.int 0)] [(.ref x)]) := c0.trans (by
    refine XS.aloadN X0.here hx rfl (hb hby d8_0) rfl rfl ?_
    exact .refl _)
  obtain ⟨v2, T2, L2, X2, ⟨N2', rfl, e2⟩, c2'⟩ := own_virt X0 hx hml hZ hown (gw hw 44 rfl) (gw hw 45 rfl) (gw hw 47 rfl) (gw hw 46 rfl) (gw hw 47 rfl) (by decide) (kc := 0) (ks := 0) (h := h0) (W := 0) (b := x) (argsL := []) (rest := []) (own_pay (W := 0) (rmIsU l Z a0 hw x z fm h0 O0 Cd hs) hZ (gw hw 48 rfl) (gw hw 11 rfl) (by decide) (by decide)) E c1 (lenOf pd_2 rfl) rfl (hb hby d8_1) e0
  have N2 := Fr.app N0 N2'
  have c2 : Go p e below S0 T2 (mkF m 4 #[.val (.ref x), .val (.int k), .val (.int 0)] [(.int 0)]) := c2'
  obtain ⟨T3, X3, e3, st3⟩ := getF X2 hx hZ hown (host := "") (Or.inl (gw hw 28 rfl)) Via.refl e2 V (g := (mkF m 24 #[.val (.ref x), .val (.int k), .val (.int 0)] [(.ref x)])) rfl rfl (hb hby d8_24)
  have c4 : Go p e below S0 T3 (mkF m 30 #[.val (.ref x), .val (.int k), .val (.int 0)] [(.ref x), (.int 0), (.int k), (.ref t)]) := c2.trans (by
    refine XS.ifYes X2.here hx rfl (pc0 := 4) (pc' := 23) rfl (hb hby d8_4) rfl ((if0 _ _).trans (teq (by decide : (0 : Int32) = (0 : Int32))).1) (by decide) (by decide) ?_
    refine XS.aloadN X2.here hx rfl (hb hby d8_23) rfl rfl ?_
    refine st3 _ ?_
    refine XS.iloadN X3.here hx rfl (hb hby d8_27) rfl ?_
    refine XS.iloadN X3.here hx rfl (hb hby d8_28) rfl ?_
    refine XS.aloadN X3.here hx rfl (hb hby d8_29) rfl rfl ?_
    exact .refl _)
  obtain ⟨v5, T5, L5, X5, ⟨N5', rfl, e5⟩, c5'⟩ := own_virt X3 hx hml hZ hown (gw hw 50 rfl) (gw hw 51 rfl) (gw hw 53 rfl) (gw hw 52 rfl) (gw hw 53 rfl) (by decide) (kc := 0) (ks := 0) (h := h0) (W := 3) (b := x) (argsL := []) (rest := [(.int 0), (.int k), (.ref t)]) (own_pay (W := 3) (rmLenU1 l Z a0 hw x t kb xa z fm h0 O0 E V Cd Kt hs) hZ (gw hw 54 rfl) (gw hw 11 rfl) (by decide) (by decide)) E c4 (lenOf pd_3 rfl) rfl (hb hby d8_30) e3
  have N5 := Fr.app N2 N5'
  have c5 : Go p e below S0 T5 (mkF m 33 #[.val (.ref x), .val (.int k), .val (.int 0)] [(.int 1), (.int 0), (.int k), (.ref t)]) := c5'
  obtain ⟨v6, T6, L6, X6, ⟨N6', ⟨r6, rfl, hr6⟩, e6⟩, c6'⟩ := own_stat X5 hx hml hZ hown (gw hw 107 rfl) (gw hw 108 rfl) (gw hw 73 rfl) (gw hw 109 rfl) (by decide) (kc := 0) (ks := 0) (h := h0) (W := 0) (argsL := [(.ref t), (.int k), (.int 0), (.int 1)]) (rest := []) (own_pay (W := 0) (rmUIx1 l Z a0 hw t kb k xa z fm h0 O0 Kt hCxa hs hk) hZ (gw hw 109 rfl) (gw hw 73 rfl) (by decide) (by decide)) c5 (lenOf pd_4 rfl) rfl (hb hby d8_33) e5
  have N6 := Fr.app N5 N6'
  have c6 : Go p e below S0 T6 (mkF m 36 #[.val (.ref x), .val (.int k), .val (.int 0)] [(.int r6)]) := c6'
  refine ⟨T6, (some (.int r6)), _, _, _, X6, by decide, by decide, (fun q => by cases q), N6, ?_, fun fs hr => ?_⟩
  · rw [e6]
    exact ⟨⟨_, rfl, hr6⟩, rfl⟩
  · exact c6.trans (retI X6 hx hret (hb hby d8_36) hr)
theorem rmIxU1 (l : Launch) (Z : State) (a0 : Array Value) (hw : own_W Z a0) (x t : Addr) (kb : ClassId) (k : Int32) (xa : Int32) (z : Int32) (fm : Value) (h0 : Heap) (O0 : Old Z Z.heap.size h0) (E : Exa Z h0 x "java/lang/String") (V : Fld Z h0 x "java/lang/String" "value" "[B" (.ref t)) (Cd : Fld Z h0 x "java/lang/String" "coder" "B" (.int (1 : Int32))) (Kt : Arv Z h0 t kb .byte (2 : Int32) [(.int (own_lo xa)), (.int (own_hi xa))] (.int (0 : Int32))) (hk : own_B k) (hCxa : own_C xa) (hs : own_S Z z fm) :
    own_NC l Z (⟨"java/lang/String", "indexOf", "(I)I"⟩ : MethodName) jdk_42_method_79_code 2 (some .int) ({ frames := 6, cells := 0, slots := 0, locals := 130 } : Room) #[(.ref x), (.int k)] h0 (fun v h => (∃ r : Int32, v = some (.int r) ∧ decide (r < (0 : Int32)) = !own_has [xa] k) ∧ h = h0) := by
  refine own_nc (plainFor_of_name pnl2) ?_
  intro p e s m below meth c s₁ S0 X0 hx hby hml hret hnm hown hZ e0 cc
  have N0 := Fr.nil Z.heap.size
  have c0 : Go p e below S0 s₁ (mkF m 0 #[.val (.ref x), .val (.int k)] []) := cc.trans (XT.entry rfl)
  obtain ⟨SC, hz, SF, hfm, SA, SH, SL⟩ := id hs
  have c1 : Go p e below S0 s₁ (mkF m 3 #[.val (.ref x), .val (.int k)] [(.int 0), (.int k), (.ref x)]) := c0.trans (by
    refine XS.aloadN X0.here hx rfl (hb hby d7_0) rfl rfl ?_
    refine XS.iloadN X0.here hx rfl (hb hby d7_1) rfl ?_
    refine XS.iconst X0.here hx rfl (hb hby d7_2) ?_
    exact .refl _)
  obtain ⟨v2, T2, L2, X2, ⟨N2', ⟨r2, rfl, hr2⟩, e2⟩, c2'⟩ := own_virt X0 hx hml hZ hown (gw hw 39 rfl) (gw hw 40 rfl) (gw hw 42 rfl) (gw hw 41 rfl) (gw hw 42 rfl) (by decide) (kc := 0) (ks := 0) (h := h0) (W := 0) (b := x) (argsL := [(.int k), (.int 0)]) (rest := []) (own_pay (W := 0) (rmIxIIU1 l Z a0 hw x t kb k xa z fm h0 O0 E V Cd Kt hk hCxa hs) hZ (gw hw 43 rfl) (gw hw 11 rfl) (by decide) (by decide)) E c1 (lenOf pd_1 rfl) rfl (hb hby d7_3) e0
  have N2 := Fr.app N0 N2'
  have c2 : Go p e below S0 T2 (mkF m 6 #[.val (.ref x), .val (.int k)] [(.int r2)]) := c2'
  refine ⟨T2, (some (.int r2)), _, _, _, X2, by decide, by decide, (fun q => by cases q), N2, ?_, fun fs hr => ?_⟩
  · rw [e2]
    exact ⟨⟨_, rfl, hr2⟩, rfl⟩
  · exact c2.trans (retI X2 hx hret (hb hby d7_6) hr)
theorem rmFitU1 (l : Launch) (Z : State) (a0 : Array Value) (hw : own_W Z a0) (x t : Addr) (kb : ClassId) (xa : Int32) (z : Int32) (fm : Value) (h0 : Heap) (O0 : Old Z Z.heap.size h0) (E : Exa Z h0 x "java/lang/String") (V : Fld Z h0 x "java/lang/String" "value" "[B" (.ref t)) (Cd : Fld Z h0 x "java/lang/String" "coder" "B" (.int (1 : Int32))) (Kt : Arv Z h0 t kb .byte (2 : Int32) [(.int (own_lo xa)), (.int (own_hi xa))] (.int (0 : Int32))) (hCxa : own_C xa) (hs : own_S Z z fm) :
    own_NC l Z (⟨"com/example/caseward/caseward/core/Right", "fitsField", "(Ljava/lang/String;)Z"⟩ : MethodName) prog_47_method_5_code 1 (some .boolean) ({ frames := 7, cells := 0, slots := 0, locals := 150 } : Room) #[(.ref x)] h0 (fun v h => v = some (.int (own_i (!own_has [xa] (44 : Int32) && !own_has [xa] (10 : Int32) && !own_has [xa] (13 : Int32)))) ∧ h = h0) := by
  refine own_nc (plainFor_of_name pnl3) ?_
  intro p e s m below meth c s₁ S0 X0 hx hby hml hret hnm hown hZ e0 cc
  have N0 := Fr.nil Z.heap.size
  have c0 : Go p e below S0 s₁ (mkF m 0 #[.val (.ref x)] []) := cc.trans (XT.entry rfl)
  obtain ⟨SC, hz, SF, hfm, SA, SH, SL⟩ := id hs
  have c1 : Go p e below S0 s₁ (mkF m 3 #[.val (.ref x)] [(.int 44), (.ref x)]) := c0.trans (by
    refine XS.aloadN X0.here hx rfl (hb hby d6_0) rfl rfl ?_
    refine XS.bipush X0.here hx rfl (hb hby d6_1) ?_
    exact .refl _)
  obtain ⟨v2, T2, L2, X2, ⟨N2', ⟨r2, rfl, hr2⟩, e2⟩, c2'⟩ := own_virt X0 hx hml hZ hown (gw hw 34 rfl) (gw hw 35 rfl) (gw hw 37 rfl) (gw hw 36 rfl) (gw hw 37 rfl) (by decide) (kc := 0) (ks := 0) (h := h0) (W := 0) (b := x) (argsL := [(.int 44)]) (rest := []) (own_pay (W := 0) (rmIxU1 l Z a0 hw x t kb (44 : Int32) xa z fm h0 O0 E V Cd Kt (own_Bl 44 (by decide)) hCxa hs) hZ (gw hw 38 rfl) (gw hw 11 rfl) (by decide) (by decide)) E c1 (lenOf pd_5 rfl) rfl (hb hby d6_3) e0
  have N2 := Fr.app N0 N2'
  have c2 : Go p e below S0 T2 (mkF m 6 #[.val (.ref x)] [(.int r2)]) := c2'
  by_cases hc3 : r2 < (0 : Int32)
  · skip
    have c4 : Go p e below S0 T2 (mkF m 12 #[.val (.ref x)] [(.int 10), (.ref x)]) := c2.trans (by
      refine XS.ifNo X2.here hx rfl (hb hby d6_6) rfl ((if0 _ _).trans (tlt hc3).2.1) ?_
      refine XS.aloadN X2.here hx rfl (hb hby d6_9) rfl rfl ?_
      refine XS.bipush X2.here hx rfl (hb hby d6_10) ?_
      exact .refl _)
    obtain ⟨v5, T5, L5, X5, ⟨N5', ⟨r5, rfl, hr5⟩, e5⟩, c5'⟩ := own_virt X2 hx hml hZ hown (gw hw 34 rfl) (gw hw 35 rfl) (gw hw 37 rfl) (gw hw 36 rfl) (gw hw 37 rfl) (by decide) (kc := 0) (ks := 0) (h := h0) (W := 0) (b := x) (argsL := [(.int 10)]) (rest := []) (own_pay (W := 0) (rmIxU1 l Z a0 hw x t kb (10 : Int32) xa z fm h0 O0 E V Cd Kt (own_Bl 10 (by decide)) hCxa hs) hZ (gw hw 38 rfl) (gw hw 11 rfl) (by decide) (by decide)) E c4 (lenOf pd_5 rfl) rfl (hb hby d6_12) e2
    have N5 := Fr.app N2 N5'
    have c5 : Go p e below S0 T5 (mkF m 15 #[.val (.ref x)] [(.int r5)]) := c5'
    by_cases hc6 : r5 < (0 : Int32)
    · skip
      have c7 : Go p e below S0 T5 (mkF m 21 #[.val (.ref x)] [(.int 13), (.ref x)]) := c5.trans (by
        refine XS.ifNo X5.here hx rfl (hb hby d6_15) rfl ((if0 _ _).trans (tlt hc6).2.1) ?_
        refine XS.aloadN X5.here hx rfl (hb hby d6_18) rfl rfl ?_
        refine XS.bipush X5.here hx rfl (hb hby d6_19) ?_
        exact .refl _)
      obtain ⟨v8, T8, L8, X8, ⟨N8', ⟨r8, rfl, hr8⟩, e8⟩, c8'⟩ := own_virt X5 hx hml hZ hown (gw hw 34 rfl) (gw hw 35 rfl) (gw hw 37 rfl) (gw hw 36 rfl) (gw hw 37 rfl) (by decide) (kc := 0) (ks := 0) (h := h0) (W := 0) (b := x) (argsL := [(.int 13)]) (rest := []) (own_pay (W := 0) (rmIxU1 l Z a0 hw x t kb (13 : Int32) xa z fm h0 O0 E V Cd Kt (own_Bl 13 (by decide)) hCxa hs) hZ (gw hw 38 rfl) (gw hw 11 rfl) (by decide) (by decide)) E c7 (lenOf pd_5 rfl) rfl (hb hby d6_21) e5
      have N8 := Fr.app N5 N8'
      have c8 : Go p e below S0 T8 (mkF m 24 #[.val (.ref x)] [(.int r8)]) := c8'
      by_cases hc9 : r8 < (0 : Int32)
      · skip
        have c10 : Go p e below S0 T8 (mkF m 32 #[.val (.ref x)] [(.int 1)]) := c8.trans (by
          refine XS.ifNo X8.here hx rfl (hb hby d6_24) rfl ((if0 _ _).trans (tlt hc9).2.1) ?_
          refine XS.iconst X8.here hx rfl (hb hby d6_27) ?_
          refine XS.goto X8.here hx rfl (pc0 := 28) (pc' := 32) rfl (hb hby d6_28) (by decide) (by decide) ?_
          exact .refl _)
        refine ⟨T8, (some (.int (1 : Int32))), _, _, _, X8, by decide, by decide, (fun q => by cases q), N8, ?_, fun fs hr => ?_⟩
        · rw [e8]
          have q2' := own_rdec hr2
          have q5' := own_rdec hr5
          have q8' := own_rdec hr8
          exact ⟨by simp [own_i, (q2').mpr hc3, (q5').mpr hc6, (q8').mpr hc9], rfl⟩
        · exact c10.trans (retN X8 hx (t := .boolean) hret (by simp) (hb hby d6_32) hr)
      · skip
        have c12 : Go p e below S0 T8 (mkF m 32 #[.val (.ref x)] [(.int 0)]) := c8.trans (by
          refine XS.ifYes X8.here hx rfl (pc0 := 24) (pc' := 31) rfl (hb hby d6_24) rfl ((if0 _ _).trans (flt hc9).2.1) (by decide) (by decide) ?_
          refine XS.iconst X8.here hx rfl (hb hby d6_31) ?_
          exact .refl _)
        refine ⟨T8, (some (.int (0 : Int32))), _, _, _, X8, by decide, by decide, (fun q => by cases q), N8, ?_, fun fs hr => ?_⟩
        · rw [e8]
          have q2' := own_rdec hr2
          have q5' := own_rdec hr5
          have q8' := own_rdec hr8
          exact ⟨by simp [own_i, (q2').mpr hc3, (q5').mpr hc6, (show _ = false from Bool.eq_false_iff.mpr (fun z => hc9 ((q8').mp z)))], rfl⟩
        · exact c12.trans (retN X8 hx (t := .boolean) hret (by simp) (hb hby d6_32) hr)
    · skip
      have c14 : Go p e below S0 T5 (mkF m 32 #[.val (.ref x)] [(.int 0)]) := c5.trans (by
        refine XS.ifYes X5.here hx rfl (pc0 := 15) (pc' := 31) rfl (hb hby d6_15) rfl ((if0 _ _).trans (flt hc6).2.1) (by decide) (by decide) ?_
        refine XS.iconst X5.here hx rfl (hb hby d6_31) ?_
        exact .refl _)
      refine ⟨T5, (some (.int (0 : Int32))), _, _, _, X5, by decide, by decide, (fun q => by cases q), N5, ?_, fun fs hr => ?_⟩
      · rw [e5]
        have q2' := own_rdec hr2
        have q5' := own_rdec hr5
        exact ⟨by simp [own_i, (q2').mpr hc3, (show _ = false from Bool.eq_false_iff.mpr (fun z => hc6 ((q5').mp z)))], rfl⟩
      · exact c14.trans (retN X5 hx (t := .boolean) hret (by simp) (hb hby d6_32) hr)
  · skip
    have c16 : Go p e below S0 T2 (mkF m 32 #[.val (.ref x)] [(.int 0)]) := c2.trans (by
      refine XS.ifYes X2.here hx rfl (pc0 := 6) (pc' := 31) rfl (hb hby d6_6) rfl ((if0 _ _).trans (flt hc3).2.1) (by decide) (by decide) ?_
      refine XS.iconst X2.here hx rfl (hb hby d6_31) ?_
      exact .refl _)
    refine ⟨T2, (some (.int (0 : Int32))), _, _, _, X2, by decide, by decide, (fun q => by cases q), N2, ?_, fun fs hr => ?_⟩
    · rw [e2]
      have q2' := own_rdec hr2
      exact ⟨by simp [own_i, (show _ = false from Bool.eq_false_iff.mpr (fun z => hc3 ((q2').mp z)))], rfl⟩
    · exact c16.trans (retN X2 hx (t := .boolean) hret (by simp) (hb hby d6_32) hr)
theorem rmNBL2 (l : Launch) (Z : State) (a0 : Array Value) (hw : own_W Z a0)  (h0 : Heap) (O0 : Old Z Z.heap.size h0)  :
    own_NC l Z (⟨"java/lang/StringUTF16", "newBytesLength", "(I)I"⟩ : MethodName) jdk_52_method_3_code 1 (some .int) ({ frames := 0, cells := 0, slots := 0, locals := 0 } : Room) #[(.int 2)] h0 (fun v h => v = some (.int (4 : Int32)) ∧ h = h0) := by
  refine own_nc (plainFor_of_name pnl4) ?_
  intro p e s m below meth c s₁ S0 X0 hx hby hml hret hnm hown hZ e0 cc
  have N0 := Fr.nil Z.heap.size
  have c0 : Go p e below S0 s₁ (mkF m 0 #[.val (.int 2)] []) := cc.trans (XT.entry rfl)
  have c2 : Go p e below S0 s₁ (mkF m 58 #[.val (.int 2)] [(.int 4)]) := c0.trans (by
    refine XS.iloadN X0.here hx rfl (hb hby d22_0) rfl ?_
    refine XS.ifYes X0.here hx rfl (pc0 := 1) (pc' := 12) rfl (hb hby d22_1) rfl ((if0 _ _).trans (flt (by decide : ¬ ((2 : Int32) < (0 : Int32)))).2.1) (by decide) (by decide) ?_
    refine XS.iloadN X0.here hx rfl (hb hby d22_12) rfl ?_
    refine X0.ldcInt hx hown (mvT hZ (gw hw 97 rfl)) (g := (mkF m 13 #[.val (.int 2)] [(.int 2)])) rfl (hb hby d22_13) _ ?_
    refine XS.icmpYes X0.here hx rfl (pc0 := 15) (pc' := 55) rfl (hb hby d22_15) rfl (tlt (by decide : (2 : Int32) < (1073741823 : Int32))).1 (by decide) (by decide) ?_
    refine XS.iloadN X0.here hx rfl (hb hby d22_55) rfl ?_
    refine XS.iconst X0.here hx rfl (hb hby d22_56) ?_
    refine XS.ishl X0.here hx rfl (hb hby d22_57) rfl ?_
    exact .refl _)
  refine ⟨s₁, (some (.int 4)), _, _, _, X0, by decide, by decide, (fun q => by cases q), N0, ?_, fun fs hr => ?_⟩
  · rw [e0]
    exact ⟨rfl, rfl⟩
  · exact c2.trans (retI X0 hx hret (hb hby d22_58) hr)
theorem rmNBF2 (l : Launch) (Z : State) (a0 : Array Value) (hw : own_W Z a0)  (h0 : Heap) (O0 : Old Z Z.heap.size h0)  :
    own_NC l Z (⟨"java/lang/StringUTF16", "newBytesFor", "(I)[B"⟩ : MethodName) jdk_52_method_2_code 1 (some (.array .byte)) ({ frames := 1, cells := 1, slots := 4, locals := 20 } : Room) #[(.int 2)] h0 (fun v h => ∃ (u : Addr) (ku : ClassId), v = some (.ref u) ∧ Keep h0 h [] ∧ h0.size ≤ u ∧ Z.heap.size ≤ u ∧ Arv Z h u ku .byte (4 : Int32) [(.int 0), (.int 0), (.int 0), (.int 0)] (.int (0 : Int32))) := by
  refine own_nc (plainFor_of_name pnl4) ?_
  intro p e s m below meth c s₁ S0 X0 hx hby hml hret hnm hown hZ e0 cc
  have N0 := Fr.nil Z.heap.size
  have c0 : Go p e below S0 s₁ (mkF m 0 #[.val (.int 2)] []) := cc.trans (XT.entry rfl)
  have c1 : Go p e below S0 s₁ (mkF m 1 #[.val (.int 2)] [(.int 2)]) := c0.trans (by
    refine XS.iloadN X0.here hx rfl (hb hby d21_0) rfl ?_
    exact .refl _)
  obtain ⟨v2, T2, L2, X2, ⟨N2', rfl, e2⟩, c2'⟩ := own_stat X0 hx hml hZ hown (gw hw 94 rfl) (gw hw 95 rfl) (gw hw 73 rfl) (gw hw 96 rfl) (by decide) (kc := 0) (ks := 0) (h := h0) (W := 0) (argsL := [(.int 2)]) (rest := []) (own_pay (W := 0) (rmNBL2 l Z a0 hw h0 O0) hZ (gw hw 96 rfl) (gw hw 73 rfl) (by decide) (by decide)) c1 (lenOf pd_5 rfl) rfl (hb hby d21_1) e0
  have N2 := Fr.app N0 N2'
  have c2 : Go p e below S0 T2 (mkF m 4 #[.val (.int 2)] [(.int 4)]) := c2'
  obtain ⟨T3, h3, k3, X3, e3, E3, A3, st3⟩ := newP X2 hx hZ (hw _ (List.mem_of_getElem? (i := 23) rfl)) e2 (g := (mkF m 4 #[.val (.int 2)] [(.int 4)])) rfl (hb hby d21_4) rfl (by decide) (cap := 4) (by decide) (by decide) (by decide) (by decide)
  obtain ⟨b3, g3⟩ : ∃ z, z = h0.size := ⟨_, rfl⟩
  rw [← g3] at A3 st3
  have lo3 : h0.size ≤ b3 := Nat.le_of_eq g3.symm
  have ge3 : Z.heap.size ≤ b3 := Nat.le_trans O0.2.1 lo3
  have V3 := Arv.new A3 (by decide)
  have V3a : Arv Z h3 b3 k3 .byte (4 : Int32) [(.int 0), (.int 0), (.int 0), (.int 0)] (.int (0 : Int32)) := V3.pad (pad_rep [] (.int (0 : Int32)) 4)
  have c4 : Go p e below S0 T3 (mkF m 6 #[.val (.int 2)] [(.ref b3)]) := c2.trans (by
    refine st3 _ ?_
    exact .refl _)
  refine ⟨T3, (some (.ref b3)), _, _, _, X3, by decide, by decide, (fun q => by cases q), N2, ?_, fun fs hr => ?_⟩
  · rw [e3]
    exact ⟨b3, k3, rfl, ((Keep.refl h0 []).ext E3), (Nat.le_trans (Keep.refl h0 []).1 lo3), ge3, V3a⟩
  · exact own_retR X3 hx c4 hret rfl rfl (hb hby d21_6) hr
theorem rmToB2 (l : Launch) (Z : State) (a0 : Array Value) (hw : own_W Z a0) (b : Addr) (kc : ClassId) (xa xb : Int32) (z : Int32) (fm : Value) (h0 : Heap) (O0 : Old Z Z.heap.size h0) (Kc : Arv Z h0 b kc .char (2 : Int32) [(.int xa), (.int xb)] (.int (0 : Int32))) (hs : own_S Z z fm) :
    own_NC l Z (⟨"java/lang/StringUTF16", "toBytes", "([CII)[B"⟩ : MethodName) jdk_52_method_14_code 5 (some (.array .byte)) ({ frames := 2, cells := 1, slots := 4, locals := 40 } : Room) #[(.ref b), (.int 0), (.int 2)] h0 (fun v h => ∃ (u : Addr) (ku : ClassId), v = some (.ref u) ∧ Keep h0 h [] ∧ h0.size ≤ u ∧ Arv Z h u ku .byte (4 : Int32) [(.int (own_lo xa)), (.int (own_hi xa)), (.int (own_lo xb)), (.int (own_hi xb))] (.int (0 : Int32))) := by
  refine own_nc (plainFor_of_name pnl4) ?_
  intro p e s m below meth c s₁ S0 X0 hx hby hml hret hnm hown hZ e0 cc
  have N0 := Fr.nil Z.heap.size
  have c0 : Go p e below S0 s₁ (mkF m 0 #[.val (.ref b), .val (.int 0), .val (.int 2), .unset, .unset] []) := cc.trans (XT.entry rfl)
  obtain ⟨SC, hz, SF, hfm, SA, SH, SL⟩ := id hs
  have c1 : Go p e below S0 s₁ (mkF m 1 #[.val (.ref b), .val (.int 0), .val (.int 2), .unset, .unset] [(.int 2)]) := c0.trans (by
    refine XS.iloadN X0.here hx rfl (hb hby d20_0) rfl ?_
    exact .refl _)
  obtain ⟨v2, T2, L2, X2, ⟨N2', u2, ku2, rfl, K2, lo2, ge2, Ku2⟩, c2'⟩ := own_stat X0 hx hml hZ hown (gw hw 91 rfl) (gw hw 92 rfl) (gw hw 73 rfl) (gw hw 93 rfl) (by decide) (kc := 1) (ks := 4) (h := h0) (W := 0) (argsL := [(.int 2)]) (rest := []) (own_pay (W := 0) (rmNBF2 l Z a0 hw h0 O0) hZ (gw hw 93 rfl) (gw hw 73 rfl) (by decide) (by decide)) c1 (lenOf pd_6 rfl) rfl (hb hby d20_1) e0
  have N2 := Fr.app N0 N2'
  have c2 : Go p e below S0 T2 (mkF m 4 #[.val (.ref b), .val (.int 0), .val (.int 2), .unset, .unset] [(.ref u2)]) := c2'
  obtain ⟨cl3, Ar3, q3, S3, M3, H3, G3⟩ := id (Kc.keep K2 nin0)
  have hin3 : ¬ ((0 : Int32) < 0 ∨ cl3.slots.size ≤ ((0 : Int32)).toNatClampNeg) := inb_of S3 ⟨by decide, by decide⟩
  have hat3 := Has.at (v := .int xa) H3 hin3 rfl
  have c4 : Go p e below S0 T2 (mkF m 20 #[.val (.ref b), .val (.int 0), .val (.int 2), .val (.ref u2), .val (.int 0)] [(.int xa), (.int 0), (.ref u2)]) := c2.trans (by
    refine XS.astoreN X2.here hx rfl (hb hby d20_4) rfl rfl (l' := #[.val (.ref b), .val (.int 0), .val (.int 2), .val (.ref u2), .unset]) rfl ?_
    refine XS.iconst X2.here hx rfl (hb hby d20_5) ?_
    refine XS.istore X2.here hx rfl (hb hby d20_6) rfl (l' := #[.val (.ref b), .val (.int 0), .val (.int 2), .val (.ref u2), .val (.int 0)]) rfl ?_
    refine XS.iload X2.here hx rfl (hb hby d20_8) rfl ?_
    refine XS.iloadN X2.here hx rfl (hb hby d20_10) rfl ?_
    refine XS.icmpNo X2.here hx rfl (hb hby d20_11) rfl (tlt (by decide : (0 : Int32) < (2 : Int32))).2.1 ?_
    refine XS.aloadN X2.here hx rfl (hb hby d20_14) rfl rfl ?_
    refine XS.iload X2.here hx rfl (hb hby d20_15) rfl ?_
    refine XS.aloadN X2.here hx rfl (hb hby d20_17) rfl rfl ?_
    show Steps p.tables e below (T2.setTop (mkF m 18 #[.val (.ref b), .val (.int 0), .val (.int 2), .val (.ref u2), .val (.int 0)] [(.ref b), (.int 0), (.ref u2)])) _
    refine XS.iloadN X2.here hx rfl (hb hby d20_18) rfl ?_
    refine X2.caload hx (cell := cl3) (by rw [show T2.heap = T2.heap from rfl]; exact Ar3.1) (State.isArrayOf_alike (hZ).alike Ar3.2.1) Ar3.2.2 hin3 hat3 (g := (mkF m 19 #[.val (.ref b), .val (.int 0), .val (.int 2), .val (.ref u2), .val (.int 0)] [(.int 0), (.ref b), (.int 0), (.ref u2)])) rfl rfl (hb hby d20_19) _ ?_
    exact .refl _)
  obtain ⟨v5, T5, L5, X5, ⟨N5', rfl, K5, Kq5⟩, c5'⟩ := own_stat X2 hx hml hZ hown (gw hw 98 rfl) (gw hw 99 rfl) (gw hw 73 rfl) (gw hw 100 rfl) (by decide) (kc := 0) (ks := 0) (h := T2.heap) (W := 0) (argsL := [(.ref u2), (.int 0), (.int xa)]) (rest := []) (own_pay (W := 0) (rmPut l Z a0 hw u2 ku2 [(.int 0), (.int 0), (.int 0), (.int 0)] 4 0 xa z fm T2.heap (O0.keep K2 all0) Ku2 rfl (by decide) (by decide) ge2 hs) hZ (gw hw 100 rfl) (gw hw 73 rfl) (by decide) (by decide)) c4 (lenOf pd_7 rfl) rfl (hb hby d20_20) rfl
  have N5 := Fr.app N2 N5'
  have c5 : Go p e below S0 T5 (mkF m 23 #[.val (.ref b), .val (.int 0), .val (.int 2), .val (.ref u2), .val (.int 0)] []) := c5'
  have Kr5 : Arv Z T5.heap u2 ku2 .byte (4 : Int32) [(.int (own_lo xa)), (.int (own_hi xa)), (.int 0), (.int 0)] (.int (0 : Int32)) := Kq5
  obtain ⟨cl6, Ar6, q6, S6, M6, H6, G6⟩ := id ((Kc.keep K2 nin0).keep K5 (ninS (Nat.ne_of_lt (Nat.lt_of_lt_of_le Kc.lt lo2)) nin0))
  have hin6 : ¬ ((1 : Int32) < 0 ∨ cl6.slots.size ≤ ((1 : Int32)).toNatClampNeg) := inb_of S6 ⟨by decide, by decide⟩
  have hat6 := Has.at (v := .int xb) H6 hin6 rfl
  have c7 : Go p e below S0 T5 (mkF m 20 #[.val (.ref b), .val (.int 1), .val (.int 2), .val (.ref u2), .val (.int 1)] [(.int xb), (.int 1), (.ref u2)]) := c5.trans (by
    refine XS.iinc X5.here hx rfl (hb hby d20_23) rfl (l' := #[.val (.ref b), .val (.int 1), .val (.int 2), .val (.ref u2), .val (.int 0)]) rfl ?_
    refine XS.iinc X5.here hx rfl (hb hby d20_26) rfl (l' := #[.val (.ref b), .val (.int 1), .val (.int 2), .val (.ref u2), .val (.int 1)]) rfl ?_
    refine XS.goto X5.here hx rfl (pc0 := 29) (pc' := 8) rfl (hb hby d20_29) (by decide) (by decide) ?_
    refine XS.iload X5.here hx rfl (hb hby d20_8) rfl ?_
    refine XS.iloadN X5.here hx rfl (hb hby d20_10) rfl ?_
    refine XS.icmpNo X5.here hx rfl (hb hby d20_11) rfl (tlt (by decide : (1 : Int32) < (2 : Int32))).2.1 ?_
    refine XS.aloadN X5.here hx rfl (hb hby d20_14) rfl rfl ?_
    refine XS.iload X5.here hx rfl (hb hby d20_15) rfl ?_
    refine XS.aloadN X5.here hx rfl (hb hby d20_17) rfl rfl ?_
    show Steps p.tables e below (T5.setTop (mkF m 18 #[.val (.ref b), .val (.int 1), .val (.int 2), .val (.ref u2), .val (.int 1)] [(.ref b), (.int 1), (.ref u2)])) _
    refine XS.iloadN X5.here hx rfl (hb hby d20_18) rfl ?_
    refine X5.caload hx (cell := cl6) (by rw [show T5.heap = T5.heap from rfl]; exact Ar6.1) (State.isArrayOf_alike (hZ).alike Ar6.2.1) Ar6.2.2 hin6 hat6 (g := (mkF m 19 #[.val (.ref b), .val (.int 1), .val (.int 2), .val (.ref u2), .val (.int 1)] [(.int 1), (.ref b), (.int 1), (.ref u2)])) rfl rfl (hb hby d20_19) _ ?_
    exact .refl _)
  obtain ⟨v8, T8, L8, X8, ⟨N8', rfl, K8, Kq8⟩, c8'⟩ := own_stat X5 hx hml hZ hown (gw hw 98 rfl) (gw hw 99 rfl) (gw hw 73 rfl) (gw hw 100 rfl) (by decide) (kc := 0) (ks := 0) (h := T5.heap) (W := 0) (argsL := [(.ref u2), (.int 1), (.int xb)]) (rest := []) (own_pay (W := 0) (rmPut l Z a0 hw u2 ku2 [(.int (own_lo xa)), (.int (own_hi xa)), (.int 0), (.int 0)] 4 1 xb z fm T5.heap ((O0.keep K2 all0).keep K5 (allS ge2 all0)) Kr5 rfl (by decide) (by decide) ge2 hs) hZ (gw hw 100 rfl) (gw hw 73 rfl) (by decide) (by decide)) c7 (lenOf pd_7 rfl) rfl (hb hby d20_20) rfl
  have N8 := Fr.app N5 N8'
  have c8 : Go p e below S0 T8 (mkF m 23 #[.val (.ref b), .val (.int 1), .val (.int 2), .val (.ref u2), .val (.int 1)] []) := c8'
  have Kr8 : Arv Z T8.heap u2 ku2 .byte (4 : Int32) [(.int (own_lo xa)), (.int (own_hi xa)), (.int (own_lo xb)), (.int (own_hi xb))] (.int (0 : Int32)) := Kq8
  have c9 : Go p e below S0 T8 (mkF m 33 #[.val (.ref b), .val (.int 2), .val (.int 2), .val (.ref u2), .val (.int 2)] [(.ref u2)]) := c8.trans (by
    refine XS.iinc X8.here hx rfl (hb hby d20_23) rfl (l' := #[.val (.ref b), .val (.int 2), .val (.int 2), .val (.ref u2), .val (.int 1)]) rfl ?_
    refine XS.iinc X8.here hx rfl (hb hby d20_26) rfl (l' := #[.val (.ref b), .val (.int 2), .val (.int 2), .val (.ref u2), .val (.int 2)]) rfl ?_
    refine XS.goto X8.here hx rfl (pc0 := 29) (pc' := 8) rfl (hb hby d20_29) (by decide) (by decide) ?_
    refine XS.iload X8.here hx rfl (hb hby d20_8) rfl ?_
    refine XS.iloadN X8.here hx rfl (hb hby d20_10) rfl ?_
    refine XS.icmpYes X8.here hx rfl (pc0 := 11) (pc' := 32) rfl (hb hby d20_11) rfl (flt (by decide : ¬ ((2 : Int32) < (2 : Int32)))).2.1 (by decide) (by decide) ?_
    refine XS.aloadN X8.here hx rfl (hb hby d20_32) rfl rfl ?_
    exact .refl _)
  refine ⟨T8, (some (.ref u2)), _, _, _, X8, by decide, by decide, (fun q => by cases q), N8, ?_, fun fs hr => ?_⟩
  · skip
    exact ⟨u2, ku2, rfl, ((((Keep.refl h0 []).trans K2 all0).trans K5 (allS (Or.inr (Nat.le_trans (Keep.refl h0 []).1 lo2)) all0)).trans K8 (allS (Or.inr (Nat.le_trans (Keep.refl h0 []).1 lo2)) all0)), (Nat.le_trans (Keep.refl h0 []).1 lo2), Kr8⟩
  · exact own_retR X8 hx c9 hret rfl rfl (hb hby d20_33) hr
theorem rmCmp5_2 (l : Launch) (Z : State) (a0 : Array Value) (hw : own_W Z a0) (b d : Addr) (kc kd : ClassId) (xa xb : Int32) (h0 : Heap) (O0 : Old Z Z.heap.size h0) (Kc : Arv Z h0 b kc .char (2 : Int32) [(.int xa), (.int xb)] (.int (0 : Int32))) (Kd : Arv Z h0 d kd .byte (2 : Int32) [(.int 0), (.int 0)] (.int (0 : Int32))) (gd : Z.heap.size ≤ d) (hne : b ≠ d) (hbad : ¬ (¬ (255 : Int32) < xa ∧ ¬ (255 : Int32) < xb)) :
    own_NC l Z (⟨"java/lang/StringUTF16", "compress", "([CI[BII)I"⟩ : MethodName) jdk_52_method_21_code 7 (some .int) ({ frames := 0, cells := 0, slots := 0, locals := 0 } : Room) #[(.ref b), (.int 0), (.ref d), (.int 0), (.int 2)] h0 (fun v h => Keep h0 h [d] ∧ (∃ i : Nat, v = some (.int (Int32.ofNat i)) ∧ i < 2 ∧ (255 : Int32) < ([xa, xb] : List Int32).getD i 0)) := by
  refine own_nc (plainFor_of_name pnl4) ?_
  intro p e s m below meth c s₁ S0 X0 hx hby hml hret hnm hown hZ e0 cc
  have N0 := Fr.nil Z.heap.size
  have c0 : Go p e below S0 s₁ (mkF m 0 #[.val (.ref b), .val (.int 0), .val (.ref d), .val (.int 0), .val (.int 2), .unset, .unset] []) := cc.trans (XT.entry rfl)
  obtain ⟨cl1, Ar1, q1, S1, M1, H1, G1⟩ := id Kc
  have hin1 : ¬ ((0 : Int32) < 0 ∨ cl1.slots.size ≤ ((0 : Int32)).toNatClampNeg) := inb_of S1 ⟨by decide, by decide⟩
  have hat1 := Has.at (v := .int xa) H1 hin1 rfl
  have c2 : Go p e below S0 s₁ (mkF m 20 #[.val (.ref b), .val (.int 0), .val (.ref d), .val (.int 0), .val (.int 2), .val (.int 0), .val (.int xa)] [(.int 255), (.int xa)]) := c0.trans (by
    refine XS.iconst X0.here hx rfl (hb hby d16_0) ?_
    refine XS.istore X0.here hx rfl (hb hby d16_1) rfl (l' := #[.val (.ref b), .val (.int 0), .val (.ref d), .val (.int 0), .val (.int 2), .val (.int 0), .unset]) rfl ?_
    refine XS.iload X0.here hx rfl (hb hby d16_3) rfl ?_
    refine XS.iload X0.here hx rfl (hb hby d16_5) rfl ?_
    refine XS.icmpNo X0.here hx rfl (hb hby d16_7) rfl (tlt (by decide : (0 : Int32) < (2 : Int32))).2.1 ?_
    refine XS.aloadN X0.here hx rfl (hb hby d16_10) rfl rfl ?_
    refine XS.iloadN X0.here hx rfl (hb hby d16_11) rfl ?_
    refine X0.caload hx (cell := cl1) (by rw [show s₁.heap = h0 from e0]; exact Ar1.1) (State.isArrayOf_alike (hZ).alike Ar1.2.1) Ar1.2.2 hin1 hat1 (g := (mkF m 12 #[.val (.ref b), .val (.int 0), .val (.ref d), .val (.int 0), .val (.int 2), .val (.int 0), .unset] [(.int 0), (.ref b)])) rfl rfl (hb hby d16_12) _ ?_
    refine XS.istore X0.here hx rfl (hb hby d16_13) rfl (l' := #[.val (.ref b), .val (.int 0), .val (.ref d), .val (.int 0), .val (.int 2), .val (.int 0), .val (.int xa)]) rfl ?_
    show Steps p.tables e below (s₁.setTop (mkF m 15 #[.val (.ref b), .val (.int 0), .val (.ref d), .val (.int 0), .val (.int 2), .val (.int 0), .val (.int xa)] [])) _
    refine XS.iload X0.here hx rfl (hb hby d16_15) rfl ?_
    refine XS.sipush X0.here hx rfl (hb hby d16_17) ?_
    exact .refl _)
  by_cases hc3 : (255 : Int32) < xa
  · skip
    have c4 : Go p e below S0 s₁ (mkF m 25 #[.val (.ref b), .val (.int 0), .val (.ref d), .val (.int 0), .val (.int 2), .val (.int 0), .val (.int xa)] [(.int 0)]) := c2.trans (by
      refine XS.icmpNo X0.here hx rfl (hb hby d16_20) rfl (tlt hc3).2.2.2 ?_
      refine XS.iload X0.here hx rfl (hb hby d16_23) rfl ?_
      exact .refl _)
    refine ⟨s₁, (some (.int 0)), _, _, _, X0, by decide, by decide, (fun q => by cases q), N0, ?_, fun fs hr => ?_⟩
    · rw [e0]
      exact ⟨(Keep.refl h0 [d]), 0, rfl, by decide, hc3⟩
    · exact c4.trans (retI X0 hx hret (hb hby d16_25) hr)
  · skip
    obtain ⟨cl6, Ar6, q6, S6, M6, H6, G6⟩ := id Kd
    have hin6 : ¬ ((0 : Int32) < 0 ∨ cl6.slots.size ≤ ((0 : Int32)).toNatClampNeg) := inb_of S6 ⟨by decide, by decide⟩
    obtain ⟨T6, h6, X6, e6, W6, st6⟩ := stB X0 hx hZ e0 Ar6 (j := (0 : Int32)) hin6 (g := (mkF m 31 #[.val (.ref b), .val (.int 0), .val (.ref d), .val (.int 0), .val (.int 2), .val (.int 0), .val (.int xa)] [(.int (xa.toInt8.toInt32)), (.int 0), (.ref d)])) rfl rfl (hb hby d16_31)
    have V6 := Arv.set Ar6 q6 S6 M6 H6 G6 (fits_nar_byte _) W6 0 rfl (Nat.le_of_ble_eq_true rfl)
    have N6 := Fr.snoc X6 N0 gd
    rw [own_b2] at V6
    have V6a : Arv Z h6 d kd .byte (2 : Int32) [(.int (xa.toInt8.toInt32)), (.int 0)] (.int (0 : Int32)) := V6
    obtain ⟨cl7, Ar7, q7, S7, M7, H7, G7⟩ := id (Kc.other W6 hne)
    have hin7 : ¬ ((1 : Int32) < 0 ∨ cl7.slots.size ≤ ((1 : Int32)).toNatClampNeg) := inb_of S7 ⟨by decide, by decide⟩
    have hat7 := Has.at (v := .int xb) H7 hin7 rfl
    have c8 : Go p e below S0 T6 (mkF m 20 #[.val (.ref b), .val (.int 1), .val (.ref d), .val (.int 1), .val (.int 2), .val (.int 1), .val (.int xb)] [(.int 255), (.int xb)]) := c2.trans (by
      refine XS.icmpYes X0.here hx rfl (pc0 := 20) (pc' := 26) rfl (hb hby d16_20) rfl (flt hc3).2.2.2 (by decide) (by decide) ?_
      refine XS.aloadN X0.here hx rfl (hb hby d16_26) rfl rfl ?_
      refine XS.iloadN X0.here hx rfl (hb hby d16_27) rfl ?_
      refine XS.iload X0.here hx rfl (hb hby d16_28) rfl ?_
      refine XS.i2b X0.here hx rfl (hb hby d16_30) rfl ?_
      refine st6 _ ?_
      show Steps p.tables e below (T6.setTop (mkF m 32 #[.val (.ref b), .val (.int 0), .val (.ref d), .val (.int 0), .val (.int 2), .val (.int 0), .val (.int xa)] [])) _
      refine XS.iinc X6.here hx rfl (hb hby d16_32) rfl (l' := #[.val (.ref b), .val (.int 1), .val (.ref d), .val (.int 0), .val (.int 2), .val (.int 0), .val (.int xa)]) rfl ?_
      refine XS.iinc X6.here hx rfl (hb hby d16_35) rfl (l' := #[.val (.ref b), .val (.int 1), .val (.ref d), .val (.int 1), .val (.int 2), .val (.int 0), .val (.int xa)]) rfl ?_
      refine XS.iinc X6.here hx rfl (hb hby d16_38) rfl (l' := #[.val (.ref b), .val (.int 1), .val (.ref d), .val (.int 1), .val (.int 2), .val (.int 1), .val (.int xa)]) rfl ?_
      refine XS.goto X6.here hx rfl (pc0 := 41) (pc' := 3) rfl (hb hby d16_41) (by decide) (by decide) ?_
      refine XS.iload X6.here hx rfl (hb hby d16_3) rfl ?_
      refine XS.iload X6.here hx rfl (hb hby d16_5) rfl ?_
      refine XS.icmpNo X6.here hx rfl (hb hby d16_7) rfl (tlt (by decide : (1 : Int32) < (2 : Int32))).2.1 ?_
      refine XS.aloadN X6.here hx rfl (hb hby d16_10) rfl rfl ?_
      refine XS.iloadN X6.here hx rfl (hb hby d16_11) rfl ?_
      show Steps p.tables e below (T6.setTop (mkF m 12 #[.val (.ref b), .val (.int 1), .val (.ref d), .val (.int 1), .val (.int 2), .val (.int 1), .val (.int xa)] [(.int 1), (.ref b)])) _
      refine X6.caload hx (cell := cl7) (by rw [show T6.heap = h6 from e6]; exact Ar7.1) (State.isArrayOf_alike (hZ).alike Ar7.2.1) Ar7.2.2 hin7 hat7 (g := (mkF m 12 #[.val (.ref b), .val (.int 1), .val (.ref d), .val (.int 1), .val (.int 2), .val (.int 1), .val (.int xa)] [(.int 1), (.ref b)])) rfl rfl (hb hby d16_12) _ ?_
      refine XS.istore X6.here hx rfl (hb hby d16_13) rfl (l' := #[.val (.ref b), .val (.int 1), .val (.ref d), .val (.int 1), .val (.int 2), .val (.int 1), .val (.int xb)]) rfl ?_
      refine XS.iload X6.here hx rfl (hb hby d16_15) rfl ?_
      refine XS.sipush X6.here hx rfl (hb hby d16_17) ?_
      exact .refl _)
    by_cases hc9 : (255 : Int32) < xb
    · skip
      have c10 : Go p e below S0 T6 (mkF m 25 #[.val (.ref b), .val (.int 1), .val (.ref d), .val (.int 1), .val (.int 2), .val (.int 1), .val (.int xb)] [(.int 1)]) := c8.trans (by
        refine XS.icmpNo X6.here hx rfl (hb hby d16_20) rfl (tlt hc9).2.2.2 ?_
        refine XS.iload X6.here hx rfl (hb hby d16_23) rfl ?_
        exact .refl _)
      refine ⟨T6, (some (.int 1)), _, _, _, X6, by decide, by decide, (fun q => by cases q), N6, ?_, fun fs hr => ?_⟩
      · rw [e6]
        exact ⟨((Keep.refl h0 [d]).wr W6 (Or.inl (List.mem_of_getElem? (i := 0) rfl))), 1, rfl, by decide, hc9⟩
      · exact c10.trans (retI X6 hx hret (hb hby d16_25) hr)
    · skip
      obtain ⟨cl12, Ar12, q12, S12, M12, H12, G12⟩ := id V6a
      have hin12 : ¬ ((1 : Int32) < 0 ∨ cl12.slots.size ≤ ((1 : Int32)).toNatClampNeg) := inb_of S12 ⟨by decide, by decide⟩
      obtain ⟨T12, h12, X12, e12, W12, st12⟩ := stB X6 hx hZ e6 Ar12 (j := (1 : Int32)) hin12 (g := (mkF m 31 #[.val (.ref b), .val (.int 1), .val (.ref d), .val (.int 1), .val (.int 2), .val (.int 1), .val (.int xb)] [(.int (xb.toInt8.toInt32)), (.int 1), (.ref d)])) rfl rfl (hb hby d16_31)
      have V12 := Arv.set Ar12 q12 S12 M12 H12 G12 (fits_nar_byte _) W12 1 rfl (Nat.le_of_ble_eq_true rfl)
      have N12 := Fr.snoc X12 N6 gd
      rw [own_b2] at V12
      have V12a : Arv Z h12 d kd .byte (2 : Int32) [(.int (xa.toInt8.toInt32)), (.int (xb.toInt8.toInt32))] (.int (0 : Int32)) := V12
      have c13 : Go p e below S0 T12 (mkF m 46 #[.val (.ref b), .val (.int 2), .val (.ref d), .val (.int 2), .val (.int 2), .val (.int 2), .val (.int xb)] [(.int 2)]) := c8.trans (by
        refine XS.icmpYes X6.here hx rfl (pc0 := 20) (pc' := 26) rfl (hb hby d16_20) rfl (flt hc9).2.2.2 (by decide) (by decide) ?_
        refine XS.aloadN X6.here hx rfl (hb hby d16_26) rfl rfl ?_
        refine XS.iloadN X6.here hx rfl (hb hby d16_27) rfl ?_
        refine XS.iload X6.here hx rfl (hb hby d16_28) rfl ?_
        refine XS.i2b X6.here hx rfl (hb hby d16_30) rfl ?_
        refine st12 _ ?_
        show Steps p.tables e below (T12.setTop (mkF m 32 #[.val (.ref b), .val (.int 1), .val (.ref d), .val (.int 1), .val (.int 2), .val (.int 1), .val (.int xb)] [])) _
        refine XS.iinc X12.here hx rfl (hb hby d16_32) rfl (l' := #[.val (.ref b), .val (.int 2), .val (.ref d), .val (.int 1), .val (.int 2), .val (.int 1), .val (.int xb)]) rfl ?_
        refine XS.iinc X12.here hx rfl (hb hby d16_35) rfl (l' := #[.val (.ref b), .val (.int 2), .val (.ref d), .val (.int 2), .val (.int 2), .val (.int 1), .val (.int xb)]) rfl ?_
        refine XS.iinc X12.here hx rfl (hb hby d16_38) rfl (l' := #[.val (.ref b), .val (.int 2), .val (.ref d), .val (.int 2), .val (.int 2), .val (.int 2), .val (.int xb)]) rfl ?_
        refine XS.goto X12.here hx rfl (pc0 := 41) (pc' := 3) rfl (hb hby d16_41) (by decide) (by decide) ?_
        refine XS.iload X12.here hx rfl (hb hby d16_3) rfl ?_
        refine XS.iload X12.here hx rfl (hb hby d16_5) rfl ?_
        refine XS.icmpYes X12.here hx rfl (pc0 := 7) (pc' := 44) rfl (hb hby d16_7) rfl (flt (by decide : ¬ ((2 : Int32) < (2 : Int32)))).2.1 (by decide) (by decide) ?_
        refine XS.iload X12.here hx rfl (hb hby d16_44) rfl ?_
        exact .refl _)
      refine ⟨T12, (some (.int 2)), _, _, _, X12, by decide, by decide, (fun q => by cases q), N12, ?_, fun fs hr => ?_⟩
      · rw [e12]
        exact absurd (show ¬ (255 : Int32) < xa ∧ ¬ (255 : Int32) < xb from ⟨hc3, hc9⟩) hbad
      · exact c13.trans (retI X12 hx hret (hb hby d16_46) hr)
theorem own_gl2 (d : Value) (i : Nat) (xa xb : Int32) (h : i < 2) : ([(.int (own_lo xa)), (.int (own_hi xa)), (.int (own_lo xb)), (.int (own_hi xb))] : List Value).getD (2 * i) d = .int (own_lo (([xa, xb] : List Int32).getD i 0)) ∧ ([(.int (own_lo xa)), (.int (own_hi xa)), (.int (own_lo xb)), (.int (own_hi xb))] : List Value).getD (2 * i + 1) d = .int (own_hi (([xa, xb] : List Int32).getD i 0)) ∧ (own_C xa → own_C xb → own_C (([xa, xb] : List Int32).getD i 0)) := by
  match i, h with
  | 0, _ => exact ⟨rfl, rfl, fun hxa hxb => hxa⟩
  | 1, _ => exact ⟨rfl, rfl, fun hxa hxb => hxb⟩
theorem own_ne2 {i : Nat} (h : i < 2) : ¬ (Int32.ofNat i = (2 : Int32)) := by
  have t : ∀ i : Fin 2, ¬ (Int32.ofNat i.val = (2 : Int32)) := by decide
  exact t ⟨i, h⟩
theorem rmCmp3_2 (l : Launch) (Z : State) (a0 : Array Value) (hw : own_W Z a0) (b : Addr) (kc : ClassId) (xa xb : Int32) (z : Int32) (fm : Value) (h0 : Heap) (O0 : Old Z Z.heap.size h0) (Kc : Arv Z h0 b kc .char (2 : Int32) [(.int xa), (.int xb)] (.int (0 : Int32))) (hCxa : own_C xa) (hCxb : own_C xb) (hbad : ¬ (¬ (255 : Int32) < xa ∧ ¬ (255 : Int32) < xb)) (hs : own_S Z z fm) :
    own_NC l Z (⟨"java/lang/StringUTF16", "compress", "([CII)[B"⟩ : MethodName) jdk_52_method_16_code 6 (some (.array .byte)) ({ frames := 3, cells := 2, slots := 6, locals := 60 } : Room) #[(.ref b), (.int 0), (.int 2)] h0 (fun v h => ∃ (u : Addr) (ku : ClassId), v = some (.ref u) ∧ Keep h0 h [] ∧ h0.size ≤ u ∧ Arv Z h u ku .byte (4 : Int32) [(.int (own_lo xa)), (.int (own_hi xa)), (.int (own_lo xb)), (.int (own_hi xb))] (.int (0 : Int32))) := by
  refine own_nc (plainFor_of_name pnl4) ?_
  intro p e s m below meth c s₁ S0 X0 hx hby hml hret hnm hown hZ e0 cc
  have N0 := Fr.nil Z.heap.size
  have c0 : Go p e below S0 s₁ (mkF m 0 #[.val (.ref b), .val (.int 0), .val (.int 2), .unset, .unset, .unset] []) := cc.trans (XT.entry rfl)
  obtain ⟨SC, hz, SF, hfm, SA, SH, SL⟩ := id hs
  obtain ⟨T1, h1, k1, X1, e1, E1, A1, st1⟩ := newP X0 hx hZ (hw _ (List.mem_of_getElem? (i := 23) rfl)) e0 (g := (mkF m 1 #[.val (.ref b), .val (.int 0), .val (.int 2), .unset, .unset, .unset] [(.int 2)])) rfl (hb hby d15_1) rfl (by decide) (cap := 2) (by decide) (by decide) (by decide) (by decide)
  obtain ⟨b1, g1⟩ : ∃ z, z = h0.size := ⟨_, rfl⟩
  rw [← g1] at A1 st1
  have lo1 : h0.size ≤ b1 := Nat.le_of_eq g1.symm
  have ge1 : Z.heap.size ≤ b1 := Nat.le_trans O0.2.1 lo1
  have V1 := Arv.new A1 (by decide)
  have V1a : Arv Z h1 b1 k1 .byte (2 : Int32) [(.int 0), (.int 0)] (.int (0 : Int32)) := V1.pad (pad_rep [] (.int (0 : Int32)) 2)
  have c2 : Go p e below S0 T1 (mkF m 9 #[.val (.ref b), .val (.int 0), .val (.int 2), .val (.ref b1), .unset, .unset] [(.int 2), (.int 0), (.ref b1), (.int 0), (.ref b)]) := c0.trans (by
    refine XS.iloadN X0.here hx rfl (hb hby d15_0) rfl ?_
    refine st1 _ ?_
    refine XS.astoreN X1.here hx rfl (hb hby d15_3) rfl rfl (l' := #[.val (.ref b), .val (.int 0), .val (.int 2), .val (.ref b1), .unset, .unset]) rfl ?_
    refine XS.aloadN X1.here hx rfl (hb hby d15_4) rfl rfl ?_
    refine XS.iloadN X1.here hx rfl (hb hby d15_5) rfl ?_
    refine XS.aloadN X1.here hx rfl (hb hby d15_6) rfl rfl ?_
    refine XS.iconst X1.here hx rfl (hb hby d15_7) ?_
    refine XS.iloadN X1.here hx rfl (hb hby d15_8) rfl ?_
    exact .refl _)
  obtain ⟨v3, T3, L3, X3, ⟨N3', K3, i3, rfl, hi3, hq3⟩, c3'⟩ := own_stat X1 hx hml hZ hown (gw hw 75 rfl) (gw hw 76 rfl) (gw hw 73 rfl) (gw hw 77 rfl) (by decide) (kc := 0) (ks := 0) (h := h1) (W := 0) (argsL := [(.ref b), (.int 0), (.ref b1), (.int 0), (.int 2)]) (rest := []) (own_pay (W := 0) (rmCmp5_2 l Z a0 hw b b1 kc k1 xa xb h1 (O0.ext E1) (Kc.ext E1) V1a ge1 (Nat.ne_of_lt (Nat.lt_of_lt_of_le Kc.lt lo1)) hbad) hZ (gw hw 77 rfl) (gw hw 73 rfl) (by decide) (by decide)) c2 (lenOf pd_8 rfl) rfl (hb hby d15_9) e1
  have N3 := Fr.app N0 N3'
  have c3 : Go p e below S0 T3 (mkF m 12 #[.val (.ref b), .val (.int 0), .val (.int 2), .val (.ref b1), .unset, .unset] [(.int (Int32.ofNat i3))]) := c3'
  have c4 : Go p e below S0 T3 (mkF m 23 #[.val (.ref b), .val (.int 0), .val (.int 2), .val (.ref b1), .val (.int (Int32.ofNat i3)), .unset] [(.int 2), (.int 0), (.ref b)]) := c3.trans (by
    refine XS.istore X3.here hx rfl (hb hby d15_12) rfl (l' := #[.val (.ref b), .val (.int 0), .val (.int 2), .val (.ref b1), .val (.int (Int32.ofNat i3)), .unset]) rfl ?_
    refine XS.iload X3.here hx rfl (hb hby d15_14) rfl ?_
    refine XS.iloadN X3.here hx rfl (hb hby d15_16) rfl ?_
    refine XS.icmpNo X3.here hx rfl (hb hby d15_17) rfl (feq (own_ne2 hi3)).1 ?_
    refine XS.aloadN X3.here hx rfl (hb hby d15_20) rfl rfl ?_
    refine XS.iloadN X3.here hx rfl (hb hby d15_21) rfl ?_
    refine XS.iloadN X3.here hx rfl (hb hby d15_22) rfl ?_
    exact .refl _)
  obtain ⟨v5, T5, L5, X5, ⟨N5', u5, ku5, rfl, K5, lo5, Ku5⟩, c5'⟩ := own_stat X3 hx hml hZ hown (gw hw 88 rfl) (gw hw 89 rfl) (gw hw 73 rfl) (gw hw 90 rfl) (by decide) (kc := 1) (ks := 4) (h := T3.heap) (W := 0) (argsL := [(.ref b), (.int 0), (.int 2)]) (rest := []) (own_pay (W := 0) (rmToB2 l Z a0 hw b kc xa xb z fm T3.heap ((O0.ext E1).keep K3 (allS ge1 all0)) ((Kc.ext E1).keep K3 (ninS (Nat.ne_of_lt (Nat.lt_of_lt_of_le Kc.lt lo1)) nin0)) hs) hZ (gw hw 90 rfl) (gw hw 73 rfl) (by decide) (by decide)) c4 (lenOf pd_9 rfl) rfl (hb hby d15_23) rfl
  have N5 := Fr.app N3 N5'
  have c5 : Go p e below S0 T5 (mkF m 26 #[.val (.ref b), .val (.int 0), .val (.int 2), .val (.ref b1), .val (.int (Int32.ofNat i3)), .unset] [(.ref u5)]) := c5'
  have c6 : Go p e below S0 T5 (mkF m 32 #[.val (.ref b), .val (.int 0), .val (.int 2), .val (.ref b1), .val (.int (Int32.ofNat i3)), .val (.ref u5)] [(.int (Int32.ofNat i3)), (.ref u5)]) := c5.trans (by
    refine XS.astore X5.here hx rfl (hb hby d15_26) rfl rfl (l' := #[.val (.ref b), .val (.int 0), .val (.int 2), .val (.ref b1), .val (.int (Int32.ofNat i3)), .val (.ref u5)]) rfl ?_
    refine XS.aload X5.here hx rfl (hb hby d15_28) rfl rfl ?_
    refine XS.iload X5.here hx rfl (hb hby d15_30) rfl ?_
    exact .refl _)
  obtain ⟨v7, T7, L7, X7, ⟨N7', rfl, e7⟩, c7'⟩ := own_stat X5 hx hml hZ hown (gw hw 104 rfl) (gw hw 105 rfl) (gw hw 73 rfl) (gw hw 106 rfl) (by decide) (kc := 0) (ks := 0) (h := T5.heap) (W := 0) (argsL := [(.ref u5), (.int (Int32.ofNat i3))]) (rest := []) (own_pay (W := 0) (rmGet l Z a0 hw u5 ku5 [(.int (own_lo xa)), (.int (own_hi xa)), (.int (own_lo xb)), (.int (own_hi xb))] 4 i3 (([xa, xb] : List Int32).getD i3 0) z fm T5.heap (((O0.ext E1).keep K3 (allS ge1 all0)).keep K5 all0) Ku5 rfl (by decide) (by omega) (own_gl2 _ _ xa xb hi3).1 (own_gl2 _ _ xa xb hi3).2.1 ((own_gl2 (.int 0) _ xa xb hi3).2.2 hCxa hCxb) hs) hZ (gw hw 106 rfl) (gw hw 73 rfl) (by decide) (by decide)) c6 (lenOf pd_10 rfl) rfl (hb hby d15_32) rfl
  have N7 := Fr.app N5 N7'
  have c7 : Go p e below S0 T7 (mkF m 35 #[.val (.ref b), .val (.int 0), .val (.int 2), .val (.ref b1), .val (.int (Int32.ofNat i3)), .val (.ref u5)] [(.int (([xa, xb] : List Int32).getD i3 0))]) := c7'
  have c8 : Go p e below S0 T7 (mkF m 56 #[.val (.ref b), .val (.int 0), .val (.int 2), .val (.ref b1), .val (.int (Int32.ofNat i3)), .val (.ref u5)] [(.ref u5)]) := c7.trans (by
    refine XS.sipush X7.here hx rfl (hb hby d15_35) ?_
    refine XS.icmpYes X7.here hx rfl (pc0 := 38) (pc' := 54) rfl (hb hby d15_38) rfl (tlt hq3).2.2.1 (by decide) (by decide) ?_
    refine XS.aload X7.here hx rfl (hb hby d15_54) rfl rfl ?_
    exact .refl _)
  refine ⟨T7, (some (.ref u5)), _, _, _, X7, by decide, by decide, (fun q => by cases q), N7, ?_, fun fs hr => ?_⟩
  · rw [e7]
    exact ⟨u5, ku5, rfl, ((((Keep.refl h0 []).ext E1).trans K3 (allS (Or.inr (Nat.le_trans (Keep.refl h0 []).1 lo1)) all0)).trans K5 all0), (Nat.le_trans (own_kz ((Keep.refl h0 []).ext E1) K3).1 lo5), Ku5⟩
  · exact own_retR X7 hx c8 hret rfl rfl (hb hby d15_56) hr
theorem rmCFAL2 (l : Launch) (Z : State) (a0 : Array Value) (hw : own_W Z a0) (t : Addr) (kb : ClassId) (xa xb : Int32) (h0 : Heap) (O0 : Old Z Z.heap.size h0) (Kt : Arv Z h0 t kb .byte (4 : Int32) [(.int (own_lo xa)), (.int (own_hi xa)), (.int (own_lo xb)), (.int (own_hi xb))] (.int (0 : Int32))) :
    own_NC l Z (⟨"java/lang/StringUTF16", "coderFromArrayLen", "([BI)B"⟩ : MethodName) jdk_52_method_15_code 2 (some .byte) ({ frames := 0, cells := 0, slots := 0, locals := 0 } : Room) #[(.ref t), (.int 2)] h0 (fun v h => v = some (.int (1 : Int32)) ∧ h = h0) := by
  refine own_nc (plainFor_of_name pnl4) ?_
  intro p e s m below meth c s₁ S0 X0 hx hby hml hret hnm hown hZ e0 cc
  have N0 := Fr.nil Z.heap.size
  have c0 : Go p e below S0 s₁ (mkF m 0 #[.val (.ref t), .val (.int 2)] []) := cc.trans (XT.entry rfl)
  obtain ⟨cl1, Ar1, q1, S1, M1, H1, G1⟩ := id Kt
  have c2 : Go p e below S0 s₁ (mkF m 8 #[.val (.ref t), .val (.int 2)] [(.int 1)]) := c0.trans (by
    refine XS.iloadN X0.here hx rfl (hb hby d17_0) rfl ?_
    refine XS.aloadN X0.here hx rfl (hb hby d17_1) rfl rfl ?_
    refine X0.arraylength hx (by rw [show s₁.heap = h0 from e0]; exact Ar1.1) (State.isArrayOf_alike (hZ).alike Ar1.2.1) (g := (mkF m 2 #[.val (.ref t), .val (.int 2)] [(.ref t), (.int 2)])) rfl rfl (hb hby d17_2) _ ?_
    rw [len_of S1 M1]
    refine XS.isub X0.here hx rfl (hb hby d17_3) rfl ?_
    refine XS.bipush X0.here hx rfl (hb hby d17_4) ?_
    refine XS.iushr X0.here hx rfl (hb hby d17_6) rfl ?_
    refine XS.i2b X0.here hx rfl (hb hby d17_7) rfl ?_
    exact .refl _)
  refine ⟨s₁, (some (.int (1 : Int32))), _, _, _, X0, by decide, by decide, (fun q => by cases q), N0, ?_, fun fs hr => ?_⟩
  · rw [e0]
    exact ⟨rfl, rfl⟩
  · exact c2.trans (retN X0 hx (t := .byte) hret (by simp) (hb hby d17_8) hr)
theorem rmUI4_2 (l : Launch) (Z : State) (a0 : Array Value) (hw : own_W Z a0) (x b : Addr) (kc : ClassId) (u1 u2 : Value) (xa xb : Int32) (z : Int32) (fm : Value) (h0 : Heap) (O0 : Old Z Z.heap.size h0) (E : Exa Z h0 x "java/lang/String") (V : Fld Z h0 x "java/lang/String" "value" "[B" u1) (Cd : Fld Z h0 x "java/lang/String" "coder" "B" u2) (gx : Z.heap.size ≤ x) (Kc : Arv Z h0 b kc .char (2 : Int32) [(.int xa), (.int xb)] (.int (0 : Int32))) (hCxa : own_C xa) (hCxb : own_C xb) (hbad : ¬ (¬ (255 : Int32) < xa ∧ ¬ (255 : Int32) < xb)) (hs : own_S Z z fm) :
    own_NC l Z (⟨"java/lang/String", "<init>", "([CIILjava/lang/Void;)V"⟩ : MethodName) jdk_42_method_149_code 6 none ({ frames := 4, cells := 2, slots := 6, locals := 90 } : Room) #[(.ref x), (.ref b), (.int 0), (.int 2), .null] h0 (fun v h => v = none ∧ Keep h0 h [x] ∧ Exa Z h x "java/lang/String" ∧ Fld Z h x "java/lang/String" "coder" "B" (.int (1 : Int32)) ∧ ∃ (t : Addr) (kt : ClassId), h0.size ≤ t ∧ Fld Z h x "java/lang/String" "value" "[B" (.ref t) ∧ Arv Z h t kt .byte (4 : Int32) [(.int (own_lo xa)), (.int (own_hi xa)), (.int (own_lo xb)), (.int (own_hi xb))] (.int (0 : Int32))) := by
  refine own_nc (plainFor_of_name pnl2) ?_
  intro p e s m below meth c s₁ S0 X0 hx hby hml hret hnm hown hZ e0 cc
  have N0 := Fr.nil Z.heap.size
  have c0 : Go p e below S0 s₁ (mkF m 0 #[.val (.ref x), .val (.ref b), .val (.int 0), .val (.int 2), .val .null, .unset] []) := cc.trans (XT.entry rfl)
  obtain ⟨SC, hz, SF, hfm, SA, SH, SL⟩ := id hs
  obtain ⟨T1, X1, e1, st1⟩ := initO X0 hx hZ hown (gw hw 19 rfl) (gw hw 20 rfl) (gw hw 21 rfl) e0 (g := (mkF m 1 #[.val (.ref x), .val (.ref b), .val (.int 0), .val (.int 2), .val .null, .unset] [(.ref x)])) rfl (by rw [hml]; rfl) rfl (hb hby d4_1) (by decide) (W := 0) (by show 2 * 0 + _ ≤ _; exact Nat.le_of_eq rfl) (by decide)
  obtain ⟨T2, X2, e2, st2⟩ := getS2 X1 hx hZ hown (host := "") (Or.inl (gw hw 49 rfl)) Via.refl e1 (SC.ext O0.2) (g := (mkF m 27 #[.val (.ref x), .val (.ref b), .val (.int 0), .val (.int 2), .val .null, .unset] [])) rfl (hb hby d4_27)
  have c3 : Go p e below S0 T2 (mkF m 36 #[.val (.ref x), .val (.ref b), .val (.int 0), .val (.int 2), .val .null, .unset] [(.int 2), (.int 0), (.ref b)]) := c0.trans (by
    refine XS.aloadN X0.here hx rfl (hb hby d4_0) rfl rfl ?_
    refine st1 _ ?_
    refine XS.iloadN X1.here hx rfl (hb hby d4_4) rfl ?_
    refine XS.ifYes X1.here hx rfl (pc0 := 5) (pc' := 27) rfl (hb hby d4_5) rfl ((if0 _ _).trans (feq (by decide : ¬ ((2 : Int32) = (0 : Int32)))).2) (by decide) (by decide) ?_
    refine st2 _ ?_
    show Steps p.tables e below (T2.setTop (mkF m 30 #[.val (.ref x), .val (.ref b), .val (.int 0), .val (.int 2), .val .null, .unset] [(.int z)])) _
    refine XS.ifNo X2.here hx rfl (hb hby d4_30) rfl ((if0 _ _).trans (feq hz).1) ?_
    refine XS.aloadN X2.here hx rfl (hb hby d4_33) rfl rfl ?_
    refine XS.iloadN X2.here hx rfl (hb hby d4_34) rfl ?_
    refine XS.iloadN X2.here hx rfl (hb hby d4_35) rfl ?_
    exact .refl _)
  obtain ⟨v4, T4, L4, X4, ⟨N4', u4, ku4, rfl, K4, lo4, Ku4⟩, c4'⟩ := own_stat X2 hx hml hZ hown (gw hw 71 rfl) (gw hw 72 rfl) (gw hw 73 rfl) (gw hw 74 rfl) (by decide) (kc := 2) (ks := 6) (h := h0) (W := 0) (argsL := [(.ref b), (.int 0), (.int 2)]) (rest := []) (own_pay (W := 0) (rmCmp3_2 l Z a0 hw b kc xa xb z fm h0 O0 Kc hCxa hCxb hbad hs) hZ (gw hw 74 rfl) (gw hw 73 rfl) (by decide) (by decide)) c3 (lenOf pd_9 rfl) rfl (hb hby d4_36) e2
  have N4 := Fr.app N0 N4'
  have c4 : Go p e below S0 T4 (mkF m 39 #[.val (.ref x), .val (.ref b), .val (.int 0), .val (.int 2), .val .null, .unset] [(.ref u4)]) := c4'
  have c5 : Go p e below S0 T4 (mkF m 45 #[.val (.ref x), .val (.ref b), .val (.int 0), .val (.int 2), .val .null, .val (.ref u4)] [(.int 2), (.ref u4), (.ref x)]) := c4.trans (by
    refine XS.astore X4.here hx rfl (hb hby d4_39) rfl rfl (l' := #[.val (.ref x), .val (.ref b), .val (.int 0), .val (.int 2), .val .null, .val (.ref u4)]) rfl ?_
    refine XS.aloadN X4.here hx rfl (hb hby d4_41) rfl rfl ?_
    refine XS.aload X4.here hx rfl (hb hby d4_42) rfl rfl ?_
    refine XS.iloadN X4.here hx rfl (hb hby d4_44) rfl ?_
    exact .refl _)
  obtain ⟨v6, T6, L6, X6, ⟨N6', rfl, e6⟩, c6'⟩ := own_stat X4 hx hml hZ hown (gw hw 78 rfl) (gw hw 79 rfl) (gw hw 73 rfl) (gw hw 80 rfl) (by decide) (kc := 0) (ks := 0) (h := T4.heap) (W := 1) (argsL := [(.ref u4), (.int 2)]) (rest := [(.ref x)]) (own_pay (W := 1) (rmCFAL2 l Z a0 hw u4 ku4 xa xb T4.heap (O0.keep K4 all0) Ku4) hZ (gw hw 80 rfl) (gw hw 73 rfl) (by decide) (by decide)) c5 (lenOf pd_11 rfl) rfl (hb hby d4_45) rfl
  have N6 := Fr.app N4 N6'
  have c6 : Go p e below S0 T6 (mkF m 48 #[.val (.ref x), .val (.ref b), .val (.int 0), .val (.int 2), .val .null, .val (.ref u4)] [(.int 1), (.ref x)]) := c6'
  obtain ⟨T7, h7, X7, e7, W7, st7⟩ := putFN X6 hx hZ hown (gw hw 29 rfl) Via.refl e6 (Cd.keep K4 nin0) (E.keep K4) (Or.inr ⟨(gw hw 25 rfl), rfl, hnm⟩) (gw hw 10 rfl) (ty := .byte) (v' := (.int 1)) (by decide) rfl rfl (g := (mkF m 48 #[.val (.ref x), .val (.ref b), .val (.int 0), .val (.int 2), .val .null, .val (.ref u4)] [(.int 1), (.ref x)])) rfl rfl (hb hby d4_48)
  have N7 := Fr.snoc X7 N6 gx
  have Fw7 := (Cd.keep K4 nin0).same W7
  obtain ⟨T8, h8, X8, e8, W8, st8⟩ := putF X7 hx hZ hown (host := "") (Or.inl (gw hw 28 rfl)) Via.refl e7 ((V.keep K4 nin0).other W7 (Or.inr (slot_ne (Or.inr (gw hw 24 rfl)) (Or.inr (gw hw 25 rfl)) (by decide) (t := (.array .byte)) (t' := .byte) (by decide) (by decide)))) ((E.keep K4).wr W7) (Or.inr ⟨(gw hw 24 rfl), rfl, hnm⟩) (gw hw 10 rfl) (ty := (.array .byte)) (by decide) rfl rfl (g := (mkF m 54 #[.val (.ref x), .val (.ref b), .val (.int 0), .val (.int 2), .val .null, .val (.ref u4)] [(.ref u4), (.ref x)])) rfl rfl (hb hby d4_54)
  have N8 := Fr.snoc X8 N7 gx
  have Fw8 := ((V.keep K4 nin0).other W7 (Or.inr (slot_ne (Or.inr (gw hw 24 rfl)) (Or.inr (gw hw 25 rfl)) (by decide) (t := (.array .byte)) (t' := .byte) (by decide) (by decide)))).same W8
  have c9 : Go p e below S0 T8 (mkF m 57 #[.val (.ref x), .val (.ref b), .val (.int 0), .val (.int 2), .val .null, .val (.ref u4)] []) := c6.trans (by
    refine st7 _ ?_
    refine XS.aloadN X7.here hx rfl (hb hby d4_51) rfl rfl ?_
    refine XS.aload X7.here hx rfl (hb hby d4_52) rfl rfl ?_
    refine st8 _ ?_
    show Steps p.tables e below (T8.setTop (mkF m 57 #[.val (.ref x), .val (.ref b), .val (.int 0), .val (.int 2), .val .null, .val (.ref u4)] [])) _
    exact .refl _)
  refine ⟨T8, none, _, _, _, X8, by decide, by decide, (fun _ => rfl), N8, ?_, fun fs hr => ?_⟩
  · rw [e8]
    exact ⟨rfl, ((((Keep.refl h0 [x]).trans K4 all0).wr W7 (Or.inl (List.mem_of_getElem? (i := 0) rfl))).wr W8 (Or.inl (List.mem_of_getElem? (i := 0) rfl))), (((E.keep K4).wr W7).wr W8), (Fw7.other W8 (Or.inr (slot_ne (Or.inr (gw hw 25 rfl)) (Or.inr (gw hw 24 rfl)) (by decide) (t := .byte) (t' := (.array .byte)) (by decide) (by decide)))), u4, ku4, (Nat.le_trans (Keep.refl h0 []).1 lo4), Fw8, ((Ku4.other W7 (Ne.symm (Nat.ne_of_lt (Nat.lt_of_lt_of_le E.lt lo4)))).other W8 (Ne.symm (Nat.ne_of_lt (Nat.lt_of_lt_of_le E.lt lo4))))⟩
  · exact c9.trans (X8.returnOut hx hret (hb hby d4_57) hr)
theorem rmUI1_2 (l : Launch) (Z : State) (a0 : Array Value) (hw : own_W Z a0) (x b : Addr) (kc : ClassId) (u1 u2 : Value) (xa xb : Int32) (z : Int32) (fm : Value) (h0 : Heap) (O0 : Old Z Z.heap.size h0) (E : Exa Z h0 x "java/lang/String") (V : Fld Z h0 x "java/lang/String" "value" "[B" u1) (Cd : Fld Z h0 x "java/lang/String" "coder" "B" u2) (gx : Z.heap.size ≤ x) (Kc : Arv Z h0 b kc .char (2 : Int32) [(.int xa), (.int xb)] (.int (0 : Int32))) (hCxa : own_C xa) (hCxb : own_C xb) (hbad : ¬ (¬ (255 : Int32) < xa ∧ ¬ (255 : Int32) < xb)) (hs : own_S Z z fm) :
    own_NC l Z (⟨"java/lang/String", "<init>", "([C)V"⟩ : MethodName) jdk_42_method_3_code 2 none ({ frames := 5, cells := 2, slots := 6, locals := 120 } : Room) #[(.ref x), (.ref b)] h0 (fun v h => v = none ∧ Keep h0 h [x] ∧ Exa Z h x "java/lang/String" ∧ Fld Z h x "java/lang/String" "coder" "B" (.int (1 : Int32)) ∧ ∃ (t : Addr) (kt : ClassId), h0.size ≤ t ∧ Fld Z h x "java/lang/String" "value" "[B" (.ref t) ∧ Arv Z h t kt .byte (4 : Int32) [(.int (own_lo xa)), (.int (own_hi xa)), (.int (own_lo xb)), (.int (own_hi xb))] (.int (0 : Int32))) := by
  refine own_nc (plainFor_of_name pnl2) ?_
  intro p e s m below meth c s₁ S0 X0 hx hby hml hret hnm hown hZ e0 cc
  have N0 := Fr.nil Z.heap.size
  have c0 : Go p e below S0 s₁ (mkF m 0 #[.val (.ref x), .val (.ref b)] []) := cc.trans (XT.entry rfl)
  obtain ⟨SC, hz, SF, hfm, SA, SH, SL⟩ := id hs
  obtain ⟨cl1, Ar1, q1, S1, M1, H1, G1⟩ := id Kc
  have c2 : Go p e below S0 s₁ (mkF m 6 #[.val (.ref x), .val (.ref b)] [.null, (.int 2), (.int 0), (.ref b), (.ref x)]) := c0.trans (by
    refine XS.aloadN X0.here hx rfl (hb hby d3_0) rfl rfl ?_
    refine XS.aloadN X0.here hx rfl (hb hby d3_1) rfl rfl ?_
    refine XS.iconst X0.here hx rfl (hb hby d3_2) ?_
    refine XS.aloadN X0.here hx rfl (hb hby d3_3) rfl rfl ?_
    refine X0.arraylength hx (by rw [show s₁.heap = h0 from e0]; exact Ar1.1) (State.isArrayOf_alike (hZ).alike Ar1.2.1) (g := (mkF m 4 #[.val (.ref x), .val (.ref b)] [(.ref b), (.int 0), (.ref b), (.ref x)])) rfl rfl (hb hby d3_4) _ ?_
    rw [len_of S1 M1]
    refine XS.aconstNull X0.here hx rfl (hb hby d3_5) ?_
    exact .refl _)
  obtain ⟨v3, T3, L3, X3, ⟨N3', rfl, K3, E3, Cd3, t3, kt3, lo3, V3, Kt3⟩, c3'⟩ := own_spec X0 hx hml hZ hown rfl (gw hw 15 rfl) (gw hw 16 rfl) (gw hw 18 rfl) (by decide) (kc := 2) (ks := 6) (h := h0) (W := 0) (b := x) (argsL := [(.ref b), (.int 0), (.int 2), .null]) (rest := []) (own_pay (W := 0) (rmUI4_2 l Z a0 hw x b kc u1 u2 xa xb z fm h0 O0 E V Cd gx Kc hCxa hCxb hbad hs) hZ (gw hw 18 rfl) (gw hw 11 rfl) (by decide) (by decide)) c2 (lenOf pd_12 rfl) rfl (hb hby d3_6) e0
  have N3 := Fr.app N0 N3'
  have c3 : Go p e below S0 T3 (mkF m 9 #[.val (.ref x), .val (.ref b)] []) := c3'
  refine ⟨T3, none, _, _, _, X3, by decide, by decide, (fun _ => rfl), N3, ?_, fun fs hr => ?_⟩
  · skip
    exact ⟨rfl, K3, E3, Cd3, t3, kt3, lo3, V3, Kt3⟩
  · exact c3.trans (X3.returnOut hx hret (hb hby d3_9) hr)
theorem rmLen16_2 (l : Launch) (Z : State) (a0 : Array Value) (hw : own_W Z a0) (t : Addr) (kb : ClassId) (xa xb : Int32) (h0 : Heap) (O0 : Old Z Z.heap.size h0) (Kt : Arv Z h0 t kb .byte (4 : Int32) [(.int (own_lo xa)), (.int (own_hi xa)), (.int (own_lo xb)), (.int (own_hi xb))] (.int (0 : Int32))) :
    own_NC l Z (⟨"java/lang/StringUTF16", "length", "([B)I"⟩ : MethodName) jdk_52_method_6_code 1 (some .int) ({ frames := 0, cells := 0, slots := 0, locals := 0 } : Room) #[(.ref t)] h0 (fun v h => v = some (.int (2 : Int32)) ∧ h = h0) := by
  refine own_nc (plainFor_of_name pnl4) ?_
  intro p e s m below meth c s₁ S0 X0 hx hby hml hret hnm hown hZ e0 cc
  have N0 := Fr.nil Z.heap.size
  have c0 : Go p e below S0 s₁ (mkF m 0 #[.val (.ref t)] []) := cc.trans (XT.entry rfl)
  obtain ⟨cl1, Ar1, q1, S1, M1, H1, G1⟩ := id Kt
  have c2 : Go p e below S0 s₁ (mkF m 4 #[.val (.ref t)] [(.int 2)]) := c0.trans (by
    refine XS.aloadN X0.here hx rfl (hb hby d28_0) rfl rfl ?_
    refine X0.arraylength hx (by rw [show s₁.heap = h0 from e0]; exact Ar1.1) (State.isArrayOf_alike (hZ).alike Ar1.2.1) (g := (mkF m 1 #[.val (.ref t)] [(.ref t)])) rfl rfl (hb hby d28_1) _ ?_
    rw [len_of S1 M1]
    refine XS.iconst X0.here hx rfl (hb hby d28_2) ?_
    refine XS.ishr X0.here hx rfl (hb hby d28_3) rfl ?_
    exact .refl _)
  refine ⟨s₁, (some (.int 2)), _, _, _, X0, by decide, by decide, (fun q => by cases q), N0, ?_, fun fs hr => ?_⟩
  · rw [e0]
    exact ⟨rfl, rfl⟩
  · exact c2.trans (retI X0 hx hret (hb hby d28_4) hr)
theorem rmCFT_0_2_2n (l : Launch) (Z : State) (a0 : Array Value) (hw : own_W Z a0)  (h0 : Heap) (O0 : Old Z Z.heap.size h0)  :
    own_NC l Z (⟨"jdk/internal/util/Preconditions", "checkFromToIndex", "(IIILjava/util/function/BiFunction;)I"⟩ : MethodName) jdk_41_method_12_code 4 (some .int) ({ frames := 0, cells := 0, slots := 0, locals := 0 } : Room) #[(.int 0), (.int 2), (.int 2), .null] h0 (fun v h => v = some (.int (0 : Int32)) ∧ h = h0) := by
  refine own_nc (plainFor_of_name pnl5) ?_
  intro p e s m below meth c s₁ S0 X0 hx hby hml hret hnm hown hZ e0 cc
  have N0 := Fr.nil Z.heap.size
  have c0 : Go p e below S0 s₁ (mkF m 0 #[.val (.int 0), .val (.int 2), .val (.int 2), .val .null] []) := cc.trans (XT.entry rfl)
  have c1 : Go p e below S0 s₁ (mkF m 23 #[.val (.int 0), .val (.int 2), .val (.int 2), .val .null] [(.int 0)]) := c0.trans (by
    refine XS.iloadN X0.here hx rfl (hb hby d30_0) rfl ?_
    refine XS.ifNo X0.here hx rfl (hb hby d30_1) rfl ((if0 _ _).trans (flt (by decide : ¬ ((0 : Int32) < (0 : Int32)))).1) ?_
    refine XS.iloadN X0.here hx rfl (hb hby d30_4) rfl ?_
    refine XS.iloadN X0.here hx rfl (hb hby d30_5) rfl ?_
    refine XS.icmpNo X0.here hx rfl (hb hby d30_6) rfl (flt (by decide : ¬ ((2 : Int32) < (0 : Int32)))).2.2.1 ?_
    refine XS.iloadN X0.here hx rfl (hb hby d30_9) rfl ?_
    refine XS.iloadN X0.here hx rfl (hb hby d30_10) rfl ?_
    refine XS.icmpYes X0.here hx rfl (pc0 := 11) (pc' := 22) rfl (hb hby d30_11) rfl (flt (by decide : ¬ ((2 : Int32) < (2 : Int32)))).2.2.2 (by decide) (by decide) ?_
    refine XS.iloadN X0.here hx rfl (hb hby d30_22) rfl ?_
    show Steps p.tables e below (s₁.setTop (mkF m 23 #[.val (.int 0), .val (.int 2), .val (.int 2), .val .null] [(.int 0)])) _
    exact .refl _)
  refine ⟨s₁, (some (.int 0)), _, _, _, X0, by decide, by decide, (fun q => by cases q), N0, ?_, fun fs hr => ?_⟩
  · rw [e0]
    exact ⟨rfl, rfl⟩
  · exact c1.trans (retI X0 hx hret (hb hby d30_23) hr)
theorem rmCFT_0_2_2r (l : Launch) (Z : State) (a0 : Array Value) (hw : own_W Z a0) (fa : Addr) (h0 : Heap) (O0 : Old Z Z.heap.size h0)  :
    own_NC l Z (⟨"jdk/internal/util/Preconditions", "checkFromToIndex", "(IIILjava/util/function/BiFunction;)I"⟩ : MethodName) jdk_41_method_12_code 4 (some .int) ({ frames := 0, cells := 0, slots := 0, locals := 0 } : Room) #[(.int 0), (.int 2), (.int 2), (.ref fa)] h0 (fun v h => v = some (.int (0 : Int32)) ∧ h = h0) := by
  refine own_nc (plainFor_of_name pnl5) ?_
  intro p e s m below meth c s₁ S0 X0 hx hby hml hret hnm hown hZ e0 cc
  have N0 := Fr.nil Z.heap.size
  have c0 : Go p e below S0 s₁ (mkF m 0 #[.val (.int 0), .val (.int 2), .val (.int 2), .val (.ref fa)] []) := cc.trans (XT.entry rfl)
  have c1 : Go p e below S0 s₁ (mkF m 23 #[.val (.int 0), .val (.int 2), .val (.int 2), .val (.ref fa)] [(.int 0)]) := c0.trans (by
    refine XS.iloadN X0.here hx rfl (hb hby d30_0) rfl ?_
    refine XS.ifNo X0.here hx rfl (hb hby d30_1) rfl ((if0 _ _).trans (flt (by decide : ¬ ((0 : Int32) < (0 : Int32)))).1) ?_
    refine XS.iloadN X0.here hx rfl (hb hby d30_4) rfl ?_
    refine XS.iloadN X0.here hx rfl (hb hby d30_5) rfl ?_
    refine XS.icmpNo X0.here hx rfl (hb hby d30_6) rfl (flt (by decide : ¬ ((2 : Int32) < (0 : Int32)))).2.2.1 ?_
    refine XS.iloadN X0.here hx rfl (hb hby d30_9) rfl ?_
    refine XS.iloadN X0.here hx rfl (hb hby d30_10) rfl ?_
    refine XS.icmpYes X0.here hx rfl (pc0 := 11) (pc' := 22) rfl (hb hby d30_11) rfl (flt (by decide : ¬ ((2 : Int32) < (2 : Int32)))).2.2.2 (by decide) (by decide) ?_
    refine XS.iloadN X0.here hx rfl (hb hby d30_22) rfl ?_
    show Steps p.tables e below (s₁.setTop (mkF m 23 #[.val (.int 0), .val (.int 2), .val (.int 2), .val (.ref fa)] [(.int 0)])) _
    exact .refl _)
  refine ⟨s₁, (some (.int 0)), _, _, _, X0, by decide, by decide, (fun q => by cases q), N0, ?_, fun fs hr => ?_⟩
  · rw [e0]
    exact ⟨rfl, rfl⟩
  · exact c1.trans (retI X0 hx hret (hb hby d30_23) hr)
theorem rmCFT_0_2_2 (l : Launch) (Z : State) (a0 : Array Value) (hw : ∀ d ∈ tables_1, d.before a0 Z = true) (fm : Value) (h0 : Heap) (O0 : Old Z Z.heap.size h0) (hfm : fm.isRef = true) : own_NC l Z (⟨"jdk/internal/util/Preconditions", "checkFromToIndex", "(IIILjava/util/function/BiFunction;)I"⟩ : MethodName) jdk_41_method_12_code 4 (some .int) ({ frames := 0, cells := 0, slots := 0, locals := 0 } : Room) #[(.int (0 : Int32)), (.int (2 : Int32)), (.int (2 : Int32)), fm] h0 (fun v h => v = some (.int (0 : Int32)) ∧ h = h0) := by
  rcases ref_cases hfm with rfl | ⟨fa, rfl⟩
  · exact rmCFT_0_2_2n l Z a0 hw h0 O0
  · exact rmCFT_0_2_2r l Z a0 hw fa h0 O0
theorem rmCBE_0_2_2 (l : Launch) (Z : State) (a0 : Array Value) (hw : own_W Z a0) (z : Int32) (fm : Value) (h0 : Heap) (O0 : Old Z Z.heap.size h0) (hs : own_S Z z fm) :
    own_NC l Z (⟨"java/lang/String", "checkBoundsBeginEnd", "(III)V"⟩ : MethodName) jdk_42_method_158_code 3 none ({ frames := 1, cells := 0, slots := 0, locals := 20 } : Room) #[(.int 0), (.int 2), (.int 2)] h0 (fun v h => v = none ∧ h = h0) := by
  refine own_nc (plainFor_of_name pnl2) ?_
  intro p e s m below meth c s₁ S0 X0 hx hby hml hret hnm hown hZ e0 cc
  have N0 := Fr.nil Z.heap.size
  have c0 : Go p e below S0 s₁ (mkF m 0 #[.val (.int 0), .val (.int 2), .val (.int 2)] []) := cc.trans (XT.entry rfl)
  obtain ⟨SC, hz, SF, hfm, SA, SH, SL⟩ := id hs
  obtain ⟨T1, X1, e1, st1⟩ := getS2 X0 hx hZ hown (host := "") (Or.inl (gw hw 125 rfl)) Via.refl e0 (SF.ext O0.2) (g := (mkF m 3 #[.val (.int 0), .val (.int 2), .val (.int 2)] [(.int 2), (.int 2), (.int 0)])) rfl (hb hby d29_3)
  have c2 : Go p e below S0 T1 (mkF m 6 #[.val (.int 0), .val (.int 2), .val (.int 2)] [fm, (.int 2), (.int 2), (.int 0)]) := c0.trans (by
    refine XS.iloadN X0.here hx rfl (hb hby d29_0) rfl ?_
    refine XS.iloadN X0.here hx rfl (hb hby d29_1) rfl ?_
    refine XS.iloadN X0.here hx rfl (hb hby d29_2) rfl ?_
    refine st1 _ ?_
    show Steps p.tables e below (T1.setTop (mkF m 6 #[.val (.int 0), .val (.int 2), .val (.int 2)] [fm, (.int 2), (.int 2), (.int 0)])) _
    exact .refl _)
  obtain ⟨v3, T3, L3, X3, ⟨N3', rfl, e3⟩, c3'⟩ := own_stat X1 hx hml hZ hown (gw hw 127 rfl) (gw hw 128 rfl) (gw hw 126 rfl) (gw hw 129 rfl) (by decide) (kc := 0) (ks := 0) (h := h0) (W := 0) (argsL := [(.int 0), (.int 2), (.int 2), fm]) (rest := []) (own_pay (W := 0) (rmCFT_0_2_2 l Z a0 hw fm h0 O0 hfm) hZ (gw hw 129 rfl) (gw hw 126 rfl) (by decide) (by decide)) c2 (lenOf pd_14 rfl) rfl (hb hby d29_6) e1
  have N3 := Fr.app N0 N3'
  have c3 : Go p e below S0 T3 (mkF m 9 #[.val (.int 0), .val (.int 2), .val (.int 2)] [(.int 0)]) := c3'
  have c4 : Go p e below S0 T3 (mkF m 10 #[.val (.int 0), .val (.int 2), .val (.int 2)] []) := c3.trans (by
    refine XS.pop X3.here hx rfl (hb hby d29_9) rfl rfl ?_
    exact .refl _)
  refine ⟨T3, none, _, _, _, X3, by decide, by decide, (fun _ => rfl), N3, ?_, fun fs hr => ?_⟩
  · rw [e3]
    exact ⟨rfl, rfl⟩
  · exact c4.trans (X3.returnOut hx hret (hb hby d29_10) hr)
theorem rmUCBE2 (l : Launch) (Z : State) (a0 : Array Value) (hw : own_W Z a0) (t : Addr) (kb : ClassId) (xa xb : Int32) (z : Int32) (fm : Value) (h0 : Heap) (O0 : Old Z Z.heap.size h0) (Kt : Arv Z h0 t kb .byte (4 : Int32) [(.int (own_lo xa)), (.int (own_hi xa)), (.int (own_lo xb)), (.int (own_hi xb))] (.int (0 : Int32))) (hs : own_S Z z fm) :
    own_NC l Z (⟨"java/lang/StringUTF16", "checkBoundsBeginEnd", "(II[B)V"⟩ : MethodName) jdk_52_method_93_code 3 none ({ frames := 2, cells := 0, slots := 0, locals := 40 } : Room) #[(.int 0), (.int 2), (.ref t)] h0 (fun v h => v = none ∧ h = h0) := by
  refine own_nc (plainFor_of_name pnl4) ?_
  intro p e s m below meth c s₁ S0 X0 hx hby hml hret hnm hown hZ e0 cc
  have N0 := Fr.nil Z.heap.size
  have c0 : Go p e below S0 s₁ (mkF m 0 #[.val (.int 0), .val (.int 2), .val (.ref t)] []) := cc.trans (XT.entry rfl)
  obtain ⟨SC, hz, SF, hfm, SA, SH, SL⟩ := id hs
  have c1 : Go p e below S0 s₁ (mkF m 3 #[.val (.int 0), .val (.int 2), .val (.ref t)] [(.ref t), (.int 2), (.int 0)]) := c0.trans (by
    refine XS.iloadN X0.here hx rfl (hb hby d27_0) rfl ?_
    refine XS.iloadN X0.here hx rfl (hb hby d27_1) rfl ?_
    refine XS.aloadN X0.here hx rfl (hb hby d27_2) rfl rfl ?_
    exact .refl _)
  obtain ⟨v2, T2, L2, X2, ⟨N2', rfl, e2⟩, c2'⟩ := own_stat X0 hx hml hZ hown (gw hw 119 rfl) (gw hw 120 rfl) (gw hw 73 rfl) (gw hw 121 rfl) (by decide) (kc := 0) (ks := 0) (h := h0) (W := 2) (argsL := [(.ref t)]) (rest := [(.int 2), (.int 0)]) (own_pay (W := 2) (rmLen16_2 l Z a0 hw t kb xa xb h0 O0 Kt) hZ (gw hw 121 rfl) (gw hw 73 rfl) (by decide) (by decide)) c1 (lenOf pd_13 rfl) rfl (hb hby d27_3) e0
  have N2 := Fr.app N0 N2'
  have c2 : Go p e below S0 T2 (mkF m 6 #[.val (.int 0), .val (.int 2), .val (.ref t)] [(.int 2), (.int 2), (.int 0)]) := c2'
  obtain ⟨v3, T3, L3, X3, ⟨N3', rfl, e3⟩, c3'⟩ := own_stat X2 hx hml hZ hown (gw hw 122 rfl) (gw hw 123 rfl) (gw hw 11 rfl) (gw hw 124 rfl) (by decide) (kc := 0) (ks := 0) (h := h0) (W := 0) (argsL := [(.int 0), (.int 2), (.int 2)]) (rest := []) (own_pay (W := 0) (rmCBE_0_2_2 l Z a0 hw z fm h0 O0 hs) hZ (gw hw 124 rfl) (gw hw 11 rfl) (by decide) (by decide)) c2 (lenOf pd_15 rfl) rfl (hb hby d27_6) e2
  have N3 := Fr.app N2 N3'
  have c3 : Go p e below S0 T3 (mkF m 9 #[.val (.int 0), .val (.int 2), .val (.ref t)] []) := c3'
  refine ⟨T3, none, _, _, _, X3, by decide, by decide, (fun _ => rfl), N3, ?_, fun fs hr => ?_⟩
  · rw [e3]
    exact ⟨rfl, rfl⟩
  · exact c3.trans (X3.returnOut hx hret (hb hby d27_9) hr)
theorem rmUUn2 (l : Launch) (Z : State) (a0 : Array Value) (hw : own_W Z a0) (t : Addr) (kb : ClassId) (k : Int32) (xa xb : Int32) (z : Int32) (fm : Value) (h0 : Heap) (O0 : Old Z Z.heap.size h0) (Kt : Arv Z h0 t kb .byte (4 : Int32) [(.int (own_lo xa)), (.int (own_hi xa)), (.int (own_lo xb)), (.int (own_hi xb))] (.int (0 : Int32))) (hCxa : own_C xa) (hCxb : own_C xb) (hs : own_S Z z fm) :
    own_NC l Z (⟨"java/lang/StringUTF16", "indexOfCharUnsafe", "([BIII)I"⟩ : MethodName) jdk_52_method_48_code 5 (some .int) ({ frames := 1, cells := 0, slots := 0, locals := 20 } : Room) #[(.ref t), (.int k), (.int 0), (.int 2)] h0 (fun v h => (∃ r : Int32, v = some (.int r) ∧ decide (r < (0 : Int32)) = !own_has [xa, xb] k) ∧ h = h0) := by
  refine own_nc (plainFor_of_name pnl4) ?_
  intro p e s m below meth c s₁ S0 X0 hx hby hml hret hnm hown hZ e0 cc
  have N0 := Fr.nil Z.heap.size
  have c0 : Go p e below S0 s₁ (mkF m 0 #[.val (.ref t), .val (.int k), .val (.int 0), .val (.int 2), .unset] []) := cc.trans (XT.entry rfl)
  obtain ⟨SC, hz, SF, hfm, SA, SH, SL⟩ := id hs
  have c1 : Go p e below S0 s₁ (mkF m 12 #[.val (.ref t), .val (.int k), .val (.int 0), .val (.int 2), .val (.int 0)] [(.int 0), (.ref t)]) := c0.trans (by
    refine XS.iloadN X0.here hx rfl (hb hby d31_0) rfl ?_
    refine XS.istore X0.here hx rfl (hb hby d31_1) rfl (l' := #[.val (.ref t), .val (.int k), .val (.int 0), .val (.int 2), .val (.int 0)]) rfl ?_
    refine XS.iload X0.here hx rfl (hb hby d31_3) rfl ?_
    refine XS.iloadN X0.here hx rfl (hb hby d31_5) rfl ?_
    refine XS.icmpNo X0.here hx rfl (hb hby d31_6) rfl (tlt (by decide : (0 : Int32) < (2 : Int32))).2.1 ?_
    refine XS.aloadN X0.here hx rfl (hb hby d31_9) rfl rfl ?_
    refine XS.iload X0.here hx rfl (hb hby d31_10) rfl ?_
    exact .refl _)
  obtain ⟨v2, T2, L2, X2, ⟨N2', rfl, e2⟩, c2'⟩ := own_stat X0 hx hml hZ hown (gw hw 104 rfl) (gw hw 105 rfl) (gw hw 73 rfl) (gw hw 106 rfl) (by decide) (kc := 0) (ks := 0) (h := h0) (W := 0) (argsL := [(.ref t), (.int 0)]) (rest := []) (own_pay (W := 0) (rmGet l Z a0 hw t kb [(.int (own_lo xa)), (.int (own_hi xa)), (.int (own_lo xb)), (.int (own_hi xb))] 4 0 xa z fm h0 O0 Kt rfl (by decide) (by decide) rfl rfl hCxa hs) hZ (gw hw 106 rfl) (gw hw 73 rfl) (by decide) (by decide)) c1 (lenOf pd_10 rfl) rfl (hb hby d31_12) e0
  have N2 := Fr.app N0 N2'
  have c2 : Go p e below S0 T2 (mkF m 15 #[.val (.ref t), .val (.int k), .val (.int 0), .val (.int 2), .val (.int 0)] [(.int xa)]) := c2'
  have c3 : Go p e below S0 T2 (mkF m 16 #[.val (.ref t), .val (.int k), .val (.int 0), .val (.int 2), .val (.int 0)] [(.int k), (.int xa)]) := c2.trans (by
    refine XS.iloadN X2.here hx rfl (hb hby d31_15) rfl ?_
    exact .refl _)
  by_cases hc4 : xa = k
  · skip
    have c5 : Go p e below S0 T2 (mkF m 21 #[.val (.ref t), .val (.int k), .val (.int 0), .val (.int 2), .val (.int 0)] [(.int 0)]) := c3.trans (by
      refine XS.icmpNo X2.here hx rfl (hb hby d31_16) rfl (teq hc4).2 ?_
      refine XS.iload X2.here hx rfl (hb hby d31_19) rfl ?_
      exact .refl _)
    refine ⟨T2, (some (.int 0)), _, _, _, X2, by decide, by decide, (fun q => by cases q), N2, ?_, fun fs hr => ?_⟩
    · rw [e2]
      exact ⟨⟨_, rfl, by simp [own_has, hc4]⟩, rfl⟩
    · exact c5.trans (retI X2 hx hret (hb hby d31_21) hr)
  · skip
    have c7 : Go p e below S0 T2 (mkF m 12 #[.val (.ref t), .val (.int k), .val (.int 0), .val (.int 2), .val (.int 1)] [(.int 1), (.ref t)]) := c3.trans (by
      refine XS.icmpYes X2.here hx rfl (pc0 := 16) (pc' := 22) rfl (hb hby d31_16) rfl (feq hc4).2 (by decide) (by decide) ?_
      refine XS.iinc X2.here hx rfl (hb hby d31_22) rfl (l' := #[.val (.ref t), .val (.int k), .val (.int 0), .val (.int 2), .val (.int 1)]) rfl ?_
      refine XS.goto X2.here hx rfl (pc0 := 25) (pc' := 3) rfl (hb hby d31_25) (by decide) (by decide) ?_
      refine XS.iload X2.here hx rfl (hb hby d31_3) rfl ?_
      refine XS.iloadN X2.here hx rfl (hb hby d31_5) rfl ?_
      refine XS.icmpNo X2.here hx rfl (hb hby d31_6) rfl (tlt (by decide : (1 : Int32) < (2 : Int32))).2.1 ?_
      refine XS.aloadN X2.here hx rfl (hb hby d31_9) rfl rfl ?_
      refine XS.iload X2.here hx rfl (hb hby d31_10) rfl ?_
      exact .refl _)
    obtain ⟨v8, T8, L8, X8, ⟨N8', rfl, e8⟩, c8'⟩ := own_stat X2 hx hml hZ hown (gw hw 104 rfl) (gw hw 105 rfl) (gw hw 73 rfl) (gw hw 106 rfl) (by decide) (kc := 0) (ks := 0) (h := h0) (W := 0) (argsL := [(.ref t), (.int 1)]) (rest := []) (own_pay (W := 0) (rmGet l Z a0 hw t kb [(.int (own_lo xa)), (.int (own_hi xa)), (.int (own_lo xb)), (.int (own_hi xb))] 4 1 xb z fm h0 O0 Kt rfl (by decide) (by decide) rfl rfl hCxb hs) hZ (gw hw 106 rfl) (gw hw 73 rfl) (by decide) (by decide)) c7 (lenOf pd_10 rfl) rfl (hb hby d31_12) e2
    have N8 := Fr.app N2 N8'
    have c8 : Go p e below S0 T8 (mkF m 15 #[.val (.ref t), .val (.int k), .val (.int 0), .val (.int 2), .val (.int 1)] [(.int xb)]) := c8'
    have c9 : Go p e below S0 T8 (mkF m 16 #[.val (.ref t), .val (.int k), .val (.int 0), .val (.int 2), .val (.int 1)] [(.int k), (.int xb)]) := c8.trans (by
      refine XS.iloadN X8.here hx rfl (hb hby d31_15) rfl ?_
      exact .refl _)
    by_cases hc10 : xb = k
    · skip
      have c11 : Go p e below S0 T8 (mkF m 21 #[.val (.ref t), .val (.int k), .val (.int 0), .val (.int 2), .val (.int 1)] [(.int 1)]) := c9.trans (by
        refine XS.icmpNo X8.here hx rfl (hb hby d31_16) rfl (teq hc10).2 ?_
        refine XS.iload X8.here hx rfl (hb hby d31_19) rfl ?_
        exact .refl _)
      refine ⟨T8, (some (.int 1)), _, _, _, X8, by decide, by decide, (fun q => by cases q), N8, ?_, fun fs hr => ?_⟩
      · rw [e8]
        exact ⟨⟨_, rfl, by simp [own_has, hc4, hc10]⟩, rfl⟩
      · exact c11.trans (retI X8 hx hret (hb hby d31_21) hr)
    · skip
      have c13 : Go p e below S0 T8 (mkF m 29 #[.val (.ref t), .val (.int k), .val (.int 0), .val (.int 2), .val (.int 2)] [(.int (-1))]) := c9.trans (by
        refine XS.icmpYes X8.here hx rfl (pc0 := 16) (pc' := 22) rfl (hb hby d31_16) rfl (feq hc10).2 (by decide) (by decide) ?_
        refine XS.iinc X8.here hx rfl (hb hby d31_22) rfl (l' := #[.val (.ref t), .val (.int k), .val (.int 0), .val (.int 2), .val (.int 2)]) rfl ?_
        refine XS.goto X8.here hx rfl (pc0 := 25) (pc' := 3) rfl (hb hby d31_25) (by decide) (by decide) ?_
        refine XS.iload X8.here hx rfl (hb hby d31_3) rfl ?_
        refine XS.iloadN X8.here hx rfl (hb hby d31_5) rfl ?_
        refine XS.icmpYes X8.here hx rfl (pc0 := 6) (pc' := 28) rfl (hb hby d31_6) rfl (flt (by decide : ¬ ((2 : Int32) < (2 : Int32)))).2.1 (by decide) (by decide) ?_
        refine XS.iconst X8.here hx rfl (hb hby d31_28) ?_
        exact .refl _)
      refine ⟨T8, (some (.int (-1))), _, _, _, X8, by decide, by decide, (fun q => by cases q), N8, ?_, fun fs hr => ?_⟩
      · rw [e8]
        exact ⟨⟨_, rfl, by simp [own_has, hc4, hc10]⟩, rfl⟩
      · exact c13.trans (retI X8 hx hret (hb hby d31_29) hr)
theorem rmUIxC2 (l : Launch) (Z : State) (a0 : Array Value) (hw : own_W Z a0) (t : Addr) (kb : ClassId) (k : Int32) (xa xb : Int32) (z : Int32) (fm : Value) (h0 : Heap) (O0 : Old Z Z.heap.size h0) (Kt : Arv Z h0 t kb .byte (4 : Int32) [(.int (own_lo xa)), (.int (own_hi xa)), (.int (own_lo xb)), (.int (own_hi xb))] (.int (0 : Int32))) (hCxa : own_C xa) (hCxb : own_C xb) (hs : own_S Z z fm) :
    own_NC l Z (⟨"java/lang/StringUTF16", "indexOfChar", "([BIII)I"⟩ : MethodName) jdk_52_method_47_code 4 (some .int) ({ frames := 3, cells := 0, slots := 0, locals := 60 } : Room) #[(.ref t), (.int k), (.int 0), (.int 2)] h0 (fun v h => (∃ r : Int32, v = some (.int r) ∧ decide (r < (0 : Int32)) = !own_has [xa, xb] k) ∧ h = h0) := by
  refine own_nc (plainFor_of_name pnl4) ?_
  intro p e s m below meth c s₁ S0 X0 hx hby hml hret hnm hown hZ e0 cc
  have N0 := Fr.nil Z.heap.size
  have c0 : Go p e below S0 s₁ (mkF m 0 #[.val (.ref t), .val (.int k), .val (.int 0), .val (.int 2)] []) := cc.trans (XT.entry rfl)
  obtain ⟨SC, hz, SF, hfm, SA, SH, SL⟩ := id hs
  have c1 : Go p e below S0 s₁ (mkF m 3 #[.val (.ref t), .val (.int k), .val (.int 0), .val (.int 2)] [(.ref t), (.int 2), (.int 0)]) := c0.trans (by
    refine XS.iloadN X0.here hx rfl (hb hby d26_0) rfl ?_
    refine XS.iloadN X0.here hx rfl (hb hby d26_1) rfl ?_
    refine XS.aloadN X0.here hx rfl (hb hby d26_2) rfl rfl ?_
    exact .refl _)
  obtain ⟨v2, T2, L2, X2, ⟨N2', rfl, e2⟩, c2'⟩ := own_stat X0 hx hml hZ hown (gw hw 116 rfl) (gw hw 117 rfl) (gw hw 73 rfl) (gw hw 118 rfl) (by decide) (kc := 0) (ks := 0) (h := h0) (W := 0) (argsL := [(.int 0), (.int 2), (.ref t)]) (rest := []) (own_pay (W := 0) (rmUCBE2 l Z a0 hw t kb xa xb z fm h0 O0 Kt hs) hZ (gw hw 118 rfl) (gw hw 73 rfl) (by decide) (by decide)) c1 (lenOf pd_16 rfl) rfl (hb hby d26_3) e0
  have N2 := Fr.app N0 N2'
  have c2 : Go p e below S0 T2 (mkF m 6 #[.val (.ref t), .val (.int k), .val (.int 0), .val (.int 2)] []) := c2'
  have c3 : Go p e below S0 T2 (mkF m 10 #[.val (.ref t), .val (.int k), .val (.int 0), .val (.int 2)] [(.int 2), (.int 0), (.int k), (.ref t)]) := c2.trans (by
    refine XS.aloadN X2.here hx rfl (hb hby d26_6) rfl rfl ?_
    refine XS.iloadN X2.here hx rfl (hb hby d26_7) rfl ?_
    refine XS.iloadN X2.here hx rfl (hb hby d26_8) rfl ?_
    refine XS.iloadN X2.here hx rfl (hb hby d26_9) rfl ?_
    exact .refl _)
  obtain ⟨v4, T4, L4, X4, ⟨N4', ⟨r4, rfl, hr4⟩, e4⟩, c4'⟩ := own_stat X2 hx hml hZ hown (gw hw 130 rfl) (gw hw 131 rfl) (gw hw 73 rfl) (gw hw 132 rfl) (by decide) (kc := 0) (ks := 0) (h := h0) (W := 0) (argsL := [(.ref t), (.int k), (.int 0), (.int 2)]) (rest := []) (own_pay (W := 0) (rmUUn2 l Z a0 hw t kb k xa xb z fm h0 O0 Kt hCxa hCxb hs) hZ (gw hw 132 rfl) (gw hw 73 rfl) (by decide) (by decide)) c3 (lenOf pd_4 rfl) rfl (hb hby d26_10) e2
  have N4 := Fr.app N2 N4'
  have c4 : Go p e below S0 T4 (mkF m 13 #[.val (.ref t), .val (.int k), .val (.int 0), .val (.int 2)] [(.int r4)]) := c4'
  refine ⟨T4, (some (.int r4)), _, _, _, X4, by decide, by decide, (fun q => by cases q), N4, ?_, fun fs hr => ?_⟩
  · rw [e4]
    exact ⟨⟨_, rfl, hr4⟩, rfl⟩
  · exact c4.trans (retI X4 hx hret (hb hby d26_13) hr)
theorem rmUIx2 (l : Launch) (Z : State) (a0 : Array Value) (hw : own_W Z a0) (t : Addr) (kb : ClassId) (k : Int32) (xa xb : Int32) (z : Int32) (fm : Value) (h0 : Heap) (O0 : Old Z Z.heap.size h0) (Kt : Arv Z h0 t kb .byte (4 : Int32) [(.int (own_lo xa)), (.int (own_hi xa)), (.int (own_lo xb)), (.int (own_hi xb))] (.int (0 : Int32))) (hCxa : own_C xa) (hCxb : own_C xb) (hs : own_S Z z fm) (hk : own_B k) :
    own_NC l Z (⟨"java/lang/StringUTF16", "indexOf", "([BIII)I"⟩ : MethodName) jdk_52_method_40_code 4 (some .int) ({ frames := 4, cells := 0, slots := 0, locals := 80 } : Room) #[(.ref t), (.int k), (.int 0), (.int 2)] h0 (fun v h => (∃ r : Int32, v = some (.int r) ∧ decide (r < (0 : Int32)) = !own_has [xa, xb] k) ∧ h = h0) := by
  refine own_nc (plainFor_of_name pnl4) ?_
  intro p e s m below meth c s₁ S0 X0 hx hby hml hret hnm hown hZ e0 cc
  have N0 := Fr.nil Z.heap.size
  have c0 : Go p e below S0 s₁ (mkF m 0 #[.val (.ref t), .val (.int k), .val (.int 0), .val (.int 2)] []) := cc.trans (XT.entry rfl)
  obtain ⟨SC, hz, SF, hfm, SA, SH, SL⟩ := id hs
  have c1 : Go p e below S0 s₁ (mkF m 2 #[.val (.ref t), .val (.int k), .val (.int 0), .val (.int 2)] [(.int 0), (.int 0)]) := c0.trans (by
    refine XS.iloadN X0.here hx rfl (hb hby d25_0) rfl ?_
    refine XS.iconst X0.here hx rfl (hb hby d25_1) ?_
    exact .refl _)
  obtain ⟨v2, T2, L2, X2, ⟨N2', rfl, e2⟩, c2'⟩ := own_stat X0 hx hml hZ hown (gw hw 110 rfl) (gw hw 68 rfl) (gw hw 2 rfl) (gw hw 69 rfl) (by decide) (kc := 0) (ks := 0) (h := h0) (W := 0) (argsL := [(.int 0), (.int 0)]) (rest := []) (own_pay (W := 0) (rmMax_0_0 l Z a0 hw h0 O0) hZ (gw hw 69 rfl) (gw hw 2 rfl) (by decide) (by decide)) c1 (lenOf pd_1 rfl) rfl (hb hby d25_2) e0
  have N2 := Fr.app N0 N2'
  have c2 : Go p e below S0 T2 (mkF m 5 #[.val (.ref t), .val (.int k), .val (.int 0), .val (.int 2)] [(.int 0)]) := c2'
  obtain ⟨cl3, Ar3, q3, S3, M3, H3, G3⟩ := id Kt
  have c4 : Go p e below S0 T2 (mkF m 11 #[.val (.ref t), .val (.int k), .val (.int 0), .val (.int 2)] [(.int 2), (.int 2)]) := c2.trans (by
    refine XS.istoreN X2.here hx rfl (hb hby d25_5) rfl (l' := #[.val (.ref t), .val (.int k), .val (.int 0), .val (.int 2)]) rfl ?_
    refine XS.iloadN X2.here hx rfl (hb hby d25_6) rfl ?_
    refine XS.aloadN X2.here hx rfl (hb hby d25_7) rfl rfl ?_
    refine X2.arraylength hx (by rw [show T2.heap = h0 from e2]; exact Ar3.1) (State.isArrayOf_alike (hZ).alike Ar3.2.1) (g := (mkF m 8 #[.val (.ref t), .val (.int k), .val (.int 0), .val (.int 2)] [(.ref t), (.int 2)])) rfl rfl (hb hby d25_8) _ ?_
    rw [len_of S3 M3]
    refine XS.iconst X2.here hx rfl (hb hby d25_9) ?_
    refine XS.ishr X2.here hx rfl (hb hby d25_10) rfl ?_
    exact .refl _)
  obtain ⟨v5, T5, L5, X5, ⟨N5', rfl, e5⟩, c5'⟩ := own_stat X2 hx hml hZ hown (gw hw 111 rfl) (gw hw 1 rfl) (gw hw 2 rfl) (gw hw 3 rfl) (by decide) (kc := 0) (ks := 0) (h := h0) (W := 0) (argsL := [(.int 2), (.int 2)]) (rest := []) (own_pay (W := 0) (rmMin_2_2 l Z a0 hw h0 O0) hZ (gw hw 3 rfl) (gw hw 2 rfl) (by decide) (by decide)) c4 (lenOf pd_1 rfl) rfl (hb hby d25_11) e2
  have N5 := Fr.app N2 N5'
  have c5 : Go p e below S0 T5 (mkF m 14 #[.val (.ref t), .val (.int k), .val (.int 0), .val (.int 2)] [(.int 2)]) := c5'
  have c7 : Go p e below S0 T5 (mkF m 32 #[.val (.ref t), .val (.int k), .val (.int 0), .val (.int 2)] [(.int 2), (.int 0), (.int k), (.ref t)]) := c5.trans (by
    refine XS.istoreN X5.here hx rfl (hb hby d25_14) rfl (l' := #[.val (.ref t), .val (.int k), .val (.int 0), .val (.int 2)]) rfl ?_
    refine XS.iloadN X5.here hx rfl (hb hby d25_15) rfl ?_
    refine XS.iloadN X5.here hx rfl (hb hby d25_16) rfl ?_
    refine XS.icmpYes X5.here hx rfl (pc0 := 17) (pc' := 22) rfl (hb hby d25_17) rfl (tlt (by decide : (0 : Int32) < (2 : Int32))).1 (by decide) (by decide) ?_
    refine XS.iloadN X5.here hx rfl (hb hby d25_22) rfl ?_
    refine X5.ldcInt hx hown (mvT hZ (gw hw 112 rfl)) (g := (mkF m 23 #[.val (.ref t), .val (.int k), .val (.int 0), .val (.int 2)] [(.int k)])) rfl (hb hby d25_23) _ ?_
    refine XS.icmpNo X5.here hx rfl (hb hby d25_25) rfl (tlt (own_k16 hk)).2.1 ?_
    refine XS.aloadN X5.here hx rfl (hb hby d25_28) rfl rfl ?_
    refine XS.iloadN X5.here hx rfl (hb hby d25_29) rfl ?_
    show Steps p.tables e below (T5.setTop (mkF m 30 #[.val (.ref t), .val (.int k), .val (.int 0), .val (.int 2)] [(.int k), (.ref t)])) _
    refine XS.iloadN X5.here hx rfl (hb hby d25_30) rfl ?_
    refine XS.iloadN X5.here hx rfl (hb hby d25_31) rfl ?_
    exact .refl _)
  obtain ⟨v8, T8, L8, X8, ⟨N8', ⟨r8, rfl, hr8⟩, e8⟩, c8'⟩ := own_stat X5 hx hml hZ hown (gw hw 113 rfl) (gw hw 114 rfl) (gw hw 73 rfl) (gw hw 115 rfl) (by decide) (kc := 0) (ks := 0) (h := h0) (W := 0) (argsL := [(.ref t), (.int k), (.int 0), (.int 2)]) (rest := []) (own_pay (W := 0) (rmUIxC2 l Z a0 hw t kb k xa xb z fm h0 O0 Kt hCxa hCxb hs) hZ (gw hw 115 rfl) (gw hw 73 rfl) (by decide) (by decide)) c7 (lenOf pd_4 rfl) rfl (hb hby d25_32) e5
  have N8 := Fr.app N5 N8'
  have c8 : Go p e below S0 T8 (mkF m 35 #[.val (.ref t), .val (.int k), .val (.int 0), .val (.int 2)] [(.int r8)]) := c8'
  refine ⟨T8, (some (.int r8)), _, _, _, X8, by decide, by decide, (fun q => by cases q), N8, ?_, fun fs hr => ?_⟩
  · rw [e8]
    exact ⟨⟨_, rfl, hr8⟩, rfl⟩
  · exact c8.trans (retI X8 hx hret (hb hby d25_35) hr)
theorem rmLenU2 (l : Launch) (Z : State) (a0 : Array Value) (hw : own_W Z a0) (x t : Addr) (kb : ClassId) (xa xb : Int32) (z : Int32) (fm : Value) (h0 : Heap) (O0 : Old Z Z.heap.size h0) (E : Exa Z h0 x "java/lang/String") (V : Fld Z h0 x "java/lang/String" "value" "[B" (.ref t)) (Cd : Fld Z h0 x "java/lang/String" "coder" "B" (.int (1 : Int32))) (Kt : Arv Z h0 t kb .byte (4 : Int32) [(.int (own_lo xa)), (.int (own_hi xa)), (.int (own_lo xb)), (.int (own_hi xb))] (.int (0 : Int32))) (hs : own_S Z z fm) :
    own_NC l Z (⟨"java/lang/String", "length", "()I"⟩ : MethodName) jdk_42_method_54_code 1 (some .int) ({ frames := 1, cells := 0, slots := 0, locals := 20 } : Room) #[(.ref x)] h0 (fun v h => v = some (.int (2 : Int32)) ∧ h = h0) := by
  refine own_nc (plainFor_of_name pnl2) ?_
  intro p e s m below meth c s₁ S0 X0 hx hby hml hret hnm hown hZ e0 cc
  have N0 := Fr.nil Z.heap.size
  have c0 : Go p e below S0 s₁ (mkF m 0 #[.val (.ref x)] []) := cc.trans (XT.entry rfl)
  obtain ⟨SC, hz, SF, hfm, SA, SH, SL⟩ := id hs
  obtain ⟨T1, X1, e1, st1⟩ := getF X0 hx hZ hown (host := "") (Or.inl (gw hw 28 rfl)) Via.refl e0 V (g := (mkF m 1 #[.val (.ref x)] [(.ref x)])) rfl rfl (hb hby d10_1)
  obtain ⟨cl2, Ar2, q2, S2, M2, H2, G2⟩ := id Kt
  have c3 : Go p e below S0 T1 (mkF m 6 #[.val (.ref x)] [(.ref x), (.int 4)]) := c0.trans (by
    refine XS.aloadN X0.here hx rfl (hb hby d10_0) rfl rfl ?_
    refine st1 _ ?_
    refine X1.arraylength hx (by rw [show T1.heap = h0 from e1]; exact Ar2.1) (State.isArrayOf_alike (hZ).alike Ar2.2.1) (g := (mkF m 4 #[.val (.ref x)] [(.ref t)])) rfl rfl (hb hby d10_4) _ ?_
    rw [len_of S2 M2]
    refine XS.aloadN X1.here hx rfl (hb hby d10_5) rfl rfl ?_
    exact .refl _)
  obtain ⟨v4, T4, L4, X4, ⟨N4', rfl, e4⟩, c4'⟩ := own_virt X1 hx hml hZ hown (gw hw 55 rfl) (gw hw 56 rfl) (gw hw 58 rfl) (gw hw 57 rfl) (gw hw 58 rfl) (by decide) (kc := 0) (ks := 0) (h := h0) (W := 1) (b := x) (argsL := []) (rest := [(.int 4)]) (own_pay (W := 1) (rmCodU l Z a0 hw x z fm h0 O0 Cd hs) hZ (gw hw 59 rfl) (gw hw 11 rfl) (by decide) (by decide)) E c3 (lenOf pd_17 rfl) rfl (hb hby d10_6) e1
  have N4 := Fr.app N0 N4'
  have c4 : Go p e below S0 T4 (mkF m 9 #[.val (.ref x)] [(.int 1), (.int 4)]) := c4'
  have c5 : Go p e below S0 T4 (mkF m 10 #[.val (.ref x)] [(.int 2)]) := c4.trans (by
    refine XS.ishr X4.here hx rfl (hb hby d10_9) rfl ?_
    exact .refl _)
  refine ⟨T4, (some (.int 2)), _, _, _, X4, by decide, by decide, (fun q => by cases q), N4, ?_, fun fs hr => ?_⟩
  · rw [e4]
    exact ⟨rfl, rfl⟩
  · exact c5.trans (retI X4 hx hret (hb hby d10_10) hr)
theorem rmIxIIU2 (l : Launch) (Z : State) (a0 : Array Value) (hw : own_W Z a0) (x t : Addr) (kb : ClassId) (k : Int32) (xa xb : Int32) (z : Int32) (fm : Value) (h0 : Heap) (O0 : Old Z Z.heap.size h0) (E : Exa Z h0 x "java/lang/String") (V : Fld Z h0 x "java/lang/String" "value" "[B" (.ref t)) (Cd : Fld Z h0 x "java/lang/String" "coder" "B" (.int (1 : Int32))) (Kt : Arv Z h0 t kb .byte (4 : Int32) [(.int (own_lo xa)), (.int (own_hi xa)), (.int (own_lo xb)), (.int (own_hi xb))] (.int (0 : Int32))) (hk : own_B k) (hCxa : own_C xa) (hCxb : own_C xb) (hs : own_S Z z fm) :
    own_NC l Z (⟨"java/lang/String", "indexOf", "(II)I"⟩ : MethodName) jdk_42_method_80_code 3 (some .int) ({ frames := 5, cells := 0, slots := 0, locals := 110 } : Room) #[(.ref x), (.int k), (.int 0)] h0 (fun v h => (∃ r : Int32, v = some (.int r) ∧ decide (r < (0 : Int32)) = !own_has [xa, xb] k) ∧ h = h0) := by
  refine own_nc (plainFor_of_name pnl2) ?_
  intro p e s m below meth c s₁ S0 X0 hx hby hml hret hnm hown hZ e0 cc
  have N0 := Fr.nil Z.heap.size
  have c0 : Go p e below S0 s₁ (mkF m 0 #[.val (.ref x), .val (.int k), .val (.int 0)] []) := cc.trans (XT.entry rfl)
  obtain ⟨SC, hz, SF, hfm, SA, SH, SL⟩ := id hs
  have c1 : Go p e below S0 s₁ (mkF m 1 #[.val (.ref x), .val (.int k), .val (.int 0)] [(.ref x)]) := c0.trans (by
    refine XS.aloadN X0.here hx rfl (hb hby d8_0) rfl rfl ?_
    exact .refl _)
  obtain ⟨v2, T2, L2, X2, ⟨N2', rfl, e2⟩, c2'⟩ := own_virt X0 hx hml hZ hown (gw hw 44 rfl) (gw hw 45 rfl) (gw hw 47 rfl) (gw hw 46 rfl) (gw hw 47 rfl) (by decide) (kc := 0) (ks := 0) (h := h0) (W := 0) (b := x) (argsL := []) (rest := []) (own_pay (W := 0) (rmIsU l Z a0 hw x z fm h0 O0 Cd hs) hZ (gw hw 48 rfl) (gw hw 11 rfl) (by decide) (by decide)) E c1 (lenOf pd_2 rfl) rfl (hb hby d8_1) e0
  have N2 := Fr.app N0 N2'
  have c2 : Go p e below S0 T2 (mkF m 4 #[.val (.ref x), .val (.int k), .val (.int 0)] [(.int 0)]) := c2'
  obtain ⟨T3, X3, e3, st3⟩ := getF X2 hx hZ hown (host := "") (Or.inl (gw hw 28 rfl)) Via.refl e2 V (g := (mkF m 24 #[.val (.ref x), .val (.int k), .val (.int 0)] [(.ref x)])) rfl rfl (hb hby d8_24)
  have c4 : Go p e below S0 T3 (mkF m 30 #[.val (.ref x), .val (.int k), .val (.int 0)] [(.ref x), (.int 0), (.int k), (.ref t)]) := c2.trans (by
    refine XS.ifYes X2.here hx rfl (pc0 := 4) (pc' := 23) rfl (hb hby d8_4) rfl ((if0 _ _).trans (teq (by decide : (0 : Int32) = (0 : Int32))).1) (by decide) (by decide) ?_
    refine XS.aloadN X2.here hx rfl (hb hby d8_23) rfl rfl ?_
    refine st3 _ ?_
    refine XS.iloadN X3.here hx rfl (hb hby d8_27) rfl ?_
    refine XS.iloadN X3.here hx rfl (hb hby d8_28) rfl ?_
    refine XS.aloadN X3.here hx rfl (hb hby d8_29) rfl rfl ?_
    exact .refl _)
  obtain ⟨v5, T5, L5, X5, ⟨N5', rfl, e5⟩, c5'⟩ := own_virt X3 hx hml hZ hown (gw hw 50 rfl) (gw hw 51 rfl) (gw hw 53 rfl) (gw hw 52 rfl) (gw hw 53 rfl) (by decide) (kc := 0) (ks := 0) (h := h0) (W := 3) (b := x) (argsL := []) (rest := [(.int 0), (.int k), (.ref t)]) (own_pay (W := 3) (rmLenU2 l Z a0 hw x t kb xa xb z fm h0 O0 E V Cd Kt hs) hZ (gw hw 54 rfl) (gw hw 11 rfl) (by decide) (by decide)) E c4 (lenOf pd_3 rfl) rfl (hb hby d8_30) e3
  have N5 := Fr.app N2 N5'
  have c5 : Go p e below S0 T5 (mkF m 33 #[.val (.ref x), .val (.int k), .val (.int 0)] [(.int 2), (.int 0), (.int k), (.ref t)]) := c5'
  obtain ⟨v6, T6, L6, X6, ⟨N6', ⟨r6, rfl, hr6⟩, e6⟩, c6'⟩ := own_stat X5 hx hml hZ hown (gw hw 107 rfl) (gw hw 108 rfl) (gw hw 73 rfl) (gw hw 109 rfl) (by decide) (kc := 0) (ks := 0) (h := h0) (W := 0) (argsL := [(.ref t), (.int k), (.int 0), (.int 2)]) (rest := []) (own_pay (W := 0) (rmUIx2 l Z a0 hw t kb k xa xb z fm h0 O0 Kt hCxa hCxb hs hk) hZ (gw hw 109 rfl) (gw hw 73 rfl) (by decide) (by decide)) c5 (lenOf pd_4 rfl) rfl (hb hby d8_33) e5
  have N6 := Fr.app N5 N6'
  have c6 : Go p e below S0 T6 (mkF m 36 #[.val (.ref x), .val (.int k), .val (.int 0)] [(.int r6)]) := c6'
  refine ⟨T6, (some (.int r6)), _, _, _, X6, by decide, by decide, (fun q => by cases q), N6, ?_, fun fs hr => ?_⟩
  · rw [e6]
    exact ⟨⟨_, rfl, hr6⟩, rfl⟩
  · exact c6.trans (retI X6 hx hret (hb hby d8_36) hr)
theorem rmIxU2 (l : Launch) (Z : State) (a0 : Array Value) (hw : own_W Z a0) (x t : Addr) (kb : ClassId) (k : Int32) (xa xb : Int32) (z : Int32) (fm : Value) (h0 : Heap) (O0 : Old Z Z.heap.size h0) (E : Exa Z h0 x "java/lang/String") (V : Fld Z h0 x "java/lang/String" "value" "[B" (.ref t)) (Cd : Fld Z h0 x "java/lang/String" "coder" "B" (.int (1 : Int32))) (Kt : Arv Z h0 t kb .byte (4 : Int32) [(.int (own_lo xa)), (.int (own_hi xa)), (.int (own_lo xb)), (.int (own_hi xb))] (.int (0 : Int32))) (hk : own_B k) (hCxa : own_C xa) (hCxb : own_C xb) (hs : own_S Z z fm) :
    own_NC l Z (⟨"java/lang/String", "indexOf", "(I)I"⟩ : MethodName) jdk_42_method_79_code 2 (some .int) ({ frames := 6, cells := 0, slots := 0, locals := 130 } : Room) #[(.ref x), (.int k)] h0 (fun v h => (∃ r : Int32, v = some (.int r) ∧ decide (r < (0 : Int32)) = !own_has [xa, xb] k) ∧ h = h0) := by
  refine own_nc (plainFor_of_name pnl2) ?_
  intro p e s m below meth c s₁ S0 X0 hx hby hml hret hnm hown hZ e0 cc
  have N0 := Fr.nil Z.heap.size
  have c0 : Go p e below S0 s₁ (mkF m 0 #[.val (.ref x), .val (.int k)] []) := cc.trans (XT.entry rfl)
  obtain ⟨SC, hz, SF, hfm, SA, SH, SL⟩ := id hs
  have c1 : Go p e below S0 s₁ (mkF m 3 #[.val (.ref x), .val (.int k)] [(.int 0), (.int k), (.ref x)]) := c0.trans (by
    refine XS.aloadN X0.here hx rfl (hb hby d7_0) rfl rfl ?_
    refine XS.iloadN X0.here hx rfl (hb hby d7_1) rfl ?_
    refine XS.iconst X0.here hx rfl (hb hby d7_2) ?_
    exact .refl _)
  obtain ⟨v2, T2, L2, X2, ⟨N2', ⟨r2, rfl, hr2⟩, e2⟩, c2'⟩ := own_virt X0 hx hml hZ hown (gw hw 39 rfl) (gw hw 40 rfl) (gw hw 42 rfl) (gw hw 41 rfl) (gw hw 42 rfl) (by decide) (kc := 0) (ks := 0) (h := h0) (W := 0) (b := x) (argsL := [(.int k), (.int 0)]) (rest := []) (own_pay (W := 0) (rmIxIIU2 l Z a0 hw x t kb k xa xb z fm h0 O0 E V Cd Kt hk hCxa hCxb hs) hZ (gw hw 43 rfl) (gw hw 11 rfl) (by decide) (by decide)) E c1 (lenOf pd_1 rfl) rfl (hb hby d7_3) e0
  have N2 := Fr.app N0 N2'
  have c2 : Go p e below S0 T2 (mkF m 6 #[.val (.ref x), .val (.int k)] [(.int r2)]) := c2'
  refine ⟨T2, (some (.int r2)), _, _, _, X2, by decide, by decide, (fun q => by cases q), N2, ?_, fun fs hr => ?_⟩
  · rw [e2]
    exact ⟨⟨_, rfl, hr2⟩, rfl⟩
  · exact c2.trans (retI X2 hx hret (hb hby d7_6) hr)
theorem rmFitU2 (l : Launch) (Z : State) (a0 : Array Value) (hw : own_W Z a0) (x t : Addr) (kb : ClassId) (xa xb : Int32) (z : Int32) (fm : Value) (h0 : Heap) (O0 : Old Z Z.heap.size h0) (E : Exa Z h0 x "java/lang/String") (V : Fld Z h0 x "java/lang/String" "value" "[B" (.ref t)) (Cd : Fld Z h0 x "java/lang/String" "coder" "B" (.int (1 : Int32))) (Kt : Arv Z h0 t kb .byte (4 : Int32) [(.int (own_lo xa)), (.int (own_hi xa)), (.int (own_lo xb)), (.int (own_hi xb))] (.int (0 : Int32))) (hCxa : own_C xa) (hCxb : own_C xb) (hs : own_S Z z fm) :
    own_NC l Z (⟨"com/example/caseward/caseward/core/Right", "fitsField", "(Ljava/lang/String;)Z"⟩ : MethodName) prog_47_method_5_code 1 (some .boolean) ({ frames := 7, cells := 0, slots := 0, locals := 150 } : Room) #[(.ref x)] h0 (fun v h => v = some (.int (own_i (!own_has [xa, xb] (44 : Int32) && !own_has [xa, xb] (10 : Int32) && !own_has [xa, xb] (13 : Int32)))) ∧ h = h0) := by
  refine own_nc (plainFor_of_name pnl3) ?_
  intro p e s m below meth c s₁ S0 X0 hx hby hml hret hnm hown hZ e0 cc
  have N0 := Fr.nil Z.heap.size
  have c0 : Go p e below S0 s₁ (mkF m 0 #[.val (.ref x)] []) := cc.trans (XT.entry rfl)
  obtain ⟨SC, hz, SF, hfm, SA, SH, SL⟩ := id hs
  have c1 : Go p e below S0 s₁ (mkF m 3 #[.val (.ref x)] [(.int 44), (.ref x)]) := c0.trans (by
    refine XS.aloadN X0.here hx rfl (hb hby d6_0) rfl rfl ?_
    refine XS.bipush X0.here hx rfl (hb hby d6_1) ?_
    exact .refl _)
  obtain ⟨v2, T2, L2, X2, ⟨N2', ⟨r2, rfl, hr2⟩, e2⟩, c2'⟩ := own_virt X0 hx hml hZ hown (gw hw 34 rfl) (gw hw 35 rfl) (gw hw 37 rfl) (gw hw 36 rfl) (gw hw 37 rfl) (by decide) (kc := 0) (ks := 0) (h := h0) (W := 0) (b := x) (argsL := [(.int 44)]) (rest := []) (own_pay (W := 0) (rmIxU2 l Z a0 hw x t kb (44 : Int32) xa xb z fm h0 O0 E V Cd Kt (own_Bl 44 (by decide)) hCxa hCxb hs) hZ (gw hw 38 rfl) (gw hw 11 rfl) (by decide) (by decide)) E c1 (lenOf pd_5 rfl) rfl (hb hby d6_3) e0
  have N2 := Fr.app N0 N2'
  have c2 : Go p e below S0 T2 (mkF m 6 #[.val (.ref x)] [(.int r2)]) := c2'
  by_cases hc3 : r2 < (0 : Int32)
  · skip
    have c4 : Go p e below S0 T2 (mkF m 12 #[.val (.ref x)] [(.int 10), (.ref x)]) := c2.trans (by
      refine XS.ifNo X2.here hx rfl (hb hby d6_6) rfl ((if0 _ _).trans (tlt hc3).2.1) ?_
      refine XS.aloadN X2.here hx rfl (hb hby d6_9) rfl rfl ?_
      refine XS.bipush X2.here hx rfl (hb hby d6_10) ?_
      exact .refl _)
    obtain ⟨v5, T5, L5, X5, ⟨N5', ⟨r5, rfl, hr5⟩, e5⟩, c5'⟩ := own_virt X2 hx hml hZ hown (gw hw 34 rfl) (gw hw 35 rfl) (gw hw 37 rfl) (gw hw 36 rfl) (gw hw 37 rfl) (by decide) (kc := 0) (ks := 0) (h := h0) (W := 0) (b := x) (argsL := [(.int 10)]) (rest := []) (own_pay (W := 0) (rmIxU2 l Z a0 hw x t kb (10 : Int32) xa xb z fm h0 O0 E V Cd Kt (own_Bl 10 (by decide)) hCxa hCxb hs) hZ (gw hw 38 rfl) (gw hw 11 rfl) (by decide) (by decide)) E c4 (lenOf pd_5 rfl) rfl (hb hby d6_12) e2
    have N5 := Fr.app N2 N5'
    have c5 : Go p e below S0 T5 (mkF m 15 #[.val (.ref x)] [(.int r5)]) := c5'
    by_cases hc6 : r5 < (0 : Int32)
    · skip
      have c7 : Go p e below S0 T5 (mkF m 21 #[.val (.ref x)] [(.int 13), (.ref x)]) := c5.trans (by
        refine XS.ifNo X5.here hx rfl (hb hby d6_15) rfl ((if0 _ _).trans (tlt hc6).2.1) ?_
        refine XS.aloadN X5.here hx rfl (hb hby d6_18) rfl rfl ?_
        refine XS.bipush X5.here hx rfl (hb hby d6_19) ?_
        exact .refl _)
      obtain ⟨v8, T8, L8, X8, ⟨N8', ⟨r8, rfl, hr8⟩, e8⟩, c8'⟩ := own_virt X5 hx hml hZ hown (gw hw 34 rfl) (gw hw 35 rfl) (gw hw 37 rfl) (gw hw 36 rfl) (gw hw 37 rfl) (by decide) (kc := 0) (ks := 0) (h := h0) (W := 0) (b := x) (argsL := [(.int 13)]) (rest := []) (own_pay (W := 0) (rmIxU2 l Z a0 hw x t kb (13 : Int32) xa xb z fm h0 O0 E V Cd Kt (own_Bl 13 (by decide)) hCxa hCxb hs) hZ (gw hw 38 rfl) (gw hw 11 rfl) (by decide) (by decide)) E c7 (lenOf pd_5 rfl) rfl (hb hby d6_21) e5
      have N8 := Fr.app N5 N8'
      have c8 : Go p e below S0 T8 (mkF m 24 #[.val (.ref x)] [(.int r8)]) := c8'
      by_cases hc9 : r8 < (0 : Int32)
      · skip
        have c10 : Go p e below S0 T8 (mkF m 32 #[.val (.ref x)] [(.int 1)]) := c8.trans (by
          refine XS.ifNo X8.here hx rfl (hb hby d6_24) rfl ((if0 _ _).trans (tlt hc9).2.1) ?_
          refine XS.iconst X8.here hx rfl (hb hby d6_27) ?_
          refine XS.goto X8.here hx rfl (pc0 := 28) (pc' := 32) rfl (hb hby d6_28) (by decide) (by decide) ?_
          exact .refl _)
        refine ⟨T8, (some (.int (1 : Int32))), _, _, _, X8, by decide, by decide, (fun q => by cases q), N8, ?_, fun fs hr => ?_⟩
        · rw [e8]
          have q2' := own_rdec hr2
          have q5' := own_rdec hr5
          have q8' := own_rdec hr8
          exact ⟨by simp [own_i, (q2').mpr hc3, (q5').mpr hc6, (q8').mpr hc9], rfl⟩
        · exact c10.trans (retN X8 hx (t := .boolean) hret (by simp) (hb hby d6_32) hr)
      · skip
        have c12 : Go p e below S0 T8 (mkF m 32 #[.val (.ref x)] [(.int 0)]) := c8.trans (by
          refine XS.ifYes X8.here hx rfl (pc0 := 24) (pc' := 31) rfl (hb hby d6_24) rfl ((if0 _ _).trans (flt hc9).2.1) (by decide) (by decide) ?_
          refine XS.iconst X8.here hx rfl (hb hby d6_31) ?_
          exact .refl _)
        refine ⟨T8, (some (.int (0 : Int32))), _, _, _, X8, by decide, by decide, (fun q => by cases q), N8, ?_, fun fs hr => ?_⟩
        · rw [e8]
          have q2' := own_rdec hr2
          have q5' := own_rdec hr5
          have q8' := own_rdec hr8
          exact ⟨by simp [own_i, (q2').mpr hc3, (q5').mpr hc6, (show _ = false from Bool.eq_false_iff.mpr (fun z => hc9 ((q8').mp z)))], rfl⟩
        · exact c12.trans (retN X8 hx (t := .boolean) hret (by simp) (hb hby d6_32) hr)
    · skip
      have c14 : Go p e below S0 T5 (mkF m 32 #[.val (.ref x)] [(.int 0)]) := c5.trans (by
        refine XS.ifYes X5.here hx rfl (pc0 := 15) (pc' := 31) rfl (hb hby d6_15) rfl ((if0 _ _).trans (flt hc6).2.1) (by decide) (by decide) ?_
        refine XS.iconst X5.here hx rfl (hb hby d6_31) ?_
        exact .refl _)
      refine ⟨T5, (some (.int (0 : Int32))), _, _, _, X5, by decide, by decide, (fun q => by cases q), N5, ?_, fun fs hr => ?_⟩
      · rw [e5]
        have q2' := own_rdec hr2
        have q5' := own_rdec hr5
        exact ⟨by simp [own_i, (q2').mpr hc3, (show _ = false from Bool.eq_false_iff.mpr (fun z => hc6 ((q5').mp z)))], rfl⟩
      · exact c14.trans (retN X5 hx (t := .boolean) hret (by simp) (hb hby d6_32) hr)
  · skip
    have c16 : Go p e below S0 T2 (mkF m 32 #[.val (.ref x)] [(.int 0)]) := c2.trans (by
      refine XS.ifYes X2.here hx rfl (pc0 := 6) (pc' := 31) rfl (hb hby d6_6) rfl ((if0 _ _).trans (flt hc3).2.1) (by decide) (by decide) ?_
      refine XS.iconst X2.here hx rfl (hb hby d6_31) ?_
      exact .refl _)
    refine ⟨T2, (some (.int (0 : Int32))), _, _, _, X2, by decide, by decide, (fun q => by cases q), N2, ?_, fun fs hr => ?_⟩
    · rw [e2]
      have q2' := own_rdec hr2
      exact ⟨by simp [own_i, (show _ = false from Bool.eq_false_iff.mpr (fun z => hc3 ((q2').mp z)))], rfl⟩
    · exact c16.trans (retN X2 hx (t := .boolean) hret (by simp) (hb hby d6_32) hr)
theorem rmNBL3 (l : Launch) (Z : State) (a0 : Array Value) (hw : own_W Z a0)  (h0 : Heap) (O0 : Old Z Z.heap.size h0)  :
    own_NC l Z (⟨"java/lang/StringUTF16", "newBytesLength", "(I)I"⟩ : MethodName) jdk_52_method_3_code 1 (some .int) ({ frames := 0, cells := 0, slots := 0, locals := 0 } : Room) #[(.int 3)] h0 (fun v h => v = some (.int (6 : Int32)) ∧ h = h0) := by
  refine own_nc (plainFor_of_name pnl4) ?_
  intro p e s m below meth c s₁ S0 X0 hx hby hml hret hnm hown hZ e0 cc
  have N0 := Fr.nil Z.heap.size
  have c0 : Go p e below S0 s₁ (mkF m 0 #[.val (.int 3)] []) := cc.trans (XT.entry rfl)
  have c2 : Go p e below S0 s₁ (mkF m 58 #[.val (.int 3)] [(.int 6)]) := c0.trans (by
    refine XS.iloadN X0.here hx rfl (hb hby d22_0) rfl ?_
    refine XS.ifYes X0.here hx rfl (pc0 := 1) (pc' := 12) rfl (hb hby d22_1) rfl ((if0 _ _).trans (flt (by decide : ¬ ((3 : Int32) < (0 : Int32)))).2.1) (by decide) (by decide) ?_
    refine XS.iloadN X0.here hx rfl (hb hby d22_12) rfl ?_
    refine X0.ldcInt hx hown (mvT hZ (gw hw 97 rfl)) (g := (mkF m 13 #[.val (.int 3)] [(.int 3)])) rfl (hb hby d22_13) _ ?_
    refine XS.icmpYes X0.here hx rfl (pc0 := 15) (pc' := 55) rfl (hb hby d22_15) rfl (tlt (by decide : (3 : Int32) < (1073741823 : Int32))).1 (by decide) (by decide) ?_
    refine XS.iloadN X0.here hx rfl (hb hby d22_55) rfl ?_
    refine XS.iconst X0.here hx rfl (hb hby d22_56) ?_
    refine XS.ishl X0.here hx rfl (hb hby d22_57) rfl ?_
    exact .refl _)
  refine ⟨s₁, (some (.int 6)), _, _, _, X0, by decide, by decide, (fun q => by cases q), N0, ?_, fun fs hr => ?_⟩
  · rw [e0]
    exact ⟨rfl, rfl⟩
  · exact c2.trans (retI X0 hx hret (hb hby d22_58) hr)
theorem rmNBF3 (l : Launch) (Z : State) (a0 : Array Value) (hw : own_W Z a0)  (h0 : Heap) (O0 : Old Z Z.heap.size h0)  :
    own_NC l Z (⟨"java/lang/StringUTF16", "newBytesFor", "(I)[B"⟩ : MethodName) jdk_52_method_2_code 1 (some (.array .byte)) ({ frames := 1, cells := 1, slots := 6, locals := 20 } : Room) #[(.int 3)] h0 (fun v h => ∃ (u : Addr) (ku : ClassId), v = some (.ref u) ∧ Keep h0 h [] ∧ h0.size ≤ u ∧ Z.heap.size ≤ u ∧ Arv Z h u ku .byte (6 : Int32) [(.int 0), (.int 0), (.int 0), (.int 0), (.int 0), (.int 0)] (.int (0 : Int32))) := by
  refine own_nc (plainFor_of_name pnl4) ?_
  intro p e s m below meth c s₁ S0 X0 hx hby hml hret hnm hown hZ e0 cc
  have N0 := Fr.nil Z.heap.size
  have c0 : Go p e below S0 s₁ (mkF m 0 #[.val (.int 3)] []) := cc.trans (XT.entry rfl)
  have c1 : Go p e below S0 s₁ (mkF m 1 #[.val (.int 3)] [(.int 3)]) := c0.trans (by
    refine XS.iloadN X0.here hx rfl (hb hby d21_0) rfl ?_
    exact .refl _)
  obtain ⟨v2, T2, L2, X2, ⟨N2', rfl, e2⟩, c2'⟩ := own_stat X0 hx hml hZ hown (gw hw 94 rfl) (gw hw 95 rfl) (gw hw 73 rfl) (gw hw 96 rfl) (by decide) (kc := 0) (ks := 0) (h := h0) (W := 0) (argsL := [(.int 3)]) (rest := []) (own_pay (W := 0) (rmNBL3 l Z a0 hw h0 O0) hZ (gw hw 96 rfl) (gw hw 73 rfl) (by decide) (by decide)) c1 (lenOf pd_5 rfl) rfl (hb hby d21_1) e0
  have N2 := Fr.app N0 N2'
  have c2 : Go p e below S0 T2 (mkF m 4 #[.val (.int 3)] [(.int 6)]) := c2'
  obtain ⟨T3, h3, k3, X3, e3, E3, A3, st3⟩ := newP X2 hx hZ (hw _ (List.mem_of_getElem? (i := 23) rfl)) e2 (g := (mkF m 4 #[.val (.int 3)] [(.int 6)])) rfl (hb hby d21_4) rfl (by decide) (cap := 6) (by decide) (by decide) (by decide) (by decide)
  obtain ⟨b3, g3⟩ : ∃ z, z = h0.size := ⟨_, rfl⟩
  rw [← g3] at A3 st3
  have lo3 : h0.size ≤ b3 := Nat.le_of_eq g3.symm
  have ge3 : Z.heap.size ≤ b3 := Nat.le_trans O0.2.1 lo3
  have V3 := Arv.new A3 (by decide)
  have V3a : Arv Z h3 b3 k3 .byte (6 : Int32) [(.int 0), (.int 0), (.int 0), (.int 0), (.int 0), (.int 0)] (.int (0 : Int32)) := V3.pad (pad_rep [] (.int (0 : Int32)) 6)
  have c4 : Go p e below S0 T3 (mkF m 6 #[.val (.int 3)] [(.ref b3)]) := c2.trans (by
    refine st3 _ ?_
    exact .refl _)
  refine ⟨T3, (some (.ref b3)), _, _, _, X3, by decide, by decide, (fun q => by cases q), N2, ?_, fun fs hr => ?_⟩
  · rw [e3]
    exact ⟨b3, k3, rfl, ((Keep.refl h0 []).ext E3), (Nat.le_trans (Keep.refl h0 []).1 lo3), ge3, V3a⟩
  · exact own_retR X3 hx c4 hret rfl rfl (hb hby d21_6) hr
theorem rmToB3 (l : Launch) (Z : State) (a0 : Array Value) (hw : own_W Z a0) (b : Addr) (kc : ClassId) (xa xb xc : Int32) (z : Int32) (fm : Value) (h0 : Heap) (O0 : Old Z Z.heap.size h0) (Kc : Arv Z h0 b kc .char (3 : Int32) [(.int xa), (.int xb), (.int xc)] (.int (0 : Int32))) (hs : own_S Z z fm) :
    own_NC l Z (⟨"java/lang/StringUTF16", "toBytes", "([CII)[B"⟩ : MethodName) jdk_52_method_14_code 5 (some (.array .byte)) ({ frames := 2, cells := 1, slots := 6, locals := 40 } : Room) #[(.ref b), (.int 0), (.int 3)] h0 (fun v h => ∃ (u : Addr) (ku : ClassId), v = some (.ref u) ∧ Keep h0 h [] ∧ h0.size ≤ u ∧ Arv Z h u ku .byte (6 : Int32) [(.int (own_lo xa)), (.int (own_hi xa)), (.int (own_lo xb)), (.int (own_hi xb)), (.int (own_lo xc)), (.int (own_hi xc))] (.int (0 : Int32))) := by
  refine own_nc (plainFor_of_name pnl4) ?_
  intro p e s m below meth c s₁ S0 X0 hx hby hml hret hnm hown hZ e0 cc
  have N0 := Fr.nil Z.heap.size
  have c0 : Go p e below S0 s₁ (mkF m 0 #[.val (.ref b), .val (.int 0), .val (.int 3), .unset, .unset] []) := cc.trans (XT.entry rfl)
  obtain ⟨SC, hz, SF, hfm, SA, SH, SL⟩ := id hs
  have c1 : Go p e below S0 s₁ (mkF m 1 #[.val (.ref b), .val (.int 0), .val (.int 3), .unset, .unset] [(.int 3)]) := c0.trans (by
    refine XS.iloadN X0.here hx rfl (hb hby d20_0) rfl ?_
    exact .refl _)
  obtain ⟨v2, T2, L2, X2, ⟨N2', u2, ku2, rfl, K2, lo2, ge2, Ku2⟩, c2'⟩ := own_stat X0 hx hml hZ hown (gw hw 91 rfl) (gw hw 92 rfl) (gw hw 73 rfl) (gw hw 93 rfl) (by decide) (kc := 1) (ks := 6) (h := h0) (W := 0) (argsL := [(.int 3)]) (rest := []) (own_pay (W := 0) (rmNBF3 l Z a0 hw h0 O0) hZ (gw hw 93 rfl) (gw hw 73 rfl) (by decide) (by decide)) c1 (lenOf pd_6 rfl) rfl (hb hby d20_1) e0
  have N2 := Fr.app N0 N2'
  have c2 : Go p e below S0 T2 (mkF m 4 #[.val (.ref b), .val (.int 0), .val (.int 3), .unset, .unset] [(.ref u2)]) := c2'
  obtain ⟨cl3, Ar3, q3, S3, M3, H3, G3⟩ := id (Kc.keep K2 nin0)
  have hin3 : ¬ ((0 : Int32) < 0 ∨ cl3.slots.size ≤ ((0 : Int32)).toNatClampNeg) := inb_of S3 ⟨by decide, by decide⟩
  have hat3 := Has.at (v := .int xa) H3 hin3 rfl
  have c4 : Go p e below S0 T2 (mkF m 20 #[.val (.ref b), .val (.int 0), .val (.int 3), .val (.ref u2), .val (.int 0)] [(.int xa), (.int 0), (.ref u2)]) := c2.trans (by
    refine XS.astoreN X2.here hx rfl (hb hby d20_4) rfl rfl (l' := #[.val (.ref b), .val (.int 0), .val (.int 3), .val (.ref u2), .unset]) rfl ?_
    refine XS.iconst X2.here hx rfl (hb hby d20_5) ?_
    refine XS.istore X2.here hx rfl (hb hby d20_6) rfl (l' := #[.val (.ref b), .val (.int 0), .val (.int 3), .val (.ref u2), .val (.int 0)]) rfl ?_
    refine XS.iload X2.here hx rfl (hb hby d20_8) rfl ?_
    refine XS.iloadN X2.here hx rfl (hb hby d20_10) rfl ?_
    refine XS.icmpNo X2.here hx rfl (hb hby d20_11) rfl (tlt (by decide : (0 : Int32) < (3 : Int32))).2.1 ?_
    refine XS.aloadN X2.here hx rfl (hb hby d20_14) rfl rfl ?_
    refine XS.iload X2.here hx rfl (hb hby d20_15) rfl ?_
    refine XS.aloadN X2.here hx rfl (hb hby d20_17) rfl rfl ?_
    show Steps p.tables e below (T2.setTop (mkF m 18 #[.val (.ref b), .val (.int 0), .val (.int 3), .val (.ref u2), .val (.int 0)] [(.ref b), (.int 0), (.ref u2)])) _
    refine XS.iloadN X2.here hx rfl (hb hby d20_18) rfl ?_
    refine X2.caload hx (cell := cl3) (by rw [show T2.heap = T2.heap from rfl]; exact Ar3.1) (State.isArrayOf_alike (hZ).alike Ar3.2.1) Ar3.2.2 hin3 hat3 (g := (mkF m 19 #[.val (.ref b), .val (.int 0), .val (.int 3), .val (.ref u2), .val (.int 0)] [(.int 0), (.ref b), (.int 0), (.ref u2)])) rfl rfl (hb hby d20_19) _ ?_
    exact .refl _)
  obtain ⟨v5, T5, L5, X5, ⟨N5', rfl, K5, Kq5⟩, c5'⟩ := own_stat X2 hx hml hZ hown (gw hw 98 rfl) (gw hw 99 rfl) (gw hw 73 rfl) (gw hw 100 rfl) (by decide) (kc := 0) (ks := 0) (h := T2.heap) (W := 0) (argsL := [(.ref u2), (.int 0), (.int xa)]) (rest := []) (own_pay (W := 0) (rmPut l Z a0 hw u2 ku2 [(.int 0), (.int 0), (.int 0), (.int 0), (.int 0), (.int 0)] 6 0 xa z fm T2.heap (O0.keep K2 all0) Ku2 rfl (by decide) (by decide) ge2 hs) hZ (gw hw 100 rfl) (gw hw 73 rfl) (by decide) (by decide)) c4 (lenOf pd_7 rfl) rfl (hb hby d20_20) rfl
  have N5 := Fr.app N2 N5'
  have c5 : Go p e below S0 T5 (mkF m 23 #[.val (.ref b), .val (.int 0), .val (.int 3), .val (.ref u2), .val (.int 0)] []) := c5'
  have Kr5 : Arv Z T5.heap u2 ku2 .byte (6 : Int32) [(.int (own_lo xa)), (.int (own_hi xa)), (.int 0), (.int 0), (.int 0), (.int 0)] (.int (0 : Int32)) := Kq5
  obtain ⟨cl6, Ar6, q6, S6, M6, H6, G6⟩ := id ((Kc.keep K2 nin0).keep K5 (ninS (Nat.ne_of_lt (Nat.lt_of_lt_of_le Kc.lt lo2)) nin0))
  have hin6 : ¬ ((1 : Int32) < 0 ∨ cl6.slots.size ≤ ((1 : Int32)).toNatClampNeg) := inb_of S6 ⟨by decide, by decide⟩
  have hat6 := Has.at (v := .int xb) H6 hin6 rfl
  have c7 : Go p e below S0 T5 (mkF m 20 #[.val (.ref b), .val (.int 1), .val (.int 3), .val (.ref u2), .val (.int 1)] [(.int xb), (.int 1), (.ref u2)]) := c5.trans (by
    refine XS.iinc X5.here hx rfl (hb hby d20_23) rfl (l' := #[.val (.ref b), .val (.int 1), .val (.int 3), .val (.ref u2), .val (.int 0)]) rfl ?_
    refine XS.iinc X5.here hx rfl (hb hby d20_26) rfl (l' := #[.val (.ref b), .val (.int 1), .val (.int 3), .val (.ref u2), .val (.int 1)]) rfl ?_
    refine XS.goto X5.here hx rfl (pc0 := 29) (pc' := 8) rfl (hb hby d20_29) (by decide) (by decide) ?_
    refine XS.iload X5.here hx rfl (hb hby d20_8) rfl ?_
    refine XS.iloadN X5.here hx rfl (hb hby d20_10) rfl ?_
    refine XS.icmpNo X5.here hx rfl (hb hby d20_11) rfl (tlt (by decide : (1 : Int32) < (3 : Int32))).2.1 ?_
    refine XS.aloadN X5.here hx rfl (hb hby d20_14) rfl rfl ?_
    refine XS.iload X5.here hx rfl (hb hby d20_15) rfl ?_
    refine XS.aloadN X5.here hx rfl (hb hby d20_17) rfl rfl ?_
    show Steps p.tables e below (T5.setTop (mkF m 18 #[.val (.ref b), .val (.int 1), .val (.int 3), .val (.ref u2), .val (.int 1)] [(.ref b), (.int 1), (.ref u2)])) _
    refine XS.iloadN X5.here hx rfl (hb hby d20_18) rfl ?_
    refine X5.caload hx (cell := cl6) (by rw [show T5.heap = T5.heap from rfl]; exact Ar6.1) (State.isArrayOf_alike (hZ).alike Ar6.2.1) Ar6.2.2 hin6 hat6 (g := (mkF m 19 #[.val (.ref b), .val (.int 1), .val (.int 3), .val (.ref u2), .val (.int 1)] [(.int 1), (.ref b), (.int 1), (.ref u2)])) rfl rfl (hb hby d20_19) _ ?_
    exact .refl _)
  obtain ⟨v8, T8, L8, X8, ⟨N8', rfl, K8, Kq8⟩, c8'⟩ := own_stat X5 hx hml hZ hown (gw hw 98 rfl) (gw hw 99 rfl) (gw hw 73 rfl) (gw hw 100 rfl) (by decide) (kc := 0) (ks := 0) (h := T5.heap) (W := 0) (argsL := [(.ref u2), (.int 1), (.int xb)]) (rest := []) (own_pay (W := 0) (rmPut l Z a0 hw u2 ku2 [(.int (own_lo xa)), (.int (own_hi xa)), (.int 0), (.int 0), (.int 0), (.int 0)] 6 1 xb z fm T5.heap ((O0.keep K2 all0).keep K5 (allS ge2 all0)) Kr5 rfl (by decide) (by decide) ge2 hs) hZ (gw hw 100 rfl) (gw hw 73 rfl) (by decide) (by decide)) c7 (lenOf pd_7 rfl) rfl (hb hby d20_20) rfl
  have N8 := Fr.app N5 N8'
  have c8 : Go p e below S0 T8 (mkF m 23 #[.val (.ref b), .val (.int 1), .val (.int 3), .val (.ref u2), .val (.int 1)] []) := c8'
  have Kr8 : Arv Z T8.heap u2 ku2 .byte (6 : Int32) [(.int (own_lo xa)), (.int (own_hi xa)), (.int (own_lo xb)), (.int (own_hi xb)), (.int 0), (.int 0)] (.int (0 : Int32)) := Kq8
  obtain ⟨cl9, Ar9, q9, S9, M9, H9, G9⟩ := id (((Kc.keep K2 nin0).keep K5 (ninS (Nat.ne_of_lt (Nat.lt_of_lt_of_le Kc.lt lo2)) nin0)).keep K8 (ninS (Nat.ne_of_lt (Nat.lt_of_lt_of_le Kc.lt lo2)) nin0))
  have hin9 : ¬ ((2 : Int32) < 0 ∨ cl9.slots.size ≤ ((2 : Int32)).toNatClampNeg) := inb_of S9 ⟨by decide, by decide⟩
  have hat9 := Has.at (v := .int xc) H9 hin9 rfl
  have c10 : Go p e below S0 T8 (mkF m 20 #[.val (.ref b), .val (.int 2), .val (.int 3), .val (.ref u2), .val (.int 2)] [(.int xc), (.int 2), (.ref u2)]) := c8.trans (by
    refine XS.iinc X8.here hx rfl (hb hby d20_23) rfl (l' := #[.val (.ref b), .val (.int 2), .val (.int 3), .val (.ref u2), .val (.int 1)]) rfl ?_
    refine XS.iinc X8.here hx rfl (hb hby d20_26) rfl (l' := #[.val (.ref b), .val (.int 2), .val (.int 3), .val (.ref u2), .val (.int 2)]) rfl ?_
    refine XS.goto X8.here hx rfl (pc0 := 29) (pc' := 8) rfl (hb hby d20_29) (by decide) (by decide) ?_
    refine XS.iload X8.here hx rfl (hb hby d20_8) rfl ?_
    refine XS.iloadN X8.here hx rfl (hb hby d20_10) rfl ?_
    refine XS.icmpNo X8.here hx rfl (hb hby d20_11) rfl (tlt (by decide : (2 : Int32) < (3 : Int32))).2.1 ?_
    refine XS.aloadN X8.here hx rfl (hb hby d20_14) rfl rfl ?_
    refine XS.iload X8.here hx rfl (hb hby d20_15) rfl ?_
    refine XS.aloadN X8.here hx rfl (hb hby d20_17) rfl rfl ?_
    show Steps p.tables e below (T8.setTop (mkF m 18 #[.val (.ref b), .val (.int 2), .val (.int 3), .val (.ref u2), .val (.int 2)] [(.ref b), (.int 2), (.ref u2)])) _
    refine XS.iloadN X8.here hx rfl (hb hby d20_18) rfl ?_
    refine X8.caload hx (cell := cl9) (by rw [show T8.heap = T8.heap from rfl]; exact Ar9.1) (State.isArrayOf_alike (hZ).alike Ar9.2.1) Ar9.2.2 hin9 hat9 (g := (mkF m 19 #[.val (.ref b), .val (.int 2), .val (.int 3), .val (.ref u2), .val (.int 2)] [(.int 2), (.ref b), (.int 2), (.ref u2)])) rfl rfl (hb hby d20_19) _ ?_
    exact .refl _)
  obtain ⟨v11, T11, L11, X11, ⟨N11', rfl, K11, Kq11⟩, c11'⟩ := own_stat X8 hx hml hZ hown (gw hw 98 rfl) (gw hw 99 rfl) (gw hw 73 rfl) (gw hw 100 rfl) (by decide) (kc := 0) (ks := 0) (h := T8.heap) (W := 0) (argsL := [(.ref u2), (.int 2), (.int xc)]) (rest := []) (own_pay (W := 0) (rmPut l Z a0 hw u2 ku2 [(.int (own_lo xa)), (.int (own_hi xa)), (.int (own_lo xb)), (.int (own_hi xb)), (.int 0), (.int 0)] 6 2 xc z fm T8.heap (((O0.keep K2 all0).keep K5 (allS ge2 all0)).keep K8 (allS ge2 all0)) Kr8 rfl (by decide) (by decide) ge2 hs) hZ (gw hw 100 rfl) (gw hw 73 rfl) (by decide) (by decide)) c10 (lenOf pd_7 rfl) rfl (hb hby d20_20) rfl
  have N11 := Fr.app N8 N11'
  have c11 : Go p e below S0 T11 (mkF m 23 #[.val (.ref b), .val (.int 2), .val (.int 3), .val (.ref u2), .val (.int 2)] []) := c11'
  have Kr11 : Arv Z T11.heap u2 ku2 .byte (6 : Int32) [(.int (own_lo xa)), (.int (own_hi xa)), (.int (own_lo xb)), (.int (own_hi xb)), (.int (own_lo xc)), (.int (own_hi xc))] (.int (0 : Int32)) := Kq11
  have c12 : Go p e below S0 T11 (mkF m 33 #[.val (.ref b), .val (.int 3), .val (.int 3), .val (.ref u2), .val (.int 3)] [(.ref u2)]) := c11.trans (by
    refine XS.iinc X11.here hx rfl (hb hby d20_23) rfl (l' := #[.val (.ref b), .val (.int 3), .val (.int 3), .val (.ref u2), .val (.int 2)]) rfl ?_
    refine XS.iinc X11.here hx rfl (hb hby d20_26) rfl (l' := #[.val (.ref b), .val (.int 3), .val (.int 3), .val (.ref u2), .val (.int 3)]) rfl ?_
    refine XS.goto X11.here hx rfl (pc0 := 29) (pc' := 8) rfl (hb hby d20_29) (by decide) (by decide) ?_
    refine XS.iload X11.here hx rfl (hb hby d20_8) rfl ?_
    refine XS.iloadN X11.here hx rfl (hb hby d20_10) rfl ?_
    refine XS.icmpYes X11.here hx rfl (pc0 := 11) (pc' := 32) rfl (hb hby d20_11) rfl (flt (by decide : ¬ ((3 : Int32) < (3 : Int32)))).2.1 (by decide) (by decide) ?_
    refine XS.aloadN X11.here hx rfl (hb hby d20_32) rfl rfl ?_
    exact .refl _)
  refine ⟨T11, (some (.ref u2)), _, _, _, X11, by decide, by decide, (fun q => by cases q), N11, ?_, fun fs hr => ?_⟩
  · skip
    exact ⟨u2, ku2, rfl, (((((Keep.refl h0 []).trans K2 all0).trans K5 (allS (Or.inr (Nat.le_trans (Keep.refl h0 []).1 lo2)) all0)).trans K8 (allS (Or.inr (Nat.le_trans (Keep.refl h0 []).1 lo2)) all0)).trans K11 (allS (Or.inr (Nat.le_trans (Keep.refl h0 []).1 lo2)) all0)), (Nat.le_trans (Keep.refl h0 []).1 lo2), Kr11⟩
  · exact own_retR X11 hx c12 hret rfl rfl (hb hby d20_33) hr
theorem rmCmp5_3 (l : Launch) (Z : State) (a0 : Array Value) (hw : own_W Z a0) (b d : Addr) (kc kd : ClassId) (xa xb xc : Int32) (h0 : Heap) (O0 : Old Z Z.heap.size h0) (Kc : Arv Z h0 b kc .char (3 : Int32) [(.int xa), (.int xb), (.int xc)] (.int (0 : Int32))) (Kd : Arv Z h0 d kd .byte (3 : Int32) [(.int 0), (.int 0), (.int 0)] (.int (0 : Int32))) (gd : Z.heap.size ≤ d) (hne : b ≠ d) (hbad : ¬ (¬ (255 : Int32) < xa ∧ ¬ (255 : Int32) < xb ∧ ¬ (255 : Int32) < xc)) :
    own_NC l Z (⟨"java/lang/StringUTF16", "compress", "([CI[BII)I"⟩ : MethodName) jdk_52_method_21_code 7 (some .int) ({ frames := 0, cells := 0, slots := 0, locals := 0 } : Room) #[(.ref b), (.int 0), (.ref d), (.int 0), (.int 3)] h0 (fun v h => Keep h0 h [d] ∧ (∃ i : Nat, v = some (.int (Int32.ofNat i)) ∧ i < 3 ∧ (255 : Int32) < ([xa, xb, xc] : List Int32).getD i 0)) := by
  refine own_nc (plainFor_of_name pnl4) ?_
  intro p e s m below meth c s₁ S0 X0 hx hby hml hret hnm hown hZ e0 cc
  have N0 := Fr.nil Z.heap.size
  have c0 : Go p e below S0 s₁ (mkF m 0 #[.val (.ref b), .val (.int 0), .val (.ref d), .val (.int 0), .val (.int 3), .unset, .unset] []) := cc.trans (XT.entry rfl)
  obtain ⟨cl1, Ar1, q1, S1, M1, H1, G1⟩ := id Kc
  have hin1 : ¬ ((0 : Int32) < 0 ∨ cl1.slots.size ≤ ((0 : Int32)).toNatClampNeg) := inb_of S1 ⟨by decide, by decide⟩
  have hat1 := Has.at (v := .int xa) H1 hin1 rfl
  have c2 : Go p e below S0 s₁ (mkF m 20 #[.val (.ref b), .val (.int 0), .val (.ref d), .val (.int 0), .val (.int 3), .val (.int 0), .val (.int xa)] [(.int 255), (.int xa)]) := c0.trans (by
    refine XS.iconst X0.here hx rfl (hb hby d16_0) ?_
    refine XS.istore X0.here hx rfl (hb hby d16_1) rfl (l' := #[.val (.ref b), .val (.int 0), .val (.ref d), .val (.int 0), .val (.int 3), .val (.int 0), .unset]) rfl ?_
    refine XS.iload X0.here hx rfl (hb hby d16_3) rfl ?_
    refine XS.iload X0.here hx rfl (hb hby d16_5) rfl ?_
    refine XS.icmpNo X0.here hx rfl (hb hby d16_7) rfl (tlt (by decide : (0 : Int32) < (3 : Int32))).2.1 ?_
    refine XS.aloadN X0.here hx rfl (hb hby d16_10) rfl rfl ?_
    refine XS.iloadN X0.here hx rfl (hb hby d16_11) rfl ?_
    refine X0.caload hx (cell := cl1) (by rw [show s₁.heap = h0 from e0]; exact Ar1.1) (State.isArrayOf_alike (hZ).alike Ar1.2.1) Ar1.2.2 hin1 hat1 (g := (mkF m 12 #[.val (.ref b), .val (.int 0), .val (.ref d), .val (.int 0), .val (.int 3), .val (.int 0), .unset] [(.int 0), (.ref b)])) rfl rfl (hb hby d16_12) _ ?_
    refine XS.istore X0.here hx rfl (hb hby d16_13) rfl (l' := #[.val (.ref b), .val (.int 0), .val (.ref d), .val (.int 0), .val (.int 3), .val (.int 0), .val (.int xa)]) rfl ?_
    show Steps p.tables e below (s₁.setTop (mkF m 15 #[.val (.ref b), .val (.int 0), .val (.ref d), .val (.int 0), .val (.int 3), .val (.int 0), .val (.int xa)] [])) _
    refine XS.iload X0.here hx rfl (hb hby d16_15) rfl ?_
    refine XS.sipush X0.here hx rfl (hb hby d16_17) ?_
    exact .refl _)
  by_cases hc3 : (255 : Int32) < xa
  · skip
    have c4 : Go p e below S0 s₁ (mkF m 25 #[.val (.ref b), .val (.int 0), .val (.ref d), .val (.int 0), .val (.int 3), .val (.int 0), .val (.int xa)] [(.int 0)]) := c2.trans (by
      refine XS.icmpNo X0.here hx rfl (hb hby d16_20) rfl (tlt hc3).2.2.2 ?_
      refine XS.iload X0.here hx rfl (hb hby d16_23) rfl ?_
      exact .refl _)
    refine ⟨s₁, (some (.int 0)), _, _, _, X0, by decide, by decide, (fun q => by cases q), N0, ?_, fun fs hr => ?_⟩
    · rw [e0]
      exact ⟨(Keep.refl h0 [d]), 0, rfl, by decide, hc3⟩
    · exact c4.trans (retI X0 hx hret (hb hby d16_25) hr)
  · skip
    obtain ⟨cl6, Ar6, q6, S6, M6, H6, G6⟩ := id Kd
    have hin6 : ¬ ((0 : Int32) < 0 ∨ cl6.slots.size ≤ ((0 : Int32)).toNatClampNeg) := inb_of S6 ⟨by decide, by decide⟩
    obtain ⟨T6, h6, X6, e6, W6, st6⟩ := stB X0 hx hZ e0 Ar6 (j := (0 : Int32)) hin6 (g := (mkF m 31 #[.val (.ref b), .val (.int 0), .val (.ref d), .val (.int 0), .val (.int 3), .val (.int 0), .val (.int xa)] [(.int (xa.toInt8.toInt32)), (.int 0), (.ref d)])) rfl rfl (hb hby d16_31)
    have V6 := Arv.set Ar6 q6 S6 M6 H6 G6 (fits_nar_byte _) W6 0 rfl (Nat.le_of_ble_eq_true rfl)
    have N6 := Fr.snoc X6 N0 gd
    rw [own_b2] at V6
    have V6a : Arv Z h6 d kd .byte (3 : Int32) [(.int (xa.toInt8.toInt32)), (.int 0), (.int 0)] (.int (0 : Int32)) := V6
    obtain ⟨cl7, Ar7, q7, S7, M7, H7, G7⟩ := id (Kc.other W6 hne)
    have hin7 : ¬ ((1 : Int32) < 0 ∨ cl7.slots.size ≤ ((1 : Int32)).toNatClampNeg) := inb_of S7 ⟨by decide, by decide⟩
    have hat7 := Has.at (v := .int xb) H7 hin7 rfl
    have c8 : Go p e below S0 T6 (mkF m 20 #[.val (.ref b), .val (.int 1), .val (.ref d), .val (.int 1), .val (.int 3), .val (.int 1), .val (.int xb)] [(.int 255), (.int xb)]) := c2.trans (by
      refine XS.icmpYes X0.here hx rfl (pc0 := 20) (pc' := 26) rfl (hb hby d16_20) rfl (flt hc3).2.2.2 (by decide) (by decide) ?_
      refine XS.aloadN X0.here hx rfl (hb hby d16_26) rfl rfl ?_
      refine XS.iloadN X0.here hx rfl (hb hby d16_27) rfl ?_
      refine XS.iload X0.here hx rfl (hb hby d16_28) rfl ?_
      refine XS.i2b X0.here hx rfl (hb hby d16_30) rfl ?_
      refine st6 _ ?_
      show Steps p.tables e below (T6.setTop (mkF m 32 #[.val (.ref b), .val (.int 0), .val (.ref d), .val (.int 0), .val (.int 3), .val (.int 0), .val (.int xa)] [])) _
      refine XS.iinc X6.here hx rfl (hb hby d16_32) rfl (l' := #[.val (.ref b), .val (.int 1), .val (.ref d), .val (.int 0), .val (.int 3), .val (.int 0), .val (.int xa)]) rfl ?_
      refine XS.iinc X6.here hx rfl (hb hby d16_35) rfl (l' := #[.val (.ref b), .val (.int 1), .val (.ref d), .val (.int 1), .val (.int 3), .val (.int 0), .val (.int xa)]) rfl ?_
      refine XS.iinc X6.here hx rfl (hb hby d16_38) rfl (l' := #[.val (.ref b), .val (.int 1), .val (.ref d), .val (.int 1), .val (.int 3), .val (.int 1), .val (.int xa)]) rfl ?_
      refine XS.goto X6.here hx rfl (pc0 := 41) (pc' := 3) rfl (hb hby d16_41) (by decide) (by decide) ?_
      refine XS.iload X6.here hx rfl (hb hby d16_3) rfl ?_
      refine XS.iload X6.here hx rfl (hb hby d16_5) rfl ?_
      refine XS.icmpNo X6.here hx rfl (hb hby d16_7) rfl (tlt (by decide : (1 : Int32) < (3 : Int32))).2.1 ?_
      refine XS.aloadN X6.here hx rfl (hb hby d16_10) rfl rfl ?_
      refine XS.iloadN X6.here hx rfl (hb hby d16_11) rfl ?_
      show Steps p.tables e below (T6.setTop (mkF m 12 #[.val (.ref b), .val (.int 1), .val (.ref d), .val (.int 1), .val (.int 3), .val (.int 1), .val (.int xa)] [(.int 1), (.ref b)])) _
      refine X6.caload hx (cell := cl7) (by rw [show T6.heap = h6 from e6]; exact Ar7.1) (State.isArrayOf_alike (hZ).alike Ar7.2.1) Ar7.2.2 hin7 hat7 (g := (mkF m 12 #[.val (.ref b), .val (.int 1), .val (.ref d), .val (.int 1), .val (.int 3), .val (.int 1), .val (.int xa)] [(.int 1), (.ref b)])) rfl rfl (hb hby d16_12) _ ?_
      refine XS.istore X6.here hx rfl (hb hby d16_13) rfl (l' := #[.val (.ref b), .val (.int 1), .val (.ref d), .val (.int 1), .val (.int 3), .val (.int 1), .val (.int xb)]) rfl ?_
      refine XS.iload X6.here hx rfl (hb hby d16_15) rfl ?_
      refine XS.sipush X6.here hx rfl (hb hby d16_17) ?_
      exact .refl _)
    by_cases hc9 : (255 : Int32) < xb
    · skip
      have c10 : Go p e below S0 T6 (mkF m 25 #[.val (.ref b), .val (.int 1), .val (.ref d), .val (.int 1), .val (.int 3), .val (.int 1), .val (.int xb)] [(.int 1)]) := c8.trans (by
        refine XS.icmpNo X6.here hx rfl (hb hby d16_20) rfl (tlt hc9).2.2.2 ?_
        refine XS.iload X6.here hx rfl (hb hby d16_23) rfl ?_
        exact .refl _)
      refine ⟨T6, (some (.int 1)), _, _, _, X6, by decide, by decide, (fun q => by cases q), N6, ?_, fun fs hr => ?_⟩
      · rw [e6]
        exact ⟨((Keep.refl h0 [d]).wr W6 (Or.inl (List.mem_of_getElem? (i := 0) rfl))), 1, rfl, by decide, hc9⟩
      · exact c10.trans (retI X6 hx hret (hb hby d16_25) hr)
    · skip
      obtain ⟨cl12, Ar12, q12, S12, M12, H12, G12⟩ := id V6a
      have hin12 : ¬ ((1 : Int32) < 0 ∨ cl12.slots.size ≤ ((1 : Int32)).toNatClampNeg) := inb_of S12 ⟨by decide, by decide⟩
      obtain ⟨T12, h12, X12, e12, W12, st12⟩ := stB X6 hx hZ e6 Ar12 (j := (1 : Int32)) hin12 (g := (mkF m 31 #[.val (.ref b), .val (.int 1), .val (.ref d), .val (.int 1), .val (.int 3), .val (.int 1), .val (.int xb)] [(.int (xb.toInt8.toInt32)), (.int 1), (.ref d)])) rfl rfl (hb hby d16_31)
      have V12 := Arv.set Ar12 q12 S12 M12 H12 G12 (fits_nar_byte _) W12 1 rfl (Nat.le_of_ble_eq_true rfl)
      have N12 := Fr.snoc X12 N6 gd
      rw [own_b2] at V12
      have V12a : Arv Z h12 d kd .byte (3 : Int32) [(.int (xa.toInt8.toInt32)), (.int (xb.toInt8.toInt32)), (.int 0)] (.int (0 : Int32)) := V12
      obtain ⟨cl13, Ar13, q13, S13, M13, H13, G13⟩ := id ((Kc.other W6 hne).other W12 hne)
      have hin13 : ¬ ((2 : Int32) < 0 ∨ cl13.slots.size ≤ ((2 : Int32)).toNatClampNeg) := inb_of S13 ⟨by decide, by decide⟩
      have hat13 := Has.at (v := .int xc) H13 hin13 rfl
      have c14 : Go p e below S0 T12 (mkF m 20 #[.val (.ref b), .val (.int 2), .val (.ref d), .val (.int 2), .val (.int 3), .val (.int 2), .val (.int xc)] [(.int 255), (.int xc)]) := c8.trans (by
        refine XS.icmpYes X6.here hx rfl (pc0 := 20) (pc' := 26) rfl (hb hby d16_20) rfl (flt hc9).2.2.2 (by decide) (by decide) ?_
        refine XS.aloadN X6.here hx rfl (hb hby d16_26) rfl rfl ?_
        refine XS.iloadN X6.here hx rfl (hb hby d16_27) rfl ?_
        refine XS.iload X6.here hx rfl (hb hby d16_28) rfl ?_
        refine XS.i2b X6.here hx rfl (hb hby d16_30) rfl ?_
        refine st12 _ ?_
        show Steps p.tables e below (T12.setTop (mkF m 32 #[.val (.ref b), .val (.int 1), .val (.ref d), .val (.int 1), .val (.int 3), .val (.int 1), .val (.int xb)] [])) _
        refine XS.iinc X12.here hx rfl (hb hby d16_32) rfl (l' := #[.val (.ref b), .val (.int 2), .val (.ref d), .val (.int 1), .val (.int 3), .val (.int 1), .val (.int xb)]) rfl ?_
        refine XS.iinc X12.here hx rfl (hb hby d16_35) rfl (l' := #[.val (.ref b), .val (.int 2), .val (.ref d), .val (.int 2), .val (.int 3), .val (.int 1), .val (.int xb)]) rfl ?_
        refine XS.iinc X12.here hx rfl (hb hby d16_38) rfl (l' := #[.val (.ref b), .val (.int 2), .val (.ref d), .val (.int 2), .val (.int 3), .val (.int 2), .val (.int xb)]) rfl ?_
        refine XS.goto X12.here hx rfl (pc0 := 41) (pc' := 3) rfl (hb hby d16_41) (by decide) (by decide) ?_
        refine XS.iload X12.here hx rfl (hb hby d16_3) rfl ?_
        refine XS.iload X12.here hx rfl (hb hby d16_5) rfl ?_
        refine XS.icmpNo X12.here hx rfl (hb hby d16_7) rfl (tlt (by decide : (2 : Int32) < (3 : Int32))).2.1 ?_
        refine XS.aloadN X12.here hx rfl (hb hby d16_10) rfl rfl ?_
        refine XS.iloadN X12.here hx rfl (hb hby d16_11) rfl ?_
        show Steps p.tables e below (T12.setTop (mkF m 12 #[.val (.ref b), .val (.int 2), .val (.ref d), .val (.int 2), .val (.int 3), .val (.int 2), .val (.int xb)] [(.int 2), (.ref b)])) _
        refine X12.caload hx (cell := cl13) (by rw [show T12.heap = h12 from e12]; exact Ar13.1) (State.isArrayOf_alike (hZ).alike Ar13.2.1) Ar13.2.2 hin13 hat13 (g := (mkF m 12 #[.val (.ref b), .val (.int 2), .val (.ref d), .val (.int 2), .val (.int 3), .val (.int 2), .val (.int xb)] [(.int 2), (.ref b)])) rfl rfl (hb hby d16_12) _ ?_
        refine XS.istore X12.here hx rfl (hb hby d16_13) rfl (l' := #[.val (.ref b), .val (.int 2), .val (.ref d), .val (.int 2), .val (.int 3), .val (.int 2), .val (.int xc)]) rfl ?_
        refine XS.iload X12.here hx rfl (hb hby d16_15) rfl ?_
        refine XS.sipush X12.here hx rfl (hb hby d16_17) ?_
        exact .refl _)
      by_cases hc15 : (255 : Int32) < xc
      · skip
        have c16 : Go p e below S0 T12 (mkF m 25 #[.val (.ref b), .val (.int 2), .val (.ref d), .val (.int 2), .val (.int 3), .val (.int 2), .val (.int xc)] [(.int 2)]) := c14.trans (by
          refine XS.icmpNo X12.here hx rfl (hb hby d16_20) rfl (tlt hc15).2.2.2 ?_
          refine XS.iload X12.here hx rfl (hb hby d16_23) rfl ?_
          exact .refl _)
        refine ⟨T12, (some (.int 2)), _, _, _, X12, by decide, by decide, (fun q => by cases q), N12, ?_, fun fs hr => ?_⟩
        · rw [e12]
          exact ⟨(((Keep.refl h0 [d]).wr W6 (Or.inl (List.mem_of_getElem? (i := 0) rfl))).wr W12 (Or.inl (List.mem_of_getElem? (i := 0) rfl))), 2, rfl, by decide, hc15⟩
        · exact c16.trans (retI X12 hx hret (hb hby d16_25) hr)
      · skip
        obtain ⟨cl18, Ar18, q18, S18, M18, H18, G18⟩ := id V12a
        have hin18 : ¬ ((2 : Int32) < 0 ∨ cl18.slots.size ≤ ((2 : Int32)).toNatClampNeg) := inb_of S18 ⟨by decide, by decide⟩
        obtain ⟨T18, h18, X18, e18, W18, st18⟩ := stB X12 hx hZ e12 Ar18 (j := (2 : Int32)) hin18 (g := (mkF m 31 #[.val (.ref b), .val (.int 2), .val (.ref d), .val (.int 2), .val (.int 3), .val (.int 2), .val (.int xc)] [(.int (xc.toInt8.toInt32)), (.int 2), (.ref d)])) rfl rfl (hb hby d16_31)
        have V18 := Arv.set Ar18 q18 S18 M18 H18 G18 (fits_nar_byte _) W18 2 rfl (Nat.le_of_ble_eq_true rfl)
        have N18 := Fr.snoc X18 N12 gd
        rw [own_b2] at V18
        have V18a : Arv Z h18 d kd .byte (3 : Int32) [(.int (xa.toInt8.toInt32)), (.int (xb.toInt8.toInt32)), (.int (xc.toInt8.toInt32))] (.int (0 : Int32)) := V18
        have c19 : Go p e below S0 T18 (mkF m 46 #[.val (.ref b), .val (.int 3), .val (.ref d), .val (.int 3), .val (.int 3), .val (.int 3), .val (.int xc)] [(.int 3)]) := c14.trans (by
          refine XS.icmpYes X12.here hx rfl (pc0 := 20) (pc' := 26) rfl (hb hby d16_20) rfl (flt hc15).2.2.2 (by decide) (by decide) ?_
          refine XS.aloadN X12.here hx rfl (hb hby d16_26) rfl rfl ?_
          refine XS.iloadN X12.here hx rfl (hb hby d16_27) rfl ?_
          refine XS.iload X12.here hx rfl (hb hby d16_28) rfl ?_
          refine XS.i2b X12.here hx rfl (hb hby d16_30) rfl ?_
          refine st18 _ ?_
          show Steps p.tables e below (T18.setTop (mkF m 32 #[.val (.ref b), .val (.int 2), .val (.ref d), .val (.int 2), .val (.int 3), .val (.int 2), .val (.int xc)] [])) _
          refine XS.iinc X18.here hx rfl (hb hby d16_32) rfl (l' := #[.val (.ref b), .val (.int 3), .val (.ref d), .val (.int 2), .val (.int 3), .val (.int 2), .val (.int xc)]) rfl ?_
          refine XS.iinc X18.here hx rfl (hb hby d16_35) rfl (l' := #[.val (.ref b), .val (.int 3), .val (.ref d), .val (.int 3), .val (.int 3), .val (.int 2), .val (.int xc)]) rfl ?_
          refine XS.iinc X18.here hx rfl (hb hby d16_38) rfl (l' := #[.val (.ref b), .val (.int 3), .val (.ref d), .val (.int 3), .val (.int 3), .val (.int 3), .val (.int xc)]) rfl ?_
          refine XS.goto X18.here hx rfl (pc0 := 41) (pc' := 3) rfl (hb hby d16_41) (by decide) (by decide) ?_
          refine XS.iload X18.here hx rfl (hb hby d16_3) rfl ?_
          refine XS.iload X18.here hx rfl (hb hby d16_5) rfl ?_
          refine XS.icmpYes X18.here hx rfl (pc0 := 7) (pc' := 44) rfl (hb hby d16_7) rfl (flt (by decide : ¬ ((3 : Int32) < (3 : Int32)))).2.1 (by decide) (by decide) ?_
          refine XS.iload X18.here hx rfl (hb hby d16_44) rfl ?_
          exact .refl _)
        refine ⟨T18, (some (.int 3)), _, _, _, X18, by decide, by decide, (fun q => by cases q), N18, ?_, fun fs hr => ?_⟩
        · rw [e18]
          exact absurd (show ¬ (255 : Int32) < xa ∧ ¬ (255 : Int32) < xb ∧ ¬ (255 : Int32) < xc from ⟨hc3, hc9, hc15⟩) hbad
        · exact c19.trans (retI X18 hx hret (hb hby d16_46) hr)
theorem own_gl3 (d : Value) (i : Nat) (xa xb xc : Int32) (h : i < 3) : ([(.int (own_lo xa)), (.int (own_hi xa)), (.int (own_lo xb)), (.int (own_hi xb)), (.int (own_lo xc)), (.int (own_hi xc))] : List Value).getD (2 * i) d = .int (own_lo (([xa, xb, xc] : List Int32).getD i 0)) ∧ ([(.int (own_lo xa)), (.int (own_hi xa)), (.int (own_lo xb)), (.int (own_hi xb)), (.int (own_lo xc)), (.int (own_hi xc))] : List Value).getD (2 * i + 1) d = .int (own_hi (([xa, xb, xc] : List Int32).getD i 0)) ∧ (own_C xa → own_C xb → own_C xc → own_C (([xa, xb, xc] : List Int32).getD i 0)) := by
  match i, h with
  | 0, _ => exact ⟨rfl, rfl, fun hxa hxb hxc => hxa⟩
  | 1, _ => exact ⟨rfl, rfl, fun hxa hxb hxc => hxb⟩
  | 2, _ => exact ⟨rfl, rfl, fun hxa hxb hxc => hxc⟩
theorem own_ne3 {i : Nat} (h : i < 3) : ¬ (Int32.ofNat i = (3 : Int32)) := by
  have t : ∀ i : Fin 3, ¬ (Int32.ofNat i.val = (3 : Int32)) := by decide
  exact t ⟨i, h⟩
theorem rmCmp3_3 (l : Launch) (Z : State) (a0 : Array Value) (hw : own_W Z a0) (b : Addr) (kc : ClassId) (xa xb xc : Int32) (z : Int32) (fm : Value) (h0 : Heap) (O0 : Old Z Z.heap.size h0) (Kc : Arv Z h0 b kc .char (3 : Int32) [(.int xa), (.int xb), (.int xc)] (.int (0 : Int32))) (hCxa : own_C xa) (hCxb : own_C xb) (hCxc : own_C xc) (hbad : ¬ (¬ (255 : Int32) < xa ∧ ¬ (255 : Int32) < xb ∧ ¬ (255 : Int32) < xc)) (hs : own_S Z z fm) :
    own_NC l Z (⟨"java/lang/StringUTF16", "compress", "([CII)[B"⟩ : MethodName) jdk_52_method_16_code 6 (some (.array .byte)) ({ frames := 3, cells := 2, slots := 9, locals := 60 } : Room) #[(.ref b), (.int 0), (.int 3)] h0 (fun v h => ∃ (u : Addr) (ku : ClassId), v = some (.ref u) ∧ Keep h0 h [] ∧ h0.size ≤ u ∧ Arv Z h u ku .byte (6 : Int32) [(.int (own_lo xa)), (.int (own_hi xa)), (.int (own_lo xb)), (.int (own_hi xb)), (.int (own_lo xc)), (.int (own_hi xc))] (.int (0 : Int32))) := by
  refine own_nc (plainFor_of_name pnl4) ?_
  intro p e s m below meth c s₁ S0 X0 hx hby hml hret hnm hown hZ e0 cc
  have N0 := Fr.nil Z.heap.size
  have c0 : Go p e below S0 s₁ (mkF m 0 #[.val (.ref b), .val (.int 0), .val (.int 3), .unset, .unset, .unset] []) := cc.trans (XT.entry rfl)
  obtain ⟨SC, hz, SF, hfm, SA, SH, SL⟩ := id hs
  obtain ⟨T1, h1, k1, X1, e1, E1, A1, st1⟩ := newP X0 hx hZ (hw _ (List.mem_of_getElem? (i := 23) rfl)) e0 (g := (mkF m 1 #[.val (.ref b), .val (.int 0), .val (.int 3), .unset, .unset, .unset] [(.int 3)])) rfl (hb hby d15_1) rfl (by decide) (cap := 3) (by decide) (by decide) (by decide) (by decide)
  obtain ⟨b1, g1⟩ : ∃ z, z = h0.size := ⟨_, rfl⟩
  rw [← g1] at A1 st1
  have lo1 : h0.size ≤ b1 := Nat.le_of_eq g1.symm
  have ge1 : Z.heap.size ≤ b1 := Nat.le_trans O0.2.1 lo1
  have V1 := Arv.new A1 (by decide)
  have V1a : Arv Z h1 b1 k1 .byte (3 : Int32) [(.int 0), (.int 0), (.int 0)] (.int (0 : Int32)) := V1.pad (pad_rep [] (.int (0 : Int32)) 3)
  have c2 : Go p e below S0 T1 (mkF m 9 #[.val (.ref b), .val (.int 0), .val (.int 3), .val (.ref b1), .unset, .unset] [(.int 3), (.int 0), (.ref b1), (.int 0), (.ref b)]) := c0.trans (by
    refine XS.iloadN X0.here hx rfl (hb hby d15_0) rfl ?_
    refine st1 _ ?_
    refine XS.astoreN X1.here hx rfl (hb hby d15_3) rfl rfl (l' := #[.val (.ref b), .val (.int 0), .val (.int 3), .val (.ref b1), .unset, .unset]) rfl ?_
    refine XS.aloadN X1.here hx rfl (hb hby d15_4) rfl rfl ?_
    refine XS.iloadN X1.here hx rfl (hb hby d15_5) rfl ?_
    refine XS.aloadN X1.here hx rfl (hb hby d15_6) rfl rfl ?_
    refine XS.iconst X1.here hx rfl (hb hby d15_7) ?_
    refine XS.iloadN X1.here hx rfl (hb hby d15_8) rfl ?_
    exact .refl _)
  obtain ⟨v3, T3, L3, X3, ⟨N3', K3, i3, rfl, hi3, hq3⟩, c3'⟩ := own_stat X1 hx hml hZ hown (gw hw 75 rfl) (gw hw 76 rfl) (gw hw 73 rfl) (gw hw 77 rfl) (by decide) (kc := 0) (ks := 0) (h := h1) (W := 0) (argsL := [(.ref b), (.int 0), (.ref b1), (.int 0), (.int 3)]) (rest := []) (own_pay (W := 0) (rmCmp5_3 l Z a0 hw b b1 kc k1 xa xb xc h1 (O0.ext E1) (Kc.ext E1) V1a ge1 (Nat.ne_of_lt (Nat.lt_of_lt_of_le Kc.lt lo1)) hbad) hZ (gw hw 77 rfl) (gw hw 73 rfl) (by decide) (by decide)) c2 (lenOf pd_8 rfl) rfl (hb hby d15_9) e1
  have N3 := Fr.app N0 N3'
  have c3 : Go p e below S0 T3 (mkF m 12 #[.val (.ref b), .val (.int 0), .val (.int 3), .val (.ref b1), .unset, .unset] [(.int (Int32.ofNat i3))]) := c3'
  have c4 : Go p e below S0 T3 (mkF m 23 #[.val (.ref b), .val (.int 0), .val (.int 3), .val (.ref b1), .val (.int (Int32.ofNat i3)), .unset] [(.int 3), (.int 0), (.ref b)]) := c3.trans (by
    refine XS.istore X3.here hx rfl (hb hby d15_12) rfl (l' := #[.val (.ref b), .val (.int 0), .val (.int 3), .val (.ref b1), .val (.int (Int32.ofNat i3)), .unset]) rfl ?_
    refine XS.iload X3.here hx rfl (hb hby d15_14) rfl ?_
    refine XS.iloadN X3.here hx rfl (hb hby d15_16) rfl ?_
    refine XS.icmpNo X3.here hx rfl (hb hby d15_17) rfl (feq (own_ne3 hi3)).1 ?_
    refine XS.aloadN X3.here hx rfl (hb hby d15_20) rfl rfl ?_
    refine XS.iloadN X3.here hx rfl (hb hby d15_21) rfl ?_
    refine XS.iloadN X3.here hx rfl (hb hby d15_22) rfl ?_
    exact .refl _)
  obtain ⟨v5, T5, L5, X5, ⟨N5', u5, ku5, rfl, K5, lo5, Ku5⟩, c5'⟩ := own_stat X3 hx hml hZ hown (gw hw 88 rfl) (gw hw 89 rfl) (gw hw 73 rfl) (gw hw 90 rfl) (by decide) (kc := 1) (ks := 6) (h := T3.heap) (W := 0) (argsL := [(.ref b), (.int 0), (.int 3)]) (rest := []) (own_pay (W := 0) (rmToB3 l Z a0 hw b kc xa xb xc z fm T3.heap ((O0.ext E1).keep K3 (allS ge1 all0)) ((Kc.ext E1).keep K3 (ninS (Nat.ne_of_lt (Nat.lt_of_lt_of_le Kc.lt lo1)) nin0)) hs) hZ (gw hw 90 rfl) (gw hw 73 rfl) (by decide) (by decide)) c4 (lenOf pd_9 rfl) rfl (hb hby d15_23) rfl
  have N5 := Fr.app N3 N5'
  have c5 : Go p e below S0 T5 (mkF m 26 #[.val (.ref b), .val (.int 0), .val (.int 3), .val (.ref b1), .val (.int (Int32.ofNat i3)), .unset] [(.ref u5)]) := c5'
  have c6 : Go p e below S0 T5 (mkF m 32 #[.val (.ref b), .val (.int 0), .val (.int 3), .val (.ref b1), .val (.int (Int32.ofNat i3)), .val (.ref u5)] [(.int (Int32.ofNat i3)), (.ref u5)]) := c5.trans (by
    refine XS.astore X5.here hx rfl (hb hby d15_26) rfl rfl (l' := #[.val (.ref b), .val (.int 0), .val (.int 3), .val (.ref b1), .val (.int (Int32.ofNat i3)), .val (.ref u5)]) rfl ?_
    refine XS.aload X5.here hx rfl (hb hby d15_28) rfl rfl ?_
    refine XS.iload X5.here hx rfl (hb hby d15_30) rfl ?_
    exact .refl _)
  obtain ⟨v7, T7, L7, X7, ⟨N7', rfl, e7⟩, c7'⟩ := own_stat X5 hx hml hZ hown (gw hw 104 rfl) (gw hw 105 rfl) (gw hw 73 rfl) (gw hw 106 rfl) (by decide) (kc := 0) (ks := 0) (h := T5.heap) (W := 0) (argsL := [(.ref u5), (.int (Int32.ofNat i3))]) (rest := []) (own_pay (W := 0) (rmGet l Z a0 hw u5 ku5 [(.int (own_lo xa)), (.int (own_hi xa)), (.int (own_lo xb)), (.int (own_hi xb)), (.int (own_lo xc)), (.int (own_hi xc))] 6 i3 (([xa, xb, xc] : List Int32).getD i3 0) z fm T5.heap (((O0.ext E1).keep K3 (allS ge1 all0)).keep K5 all0) Ku5 rfl (by decide) (by omega) (own_gl3 _ _ xa xb xc hi3).1 (own_gl3 _ _ xa xb xc hi3).2.1 ((own_gl3 (.int 0) _ xa xb xc hi3).2.2 hCxa hCxb hCxc) hs) hZ (gw hw 106 rfl) (gw hw 73 rfl) (by decide) (by decide)) c6 (lenOf pd_10 rfl) rfl (hb hby d15_32) rfl
  have N7 := Fr.app N5 N7'
  have c7 : Go p e below S0 T7 (mkF m 35 #[.val (.ref b), .val (.int 0), .val (.int 3), .val (.ref b1), .val (.int (Int32.ofNat i3)), .val (.ref u5)] [(.int (([xa, xb, xc] : List Int32).getD i3 0))]) := c7'
  have c8 : Go p e below S0 T7 (mkF m 56 #[.val (.ref b), .val (.int 0), .val (.int 3), .val (.ref b1), .val (.int (Int32.ofNat i3)), .val (.ref u5)] [(.ref u5)]) := c7.trans (by
    refine XS.sipush X7.here hx rfl (hb hby d15_35) ?_
    refine XS.icmpYes X7.here hx rfl (pc0 := 38) (pc' := 54) rfl (hb hby d15_38) rfl (tlt hq3).2.2.1 (by decide) (by decide) ?_
    refine XS.aload X7.here hx rfl (hb hby d15_54) rfl rfl ?_
    exact .refl _)
  refine ⟨T7, (some (.ref u5)), _, _, _, X7, by decide, by decide, (fun q => by cases q), N7, ?_, fun fs hr => ?_⟩
  · rw [e7]
    exact ⟨u5, ku5, rfl, ((((Keep.refl h0 []).ext E1).trans K3 (allS (Or.inr (Nat.le_trans (Keep.refl h0 []).1 lo1)) all0)).trans K5 all0), (Nat.le_trans (own_kz ((Keep.refl h0 []).ext E1) K3).1 lo5), Ku5⟩
  · exact own_retR X7 hx c8 hret rfl rfl (hb hby d15_56) hr
theorem rmCFAL3 (l : Launch) (Z : State) (a0 : Array Value) (hw : own_W Z a0) (t : Addr) (kb : ClassId) (xa xb xc : Int32) (h0 : Heap) (O0 : Old Z Z.heap.size h0) (Kt : Arv Z h0 t kb .byte (6 : Int32) [(.int (own_lo xa)), (.int (own_hi xa)), (.int (own_lo xb)), (.int (own_hi xb)), (.int (own_lo xc)), (.int (own_hi xc))] (.int (0 : Int32))) :
    own_NC l Z (⟨"java/lang/StringUTF16", "coderFromArrayLen", "([BI)B"⟩ : MethodName) jdk_52_method_15_code 2 (some .byte) ({ frames := 0, cells := 0, slots := 0, locals := 0 } : Room) #[(.ref t), (.int 3)] h0 (fun v h => v = some (.int (1 : Int32)) ∧ h = h0) := by
  refine own_nc (plainFor_of_name pnl4) ?_
  intro p e s m below meth c s₁ S0 X0 hx hby hml hret hnm hown hZ e0 cc
  have N0 := Fr.nil Z.heap.size
  have c0 : Go p e below S0 s₁ (mkF m 0 #[.val (.ref t), .val (.int 3)] []) := cc.trans (XT.entry rfl)
  obtain ⟨cl1, Ar1, q1, S1, M1, H1, G1⟩ := id Kt
  have c2 : Go p e below S0 s₁ (mkF m 8 #[.val (.ref t), .val (.int 3)] [(.int 1)]) := c0.trans (by
    refine XS.iloadN X0.here hx rfl (hb hby d17_0) rfl ?_
    refine XS.aloadN X0.here hx rfl (hb hby d17_1) rfl rfl ?_
    refine X0.arraylength hx (by rw [show s₁.heap = h0 from e0]; exact Ar1.1) (State.isArrayOf_alike (hZ).alike Ar1.2.1) (g := (mkF m 2 #[.val (.ref t), .val (.int 3)] [(.ref t), (.int 3)])) rfl rfl (hb hby d17_2) _ ?_
    rw [len_of S1 M1]
    refine XS.isub X0.here hx rfl (hb hby d17_3) rfl ?_
    refine XS.bipush X0.here hx rfl (hb hby d17_4) ?_
    refine XS.iushr X0.here hx rfl (hb hby d17_6) rfl ?_
    refine XS.i2b X0.here hx rfl (hb hby d17_7) rfl ?_
    exact .refl _)
  refine ⟨s₁, (some (.int (1 : Int32))), _, _, _, X0, by decide, by decide, (fun q => by cases q), N0, ?_, fun fs hr => ?_⟩
  · rw [e0]
    exact ⟨rfl, rfl⟩
  · exact c2.trans (retN X0 hx (t := .byte) hret (by simp) (hb hby d17_8) hr)
theorem rmUI4_3 (l : Launch) (Z : State) (a0 : Array Value) (hw : own_W Z a0) (x b : Addr) (kc : ClassId) (u1 u2 : Value) (xa xb xc : Int32) (z : Int32) (fm : Value) (h0 : Heap) (O0 : Old Z Z.heap.size h0) (E : Exa Z h0 x "java/lang/String") (V : Fld Z h0 x "java/lang/String" "value" "[B" u1) (Cd : Fld Z h0 x "java/lang/String" "coder" "B" u2) (gx : Z.heap.size ≤ x) (Kc : Arv Z h0 b kc .char (3 : Int32) [(.int xa), (.int xb), (.int xc)] (.int (0 : Int32))) (hCxa : own_C xa) (hCxb : own_C xb) (hCxc : own_C xc) (hbad : ¬ (¬ (255 : Int32) < xa ∧ ¬ (255 : Int32) < xb ∧ ¬ (255 : Int32) < xc)) (hs : own_S Z z fm) :
    own_NC l Z (⟨"java/lang/String", "<init>", "([CIILjava/lang/Void;)V"⟩ : MethodName) jdk_42_method_149_code 6 none ({ frames := 4, cells := 2, slots := 9, locals := 90 } : Room) #[(.ref x), (.ref b), (.int 0), (.int 3), .null] h0 (fun v h => v = none ∧ Keep h0 h [x] ∧ Exa Z h x "java/lang/String" ∧ Fld Z h x "java/lang/String" "coder" "B" (.int (1 : Int32)) ∧ ∃ (t : Addr) (kt : ClassId), h0.size ≤ t ∧ Fld Z h x "java/lang/String" "value" "[B" (.ref t) ∧ Arv Z h t kt .byte (6 : Int32) [(.int (own_lo xa)), (.int (own_hi xa)), (.int (own_lo xb)), (.int (own_hi xb)), (.int (own_lo xc)), (.int (own_hi xc))] (.int (0 : Int32))) := by
  refine own_nc (plainFor_of_name pnl2) ?_
  intro p e s m below meth c s₁ S0 X0 hx hby hml hret hnm hown hZ e0 cc
  have N0 := Fr.nil Z.heap.size
  have c0 : Go p e below S0 s₁ (mkF m 0 #[.val (.ref x), .val (.ref b), .val (.int 0), .val (.int 3), .val .null, .unset] []) := cc.trans (XT.entry rfl)
  obtain ⟨SC, hz, SF, hfm, SA, SH, SL⟩ := id hs
  obtain ⟨T1, X1, e1, st1⟩ := initO X0 hx hZ hown (gw hw 19 rfl) (gw hw 20 rfl) (gw hw 21 rfl) e0 (g := (mkF m 1 #[.val (.ref x), .val (.ref b), .val (.int 0), .val (.int 3), .val .null, .unset] [(.ref x)])) rfl (by rw [hml]; rfl) rfl (hb hby d4_1) (by decide) (W := 0) (by show 2 * 0 + _ ≤ _; exact Nat.le_of_eq rfl) (by decide)
  obtain ⟨T2, X2, e2, st2⟩ := getS2 X1 hx hZ hown (host := "") (Or.inl (gw hw 49 rfl)) Via.refl e1 (SC.ext O0.2) (g := (mkF m 27 #[.val (.ref x), .val (.ref b), .val (.int 0), .val (.int 3), .val .null, .unset] [])) rfl (hb hby d4_27)
  have c3 : Go p e below S0 T2 (mkF m 36 #[.val (.ref x), .val (.ref b), .val (.int 0), .val (.int 3), .val .null, .unset] [(.int 3), (.int 0), (.ref b)]) := c0.trans (by
    refine XS.aloadN X0.here hx rfl (hb hby d4_0) rfl rfl ?_
    refine st1 _ ?_
    refine XS.iloadN X1.here hx rfl (hb hby d4_4) rfl ?_
    refine XS.ifYes X1.here hx rfl (pc0 := 5) (pc' := 27) rfl (hb hby d4_5) rfl ((if0 _ _).trans (feq (by decide : ¬ ((3 : Int32) = (0 : Int32)))).2) (by decide) (by decide) ?_
    refine st2 _ ?_
    show Steps p.tables e below (T2.setTop (mkF m 30 #[.val (.ref x), .val (.ref b), .val (.int 0), .val (.int 3), .val .null, .unset] [(.int z)])) _
    refine XS.ifNo X2.here hx rfl (hb hby d4_30) rfl ((if0 _ _).trans (feq hz).1) ?_
    refine XS.aloadN X2.here hx rfl (hb hby d4_33) rfl rfl ?_
    refine XS.iloadN X2.here hx rfl (hb hby d4_34) rfl ?_
    refine XS.iloadN X2.here hx rfl (hb hby d4_35) rfl ?_
    exact .refl _)
  obtain ⟨v4, T4, L4, X4, ⟨N4', u4, ku4, rfl, K4, lo4, Ku4⟩, c4'⟩ := own_stat X2 hx hml hZ hown (gw hw 71 rfl) (gw hw 72 rfl) (gw hw 73 rfl) (gw hw 74 rfl) (by decide) (kc := 2) (ks := 9) (h := h0) (W := 0) (argsL := [(.ref b), (.int 0), (.int 3)]) (rest := []) (own_pay (W := 0) (rmCmp3_3 l Z a0 hw b kc xa xb xc z fm h0 O0 Kc hCxa hCxb hCxc hbad hs) hZ (gw hw 74 rfl) (gw hw 73 rfl) (by decide) (by decide)) c3 (lenOf pd_9 rfl) rfl (hb hby d4_36) e2
  have N4 := Fr.app N0 N4'
  have c4 : Go p e below S0 T4 (mkF m 39 #[.val (.ref x), .val (.ref b), .val (.int 0), .val (.int 3), .val .null, .unset] [(.ref u4)]) := c4'
  have c5 : Go p e below S0 T4 (mkF m 45 #[.val (.ref x), .val (.ref b), .val (.int 0), .val (.int 3), .val .null, .val (.ref u4)] [(.int 3), (.ref u4), (.ref x)]) := c4.trans (by
    refine XS.astore X4.here hx rfl (hb hby d4_39) rfl rfl (l' := #[.val (.ref x), .val (.ref b), .val (.int 0), .val (.int 3), .val .null, .val (.ref u4)]) rfl ?_
    refine XS.aloadN X4.here hx rfl (hb hby d4_41) rfl rfl ?_
    refine XS.aload X4.here hx rfl (hb hby d4_42) rfl rfl ?_
    refine XS.iloadN X4.here hx rfl (hb hby d4_44) rfl ?_
    exact .refl _)
  obtain ⟨v6, T6, L6, X6, ⟨N6', rfl, e6⟩, c6'⟩ := own_stat X4 hx hml hZ hown (gw hw 78 rfl) (gw hw 79 rfl) (gw hw 73 rfl) (gw hw 80 rfl) (by decide) (kc := 0) (ks := 0) (h := T4.heap) (W := 1) (argsL := [(.ref u4), (.int 3)]) (rest := [(.ref x)]) (own_pay (W := 1) (rmCFAL3 l Z a0 hw u4 ku4 xa xb xc T4.heap (O0.keep K4 all0) Ku4) hZ (gw hw 80 rfl) (gw hw 73 rfl) (by decide) (by decide)) c5 (lenOf pd_11 rfl) rfl (hb hby d4_45) rfl
  have N6 := Fr.app N4 N6'
  have c6 : Go p e below S0 T6 (mkF m 48 #[.val (.ref x), .val (.ref b), .val (.int 0), .val (.int 3), .val .null, .val (.ref u4)] [(.int 1), (.ref x)]) := c6'
  obtain ⟨T7, h7, X7, e7, W7, st7⟩ := putFN X6 hx hZ hown (gw hw 29 rfl) Via.refl e6 (Cd.keep K4 nin0) (E.keep K4) (Or.inr ⟨(gw hw 25 rfl), rfl, hnm⟩) (gw hw 10 rfl) (ty := .byte) (v' := (.int 1)) (by decide) rfl rfl (g := (mkF m 48 #[.val (.ref x), .val (.ref b), .val (.int 0), .val (.int 3), .val .null, .val (.ref u4)] [(.int 1), (.ref x)])) rfl rfl (hb hby d4_48)
  have N7 := Fr.snoc X7 N6 gx
  have Fw7 := (Cd.keep K4 nin0).same W7
  obtain ⟨T8, h8, X8, e8, W8, st8⟩ := putF X7 hx hZ hown (host := "") (Or.inl (gw hw 28 rfl)) Via.refl e7 ((V.keep K4 nin0).other W7 (Or.inr (slot_ne (Or.inr (gw hw 24 rfl)) (Or.inr (gw hw 25 rfl)) (by decide) (t := (.array .byte)) (t' := .byte) (by decide) (by decide)))) ((E.keep K4).wr W7) (Or.inr ⟨(gw hw 24 rfl), rfl, hnm⟩) (gw hw 10 rfl) (ty := (.array .byte)) (by decide) rfl rfl (g := (mkF m 54 #[.val (.ref x), .val (.ref b), .val (.int 0), .val (.int 3), .val .null, .val (.ref u4)] [(.ref u4), (.ref x)])) rfl rfl (hb hby d4_54)
  have N8 := Fr.snoc X8 N7 gx
  have Fw8 := ((V.keep K4 nin0).other W7 (Or.inr (slot_ne (Or.inr (gw hw 24 rfl)) (Or.inr (gw hw 25 rfl)) (by decide) (t := (.array .byte)) (t' := .byte) (by decide) (by decide)))).same W8
  have c9 : Go p e below S0 T8 (mkF m 57 #[.val (.ref x), .val (.ref b), .val (.int 0), .val (.int 3), .val .null, .val (.ref u4)] []) := c6.trans (by
    refine st7 _ ?_
    refine XS.aloadN X7.here hx rfl (hb hby d4_51) rfl rfl ?_
    refine XS.aload X7.here hx rfl (hb hby d4_52) rfl rfl ?_
    refine st8 _ ?_
    show Steps p.tables e below (T8.setTop (mkF m 57 #[.val (.ref x), .val (.ref b), .val (.int 0), .val (.int 3), .val .null, .val (.ref u4)] [])) _
    exact .refl _)
  refine ⟨T8, none, _, _, _, X8, by decide, by decide, (fun _ => rfl), N8, ?_, fun fs hr => ?_⟩
  · rw [e8]
    exact ⟨rfl, ((((Keep.refl h0 [x]).trans K4 all0).wr W7 (Or.inl (List.mem_of_getElem? (i := 0) rfl))).wr W8 (Or.inl (List.mem_of_getElem? (i := 0) rfl))), (((E.keep K4).wr W7).wr W8), (Fw7.other W8 (Or.inr (slot_ne (Or.inr (gw hw 25 rfl)) (Or.inr (gw hw 24 rfl)) (by decide) (t := .byte) (t' := (.array .byte)) (by decide) (by decide)))), u4, ku4, (Nat.le_trans (Keep.refl h0 []).1 lo4), Fw8, ((Ku4.other W7 (Ne.symm (Nat.ne_of_lt (Nat.lt_of_lt_of_le E.lt lo4)))).other W8 (Ne.symm (Nat.ne_of_lt (Nat.lt_of_lt_of_le E.lt lo4))))⟩
  · exact c9.trans (X8.returnOut hx hret (hb hby d4_57) hr)
theorem rmUI1_3 (l : Launch) (Z : State) (a0 : Array Value) (hw : own_W Z a0) (x b : Addr) (kc : ClassId) (u1 u2 : Value) (xa xb xc : Int32) (z : Int32) (fm : Value) (h0 : Heap) (O0 : Old Z Z.heap.size h0) (E : Exa Z h0 x "java/lang/String") (V : Fld Z h0 x "java/lang/String" "value" "[B" u1) (Cd : Fld Z h0 x "java/lang/String" "coder" "B" u2) (gx : Z.heap.size ≤ x) (Kc : Arv Z h0 b kc .char (3 : Int32) [(.int xa), (.int xb), (.int xc)] (.int (0 : Int32))) (hCxa : own_C xa) (hCxb : own_C xb) (hCxc : own_C xc) (hbad : ¬ (¬ (255 : Int32) < xa ∧ ¬ (255 : Int32) < xb ∧ ¬ (255 : Int32) < xc)) (hs : own_S Z z fm) :
    own_NC l Z (⟨"java/lang/String", "<init>", "([C)V"⟩ : MethodName) jdk_42_method_3_code 2 none ({ frames := 5, cells := 2, slots := 9, locals := 120 } : Room) #[(.ref x), (.ref b)] h0 (fun v h => v = none ∧ Keep h0 h [x] ∧ Exa Z h x "java/lang/String" ∧ Fld Z h x "java/lang/String" "coder" "B" (.int (1 : Int32)) ∧ ∃ (t : Addr) (kt : ClassId), h0.size ≤ t ∧ Fld Z h x "java/lang/String" "value" "[B" (.ref t) ∧ Arv Z h t kt .byte (6 : Int32) [(.int (own_lo xa)), (.int (own_hi xa)), (.int (own_lo xb)), (.int (own_hi xb)), (.int (own_lo xc)), (.int (own_hi xc))] (.int (0 : Int32))) := by
  refine own_nc (plainFor_of_name pnl2) ?_
  intro p e s m below meth c s₁ S0 X0 hx hby hml hret hnm hown hZ e0 cc
  have N0 := Fr.nil Z.heap.size
  have c0 : Go p e below S0 s₁ (mkF m 0 #[.val (.ref x), .val (.ref b)] []) := cc.trans (XT.entry rfl)
  obtain ⟨SC, hz, SF, hfm, SA, SH, SL⟩ := id hs
  obtain ⟨cl1, Ar1, q1, S1, M1, H1, G1⟩ := id Kc
  have c2 : Go p e below S0 s₁ (mkF m 6 #[.val (.ref x), .val (.ref b)] [.null, (.int 3), (.int 0), (.ref b), (.ref x)]) := c0.trans (by
    refine XS.aloadN X0.here hx rfl (hb hby d3_0) rfl rfl ?_
    refine XS.aloadN X0.here hx rfl (hb hby d3_1) rfl rfl ?_
    refine XS.iconst X0.here hx rfl (hb hby d3_2) ?_
    refine XS.aloadN X0.here hx rfl (hb hby d3_3) rfl rfl ?_
    refine X0.arraylength hx (by rw [show s₁.heap = h0 from e0]; exact Ar1.1) (State.isArrayOf_alike (hZ).alike Ar1.2.1) (g := (mkF m 4 #[.val (.ref x), .val (.ref b)] [(.ref b), (.int 0), (.ref b), (.ref x)])) rfl rfl (hb hby d3_4) _ ?_
    rw [len_of S1 M1]
    refine XS.aconstNull X0.here hx rfl (hb hby d3_5) ?_
    exact .refl _)
  obtain ⟨v3, T3, L3, X3, ⟨N3', rfl, K3, E3, Cd3, t3, kt3, lo3, V3, Kt3⟩, c3'⟩ := own_spec X0 hx hml hZ hown rfl (gw hw 15 rfl) (gw hw 16 rfl) (gw hw 18 rfl) (by decide) (kc := 2) (ks := 9) (h := h0) (W := 0) (b := x) (argsL := [(.ref b), (.int 0), (.int 3), .null]) (rest := []) (own_pay (W := 0) (rmUI4_3 l Z a0 hw x b kc u1 u2 xa xb xc z fm h0 O0 E V Cd gx Kc hCxa hCxb hCxc hbad hs) hZ (gw hw 18 rfl) (gw hw 11 rfl) (by decide) (by decide)) c2 (lenOf pd_12 rfl) rfl (hb hby d3_6) e0
  have N3 := Fr.app N0 N3'
  have c3 : Go p e below S0 T3 (mkF m 9 #[.val (.ref x), .val (.ref b)] []) := c3'
  refine ⟨T3, none, _, _, _, X3, by decide, by decide, (fun _ => rfl), N3, ?_, fun fs hr => ?_⟩
  · skip
    exact ⟨rfl, K3, E3, Cd3, t3, kt3, lo3, V3, Kt3⟩
  · exact c3.trans (X3.returnOut hx hret (hb hby d3_9) hr)
theorem rmLen16_3 (l : Launch) (Z : State) (a0 : Array Value) (hw : own_W Z a0) (t : Addr) (kb : ClassId) (xa xb xc : Int32) (h0 : Heap) (O0 : Old Z Z.heap.size h0) (Kt : Arv Z h0 t kb .byte (6 : Int32) [(.int (own_lo xa)), (.int (own_hi xa)), (.int (own_lo xb)), (.int (own_hi xb)), (.int (own_lo xc)), (.int (own_hi xc))] (.int (0 : Int32))) :
    own_NC l Z (⟨"java/lang/StringUTF16", "length", "([B)I"⟩ : MethodName) jdk_52_method_6_code 1 (some .int) ({ frames := 0, cells := 0, slots := 0, locals := 0 } : Room) #[(.ref t)] h0 (fun v h => v = some (.int (3 : Int32)) ∧ h = h0) := by
  refine own_nc (plainFor_of_name pnl4) ?_
  intro p e s m below meth c s₁ S0 X0 hx hby hml hret hnm hown hZ e0 cc
  have N0 := Fr.nil Z.heap.size
  have c0 : Go p e below S0 s₁ (mkF m 0 #[.val (.ref t)] []) := cc.trans (XT.entry rfl)
  obtain ⟨cl1, Ar1, q1, S1, M1, H1, G1⟩ := id Kt
  have c2 : Go p e below S0 s₁ (mkF m 4 #[.val (.ref t)] [(.int 3)]) := c0.trans (by
    refine XS.aloadN X0.here hx rfl (hb hby d28_0) rfl rfl ?_
    refine X0.arraylength hx (by rw [show s₁.heap = h0 from e0]; exact Ar1.1) (State.isArrayOf_alike (hZ).alike Ar1.2.1) (g := (mkF m 1 #[.val (.ref t)] [(.ref t)])) rfl rfl (hb hby d28_1) _ ?_
    rw [len_of S1 M1]
    refine XS.iconst X0.here hx rfl (hb hby d28_2) ?_
    refine XS.ishr X0.here hx rfl (hb hby d28_3) rfl ?_
    exact .refl _)
  refine ⟨s₁, (some (.int 3)), _, _, _, X0, by decide, by decide, (fun q => by cases q), N0, ?_, fun fs hr => ?_⟩
  · rw [e0]
    exact ⟨rfl, rfl⟩
  · exact c2.trans (retI X0 hx hret (hb hby d28_4) hr)
theorem rmCFT_0_3_3n (l : Launch) (Z : State) (a0 : Array Value) (hw : own_W Z a0)  (h0 : Heap) (O0 : Old Z Z.heap.size h0)  :
    own_NC l Z (⟨"jdk/internal/util/Preconditions", "checkFromToIndex", "(IIILjava/util/function/BiFunction;)I"⟩ : MethodName) jdk_41_method_12_code 4 (some .int) ({ frames := 0, cells := 0, slots := 0, locals := 0 } : Room) #[(.int 0), (.int 3), (.int 3), .null] h0 (fun v h => v = some (.int (0 : Int32)) ∧ h = h0) := by
  refine own_nc (plainFor_of_name pnl5) ?_
  intro p e s m below meth c s₁ S0 X0 hx hby hml hret hnm hown hZ e0 cc
  have N0 := Fr.nil Z.heap.size
  have c0 : Go p e below S0 s₁ (mkF m 0 #[.val (.int 0), .val (.int 3), .val (.int 3), .val .null] []) := cc.trans (XT.entry rfl)
  have c1 : Go p e below S0 s₁ (mkF m 23 #[.val (.int 0), .val (.int 3), .val (.int 3), .val .null] [(.int 0)]) := c0.trans (by
    refine XS.iloadN X0.here hx rfl (hb hby d30_0) rfl ?_
    refine XS.ifNo X0.here hx rfl (hb hby d30_1) rfl ((if0 _ _).trans (flt (by decide : ¬ ((0 : Int32) < (0 : Int32)))).1) ?_
    refine XS.iloadN X0.here hx rfl (hb hby d30_4) rfl ?_
    refine XS.iloadN X0.here hx rfl (hb hby d30_5) rfl ?_
    refine XS.icmpNo X0.here hx rfl (hb hby d30_6) rfl (flt (by decide : ¬ ((3 : Int32) < (0 : Int32)))).2.2.1 ?_
    refine XS.iloadN X0.here hx rfl (hb hby d30_9) rfl ?_
    refine XS.iloadN X0.here hx rfl (hb hby d30_10) rfl ?_
    refine XS.icmpYes X0.here hx rfl (pc0 := 11) (pc' := 22) rfl (hb hby d30_11) rfl (flt (by decide : ¬ ((3 : Int32) < (3 : Int32)))).2.2.2 (by decide) (by decide) ?_
    refine XS.iloadN X0.here hx rfl (hb hby d30_22) rfl ?_
    show Steps p.tables e below (s₁.setTop (mkF m 23 #[.val (.int 0), .val (.int 3), .val (.int 3), .val .null] [(.int 0)])) _
    exact .refl _)
  refine ⟨s₁, (some (.int 0)), _, _, _, X0, by decide, by decide, (fun q => by cases q), N0, ?_, fun fs hr => ?_⟩
  · rw [e0]
    exact ⟨rfl, rfl⟩
  · exact c1.trans (retI X0 hx hret (hb hby d30_23) hr)
theorem rmCFT_0_3_3r (l : Launch) (Z : State) (a0 : Array Value) (hw : own_W Z a0) (fa : Addr) (h0 : Heap) (O0 : Old Z Z.heap.size h0)  :
    own_NC l Z (⟨"jdk/internal/util/Preconditions", "checkFromToIndex", "(IIILjava/util/function/BiFunction;)I"⟩ : MethodName) jdk_41_method_12_code 4 (some .int) ({ frames := 0, cells := 0, slots := 0, locals := 0 } : Room) #[(.int 0), (.int 3), (.int 3), (.ref fa)] h0 (fun v h => v = some (.int (0 : Int32)) ∧ h = h0) := by
  refine own_nc (plainFor_of_name pnl5) ?_
  intro p e s m below meth c s₁ S0 X0 hx hby hml hret hnm hown hZ e0 cc
  have N0 := Fr.nil Z.heap.size
  have c0 : Go p e below S0 s₁ (mkF m 0 #[.val (.int 0), .val (.int 3), .val (.int 3), .val (.ref fa)] []) := cc.trans (XT.entry rfl)
  have c1 : Go p e below S0 s₁ (mkF m 23 #[.val (.int 0), .val (.int 3), .val (.int 3), .val (.ref fa)] [(.int 0)]) := c0.trans (by
    refine XS.iloadN X0.here hx rfl (hb hby d30_0) rfl ?_
    refine XS.ifNo X0.here hx rfl (hb hby d30_1) rfl ((if0 _ _).trans (flt (by decide : ¬ ((0 : Int32) < (0 : Int32)))).1) ?_
    refine XS.iloadN X0.here hx rfl (hb hby d30_4) rfl ?_
    refine XS.iloadN X0.here hx rfl (hb hby d30_5) rfl ?_
    refine XS.icmpNo X0.here hx rfl (hb hby d30_6) rfl (flt (by decide : ¬ ((3 : Int32) < (0 : Int32)))).2.2.1 ?_
    refine XS.iloadN X0.here hx rfl (hb hby d30_9) rfl ?_
    refine XS.iloadN X0.here hx rfl (hb hby d30_10) rfl ?_
    refine XS.icmpYes X0.here hx rfl (pc0 := 11) (pc' := 22) rfl (hb hby d30_11) rfl (flt (by decide : ¬ ((3 : Int32) < (3 : Int32)))).2.2.2 (by decide) (by decide) ?_
    refine XS.iloadN X0.here hx rfl (hb hby d30_22) rfl ?_
    show Steps p.tables e below (s₁.setTop (mkF m 23 #[.val (.int 0), .val (.int 3), .val (.int 3), .val (.ref fa)] [(.int 0)])) _
    exact .refl _)
  refine ⟨s₁, (some (.int 0)), _, _, _, X0, by decide, by decide, (fun q => by cases q), N0, ?_, fun fs hr => ?_⟩
  · rw [e0]
    exact ⟨rfl, rfl⟩
  · exact c1.trans (retI X0 hx hret (hb hby d30_23) hr)
theorem rmCFT_0_3_3 (l : Launch) (Z : State) (a0 : Array Value) (hw : ∀ d ∈ tables_1, d.before a0 Z = true) (fm : Value) (h0 : Heap) (O0 : Old Z Z.heap.size h0) (hfm : fm.isRef = true) : own_NC l Z (⟨"jdk/internal/util/Preconditions", "checkFromToIndex", "(IIILjava/util/function/BiFunction;)I"⟩ : MethodName) jdk_41_method_12_code 4 (some .int) ({ frames := 0, cells := 0, slots := 0, locals := 0 } : Room) #[(.int (0 : Int32)), (.int (3 : Int32)), (.int (3 : Int32)), fm] h0 (fun v h => v = some (.int (0 : Int32)) ∧ h = h0) := by
  rcases ref_cases hfm with rfl | ⟨fa, rfl⟩
  · exact rmCFT_0_3_3n l Z a0 hw h0 O0
  · exact rmCFT_0_3_3r l Z a0 hw fa h0 O0
theorem rmCBE_0_3_3 (l : Launch) (Z : State) (a0 : Array Value) (hw : own_W Z a0) (z : Int32) (fm : Value) (h0 : Heap) (O0 : Old Z Z.heap.size h0) (hs : own_S Z z fm) :
    own_NC l Z (⟨"java/lang/String", "checkBoundsBeginEnd", "(III)V"⟩ : MethodName) jdk_42_method_158_code 3 none ({ frames := 1, cells := 0, slots := 0, locals := 20 } : Room) #[(.int 0), (.int 3), (.int 3)] h0 (fun v h => v = none ∧ h = h0) := by
  refine own_nc (plainFor_of_name pnl2) ?_
  intro p e s m below meth c s₁ S0 X0 hx hby hml hret hnm hown hZ e0 cc
  have N0 := Fr.nil Z.heap.size
  have c0 : Go p e below S0 s₁ (mkF m 0 #[.val (.int 0), .val (.int 3), .val (.int 3)] []) := cc.trans (XT.entry rfl)
  obtain ⟨SC, hz, SF, hfm, SA, SH, SL⟩ := id hs
  obtain ⟨T1, X1, e1, st1⟩ := getS2 X0 hx hZ hown (host := "") (Or.inl (gw hw 125 rfl)) Via.refl e0 (SF.ext O0.2) (g := (mkF m 3 #[.val (.int 0), .val (.int 3), .val (.int 3)] [(.int 3), (.int 3), (.int 0)])) rfl (hb hby d29_3)
  have c2 : Go p e below S0 T1 (mkF m 6 #[.val (.int 0), .val (.int 3), .val (.int 3)] [fm, (.int 3), (.int 3), (.int 0)]) := c0.trans (by
    refine XS.iloadN X0.here hx rfl (hb hby d29_0) rfl ?_
    refine XS.iloadN X0.here hx rfl (hb hby d29_1) rfl ?_
    refine XS.iloadN X0.here hx rfl (hb hby d29_2) rfl ?_
    refine st1 _ ?_
    show Steps p.tables e below (T1.setTop (mkF m 6 #[.val (.int 0), .val (.int 3), .val (.int 3)] [fm, (.int 3), (.int 3), (.int 0)])) _
    exact .refl _)
  obtain ⟨v3, T3, L3, X3, ⟨N3', rfl, e3⟩, c3'⟩ := own_stat X1 hx hml hZ hown (gw hw 127 rfl) (gw hw 128 rfl) (gw hw 126 rfl) (gw hw 129 rfl) (by decide) (kc := 0) (ks := 0) (h := h0) (W := 0) (argsL := [(.int 0), (.int 3), (.int 3), fm]) (rest := []) (own_pay (W := 0) (rmCFT_0_3_3 l Z a0 hw fm h0 O0 hfm) hZ (gw hw 129 rfl) (gw hw 126 rfl) (by decide) (by decide)) c2 (lenOf pd_14 rfl) rfl (hb hby d29_6) e1
  have N3 := Fr.app N0 N3'
  have c3 : Go p e below S0 T3 (mkF m 9 #[.val (.int 0), .val (.int 3), .val (.int 3)] [(.int 0)]) := c3'
  have c4 : Go p e below S0 T3 (mkF m 10 #[.val (.int 0), .val (.int 3), .val (.int 3)] []) := c3.trans (by
    refine XS.pop X3.here hx rfl (hb hby d29_9) rfl rfl ?_
    exact .refl _)
  refine ⟨T3, none, _, _, _, X3, by decide, by decide, (fun _ => rfl), N3, ?_, fun fs hr => ?_⟩
  · rw [e3]
    exact ⟨rfl, rfl⟩
  · exact c4.trans (X3.returnOut hx hret (hb hby d29_10) hr)
theorem rmUCBE3 (l : Launch) (Z : State) (a0 : Array Value) (hw : own_W Z a0) (t : Addr) (kb : ClassId) (xa xb xc : Int32) (z : Int32) (fm : Value) (h0 : Heap) (O0 : Old Z Z.heap.size h0) (Kt : Arv Z h0 t kb .byte (6 : Int32) [(.int (own_lo xa)), (.int (own_hi xa)), (.int (own_lo xb)), (.int (own_hi xb)), (.int (own_lo xc)), (.int (own_hi xc))] (.int (0 : Int32))) (hs : own_S Z z fm) :
    own_NC l Z (⟨"java/lang/StringUTF16", "checkBoundsBeginEnd", "(II[B)V"⟩ : MethodName) jdk_52_method_93_code 3 none ({ frames := 2, cells := 0, slots := 0, locals := 40 } : Room) #[(.int 0), (.int 3), (.ref t)] h0 (fun v h => v = none ∧ h = h0) := by
  refine own_nc (plainFor_of_name pnl4) ?_
  intro p e s m below meth c s₁ S0 X0 hx hby hml hret hnm hown hZ e0 cc
  have N0 := Fr.nil Z.heap.size
  have c0 : Go p e below S0 s₁ (mkF m 0 #[.val (.int 0), .val (.int 3), .val (.ref t)] []) := cc.trans (XT.entry rfl)
  obtain ⟨SC, hz, SF, hfm, SA, SH, SL⟩ := id hs
  have c1 : Go p e below S0 s₁ (mkF m 3 #[.val (.int 0), .val (.int 3), .val (.ref t)] [(.ref t), (.int 3), (.int 0)]) := c0.trans (by
    refine XS.iloadN X0.here hx rfl (hb hby d27_0) rfl ?_
    refine XS.iloadN X0.here hx rfl (hb hby d27_1) rfl ?_
    refine XS.aloadN X0.here hx rfl (hb hby d27_2) rfl rfl ?_
    exact .refl _)
  obtain ⟨v2, T2, L2, X2, ⟨N2', rfl, e2⟩, c2'⟩ := own_stat X0 hx hml hZ hown (gw hw 119 rfl) (gw hw 120 rfl) (gw hw 73 rfl) (gw hw 121 rfl) (by decide) (kc := 0) (ks := 0) (h := h0) (W := 2) (argsL := [(.ref t)]) (rest := [(.int 3), (.int 0)]) (own_pay (W := 2) (rmLen16_3 l Z a0 hw t kb xa xb xc h0 O0 Kt) hZ (gw hw 121 rfl) (gw hw 73 rfl) (by decide) (by decide)) c1 (lenOf pd_13 rfl) rfl (hb hby d27_3) e0
  have N2 := Fr.app N0 N2'
  have c2 : Go p e below S0 T2 (mkF m 6 #[.val (.int 0), .val (.int 3), .val (.ref t)] [(.int 3), (.int 3), (.int 0)]) := c2'
  obtain ⟨v3, T3, L3, X3, ⟨N3', rfl, e3⟩, c3'⟩ := own_stat X2 hx hml hZ hown (gw hw 122 rfl) (gw hw 123 rfl) (gw hw 11 rfl) (gw hw 124 rfl) (by decide) (kc := 0) (ks := 0) (h := h0) (W := 0) (argsL := [(.int 0), (.int 3), (.int 3)]) (rest := []) (own_pay (W := 0) (rmCBE_0_3_3 l Z a0 hw z fm h0 O0 hs) hZ (gw hw 124 rfl) (gw hw 11 rfl) (by decide) (by decide)) c2 (lenOf pd_15 rfl) rfl (hb hby d27_6) e2
  have N3 := Fr.app N2 N3'
  have c3 : Go p e below S0 T3 (mkF m 9 #[.val (.int 0), .val (.int 3), .val (.ref t)] []) := c3'
  refine ⟨T3, none, _, _, _, X3, by decide, by decide, (fun _ => rfl), N3, ?_, fun fs hr => ?_⟩
  · rw [e3]
    exact ⟨rfl, rfl⟩
  · exact c3.trans (X3.returnOut hx hret (hb hby d27_9) hr)
theorem rmUUn3 (l : Launch) (Z : State) (a0 : Array Value) (hw : own_W Z a0) (t : Addr) (kb : ClassId) (k : Int32) (xa xb xc : Int32) (z : Int32) (fm : Value) (h0 : Heap) (O0 : Old Z Z.heap.size h0) (Kt : Arv Z h0 t kb .byte (6 : Int32) [(.int (own_lo xa)), (.int (own_hi xa)), (.int (own_lo xb)), (.int (own_hi xb)), (.int (own_lo xc)), (.int (own_hi xc))] (.int (0 : Int32))) (hCxa : own_C xa) (hCxb : own_C xb) (hCxc : own_C xc) (hs : own_S Z z fm) :
    own_NC l Z (⟨"java/lang/StringUTF16", "indexOfCharUnsafe", "([BIII)I"⟩ : MethodName) jdk_52_method_48_code 5 (some .int) ({ frames := 1, cells := 0, slots := 0, locals := 20 } : Room) #[(.ref t), (.int k), (.int 0), (.int 3)] h0 (fun v h => (∃ r : Int32, v = some (.int r) ∧ decide (r < (0 : Int32)) = !own_has [xa, xb, xc] k) ∧ h = h0) := by
  refine own_nc (plainFor_of_name pnl4) ?_
  intro p e s m below meth c s₁ S0 X0 hx hby hml hret hnm hown hZ e0 cc
  have N0 := Fr.nil Z.heap.size
  have c0 : Go p e below S0 s₁ (mkF m 0 #[.val (.ref t), .val (.int k), .val (.int 0), .val (.int 3), .unset] []) := cc.trans (XT.entry rfl)
  obtain ⟨SC, hz, SF, hfm, SA, SH, SL⟩ := id hs
  have c1 : Go p e below S0 s₁ (mkF m 12 #[.val (.ref t), .val (.int k), .val (.int 0), .val (.int 3), .val (.int 0)] [(.int 0), (.ref t)]) := c0.trans (by
    refine XS.iloadN X0.here hx rfl (hb hby d31_0) rfl ?_
    refine XS.istore X0.here hx rfl (hb hby d31_1) rfl (l' := #[.val (.ref t), .val (.int k), .val (.int 0), .val (.int 3), .val (.int 0)]) rfl ?_
    refine XS.iload X0.here hx rfl (hb hby d31_3) rfl ?_
    refine XS.iloadN X0.here hx rfl (hb hby d31_5) rfl ?_
    refine XS.icmpNo X0.here hx rfl (hb hby d31_6) rfl (tlt (by decide : (0 : Int32) < (3 : Int32))).2.1 ?_
    refine XS.aloadN X0.here hx rfl (hb hby d31_9) rfl rfl ?_
    refine XS.iload X0.here hx rfl (hb hby d31_10) rfl ?_
    exact .refl _)
  obtain ⟨v2, T2, L2, X2, ⟨N2', rfl, e2⟩, c2'⟩ := own_stat X0 hx hml hZ hown (gw hw 104 rfl) (gw hw 105 rfl) (gw hw 73 rfl) (gw hw 106 rfl) (by decide) (kc := 0) (ks := 0) (h := h0) (W := 0) (argsL := [(.ref t), (.int 0)]) (rest := []) (own_pay (W := 0) (rmGet l Z a0 hw t kb [(.int (own_lo xa)), (.int (own_hi xa)), (.int (own_lo xb)), (.int (own_hi xb)), (.int (own_lo xc)), (.int (own_hi xc))] 6 0 xa z fm h0 O0 Kt rfl (by decide) (by decide) rfl rfl hCxa hs) hZ (gw hw 106 rfl) (gw hw 73 rfl) (by decide) (by decide)) c1 (lenOf pd_10 rfl) rfl (hb hby d31_12) e0
  have N2 := Fr.app N0 N2'
  have c2 : Go p e below S0 T2 (mkF m 15 #[.val (.ref t), .val (.int k), .val (.int 0), .val (.int 3), .val (.int 0)] [(.int xa)]) := c2'
  have c3 : Go p e below S0 T2 (mkF m 16 #[.val (.ref t), .val (.int k), .val (.int 0), .val (.int 3), .val (.int 0)] [(.int k), (.int xa)]) := c2.trans (by
    refine XS.iloadN X2.here hx rfl (hb hby d31_15) rfl ?_
    exact .refl _)
  by_cases hc4 : xa = k
  · skip
    have c5 : Go p e below S0 T2 (mkF m 21 #[.val (.ref t), .val (.int k), .val (.int 0), .val (.int 3), .val (.int 0)] [(.int 0)]) := c3.trans (by
      refine XS.icmpNo X2.here hx rfl (hb hby d31_16) rfl (teq hc4).2 ?_
      refine XS.iload X2.here hx rfl (hb hby d31_19) rfl ?_
      exact .refl _)
    refine ⟨T2, (some (.int 0)), _, _, _, X2, by decide, by decide, (fun q => by cases q), N2, ?_, fun fs hr => ?_⟩
    · rw [e2]
      exact ⟨⟨_, rfl, by simp [own_has, hc4]⟩, rfl⟩
    · exact c5.trans (retI X2 hx hret (hb hby d31_21) hr)
  · skip
    have c7 : Go p e below S0 T2 (mkF m 12 #[.val (.ref t), .val (.int k), .val (.int 0), .val (.int 3), .val (.int 1)] [(.int 1), (.ref t)]) := c3.trans (by
      refine XS.icmpYes X2.here hx rfl (pc0 := 16) (pc' := 22) rfl (hb hby d31_16) rfl (feq hc4).2 (by decide) (by decide) ?_
      refine XS.iinc X2.here hx rfl (hb hby d31_22) rfl (l' := #[.val (.ref t), .val (.int k), .val (.int 0), .val (.int 3), .val (.int 1)]) rfl ?_
      refine XS.goto X2.here hx rfl (pc0 := 25) (pc' := 3) rfl (hb hby d31_25) (by decide) (by decide) ?_
      refine XS.iload X2.here hx rfl (hb hby d31_3) rfl ?_
      refine XS.iloadN X2.here hx rfl (hb hby d31_5) rfl ?_
      refine XS.icmpNo X2.here hx rfl (hb hby d31_6) rfl (tlt (by decide : (1 : Int32) < (3 : Int32))).2.1 ?_
      refine XS.aloadN X2.here hx rfl (hb hby d31_9) rfl rfl ?_
      refine XS.iload X2.here hx rfl (hb hby d31_10) rfl ?_
      exact .refl _)
    obtain ⟨v8, T8, L8, X8, ⟨N8', rfl, e8⟩, c8'⟩ := own_stat X2 hx hml hZ hown (gw hw 104 rfl) (gw hw 105 rfl) (gw hw 73 rfl) (gw hw 106 rfl) (by decide) (kc := 0) (ks := 0) (h := h0) (W := 0) (argsL := [(.ref t), (.int 1)]) (rest := []) (own_pay (W := 0) (rmGet l Z a0 hw t kb [(.int (own_lo xa)), (.int (own_hi xa)), (.int (own_lo xb)), (.int (own_hi xb)), (.int (own_lo xc)), (.int (own_hi xc))] 6 1 xb z fm h0 O0 Kt rfl (by decide) (by decide) rfl rfl hCxb hs) hZ (gw hw 106 rfl) (gw hw 73 rfl) (by decide) (by decide)) c7 (lenOf pd_10 rfl) rfl (hb hby d31_12) e2
    have N8 := Fr.app N2 N8'
    have c8 : Go p e below S0 T8 (mkF m 15 #[.val (.ref t), .val (.int k), .val (.int 0), .val (.int 3), .val (.int 1)] [(.int xb)]) := c8'
    have c9 : Go p e below S0 T8 (mkF m 16 #[.val (.ref t), .val (.int k), .val (.int 0), .val (.int 3), .val (.int 1)] [(.int k), (.int xb)]) := c8.trans (by
      refine XS.iloadN X8.here hx rfl (hb hby d31_15) rfl ?_
      exact .refl _)
    by_cases hc10 : xb = k
    · skip
      have c11 : Go p e below S0 T8 (mkF m 21 #[.val (.ref t), .val (.int k), .val (.int 0), .val (.int 3), .val (.int 1)] [(.int 1)]) := c9.trans (by
        refine XS.icmpNo X8.here hx rfl (hb hby d31_16) rfl (teq hc10).2 ?_
        refine XS.iload X8.here hx rfl (hb hby d31_19) rfl ?_
        exact .refl _)
      refine ⟨T8, (some (.int 1)), _, _, _, X8, by decide, by decide, (fun q => by cases q), N8, ?_, fun fs hr => ?_⟩
      · rw [e8]
        exact ⟨⟨_, rfl, by simp [own_has, hc4, hc10]⟩, rfl⟩
      · exact c11.trans (retI X8 hx hret (hb hby d31_21) hr)
    · skip
      have c13 : Go p e below S0 T8 (mkF m 12 #[.val (.ref t), .val (.int k), .val (.int 0), .val (.int 3), .val (.int 2)] [(.int 2), (.ref t)]) := c9.trans (by
        refine XS.icmpYes X8.here hx rfl (pc0 := 16) (pc' := 22) rfl (hb hby d31_16) rfl (feq hc10).2 (by decide) (by decide) ?_
        refine XS.iinc X8.here hx rfl (hb hby d31_22) rfl (l' := #[.val (.ref t), .val (.int k), .val (.int 0), .val (.int 3), .val (.int 2)]) rfl ?_
        refine XS.goto X8.here hx rfl (pc0 := 25) (pc' := 3) rfl (hb hby d31_25) (by decide) (by decide) ?_
        refine XS.iload X8.here hx rfl (hb hby d31_3) rfl ?_
        refine XS.iloadN X8.here hx rfl (hb hby d31_5) rfl ?_
        refine XS.icmpNo X8.here hx rfl (hb hby d31_6) rfl (tlt (by decide : (2 : Int32) < (3 : Int32))).2.1 ?_
        refine XS.aloadN X8.here hx rfl (hb hby d31_9) rfl rfl ?_
        refine XS.iload X8.here hx rfl (hb hby d31_10) rfl ?_
        exact .refl _)
      obtain ⟨v14, T14, L14, X14, ⟨N14', rfl, e14⟩, c14'⟩ := own_stat X8 hx hml hZ hown (gw hw 104 rfl) (gw hw 105 rfl) (gw hw 73 rfl) (gw hw 106 rfl) (by decide) (kc := 0) (ks := 0) (h := h0) (W := 0) (argsL := [(.ref t), (.int 2)]) (rest := []) (own_pay (W := 0) (rmGet l Z a0 hw t kb [(.int (own_lo xa)), (.int (own_hi xa)), (.int (own_lo xb)), (.int (own_hi xb)), (.int (own_lo xc)), (.int (own_hi xc))] 6 2 xc z fm h0 O0 Kt rfl (by decide) (by decide) rfl rfl hCxc hs) hZ (gw hw 106 rfl) (gw hw 73 rfl) (by decide) (by decide)) c13 (lenOf pd_10 rfl) rfl (hb hby d31_12) e8
      have N14 := Fr.app N8 N14'
      have c14 : Go p e below S0 T14 (mkF m 15 #[.val (.ref t), .val (.int k), .val (.int 0), .val (.int 3), .val (.int 2)] [(.int xc)]) := c14'
      have c15 : Go p e below S0 T14 (mkF m 16 #[.val (.ref t), .val (.int k), .val (.int 0), .val (.int 3), .val (.int 2)] [(.int k), (.int xc)]) := c14.trans (by
        refine XS.iloadN X14.here hx rfl (hb hby d31_15) rfl ?_
        exact .refl _)
      by_cases hc16 : xc = k
      · skip
        have c17 : Go p e below S0 T14 (mkF m 21 #[.val (.ref t), .val (.int k), .val (.int 0), .val (.int 3), .val (.int 2)] [(.int 2)]) := c15.trans (by
          refine XS.icmpNo X14.here hx rfl (hb hby d31_16) rfl (teq hc16).2 ?_
          refine XS.iload X14.here hx rfl (hb hby d31_19) rfl ?_
          exact .refl _)
        refine ⟨T14, (some (.int 2)), _, _, _, X14, by decide, by decide, (fun q => by cases q), N14, ?_, fun fs hr => ?_⟩
        · rw [e14]
          exact ⟨⟨_, rfl, by simp [own_has, hc4, hc10, hc16]⟩, rfl⟩
        · exact c17.trans (retI X14 hx hret (hb hby d31_21) hr)
      · skip
        have c19 : Go p e below S0 T14 (mkF m 29 #[.val (.ref t), .val (.int k), .val (.int 0), .val (.int 3), .val (.int 3)] [(.int (-1))]) := c15.trans (by
          refine XS.icmpYes X14.here hx rfl (pc0 := 16) (pc' := 22) rfl (hb hby d31_16) rfl (feq hc16).2 (by decide) (by decide) ?_
          refine XS.iinc X14.here hx rfl (hb hby d31_22) rfl (l' := #[.val (.ref t), .val (.int k), .val (.int 0), .val (.int 3), .val (.int 3)]) rfl ?_
          refine XS.goto X14.here hx rfl (pc0 := 25) (pc' := 3) rfl (hb hby d31_25) (by decide) (by decide) ?_
          refine XS.iload X14.here hx rfl (hb hby d31_3) rfl ?_
          refine XS.iloadN X14.here hx rfl (hb hby d31_5) rfl ?_
          refine XS.icmpYes X14.here hx rfl (pc0 := 6) (pc' := 28) rfl (hb hby d31_6) rfl (flt (by decide : ¬ ((3 : Int32) < (3 : Int32)))).2.1 (by decide) (by decide) ?_
          refine XS.iconst X14.here hx rfl (hb hby d31_28) ?_
          exact .refl _)
        refine ⟨T14, (some (.int (-1))), _, _, _, X14, by decide, by decide, (fun q => by cases q), N14, ?_, fun fs hr => ?_⟩
        · rw [e14]
          exact ⟨⟨_, rfl, by simp [own_has, hc4, hc10, hc16]⟩, rfl⟩
        · exact c19.trans (retI X14 hx hret (hb hby d31_29) hr)
theorem rmUIxC3 (l : Launch) (Z : State) (a0 : Array Value) (hw : own_W Z a0) (t : Addr) (kb : ClassId) (k : Int32) (xa xb xc : Int32) (z : Int32) (fm : Value) (h0 : Heap) (O0 : Old Z Z.heap.size h0) (Kt : Arv Z h0 t kb .byte (6 : Int32) [(.int (own_lo xa)), (.int (own_hi xa)), (.int (own_lo xb)), (.int (own_hi xb)), (.int (own_lo xc)), (.int (own_hi xc))] (.int (0 : Int32))) (hCxa : own_C xa) (hCxb : own_C xb) (hCxc : own_C xc) (hs : own_S Z z fm) :
    own_NC l Z (⟨"java/lang/StringUTF16", "indexOfChar", "([BIII)I"⟩ : MethodName) jdk_52_method_47_code 4 (some .int) ({ frames := 3, cells := 0, slots := 0, locals := 60 } : Room) #[(.ref t), (.int k), (.int 0), (.int 3)] h0 (fun v h => (∃ r : Int32, v = some (.int r) ∧ decide (r < (0 : Int32)) = !own_has [xa, xb, xc] k) ∧ h = h0) := by
  refine own_nc (plainFor_of_name pnl4) ?_
  intro p e s m below meth c s₁ S0 X0 hx hby hml hret hnm hown hZ e0 cc
  have N0 := Fr.nil Z.heap.size
  have c0 : Go p e below S0 s₁ (mkF m 0 #[.val (.ref t), .val (.int k), .val (.int 0), .val (.int 3)] []) := cc.trans (XT.entry rfl)
  obtain ⟨SC, hz, SF, hfm, SA, SH, SL⟩ := id hs
  have c1 : Go p e below S0 s₁ (mkF m 3 #[.val (.ref t), .val (.int k), .val (.int 0), .val (.int 3)] [(.ref t), (.int 3), (.int 0)]) := c0.trans (by
    refine XS.iloadN X0.here hx rfl (hb hby d26_0) rfl ?_
    refine XS.iloadN X0.here hx rfl (hb hby d26_1) rfl ?_
    refine XS.aloadN X0.here hx rfl (hb hby d26_2) rfl rfl ?_
    exact .refl _)
  obtain ⟨v2, T2, L2, X2, ⟨N2', rfl, e2⟩, c2'⟩ := own_stat X0 hx hml hZ hown (gw hw 116 rfl) (gw hw 117 rfl) (gw hw 73 rfl) (gw hw 118 rfl) (by decide) (kc := 0) (ks := 0) (h := h0) (W := 0) (argsL := [(.int 0), (.int 3), (.ref t)]) (rest := []) (own_pay (W := 0) (rmUCBE3 l Z a0 hw t kb xa xb xc z fm h0 O0 Kt hs) hZ (gw hw 118 rfl) (gw hw 73 rfl) (by decide) (by decide)) c1 (lenOf pd_16 rfl) rfl (hb hby d26_3) e0
  have N2 := Fr.app N0 N2'
  have c2 : Go p e below S0 T2 (mkF m 6 #[.val (.ref t), .val (.int k), .val (.int 0), .val (.int 3)] []) := c2'
  have c3 : Go p e below S0 T2 (mkF m 10 #[.val (.ref t), .val (.int k), .val (.int 0), .val (.int 3)] [(.int 3), (.int 0), (.int k), (.ref t)]) := c2.trans (by
    refine XS.aloadN X2.here hx rfl (hb hby d26_6) rfl rfl ?_
    refine XS.iloadN X2.here hx rfl (hb hby d26_7) rfl ?_
    refine XS.iloadN X2.here hx rfl (hb hby d26_8) rfl ?_
    refine XS.iloadN X2.here hx rfl (hb hby d26_9) rfl ?_
    exact .refl _)
  obtain ⟨v4, T4, L4, X4, ⟨N4', ⟨r4, rfl, hr4⟩, e4⟩, c4'⟩ := own_stat X2 hx hml hZ hown (gw hw 130 rfl) (gw hw 131 rfl) (gw hw 73 rfl) (gw hw 132 rfl) (by decide) (kc := 0) (ks := 0) (h := h0) (W := 0) (argsL := [(.ref t), (.int k), (.int 0), (.int 3)]) (rest := []) (own_pay (W := 0) (rmUUn3 l Z a0 hw t kb k xa xb xc z fm h0 O0 Kt hCxa hCxb hCxc hs) hZ (gw hw 132 rfl) (gw hw 73 rfl) (by decide) (by decide)) c3 (lenOf pd_4 rfl) rfl (hb hby d26_10) e2
  have N4 := Fr.app N2 N4'
  have c4 : Go p e below S0 T4 (mkF m 13 #[.val (.ref t), .val (.int k), .val (.int 0), .val (.int 3)] [(.int r4)]) := c4'
  refine ⟨T4, (some (.int r4)), _, _, _, X4, by decide, by decide, (fun q => by cases q), N4, ?_, fun fs hr => ?_⟩
  · rw [e4]
    exact ⟨⟨_, rfl, hr4⟩, rfl⟩
  · exact c4.trans (retI X4 hx hret (hb hby d26_13) hr)
theorem rmUIx3 (l : Launch) (Z : State) (a0 : Array Value) (hw : own_W Z a0) (t : Addr) (kb : ClassId) (k : Int32) (xa xb xc : Int32) (z : Int32) (fm : Value) (h0 : Heap) (O0 : Old Z Z.heap.size h0) (Kt : Arv Z h0 t kb .byte (6 : Int32) [(.int (own_lo xa)), (.int (own_hi xa)), (.int (own_lo xb)), (.int (own_hi xb)), (.int (own_lo xc)), (.int (own_hi xc))] (.int (0 : Int32))) (hCxa : own_C xa) (hCxb : own_C xb) (hCxc : own_C xc) (hs : own_S Z z fm) (hk : own_B k) :
    own_NC l Z (⟨"java/lang/StringUTF16", "indexOf", "([BIII)I"⟩ : MethodName) jdk_52_method_40_code 4 (some .int) ({ frames := 4, cells := 0, slots := 0, locals := 80 } : Room) #[(.ref t), (.int k), (.int 0), (.int 3)] h0 (fun v h => (∃ r : Int32, v = some (.int r) ∧ decide (r < (0 : Int32)) = !own_has [xa, xb, xc] k) ∧ h = h0) := by
  refine own_nc (plainFor_of_name pnl4) ?_
  intro p e s m below meth c s₁ S0 X0 hx hby hml hret hnm hown hZ e0 cc
  have N0 := Fr.nil Z.heap.size
  have c0 : Go p e below S0 s₁ (mkF m 0 #[.val (.ref t), .val (.int k), .val (.int 0), .val (.int 3)] []) := cc.trans (XT.entry rfl)
  obtain ⟨SC, hz, SF, hfm, SA, SH, SL⟩ := id hs
  have c1 : Go p e below S0 s₁ (mkF m 2 #[.val (.ref t), .val (.int k), .val (.int 0), .val (.int 3)] [(.int 0), (.int 0)]) := c0.trans (by
    refine XS.iloadN X0.here hx rfl (hb hby d25_0) rfl ?_
    refine XS.iconst X0.here hx rfl (hb hby d25_1) ?_
    exact .refl _)
  obtain ⟨v2, T2, L2, X2, ⟨N2', rfl, e2⟩, c2'⟩ := own_stat X0 hx hml hZ hown (gw hw 110 rfl) (gw hw 68 rfl) (gw hw 2 rfl) (gw hw 69 rfl) (by decide) (kc := 0) (ks := 0) (h := h0) (W := 0) (argsL := [(.int 0), (.int 0)]) (rest := []) (own_pay (W := 0) (rmMax_0_0 l Z a0 hw h0 O0) hZ (gw hw 69 rfl) (gw hw 2 rfl) (by decide) (by decide)) c1 (lenOf pd_1 rfl) rfl (hb hby d25_2) e0
  have N2 := Fr.app N0 N2'
  have c2 : Go p e below S0 T2 (mkF m 5 #[.val (.ref t), .val (.int k), .val (.int 0), .val (.int 3)] [(.int 0)]) := c2'
  obtain ⟨cl3, Ar3, q3, S3, M3, H3, G3⟩ := id Kt
  have c4 : Go p e below S0 T2 (mkF m 11 #[.val (.ref t), .val (.int k), .val (.int 0), .val (.int 3)] [(.int 3), (.int 3)]) := c2.trans (by
    refine XS.istoreN X2.here hx rfl (hb hby d25_5) rfl (l' := #[.val (.ref t), .val (.int k), .val (.int 0), .val (.int 3)]) rfl ?_
    refine XS.iloadN X2.here hx rfl (hb hby d25_6) rfl ?_
    refine XS.aloadN X2.here hx rfl (hb hby d25_7) rfl rfl ?_
    refine X2.arraylength hx (by rw [show T2.heap = h0 from e2]; exact Ar3.1) (State.isArrayOf_alike (hZ).alike Ar3.2.1) (g := (mkF m 8 #[.val (.ref t), .val (.int k), .val (.int 0), .val (.int 3)] [(.ref t), (.int 3)])) rfl rfl (hb hby d25_8) _ ?_
    rw [len_of S3 M3]
    refine XS.iconst X2.here hx rfl (hb hby d25_9) ?_
    refine XS.ishr X2.here hx rfl (hb hby d25_10) rfl ?_
    exact .refl _)
  obtain ⟨v5, T5, L5, X5, ⟨N5', rfl, e5⟩, c5'⟩ := own_stat X2 hx hml hZ hown (gw hw 111 rfl) (gw hw 1 rfl) (gw hw 2 rfl) (gw hw 3 rfl) (by decide) (kc := 0) (ks := 0) (h := h0) (W := 0) (argsL := [(.int 3), (.int 3)]) (rest := []) (own_pay (W := 0) (rmMin_3_3 l Z a0 hw h0 O0) hZ (gw hw 3 rfl) (gw hw 2 rfl) (by decide) (by decide)) c4 (lenOf pd_1 rfl) rfl (hb hby d25_11) e2
  have N5 := Fr.app N2 N5'
  have c5 : Go p e below S0 T5 (mkF m 14 #[.val (.ref t), .val (.int k), .val (.int 0), .val (.int 3)] [(.int 3)]) := c5'
  have c7 : Go p e below S0 T5 (mkF m 32 #[.val (.ref t), .val (.int k), .val (.int 0), .val (.int 3)] [(.int 3), (.int 0), (.int k), (.ref t)]) := c5.trans (by
    refine XS.istoreN X5.here hx rfl (hb hby d25_14) rfl (l' := #[.val (.ref t), .val (.int k), .val (.int 0), .val (.int 3)]) rfl ?_
    refine XS.iloadN X5.here hx rfl (hb hby d25_15) rfl ?_
    refine XS.iloadN X5.here hx rfl (hb hby d25_16) rfl ?_
    refine XS.icmpYes X5.here hx rfl (pc0 := 17) (pc' := 22) rfl (hb hby d25_17) rfl (tlt (by decide : (0 : Int32) < (3 : Int32))).1 (by decide) (by decide) ?_
    refine XS.iloadN X5.here hx rfl (hb hby d25_22) rfl ?_
    refine X5.ldcInt hx hown (mvT hZ (gw hw 112 rfl)) (g := (mkF m 23 #[.val (.ref t), .val (.int k), .val (.int 0), .val (.int 3)] [(.int k)])) rfl (hb hby d25_23) _ ?_
    refine XS.icmpNo X5.here hx rfl (hb hby d25_25) rfl (tlt (own_k16 hk)).2.1 ?_
    refine XS.aloadN X5.here hx rfl (hb hby d25_28) rfl rfl ?_
    refine XS.iloadN X5.here hx rfl (hb hby d25_29) rfl ?_
    show Steps p.tables e below (T5.setTop (mkF m 30 #[.val (.ref t), .val (.int k), .val (.int 0), .val (.int 3)] [(.int k), (.ref t)])) _
    refine XS.iloadN X5.here hx rfl (hb hby d25_30) rfl ?_
    refine XS.iloadN X5.here hx rfl (hb hby d25_31) rfl ?_
    exact .refl _)
  obtain ⟨v8, T8, L8, X8, ⟨N8', ⟨r8, rfl, hr8⟩, e8⟩, c8'⟩ := own_stat X5 hx hml hZ hown (gw hw 113 rfl) (gw hw 114 rfl) (gw hw 73 rfl) (gw hw 115 rfl) (by decide) (kc := 0) (ks := 0) (h := h0) (W := 0) (argsL := [(.ref t), (.int k), (.int 0), (.int 3)]) (rest := []) (own_pay (W := 0) (rmUIxC3 l Z a0 hw t kb k xa xb xc z fm h0 O0 Kt hCxa hCxb hCxc hs) hZ (gw hw 115 rfl) (gw hw 73 rfl) (by decide) (by decide)) c7 (lenOf pd_4 rfl) rfl (hb hby d25_32) e5
  have N8 := Fr.app N5 N8'
  have c8 : Go p e below S0 T8 (mkF m 35 #[.val (.ref t), .val (.int k), .val (.int 0), .val (.int 3)] [(.int r8)]) := c8'
  refine ⟨T8, (some (.int r8)), _, _, _, X8, by decide, by decide, (fun q => by cases q), N8, ?_, fun fs hr => ?_⟩
  · rw [e8]
    exact ⟨⟨_, rfl, hr8⟩, rfl⟩
  · exact c8.trans (retI X8 hx hret (hb hby d25_35) hr)
theorem rmLenU3 (l : Launch) (Z : State) (a0 : Array Value) (hw : own_W Z a0) (x t : Addr) (kb : ClassId) (xa xb xc : Int32) (z : Int32) (fm : Value) (h0 : Heap) (O0 : Old Z Z.heap.size h0) (E : Exa Z h0 x "java/lang/String") (V : Fld Z h0 x "java/lang/String" "value" "[B" (.ref t)) (Cd : Fld Z h0 x "java/lang/String" "coder" "B" (.int (1 : Int32))) (Kt : Arv Z h0 t kb .byte (6 : Int32) [(.int (own_lo xa)), (.int (own_hi xa)), (.int (own_lo xb)), (.int (own_hi xb)), (.int (own_lo xc)), (.int (own_hi xc))] (.int (0 : Int32))) (hs : own_S Z z fm) :
    own_NC l Z (⟨"java/lang/String", "length", "()I"⟩ : MethodName) jdk_42_method_54_code 1 (some .int) ({ frames := 1, cells := 0, slots := 0, locals := 20 } : Room) #[(.ref x)] h0 (fun v h => v = some (.int (3 : Int32)) ∧ h = h0) := by
  refine own_nc (plainFor_of_name pnl2) ?_
  intro p e s m below meth c s₁ S0 X0 hx hby hml hret hnm hown hZ e0 cc
  have N0 := Fr.nil Z.heap.size
  have c0 : Go p e below S0 s₁ (mkF m 0 #[.val (.ref x)] []) := cc.trans (XT.entry rfl)
  obtain ⟨SC, hz, SF, hfm, SA, SH, SL⟩ := id hs
  obtain ⟨T1, X1, e1, st1⟩ := getF X0 hx hZ hown (host := "") (Or.inl (gw hw 28 rfl)) Via.refl e0 V (g := (mkF m 1 #[.val (.ref x)] [(.ref x)])) rfl rfl (hb hby d10_1)
  obtain ⟨cl2, Ar2, q2, S2, M2, H2, G2⟩ := id Kt
  have c3 : Go p e below S0 T1 (mkF m 6 #[.val (.ref x)] [(.ref x), (.int 6)]) := c0.trans (by
    refine XS.aloadN X0.here hx rfl (hb hby d10_0) rfl rfl ?_
    refine st1 _ ?_
    refine X1.arraylength hx (by rw [show T1.heap = h0 from e1]; exact Ar2.1) (State.isArrayOf_alike (hZ).alike Ar2.2.1) (g := (mkF m 4 #[.val (.ref x)] [(.ref t)])) rfl rfl (hb hby d10_4) _ ?_
    rw [len_of S2 M2]
    refine XS.aloadN X1.here hx rfl (hb hby d10_5) rfl rfl ?_
    exact .refl _)
  obtain ⟨v4, T4, L4, X4, ⟨N4', rfl, e4⟩, c4'⟩ := own_virt X1 hx hml hZ hown (gw hw 55 rfl) (gw hw 56 rfl) (gw hw 58 rfl) (gw hw 57 rfl) (gw hw 58 rfl) (by decide) (kc := 0) (ks := 0) (h := h0) (W := 1) (b := x) (argsL := []) (rest := [(.int 6)]) (own_pay (W := 1) (rmCodU l Z a0 hw x z fm h0 O0 Cd hs) hZ (gw hw 59 rfl) (gw hw 11 rfl) (by decide) (by decide)) E c3 (lenOf pd_17 rfl) rfl (hb hby d10_6) e1
  have N4 := Fr.app N0 N4'
  have c4 : Go p e below S0 T4 (mkF m 9 #[.val (.ref x)] [(.int 1), (.int 6)]) := c4'
  have c5 : Go p e below S0 T4 (mkF m 10 #[.val (.ref x)] [(.int 3)]) := c4.trans (by
    refine XS.ishr X4.here hx rfl (hb hby d10_9) rfl ?_
    exact .refl _)
  refine ⟨T4, (some (.int 3)), _, _, _, X4, by decide, by decide, (fun q => by cases q), N4, ?_, fun fs hr => ?_⟩
  · rw [e4]
    exact ⟨rfl, rfl⟩
  · exact c5.trans (retI X4 hx hret (hb hby d10_10) hr)
theorem rmIxIIU3 (l : Launch) (Z : State) (a0 : Array Value) (hw : own_W Z a0) (x t : Addr) (kb : ClassId) (k : Int32) (xa xb xc : Int32) (z : Int32) (fm : Value) (h0 : Heap) (O0 : Old Z Z.heap.size h0) (E : Exa Z h0 x "java/lang/String") (V : Fld Z h0 x "java/lang/String" "value" "[B" (.ref t)) (Cd : Fld Z h0 x "java/lang/String" "coder" "B" (.int (1 : Int32))) (Kt : Arv Z h0 t kb .byte (6 : Int32) [(.int (own_lo xa)), (.int (own_hi xa)), (.int (own_lo xb)), (.int (own_hi xb)), (.int (own_lo xc)), (.int (own_hi xc))] (.int (0 : Int32))) (hk : own_B k) (hCxa : own_C xa) (hCxb : own_C xb) (hCxc : own_C xc) (hs : own_S Z z fm) :
    own_NC l Z (⟨"java/lang/String", "indexOf", "(II)I"⟩ : MethodName) jdk_42_method_80_code 3 (some .int) ({ frames := 5, cells := 0, slots := 0, locals := 110 } : Room) #[(.ref x), (.int k), (.int 0)] h0 (fun v h => (∃ r : Int32, v = some (.int r) ∧ decide (r < (0 : Int32)) = !own_has [xa, xb, xc] k) ∧ h = h0) := by
  refine own_nc (plainFor_of_name pnl2) ?_
  intro p e s m below meth c s₁ S0 X0 hx hby hml hret hnm hown hZ e0 cc
  have N0 := Fr.nil Z.heap.size
  have c0 : Go p e below S0 s₁ (mkF m 0 #[.val (.ref x), .val (.int k), .val (.int 0)] []) := cc.trans (XT.entry rfl)
  obtain ⟨SC, hz, SF, hfm, SA, SH, SL⟩ := id hs
  have c1 : Go p e below S0 s₁ (mkF m 1 #[.val (.ref x), .val (.int k), .val (.int 0)] [(.ref x)]) := c0.trans (by
    refine XS.aloadN X0.here hx rfl (hb hby d8_0) rfl rfl ?_
    exact .refl _)
  obtain ⟨v2, T2, L2, X2, ⟨N2', rfl, e2⟩, c2'⟩ := own_virt X0 hx hml hZ hown (gw hw 44 rfl) (gw hw 45 rfl) (gw hw 47 rfl) (gw hw 46 rfl) (gw hw 47 rfl) (by decide) (kc := 0) (ks := 0) (h := h0) (W := 0) (b := x) (argsL := []) (rest := []) (own_pay (W := 0) (rmIsU l Z a0 hw x z fm h0 O0 Cd hs) hZ (gw hw 48 rfl) (gw hw 11 rfl) (by decide) (by decide)) E c1 (lenOf pd_2 rfl) rfl (hb hby d8_1) e0
  have N2 := Fr.app N0 N2'
  have c2 : Go p e below S0 T2 (mkF m 4 #[.val (.ref x), .val (.int k), .val (.int 0)] [(.int 0)]) := c2'
  obtain ⟨T3, X3, e3, st3⟩ := getF X2 hx hZ hown (host := "") (Or.inl (gw hw 28 rfl)) Via.refl e2 V (g := (mkF m 24 #[.val (.ref x), .val (.int k), .val (.int 0)] [(.ref x)])) rfl rfl (hb hby d8_24)
  have c4 : Go p e below S0 T3 (mkF m 30 #[.val (.ref x), .val (.int k), .val (.int 0)] [(.ref x), (.int 0), (.int k), (.ref t)]) := c2.trans (by
    refine XS.ifYes X2.here hx rfl (pc0 := 4) (pc' := 23) rfl (hb hby d8_4) rfl ((if0 _ _).trans (teq (by decide : (0 : Int32) = (0 : Int32))).1) (by decide) (by decide) ?_
    refine XS.aloadN X2.here hx rfl (hb hby d8_23) rfl rfl ?_
    refine st3 _ ?_
    refine XS.iloadN X3.here hx rfl (hb hby d8_27) rfl ?_
    refine XS.iloadN X3.here hx rfl (hb hby d8_28) rfl ?_
    refine XS.aloadN X3.here hx rfl (hb hby d8_29) rfl rfl ?_
    exact .refl _)
  obtain ⟨v5, T5, L5, X5, ⟨N5', rfl, e5⟩, c5'⟩ := own_virt X3 hx hml hZ hown (gw hw 50 rfl) (gw hw 51 rfl) (gw hw 53 rfl) (gw hw 52 rfl) (gw hw 53 rfl) (by decide) (kc := 0) (ks := 0) (h := h0) (W := 3) (b := x) (argsL := []) (rest := [(.int 0), (.int k), (.ref t)]) (own_pay (W := 3) (rmLenU3 l Z a0 hw x t kb xa xb xc z fm h0 O0 E V Cd Kt hs) hZ (gw hw 54 rfl) (gw hw 11 rfl) (by decide) (by decide)) E c4 (lenOf pd_3 rfl) rfl (hb hby d8_30) e3
  have N5 := Fr.app N2 N5'
  have c5 : Go p e below S0 T5 (mkF m 33 #[.val (.ref x), .val (.int k), .val (.int 0)] [(.int 3), (.int 0), (.int k), (.ref t)]) := c5'
  obtain ⟨v6, T6, L6, X6, ⟨N6', ⟨r6, rfl, hr6⟩, e6⟩, c6'⟩ := own_stat X5 hx hml hZ hown (gw hw 107 rfl) (gw hw 108 rfl) (gw hw 73 rfl) (gw hw 109 rfl) (by decide) (kc := 0) (ks := 0) (h := h0) (W := 0) (argsL := [(.ref t), (.int k), (.int 0), (.int 3)]) (rest := []) (own_pay (W := 0) (rmUIx3 l Z a0 hw t kb k xa xb xc z fm h0 O0 Kt hCxa hCxb hCxc hs hk) hZ (gw hw 109 rfl) (gw hw 73 rfl) (by decide) (by decide)) c5 (lenOf pd_4 rfl) rfl (hb hby d8_33) e5
  have N6 := Fr.app N5 N6'
  have c6 : Go p e below S0 T6 (mkF m 36 #[.val (.ref x), .val (.int k), .val (.int 0)] [(.int r6)]) := c6'
  refine ⟨T6, (some (.int r6)), _, _, _, X6, by decide, by decide, (fun q => by cases q), N6, ?_, fun fs hr => ?_⟩
  · rw [e6]
    exact ⟨⟨_, rfl, hr6⟩, rfl⟩
  · exact c6.trans (retI X6 hx hret (hb hby d8_36) hr)
theorem rmIxU3 (l : Launch) (Z : State) (a0 : Array Value) (hw : own_W Z a0) (x t : Addr) (kb : ClassId) (k : Int32) (xa xb xc : Int32) (z : Int32) (fm : Value) (h0 : Heap) (O0 : Old Z Z.heap.size h0) (E : Exa Z h0 x "java/lang/String") (V : Fld Z h0 x "java/lang/String" "value" "[B" (.ref t)) (Cd : Fld Z h0 x "java/lang/String" "coder" "B" (.int (1 : Int32))) (Kt : Arv Z h0 t kb .byte (6 : Int32) [(.int (own_lo xa)), (.int (own_hi xa)), (.int (own_lo xb)), (.int (own_hi xb)), (.int (own_lo xc)), (.int (own_hi xc))] (.int (0 : Int32))) (hk : own_B k) (hCxa : own_C xa) (hCxb : own_C xb) (hCxc : own_C xc) (hs : own_S Z z fm) :
    own_NC l Z (⟨"java/lang/String", "indexOf", "(I)I"⟩ : MethodName) jdk_42_method_79_code 2 (some .int) ({ frames := 6, cells := 0, slots := 0, locals := 130 } : Room) #[(.ref x), (.int k)] h0 (fun v h => (∃ r : Int32, v = some (.int r) ∧ decide (r < (0 : Int32)) = !own_has [xa, xb, xc] k) ∧ h = h0) := by
  refine own_nc (plainFor_of_name pnl2) ?_
  intro p e s m below meth c s₁ S0 X0 hx hby hml hret hnm hown hZ e0 cc
  have N0 := Fr.nil Z.heap.size
  have c0 : Go p e below S0 s₁ (mkF m 0 #[.val (.ref x), .val (.int k)] []) := cc.trans (XT.entry rfl)
  obtain ⟨SC, hz, SF, hfm, SA, SH, SL⟩ := id hs
  have c1 : Go p e below S0 s₁ (mkF m 3 #[.val (.ref x), .val (.int k)] [(.int 0), (.int k), (.ref x)]) := c0.trans (by
    refine XS.aloadN X0.here hx rfl (hb hby d7_0) rfl rfl ?_
    refine XS.iloadN X0.here hx rfl (hb hby d7_1) rfl ?_
    refine XS.iconst X0.here hx rfl (hb hby d7_2) ?_
    exact .refl _)
  obtain ⟨v2, T2, L2, X2, ⟨N2', ⟨r2, rfl, hr2⟩, e2⟩, c2'⟩ := own_virt X0 hx hml hZ hown (gw hw 39 rfl) (gw hw 40 rfl) (gw hw 42 rfl) (gw hw 41 rfl) (gw hw 42 rfl) (by decide) (kc := 0) (ks := 0) (h := h0) (W := 0) (b := x) (argsL := [(.int k), (.int 0)]) (rest := []) (own_pay (W := 0) (rmIxIIU3 l Z a0 hw x t kb k xa xb xc z fm h0 O0 E V Cd Kt hk hCxa hCxb hCxc hs) hZ (gw hw 43 rfl) (gw hw 11 rfl) (by decide) (by decide)) E c1 (lenOf pd_1 rfl) rfl (hb hby d7_3) e0
  have N2 := Fr.app N0 N2'
  have c2 : Go p e below S0 T2 (mkF m 6 #[.val (.ref x), .val (.int k)] [(.int r2)]) := c2'
  refine ⟨T2, (some (.int r2)), _, _, _, X2, by decide, by decide, (fun q => by cases q), N2, ?_, fun fs hr => ?_⟩
  · rw [e2]
    exact ⟨⟨_, rfl, hr2⟩, rfl⟩
  · exact c2.trans (retI X2 hx hret (hb hby d7_6) hr)
theorem rmFitU3 (l : Launch) (Z : State) (a0 : Array Value) (hw : own_W Z a0) (x t : Addr) (kb : ClassId) (xa xb xc : Int32) (z : Int32) (fm : Value) (h0 : Heap) (O0 : Old Z Z.heap.size h0) (E : Exa Z h0 x "java/lang/String") (V : Fld Z h0 x "java/lang/String" "value" "[B" (.ref t)) (Cd : Fld Z h0 x "java/lang/String" "coder" "B" (.int (1 : Int32))) (Kt : Arv Z h0 t kb .byte (6 : Int32) [(.int (own_lo xa)), (.int (own_hi xa)), (.int (own_lo xb)), (.int (own_hi xb)), (.int (own_lo xc)), (.int (own_hi xc))] (.int (0 : Int32))) (hCxa : own_C xa) (hCxb : own_C xb) (hCxc : own_C xc) (hs : own_S Z z fm) :
    own_NC l Z (⟨"com/example/caseward/caseward/core/Right", "fitsField", "(Ljava/lang/String;)Z"⟩ : MethodName) prog_47_method_5_code 1 (some .boolean) ({ frames := 7, cells := 0, slots := 0, locals := 150 } : Room) #[(.ref x)] h0 (fun v h => v = some (.int (own_i (!own_has [xa, xb, xc] (44 : Int32) && !own_has [xa, xb, xc] (10 : Int32) && !own_has [xa, xb, xc] (13 : Int32)))) ∧ h = h0) := by
  refine own_nc (plainFor_of_name pnl3) ?_
  intro p e s m below meth c s₁ S0 X0 hx hby hml hret hnm hown hZ e0 cc
  have N0 := Fr.nil Z.heap.size
  have c0 : Go p e below S0 s₁ (mkF m 0 #[.val (.ref x)] []) := cc.trans (XT.entry rfl)
  obtain ⟨SC, hz, SF, hfm, SA, SH, SL⟩ := id hs
  have c1 : Go p e below S0 s₁ (mkF m 3 #[.val (.ref x)] [(.int 44), (.ref x)]) := c0.trans (by
    refine XS.aloadN X0.here hx rfl (hb hby d6_0) rfl rfl ?_
    refine XS.bipush X0.here hx rfl (hb hby d6_1) ?_
    exact .refl _)
  obtain ⟨v2, T2, L2, X2, ⟨N2', ⟨r2, rfl, hr2⟩, e2⟩, c2'⟩ := own_virt X0 hx hml hZ hown (gw hw 34 rfl) (gw hw 35 rfl) (gw hw 37 rfl) (gw hw 36 rfl) (gw hw 37 rfl) (by decide) (kc := 0) (ks := 0) (h := h0) (W := 0) (b := x) (argsL := [(.int 44)]) (rest := []) (own_pay (W := 0) (rmIxU3 l Z a0 hw x t kb (44 : Int32) xa xb xc z fm h0 O0 E V Cd Kt (own_Bl 44 (by decide)) hCxa hCxb hCxc hs) hZ (gw hw 38 rfl) (gw hw 11 rfl) (by decide) (by decide)) E c1 (lenOf pd_5 rfl) rfl (hb hby d6_3) e0
  have N2 := Fr.app N0 N2'
  have c2 : Go p e below S0 T2 (mkF m 6 #[.val (.ref x)] [(.int r2)]) := c2'
  by_cases hc3 : r2 < (0 : Int32)
  · skip
    have c4 : Go p e below S0 T2 (mkF m 12 #[.val (.ref x)] [(.int 10), (.ref x)]) := c2.trans (by
      refine XS.ifNo X2.here hx rfl (hb hby d6_6) rfl ((if0 _ _).trans (tlt hc3).2.1) ?_
      refine XS.aloadN X2.here hx rfl (hb hby d6_9) rfl rfl ?_
      refine XS.bipush X2.here hx rfl (hb hby d6_10) ?_
      exact .refl _)
    obtain ⟨v5, T5, L5, X5, ⟨N5', ⟨r5, rfl, hr5⟩, e5⟩, c5'⟩ := own_virt X2 hx hml hZ hown (gw hw 34 rfl) (gw hw 35 rfl) (gw hw 37 rfl) (gw hw 36 rfl) (gw hw 37 rfl) (by decide) (kc := 0) (ks := 0) (h := h0) (W := 0) (b := x) (argsL := [(.int 10)]) (rest := []) (own_pay (W := 0) (rmIxU3 l Z a0 hw x t kb (10 : Int32) xa xb xc z fm h0 O0 E V Cd Kt (own_Bl 10 (by decide)) hCxa hCxb hCxc hs) hZ (gw hw 38 rfl) (gw hw 11 rfl) (by decide) (by decide)) E c4 (lenOf pd_5 rfl) rfl (hb hby d6_12) e2
    have N5 := Fr.app N2 N5'
    have c5 : Go p e below S0 T5 (mkF m 15 #[.val (.ref x)] [(.int r5)]) := c5'
    by_cases hc6 : r5 < (0 : Int32)
    · skip
      have c7 : Go p e below S0 T5 (mkF m 21 #[.val (.ref x)] [(.int 13), (.ref x)]) := c5.trans (by
        refine XS.ifNo X5.here hx rfl (hb hby d6_15) rfl ((if0 _ _).trans (tlt hc6).2.1) ?_
        refine XS.aloadN X5.here hx rfl (hb hby d6_18) rfl rfl ?_
        refine XS.bipush X5.here hx rfl (hb hby d6_19) ?_
        exact .refl _)
      obtain ⟨v8, T8, L8, X8, ⟨N8', ⟨r8, rfl, hr8⟩, e8⟩, c8'⟩ := own_virt X5 hx hml hZ hown (gw hw 34 rfl) (gw hw 35 rfl) (gw hw 37 rfl) (gw hw 36 rfl) (gw hw 37 rfl) (by decide) (kc := 0) (ks := 0) (h := h0) (W := 0) (b := x) (argsL := [(.int 13)]) (rest := []) (own_pay (W := 0) (rmIxU3 l Z a0 hw x t kb (13 : Int32) xa xb xc z fm h0 O0 E V Cd Kt (own_Bl 13 (by decide)) hCxa hCxb hCxc hs) hZ (gw hw 38 rfl) (gw hw 11 rfl) (by decide) (by decide)) E c7 (lenOf pd_5 rfl) rfl (hb hby d6_21) e5
      have N8 := Fr.app N5 N8'
      have c8 : Go p e below S0 T8 (mkF m 24 #[.val (.ref x)] [(.int r8)]) := c8'
      by_cases hc9 : r8 < (0 : Int32)
      · skip
        have c10 : Go p e below S0 T8 (mkF m 32 #[.val (.ref x)] [(.int 1)]) := c8.trans (by
          refine XS.ifNo X8.here hx rfl (hb hby d6_24) rfl ((if0 _ _).trans (tlt hc9).2.1) ?_
          refine XS.iconst X8.here hx rfl (hb hby d6_27) ?_
          refine XS.goto X8.here hx rfl (pc0 := 28) (pc' := 32) rfl (hb hby d6_28) (by decide) (by decide) ?_
          exact .refl _)
        refine ⟨T8, (some (.int (1 : Int32))), _, _, _, X8, by decide, by decide, (fun q => by cases q), N8, ?_, fun fs hr => ?_⟩
        · rw [e8]
          have q2' := own_rdec hr2
          have q5' := own_rdec hr5
          have q8' := own_rdec hr8
          exact ⟨by simp [own_i, (q2').mpr hc3, (q5').mpr hc6, (q8').mpr hc9], rfl⟩
        · exact c10.trans (retN X8 hx (t := .boolean) hret (by simp) (hb hby d6_32) hr)
      · skip
        have c12 : Go p e below S0 T8 (mkF m 32 #[.val (.ref x)] [(.int 0)]) := c8.trans (by
          refine XS.ifYes X8.here hx rfl (pc0 := 24) (pc' := 31) rfl (hb hby d6_24) rfl ((if0 _ _).trans (flt hc9).2.1) (by decide) (by decide) ?_
          refine XS.iconst X8.here hx rfl (hb hby d6_31) ?_
          exact .refl _)
        refine ⟨T8, (some (.int (0 : Int32))), _, _, _, X8, by decide, by decide, (fun q => by cases q), N8, ?_, fun fs hr => ?_⟩
        · rw [e8]
          have q2' := own_rdec hr2
          have q5' := own_rdec hr5
          have q8' := own_rdec hr8
          exact ⟨by simp [own_i, (q2').mpr hc3, (q5').mpr hc6, (show _ = false from Bool.eq_false_iff.mpr (fun z => hc9 ((q8').mp z)))], rfl⟩
        · exact c12.trans (retN X8 hx (t := .boolean) hret (by simp) (hb hby d6_32) hr)
    · skip
      have c14 : Go p e below S0 T5 (mkF m 32 #[.val (.ref x)] [(.int 0)]) := c5.trans (by
        refine XS.ifYes X5.here hx rfl (pc0 := 15) (pc' := 31) rfl (hb hby d6_15) rfl ((if0 _ _).trans (flt hc6).2.1) (by decide) (by decide) ?_
        refine XS.iconst X5.here hx rfl (hb hby d6_31) ?_
        exact .refl _)
      refine ⟨T5, (some (.int (0 : Int32))), _, _, _, X5, by decide, by decide, (fun q => by cases q), N5, ?_, fun fs hr => ?_⟩
      · rw [e5]
        have q2' := own_rdec hr2
        have q5' := own_rdec hr5
        exact ⟨by simp [own_i, (q2').mpr hc3, (show _ = false from Bool.eq_false_iff.mpr (fun z => hc6 ((q5').mp z)))], rfl⟩
      · exact c14.trans (retN X5 hx (t := .boolean) hret (by simp) (hb hby d6_32) hr)
  · skip
    have c16 : Go p e below S0 T2 (mkF m 32 #[.val (.ref x)] [(.int 0)]) := c2.trans (by
      refine XS.ifYes X2.here hx rfl (pc0 := 6) (pc' := 31) rfl (hb hby d6_6) rfl ((if0 _ _).trans (flt hc3).2.1) (by decide) (by decide) ?_
      refine XS.iconst X2.here hx rfl (hb hby d6_31) ?_
      exact .refl _)
    refine ⟨T2, (some (.int (0 : Int32))), _, _, _, X2, by decide, by decide, (fun q => by cases q), N2, ?_, fun fs hr => ?_⟩
    · rw [e2]
      have q2' := own_rdec hr2
      exact ⟨by simp [own_i, (show _ = false from Bool.eq_false_iff.mpr (fun z => hc3 ((q2').mp z)))], rfl⟩
    · exact c16.trans (retN X2 hx (t := .boolean) hret (by simp) (hb hby d6_32) hr)
theorem rmNBL4 (l : Launch) (Z : State) (a0 : Array Value) (hw : own_W Z a0)  (h0 : Heap) (O0 : Old Z Z.heap.size h0)  :
    own_NC l Z (⟨"java/lang/StringUTF16", "newBytesLength", "(I)I"⟩ : MethodName) jdk_52_method_3_code 1 (some .int) ({ frames := 0, cells := 0, slots := 0, locals := 0 } : Room) #[(.int 4)] h0 (fun v h => v = some (.int (8 : Int32)) ∧ h = h0) := by
  refine own_nc (plainFor_of_name pnl4) ?_
  intro p e s m below meth c s₁ S0 X0 hx hby hml hret hnm hown hZ e0 cc
  have N0 := Fr.nil Z.heap.size
  have c0 : Go p e below S0 s₁ (mkF m 0 #[.val (.int 4)] []) := cc.trans (XT.entry rfl)
  have c2 : Go p e below S0 s₁ (mkF m 58 #[.val (.int 4)] [(.int 8)]) := c0.trans (by
    refine XS.iloadN X0.here hx rfl (hb hby d22_0) rfl ?_
    refine XS.ifYes X0.here hx rfl (pc0 := 1) (pc' := 12) rfl (hb hby d22_1) rfl ((if0 _ _).trans (flt (by decide : ¬ ((4 : Int32) < (0 : Int32)))).2.1) (by decide) (by decide) ?_
    refine XS.iloadN X0.here hx rfl (hb hby d22_12) rfl ?_
    refine X0.ldcInt hx hown (mvT hZ (gw hw 97 rfl)) (g := (mkF m 13 #[.val (.int 4)] [(.int 4)])) rfl (hb hby d22_13) _ ?_
    refine XS.icmpYes X0.here hx rfl (pc0 := 15) (pc' := 55) rfl (hb hby d22_15) rfl (tlt (by decide : (4 : Int32) < (1073741823 : Int32))).1 (by decide) (by decide) ?_
    refine XS.iloadN X0.here hx rfl (hb hby d22_55) rfl ?_
    refine XS.iconst X0.here hx rfl (hb hby d22_56) ?_
    refine XS.ishl X0.here hx rfl (hb hby d22_57) rfl ?_
    exact .refl _)
  refine ⟨s₁, (some (.int 8)), _, _, _, X0, by decide, by decide, (fun q => by cases q), N0, ?_, fun fs hr => ?_⟩
  · rw [e0]
    exact ⟨rfl, rfl⟩
  · exact c2.trans (retI X0 hx hret (hb hby d22_58) hr)
theorem rmNBF4 (l : Launch) (Z : State) (a0 : Array Value) (hw : own_W Z a0)  (h0 : Heap) (O0 : Old Z Z.heap.size h0)  :
    own_NC l Z (⟨"java/lang/StringUTF16", "newBytesFor", "(I)[B"⟩ : MethodName) jdk_52_method_2_code 1 (some (.array .byte)) ({ frames := 1, cells := 1, slots := 8, locals := 20 } : Room) #[(.int 4)] h0 (fun v h => ∃ (u : Addr) (ku : ClassId), v = some (.ref u) ∧ Keep h0 h [] ∧ h0.size ≤ u ∧ Z.heap.size ≤ u ∧ Arv Z h u ku .byte (8 : Int32) [(.int 0), (.int 0), (.int 0), (.int 0), (.int 0), (.int 0), (.int 0), (.int 0)] (.int (0 : Int32))) := by
  refine own_nc (plainFor_of_name pnl4) ?_
  intro p e s m below meth c s₁ S0 X0 hx hby hml hret hnm hown hZ e0 cc
  have N0 := Fr.nil Z.heap.size
  have c0 : Go p e below S0 s₁ (mkF m 0 #[.val (.int 4)] []) := cc.trans (XT.entry rfl)
  have c1 : Go p e below S0 s₁ (mkF m 1 #[.val (.int 4)] [(.int 4)]) := c0.trans (by
    refine XS.iloadN X0.here hx rfl (hb hby d21_0) rfl ?_
    exact .refl _)
  obtain ⟨v2, T2, L2, X2, ⟨N2', rfl, e2⟩, c2'⟩ := own_stat X0 hx hml hZ hown (gw hw 94 rfl) (gw hw 95 rfl) (gw hw 73 rfl) (gw hw 96 rfl) (by decide) (kc := 0) (ks := 0) (h := h0) (W := 0) (argsL := [(.int 4)]) (rest := []) (own_pay (W := 0) (rmNBL4 l Z a0 hw h0 O0) hZ (gw hw 96 rfl) (gw hw 73 rfl) (by decide) (by decide)) c1 (lenOf pd_5 rfl) rfl (hb hby d21_1) e0
  have N2 := Fr.app N0 N2'
  have c2 : Go p e below S0 T2 (mkF m 4 #[.val (.int 4)] [(.int 8)]) := c2'
  obtain ⟨T3, h3, k3, X3, e3, E3, A3, st3⟩ := newP X2 hx hZ (hw _ (List.mem_of_getElem? (i := 23) rfl)) e2 (g := (mkF m 4 #[.val (.int 4)] [(.int 8)])) rfl (hb hby d21_4) rfl (by decide) (cap := 8) (by decide) (by decide) (by decide) (by decide)
  obtain ⟨b3, g3⟩ : ∃ z, z = h0.size := ⟨_, rfl⟩
  rw [← g3] at A3 st3
  have lo3 : h0.size ≤ b3 := Nat.le_of_eq g3.symm
  have ge3 : Z.heap.size ≤ b3 := Nat.le_trans O0.2.1 lo3
  have V3 := Arv.new A3 (by decide)
  have V3a : Arv Z h3 b3 k3 .byte (8 : Int32) [(.int 0), (.int 0), (.int 0), (.int 0), (.int 0), (.int 0), (.int 0), (.int 0)] (.int (0 : Int32)) := V3.pad (pad_rep [] (.int (0 : Int32)) 8)
  have c4 : Go p e below S0 T3 (mkF m 6 #[.val (.int 4)] [(.ref b3)]) := c2.trans (by
    refine st3 _ ?_
    exact .refl _)
  refine ⟨T3, (some (.ref b3)), _, _, _, X3, by decide, by decide, (fun q => by cases q), N2, ?_, fun fs hr => ?_⟩
  · rw [e3]
    exact ⟨b3, k3, rfl, ((Keep.refl h0 []).ext E3), (Nat.le_trans (Keep.refl h0 []).1 lo3), ge3, V3a⟩
  · exact own_retR X3 hx c4 hret rfl rfl (hb hby d21_6) hr
theorem rmToB4 (l : Launch) (Z : State) (a0 : Array Value) (hw : own_W Z a0) (b : Addr) (kc : ClassId) (xa xb xc xd : Int32) (z : Int32) (fm : Value) (h0 : Heap) (O0 : Old Z Z.heap.size h0) (Kc : Arv Z h0 b kc .char (4 : Int32) [(.int xa), (.int xb), (.int xc), (.int xd)] (.int (0 : Int32))) (hs : own_S Z z fm) :
    own_NC l Z (⟨"java/lang/StringUTF16", "toBytes", "([CII)[B"⟩ : MethodName) jdk_52_method_14_code 5 (some (.array .byte)) ({ frames := 2, cells := 1, slots := 8, locals := 40 } : Room) #[(.ref b), (.int 0), (.int 4)] h0 (fun v h => ∃ (u : Addr) (ku : ClassId), v = some (.ref u) ∧ Keep h0 h [] ∧ h0.size ≤ u ∧ Arv Z h u ku .byte (8 : Int32) [(.int (own_lo xa)), (.int (own_hi xa)), (.int (own_lo xb)), (.int (own_hi xb)), (.int (own_lo xc)), (.int (own_hi xc)), (.int (own_lo xd)), (.int (own_hi xd))] (.int (0 : Int32))) := by
  refine own_nc (plainFor_of_name pnl4) ?_
  intro p e s m below meth c s₁ S0 X0 hx hby hml hret hnm hown hZ e0 cc
  have N0 := Fr.nil Z.heap.size
  have c0 : Go p e below S0 s₁ (mkF m 0 #[.val (.ref b), .val (.int 0), .val (.int 4), .unset, .unset] []) := cc.trans (XT.entry rfl)
  obtain ⟨SC, hz, SF, hfm, SA, SH, SL⟩ := id hs
  have c1 : Go p e below S0 s₁ (mkF m 1 #[.val (.ref b), .val (.int 0), .val (.int 4), .unset, .unset] [(.int 4)]) := c0.trans (by
    refine XS.iloadN X0.here hx rfl (hb hby d20_0) rfl ?_
    exact .refl _)
  obtain ⟨v2, T2, L2, X2, ⟨N2', u2, ku2, rfl, K2, lo2, ge2, Ku2⟩, c2'⟩ := own_stat X0 hx hml hZ hown (gw hw 91 rfl) (gw hw 92 rfl) (gw hw 73 rfl) (gw hw 93 rfl) (by decide) (kc := 1) (ks := 8) (h := h0) (W := 0) (argsL := [(.int 4)]) (rest := []) (own_pay (W := 0) (rmNBF4 l Z a0 hw h0 O0) hZ (gw hw 93 rfl) (gw hw 73 rfl) (by decide) (by decide)) c1 (lenOf pd_6 rfl) rfl (hb hby d20_1) e0
  have N2 := Fr.app N0 N2'
  have c2 : Go p e below S0 T2 (mkF m 4 #[.val (.ref b), .val (.int 0), .val (.int 4), .unset, .unset] [(.ref u2)]) := c2'
  obtain ⟨cl3, Ar3, q3, S3, M3, H3, G3⟩ := id (Kc.keep K2 nin0)
  have hin3 : ¬ ((0 : Int32) < 0 ∨ cl3.slots.size ≤ ((0 : Int32)).toNatClampNeg) := inb_of S3 ⟨by decide, by decide⟩
  have hat3 := Has.at (v := .int xa) H3 hin3 rfl
  have c4 : Go p e below S0 T2 (mkF m 20 #[.val (.ref b), .val (.int 0), .val (.int 4), .val (.ref u2), .val (.int 0)] [(.int xa), (.int 0), (.ref u2)]) := c2.trans (by
    refine XS.astoreN X2.here hx rfl (hb hby d20_4) rfl rfl (l' := #[.val (.ref b), .val (.int 0), .val (.int 4), .val (.ref u2), .unset]) rfl ?_
    refine XS.iconst X2.here hx rfl (hb hby d20_5) ?_
    refine XS.istore X2.here hx rfl (hb hby d20_6) rfl (l' := #[.val (.ref b), .val (.int 0), .val (.int 4), .val (.ref u2), .val (.int 0)]) rfl ?_
    refine XS.iload X2.here hx rfl (hb hby d20_8) rfl ?_
    refine XS.iloadN X2.here hx rfl (hb hby d20_10) rfl ?_
    refine XS.icmpNo X2.here hx rfl (hb hby d20_11) rfl (tlt (by decide : (0 : Int32) < (4 : Int32))).2.1 ?_
    refine XS.aloadN X2.here hx rfl (hb hby d20_14) rfl rfl ?_
    refine XS.iload X2.here hx rfl (hb hby d20_15) rfl ?_
    refine XS.aloadN X2.here hx rfl (hb hby d20_17) rfl rfl ?_
    show Steps p.tables e below (T2.setTop (mkF m 18 #[.val (.ref b), .val (.int 0), .val (.int 4), .val (.ref u2), .val (.int 0)] [(.ref b), (.int 0), (.ref u2)])) _
    refine XS.iloadN X2.here hx rfl (hb hby d20_18) rfl ?_
    refine X2.caload hx (cell := cl3) (by rw [show T2.heap = T2.heap from rfl]; exact Ar3.1) (State.isArrayOf_alike (hZ).alike Ar3.2.1) Ar3.2.2 hin3 hat3 (g := (mkF m 19 #[.val (.ref b), .val (.int 0), .val (.int 4), .val (.ref u2), .val (.int 0)] [(.int 0), (.ref b), (.int 0), (.ref u2)])) rfl rfl (hb hby d20_19) _ ?_
    exact .refl _)
  obtain ⟨v5, T5, L5, X5, ⟨N5', rfl, K5, Kq5⟩, c5'⟩ := own_stat X2 hx hml hZ hown (gw hw 98 rfl) (gw hw 99 rfl) (gw hw 73 rfl) (gw hw 100 rfl) (by decide) (kc := 0) (ks := 0) (h := T2.heap) (W := 0) (argsL := [(.ref u2), (.int 0), (.int xa)]) (rest := []) (own_pay (W := 0) (rmPut l Z a0 hw u2 ku2 [(.int 0), (.int 0), (.int 0), (.int 0), (.int 0), (.int 0), (.int 0), (.int 0)] 8 0 xa z fm T2.heap (O0.keep K2 all0) Ku2 rfl (by decide) (by decide) ge2 hs) hZ (gw hw 100 rfl) (gw hw 73 rfl) (by decide) (by decide)) c4 (lenOf pd_7 rfl) rfl (hb hby d20_20) rfl
  have N5 := Fr.app N2 N5'
  have c5 : Go p e below S0 T5 (mkF m 23 #[.val (.ref b), .val (.int 0), .val (.int 4), .val (.ref u2), .val (.int 0)] []) := c5'
  have Kr5 : Arv Z T5.heap u2 ku2 .byte (8 : Int32) [(.int (own_lo xa)), (.int (own_hi xa)), (.int 0), (.int 0), (.int 0), (.int 0), (.int 0), (.int 0)] (.int (0 : Int32)) := Kq5
  obtain ⟨cl6, Ar6, q6, S6, M6, H6, G6⟩ := id ((Kc.keep K2 nin0).keep K5 (ninS (Nat.ne_of_lt (Nat.lt_of_lt_of_le Kc.lt lo2)) nin0))
  have hin6 : ¬ ((1 : Int32) < 0 ∨ cl6.slots.size ≤ ((1 : Int32)).toNatClampNeg) := inb_of S6 ⟨by decide, by decide⟩
  have hat6 := Has.at (v := .int xb) H6 hin6 rfl
  have c7 : Go p e below S0 T5 (mkF m 20 #[.val (.ref b), .val (.int 1), .val (.int 4), .val (.ref u2), .val (.int 1)] [(.int xb), (.int 1), (.ref u2)]) := c5.trans (by
    refine XS.iinc X5.here hx rfl (hb hby d20_23) rfl (l' := #[.val (.ref b), .val (.int 1), .val (.int 4), .val (.ref u2), .val (.int 0)]) rfl ?_
    refine XS.iinc X5.here hx rfl (hb hby d20_26) rfl (l' := #[.val (.ref b), .val (.int 1), .val (.int 4), .val (.ref u2), .val (.int 1)]) rfl ?_
    refine XS.goto X5.here hx rfl (pc0 := 29) (pc' := 8) rfl (hb hby d20_29) (by decide) (by decide) ?_
    refine XS.iload X5.here hx rfl (hb hby d20_8) rfl ?_
    refine XS.iloadN X5.here hx rfl (hb hby d20_10) rfl ?_
    refine XS.icmpNo X5.here hx rfl (hb hby d20_11) rfl (tlt (by decide : (1 : Int32) < (4 : Int32))).2.1 ?_
    refine XS.aloadN X5.here hx rfl (hb hby d20_14) rfl rfl ?_
    refine XS.iload X5.here hx rfl (hb hby d20_15) rfl ?_
    refine XS.aloadN X5.here hx rfl (hb hby d20_17) rfl rfl ?_
    show Steps p.tables e below (T5.setTop (mkF m 18 #[.val (.ref b), .val (.int 1), .val (.int 4), .val (.ref u2), .val (.int 1)] [(.ref b), (.int 1), (.ref u2)])) _
    refine XS.iloadN X5.here hx rfl (hb hby d20_18) rfl ?_
    refine X5.caload hx (cell := cl6) (by rw [show T5.heap = T5.heap from rfl]; exact Ar6.1) (State.isArrayOf_alike (hZ).alike Ar6.2.1) Ar6.2.2 hin6 hat6 (g := (mkF m 19 #[.val (.ref b), .val (.int 1), .val (.int 4), .val (.ref u2), .val (.int 1)] [(.int 1), (.ref b), (.int 1), (.ref u2)])) rfl rfl (hb hby d20_19) _ ?_
    exact .refl _)
  obtain ⟨v8, T8, L8, X8, ⟨N8', rfl, K8, Kq8⟩, c8'⟩ := own_stat X5 hx hml hZ hown (gw hw 98 rfl) (gw hw 99 rfl) (gw hw 73 rfl) (gw hw 100 rfl) (by decide) (kc := 0) (ks := 0) (h := T5.heap) (W := 0) (argsL := [(.ref u2), (.int 1), (.int xb)]) (rest := []) (own_pay (W := 0) (rmPut l Z a0 hw u2 ku2 [(.int (own_lo xa)), (.int (own_hi xa)), (.int 0), (.int 0), (.int 0), (.int 0), (.int 0), (.int 0)] 8 1 xb z fm T5.heap ((O0.keep K2 all0).keep K5 (allS ge2 all0)) Kr5 rfl (by decide) (by decide) ge2 hs) hZ (gw hw 100 rfl) (gw hw 73 rfl) (by decide) (by decide)) c7 (lenOf pd_7 rfl) rfl (hb hby d20_20) rfl
  have N8 := Fr.app N5 N8'
  have c8 : Go p e below S0 T8 (mkF m 23 #[.val (.ref b), .val (.int 1), .val (.int 4), .val (.ref u2), .val (.int 1)] []) := c8'
  have Kr8 : Arv Z T8.heap u2 ku2 .byte (8 : Int32) [(.int (own_lo xa)), (.int (own_hi xa)), (.int (own_lo xb)), (.int (own_hi xb)), (.int 0), (.int 0), (.int 0), (.int 0)] (.int (0 : Int32)) := Kq8
  obtain ⟨cl9, Ar9, q9, S9, M9, H9, G9⟩ := id (((Kc.keep K2 nin0).keep K5 (ninS (Nat.ne_of_lt (Nat.lt_of_lt_of_le Kc.lt lo2)) nin0)).keep K8 (ninS (Nat.ne_of_lt (Nat.lt_of_lt_of_le Kc.lt lo2)) nin0))
  have hin9 : ¬ ((2 : Int32) < 0 ∨ cl9.slots.size ≤ ((2 : Int32)).toNatClampNeg) := inb_of S9 ⟨by decide, by decide⟩
  have hat9 := Has.at (v := .int xc) H9 hin9 rfl
  have c10 : Go p e below S0 T8 (mkF m 20 #[.val (.ref b), .val (.int 2), .val (.int 4), .val (.ref u2), .val (.int 2)] [(.int xc), (.int 2), (.ref u2)]) := c8.trans (by
    refine XS.iinc X8.here hx rfl (hb hby d20_23) rfl (l' := #[.val (.ref b), .val (.int 2), .val (.int 4), .val (.ref u2), .val (.int 1)]) rfl ?_
    refine XS.iinc X8.here hx rfl (hb hby d20_26) rfl (l' := #[.val (.ref b), .val (.int 2), .val (.int 4), .val (.ref u2), .val (.int 2)]) rfl ?_
    refine XS.goto X8.here hx rfl (pc0 := 29) (pc' := 8) rfl (hb hby d20_29) (by decide) (by decide) ?_
    refine XS.iload X8.here hx rfl (hb hby d20_8) rfl ?_
    refine XS.iloadN X8.here hx rfl (hb hby d20_10) rfl ?_
    refine XS.icmpNo X8.here hx rfl (hb hby d20_11) rfl (tlt (by decide : (2 : Int32) < (4 : Int32))).2.1 ?_
    refine XS.aloadN X8.here hx rfl (hb hby d20_14) rfl rfl ?_
    refine XS.iload X8.here hx rfl (hb hby d20_15) rfl ?_
    refine XS.aloadN X8.here hx rfl (hb hby d20_17) rfl rfl ?_
    show Steps p.tables e below (T8.setTop (mkF m 18 #[.val (.ref b), .val (.int 2), .val (.int 4), .val (.ref u2), .val (.int 2)] [(.ref b), (.int 2), (.ref u2)])) _
    refine XS.iloadN X8.here hx rfl (hb hby d20_18) rfl ?_
    refine X8.caload hx (cell := cl9) (by rw [show T8.heap = T8.heap from rfl]; exact Ar9.1) (State.isArrayOf_alike (hZ).alike Ar9.2.1) Ar9.2.2 hin9 hat9 (g := (mkF m 19 #[.val (.ref b), .val (.int 2), .val (.int 4), .val (.ref u2), .val (.int 2)] [(.int 2), (.ref b), (.int 2), (.ref u2)])) rfl rfl (hb hby d20_19) _ ?_
    exact .refl _)
  obtain ⟨v11, T11, L11, X11, ⟨N11', rfl, K11, Kq11⟩, c11'⟩ := own_stat X8 hx hml hZ hown (gw hw 98 rfl) (gw hw 99 rfl) (gw hw 73 rfl) (gw hw 100 rfl) (by decide) (kc := 0) (ks := 0) (h := T8.heap) (W := 0) (argsL := [(.ref u2), (.int 2), (.int xc)]) (rest := []) (own_pay (W := 0) (rmPut l Z a0 hw u2 ku2 [(.int (own_lo xa)), (.int (own_hi xa)), (.int (own_lo xb)), (.int (own_hi xb)), (.int 0), (.int 0), (.int 0), (.int 0)] 8 2 xc z fm T8.heap (((O0.keep K2 all0).keep K5 (allS ge2 all0)).keep K8 (allS ge2 all0)) Kr8 rfl (by decide) (by decide) ge2 hs) hZ (gw hw 100 rfl) (gw hw 73 rfl) (by decide) (by decide)) c10 (lenOf pd_7 rfl) rfl (hb hby d20_20) rfl
  have N11 := Fr.app N8 N11'
  have c11 : Go p e below S0 T11 (mkF m 23 #[.val (.ref b), .val (.int 2), .val (.int 4), .val (.ref u2), .val (.int 2)] []) := c11'
  have Kr11 : Arv Z T11.heap u2 ku2 .byte (8 : Int32) [(.int (own_lo xa)), (.int (own_hi xa)), (.int (own_lo xb)), (.int (own_hi xb)), (.int (own_lo xc)), (.int (own_hi xc)), (.int 0), (.int 0)] (.int (0 : Int32)) := Kq11
  obtain ⟨cl12, Ar12, q12, S12, M12, H12, G12⟩ := id ((((Kc.keep K2 nin0).keep K5 (ninS (Nat.ne_of_lt (Nat.lt_of_lt_of_le Kc.lt lo2)) nin0)).keep K8 (ninS (Nat.ne_of_lt (Nat.lt_of_lt_of_le Kc.lt lo2)) nin0)).keep K11 (ninS (Nat.ne_of_lt (Nat.lt_of_lt_of_le Kc.lt lo2)) nin0))
  have hin12 : ¬ ((3 : Int32) < 0 ∨ cl12.slots.size ≤ ((3 : Int32)).toNatClampNeg) := inb_of S12 ⟨by decide, by decide⟩
  have hat12 := Has.at (v := .int xd) H12 hin12 rfl
  have c13 : Go p e below S0 T11 (mkF m 20 #[.val (.ref b), .val (.int 3), .val (.int 4), .val (.ref u2), .val (.int 3)] [(.int xd), (.int 3), (.ref u2)]) := c11.trans (by
    refine XS.iinc X11.here hx rfl (hb hby d20_23) rfl (l' := #[.val (.ref b), .val (.int 3), .val (.int 4), .val (.ref u2), .val (.int 2)]) rfl ?_
    refine XS.iinc X11.here hx rfl (hb hby d20_26) rfl (l' := #[.val (.ref b), .val (.int 3), .val (.int 4), .val (.ref u2), .val (.int 3)]) rfl ?_
    refine XS.goto X11.here hx rfl (pc0 := 29) (pc' := 8) rfl (hb hby d20_29) (by decide) (by decide) ?_
    refine XS.iload X11.here hx rfl (hb hby d20_8) rfl ?_
    refine XS.iloadN X11.here hx rfl (hb hby d20_10) rfl ?_
    refine XS.icmpNo X11.here hx rfl (hb hby d20_11) rfl (tlt (by decide : (3 : Int32) < (4 : Int32))).2.1 ?_
    refine XS.aloadN X11.here hx rfl (hb hby d20_14) rfl rfl ?_
    refine XS.iload X11.here hx rfl (hb hby d20_15) rfl ?_
    refine XS.aloadN X11.here hx rfl (hb hby d20_17) rfl rfl ?_
    show Steps p.tables e below (T11.setTop (mkF m 18 #[.val (.ref b), .val (.int 3), .val (.int 4), .val (.ref u2), .val (.int 3)] [(.ref b), (.int 3), (.ref u2)])) _
    refine XS.iloadN X11.here hx rfl (hb hby d20_18) rfl ?_
    refine X11.caload hx (cell := cl12) (by rw [show T11.heap = T11.heap from rfl]; exact Ar12.1) (State.isArrayOf_alike (hZ).alike Ar12.2.1) Ar12.2.2 hin12 hat12 (g := (mkF m 19 #[.val (.ref b), .val (.int 3), .val (.int 4), .val (.ref u2), .val (.int 3)] [(.int 3), (.ref b), (.int 3), (.ref u2)])) rfl rfl (hb hby d20_19) _ ?_
    exact .refl _)
  obtain ⟨v14, T14, L14, X14, ⟨N14', rfl, K14, Kq14⟩, c14'⟩ := own_stat X11 hx hml hZ hown (gw hw 98 rfl) (gw hw 99 rfl) (gw hw 73 rfl) (gw hw 100 rfl) (by decide) (kc := 0) (ks := 0) (h := T11.heap) (W := 0) (argsL := [(.ref u2), (.int 3), (.int xd)]) (rest := []) (own_pay (W := 0) (rmPut l Z a0 hw u2 ku2 [(.int (own_lo xa)), (.int (own_hi xa)), (.int (own_lo xb)), (.int (own_hi xb)), (.int (own_lo xc)), (.int (own_hi xc)), (.int 0), (.int 0)] 8 3 xd z fm T11.heap ((((O0.keep K2 all0).keep K5 (allS ge2 all0)).keep K8 (allS ge2 all0)).keep K11 (allS ge2 all0)) Kr11 rfl (by decide) (by decide) ge2 hs) hZ (gw hw 100 rfl) (gw hw 73 rfl) (by decide) (by decide)) c13 (lenOf pd_7 rfl) rfl (hb hby d20_20) rfl
  have N14 := Fr.app N11 N14'
  have c14 : Go p e below S0 T14 (mkF m 23 #[.val (.ref b), .val (.int 3), .val (.int 4), .val (.ref u2), .val (.int 3)] []) := c14'
  have Kr14 : Arv Z T14.heap u2 ku2 .byte (8 : Int32) [(.int (own_lo xa)), (.int (own_hi xa)), (.int (own_lo xb)), (.int (own_hi xb)), (.int (own_lo xc)), (.int (own_hi xc)), (.int (own_lo xd)), (.int (own_hi xd))] (.int (0 : Int32)) := Kq14
  have c15 : Go p e below S0 T14 (mkF m 33 #[.val (.ref b), .val (.int 4), .val (.int 4), .val (.ref u2), .val (.int 4)] [(.ref u2)]) := c14.trans (by
    refine XS.iinc X14.here hx rfl (hb hby d20_23) rfl (l' := #[.val (.ref b), .val (.int 4), .val (.int 4), .val (.ref u2), .val (.int 3)]) rfl ?_
    refine XS.iinc X14.here hx rfl (hb hby d20_26) rfl (l' := #[.val (.ref b), .val (.int 4), .val (.int 4), .val (.ref u2), .val (.int 4)]) rfl ?_
    refine XS.goto X14.here hx rfl (pc0 := 29) (pc' := 8) rfl (hb hby d20_29) (by decide) (by decide) ?_
    refine XS.iload X14.here hx rfl (hb hby d20_8) rfl ?_
    refine XS.iloadN X14.here hx rfl (hb hby d20_10) rfl ?_
    refine XS.icmpYes X14.here hx rfl (pc0 := 11) (pc' := 32) rfl (hb hby d20_11) rfl (flt (by decide : ¬ ((4 : Int32) < (4 : Int32)))).2.1 (by decide) (by decide) ?_
    refine XS.aloadN X14.here hx rfl (hb hby d20_32) rfl rfl ?_
    exact .refl _)
  refine ⟨T14, (some (.ref u2)), _, _, _, X14, by decide, by decide, (fun q => by cases q), N14, ?_, fun fs hr => ?_⟩
  · skip
    exact ⟨u2, ku2, rfl, ((((((Keep.refl h0 []).trans K2 all0).trans K5 (allS (Or.inr (Nat.le_trans (Keep.refl h0 []).1 lo2)) all0)).trans K8 (allS (Or.inr (Nat.le_trans (Keep.refl h0 []).1 lo2)) all0)).trans K11 (allS (Or.inr (Nat.le_trans (Keep.refl h0 []).1 lo2)) all0)).trans K14 (allS (Or.inr (Nat.le_trans (Keep.refl h0 []).1 lo2)) all0)), (Nat.le_trans (Keep.refl h0 []).1 lo2), Kr14⟩
  · exact own_retR X14 hx c15 hret rfl rfl (hb hby d20_33) hr
theorem rmCmp5_4 (l : Launch) (Z : State) (a0 : Array Value) (hw : own_W Z a0) (b d : Addr) (kc kd : ClassId) (xa xb xc xd : Int32) (h0 : Heap) (O0 : Old Z Z.heap.size h0) (Kc : Arv Z h0 b kc .char (4 : Int32) [(.int xa), (.int xb), (.int xc), (.int xd)] (.int (0 : Int32))) (Kd : Arv Z h0 d kd .byte (4 : Int32) [(.int 0), (.int 0), (.int 0), (.int 0)] (.int (0 : Int32))) (gd : Z.heap.size ≤ d) (hne : b ≠ d) (hbad : ¬ (¬ (255 : Int32) < xa ∧ ¬ (255 : Int32) < xb ∧ ¬ (255 : Int32) < xc ∧ ¬ (255 : Int32) < xd)) :
    own_NC l Z (⟨"java/lang/StringUTF16", "compress", "([CI[BII)I"⟩ : MethodName) jdk_52_method_21_code 7 (some .int) ({ frames := 0, cells := 0, slots := 0, locals := 0 } : Room) #[(.ref b), (.int 0), (.ref d), (.int 0), (.int 4)] h0 (fun v h => Keep h0 h [d] ∧ (∃ i : Nat, v = some (.int (Int32.ofNat i)) ∧ i < 4 ∧ (255 : Int32) < ([xa, xb, xc, xd] : List Int32).getD i 0)) := by
  refine own_nc (plainFor_of_name pnl4) ?_
  intro p e s m below meth c s₁ S0 X0 hx hby hml hret hnm hown hZ e0 cc
  have N0 := Fr.nil Z.heap.size
  have c0 : Go p e below S0 s₁ (mkF m 0 #[.val (.ref b), .val (.int 0), .val (.ref d), .val (.int 0), .val (.int 4), .unset, .unset] []) := cc.trans (XT.entry rfl)
  obtain ⟨cl1, Ar1, q1, S1, M1, H1, G1⟩ := id Kc
  have hin1 : ¬ ((0 : Int32) < 0 ∨ cl1.slots.size ≤ ((0 : Int32)).toNatClampNeg) := inb_of S1 ⟨by decide, by decide⟩
  have hat1 := Has.at (v := .int xa) H1 hin1 rfl
  have c2 : Go p e below S0 s₁ (mkF m 20 #[.val (.ref b), .val (.int 0), .val (.ref d), .val (.int 0), .val (.int 4), .val (.int 0), .val (.int xa)] [(.int 255), (.int xa)]) := c0.trans (by
    refine XS.iconst X0.here hx rfl (hb hby d16_0) ?_
    refine XS.istore X0.here hx rfl (hb hby d16_1) rfl (l' := #[.val (.ref b), .val (.int 0), .val (.ref d), .val (.int 0), .val (.int 4), .val (.int 0), .unset]) rfl ?_
    refine XS.iload X0.here hx rfl (hb hby d16_3) rfl ?_
    refine XS.iload X0.here hx rfl (hb hby d16_5) rfl ?_
    refine XS.icmpNo X0.here hx rfl (hb hby d16_7) rfl (tlt (by decide : (0 : Int32) < (4 : Int32))).2.1 ?_
    refine XS.aloadN X0.here hx rfl (hb hby d16_10) rfl rfl ?_
    refine XS.iloadN X0.here hx rfl (hb hby d16_11) rfl ?_
    refine X0.caload hx (cell := cl1) (by rw [show s₁.heap = h0 from e0]; exact Ar1.1) (State.isArrayOf_alike (hZ).alike Ar1.2.1) Ar1.2.2 hin1 hat1 (g := (mkF m 12 #[.val (.ref b), .val (.int 0), .val (.ref d), .val (.int 0), .val (.int 4), .val (.int 0), .unset] [(.int 0), (.ref b)])) rfl rfl (hb hby d16_12) _ ?_
    refine XS.istore X0.here hx rfl (hb hby d16_13) rfl (l' := #[.val (.ref b), .val (.int 0), .val (.ref d), .val (.int 0), .val (.int 4), .val (.int 0), .val (.int xa)]) rfl ?_
    show Steps p.tables e below (s₁.setTop (mkF m 15 #[.val (.ref b), .val (.int 0), .val (.ref d), .val (.int 0), .val (.int 4), .val (.int 0), .val (.int xa)] [])) _
    refine XS.iload X0.here hx rfl (hb hby d16_15) rfl ?_
    refine XS.sipush X0.here hx rfl (hb hby d16_17) ?_
    exact .refl _)
  by_cases hc3 : (255 : Int32) < xa
  · skip
    have c4 : Go p e below S0 s₁ (mkF m 25 #[.val (.ref b), .val (.int 0), .val (.ref d), .val (.int 0), .val (.int 4), .val (.int 0), .val (.int xa)] [(.int 0)]) := c2.trans (by
      refine XS.icmpNo X0.here hx rfl (hb hby d16_20) rfl (tlt hc3).2.2.2 ?_
      refine XS.iload X0.here hx rfl (hb hby d16_23) rfl ?_
      exact .refl _)
    refine ⟨s₁, (some (.int 0)), _, _, _, X0, by decide, by decide, (fun q => by cases q), N0, ?_, fun fs hr => ?_⟩
    · rw [e0]
      exact ⟨(Keep.refl h0 [d]), 0, rfl, by decide, hc3⟩
    · exact c4.trans (retI X0 hx hret (hb hby d16_25) hr)
  · skip
    obtain ⟨cl6, Ar6, q6, S6, M6, H6, G6⟩ := id Kd
    have hin6 : ¬ ((0 : Int32) < 0 ∨ cl6.slots.size ≤ ((0 : Int32)).toNatClampNeg) := inb_of S6 ⟨by decide, by decide⟩
    obtain ⟨T6, h6, X6, e6, W6, st6⟩ := stB X0 hx hZ e0 Ar6 (j := (0 : Int32)) hin6 (g := (mkF m 31 #[.val (.ref b), .val (.int 0), .val (.ref d), .val (.int 0), .val (.int 4), .val (.int 0), .val (.int xa)] [(.int (xa.toInt8.toInt32)), (.int 0), (.ref d)])) rfl rfl (hb hby d16_31)
    have V6 := Arv.set Ar6 q6 S6 M6 H6 G6 (fits_nar_byte _) W6 0 rfl (Nat.le_of_ble_eq_true rfl)
    have N6 := Fr.snoc X6 N0 gd
    rw [own_b2] at V6
    have V6a : Arv Z h6 d kd .byte (4 : Int32) [(.int (xa.toInt8.toInt32)), (.int 0), (.int 0), (.int 0)] (.int (0 : Int32)) := V6
    obtain ⟨cl7, Ar7, q7, S7, M7, H7, G7⟩ := id (Kc.other W6 hne)
    have hin7 : ¬ ((1 : Int32) < 0 ∨ cl7.slots.size ≤ ((1 : Int32)).toNatClampNeg) := inb_of S7 ⟨by decide, by decide⟩
    have hat7 := Has.at (v := .int xb) H7 hin7 rfl
    have c8 : Go p e below S0 T6 (mkF m 20 #[.val (.ref b), .val (.int 1), .val (.ref d), .val (.int 1), .val (.int 4), .val (.int 1), .val (.int xb)] [(.int 255), (.int xb)]) := c2.trans (by
      refine XS.icmpYes X0.here hx rfl (pc0 := 20) (pc' := 26) rfl (hb hby d16_20) rfl (flt hc3).2.2.2 (by decide) (by decide) ?_
      refine XS.aloadN X0.here hx rfl (hb hby d16_26) rfl rfl ?_
      refine XS.iloadN X0.here hx rfl (hb hby d16_27) rfl ?_
      refine XS.iload X0.here hx rfl (hb hby d16_28) rfl ?_
      refine XS.i2b X0.here hx rfl (hb hby d16_30) rfl ?_
      refine st6 _ ?_
      show Steps p.tables e below (T6.setTop (mkF m 32 #[.val (.ref b), .val (.int 0), .val (.ref d), .val (.int 0), .val (.int 4), .val (.int 0), .val (.int xa)] [])) _
      refine XS.iinc X6.here hx rfl (hb hby d16_32) rfl (l' := #[.val (.ref b), .val (.int 1), .val (.ref d), .val (.int 0), .val (.int 4), .val (.int 0), .val (.int xa)]) rfl ?_
      refine XS.iinc X6.here hx rfl (hb hby d16_35) rfl (l' := #[.val (.ref b), .val (.int 1), .val (.ref d), .val (.int 1), .val (.int 4), .val (.int 0), .val (.int xa)]) rfl ?_
      refine XS.iinc X6.here hx rfl (hb hby d16_38) rfl (l' := #[.val (.ref b), .val (.int 1), .val (.ref d), .val (.int 1), .val (.int 4), .val (.int 1), .val (.int xa)]) rfl ?_
      refine XS.goto X6.here hx rfl (pc0 := 41) (pc' := 3) rfl (hb hby d16_41) (by decide) (by decide) ?_
      refine XS.iload X6.here hx rfl (hb hby d16_3) rfl ?_
      refine XS.iload X6.here hx rfl (hb hby d16_5) rfl ?_
      refine XS.icmpNo X6.here hx rfl (hb hby d16_7) rfl (tlt (by decide : (1 : Int32) < (4 : Int32))).2.1 ?_
      refine XS.aloadN X6.here hx rfl (hb hby d16_10) rfl rfl ?_
      refine XS.iloadN X6.here hx rfl (hb hby d16_11) rfl ?_
      show Steps p.tables e below (T6.setTop (mkF m 12 #[.val (.ref b), .val (.int 1), .val (.ref d), .val (.int 1), .val (.int 4), .val (.int 1), .val (.int xa)] [(.int 1), (.ref b)])) _
      refine X6.caload hx (cell := cl7) (by rw [show T6.heap = h6 from e6]; exact Ar7.1) (State.isArrayOf_alike (hZ).alike Ar7.2.1) Ar7.2.2 hin7 hat7 (g := (mkF m 12 #[.val (.ref b), .val (.int 1), .val (.ref d), .val (.int 1), .val (.int 4), .val (.int 1), .val (.int xa)] [(.int 1), (.ref b)])) rfl rfl (hb hby d16_12) _ ?_
      refine XS.istore X6.here hx rfl (hb hby d16_13) rfl (l' := #[.val (.ref b), .val (.int 1), .val (.ref d), .val (.int 1), .val (.int 4), .val (.int 1), .val (.int xb)]) rfl ?_
      refine XS.iload X6.here hx rfl (hb hby d16_15) rfl ?_
      refine XS.sipush X6.here hx rfl (hb hby d16_17) ?_
      exact .refl _)
    by_cases hc9 : (255 : Int32) < xb
    · skip
      have c10 : Go p e below S0 T6 (mkF m 25 #[.val (.ref b), .val (.int 1), .val (.ref d), .val (.int 1), .val (.int 4), .val (.int 1), .val (.int xb)] [(.int 1)]) := c8.trans (by
        refine XS.icmpNo X6.here hx rfl (hb hby d16_20) rfl (tlt hc9).2.2.2 ?_
        refine XS.iload X6.here hx rfl (hb hby d16_23) rfl ?_
        exact .refl _)
      refine ⟨T6, (some (.int 1)), _, _, _, X6, by decide, by decide, (fun q => by cases q), N6, ?_, fun fs hr => ?_⟩
      · rw [e6]
        exact ⟨((Keep.refl h0 [d]).wr W6 (Or.inl (List.mem_of_getElem? (i := 0) rfl))), 1, rfl, by decide, hc9⟩
      · exact c10.trans (retI X6 hx hret (hb hby d16_25) hr)
    · skip
      obtain ⟨cl12, Ar12, q12, S12, M12, H12, G12⟩ := id V6a
      have hin12 : ¬ ((1 : Int32) < 0 ∨ cl12.slots.size ≤ ((1 : Int32)).toNatClampNeg) := inb_of S12 ⟨by decide, by decide⟩
      obtain ⟨T12, h12, X12, e12, W12, st12⟩ := stB X6 hx hZ e6 Ar12 (j := (1 : Int32)) hin12 (g := (mkF m 31 #[.val (.ref b), .val (.int 1), .val (.ref d), .val (.int 1), .val (.int 4), .val (.int 1), .val (.int xb)] [(.int (xb.toInt8.toInt32)), (.int 1), (.ref d)])) rfl rfl (hb hby d16_31)
      have V12 := Arv.set Ar12 q12 S12 M12 H12 G12 (fits_nar_byte _) W12 1 rfl (Nat.le_of_ble_eq_true rfl)
      have N12 := Fr.snoc X12 N6 gd
      rw [own_b2] at V12
      have V12a : Arv Z h12 d kd .byte (4 : Int32) [(.int (xa.toInt8.toInt32)), (.int (xb.toInt8.toInt32)), (.int 0), (.int 0)] (.int (0 : Int32)) := V12
      obtain ⟨cl13, Ar13, q13, S13, M13, H13, G13⟩ := id ((Kc.other W6 hne).other W12 hne)
      have hin13 : ¬ ((2 : Int32) < 0 ∨ cl13.slots.size ≤ ((2 : Int32)).toNatClampNeg) := inb_of S13 ⟨by decide, by decide⟩
      have hat13 := Has.at (v := .int xc) H13 hin13 rfl
      have c14 : Go p e below S0 T12 (mkF m 20 #[.val (.ref b), .val (.int 2), .val (.ref d), .val (.int 2), .val (.int 4), .val (.int 2), .val (.int xc)] [(.int 255), (.int xc)]) := c8.trans (by
        refine XS.icmpYes X6.here hx rfl (pc0 := 20) (pc' := 26) rfl (hb hby d16_20) rfl (flt hc9).2.2.2 (by decide) (by decide) ?_
        refine XS.aloadN X6.here hx rfl (hb hby d16_26) rfl rfl ?_
        refine XS.iloadN X6.here hx rfl (hb hby d16_27) rfl ?_
        refine XS.iload X6.here hx rfl (hb hby d16_28) rfl ?_
        refine XS.i2b X6.here hx rfl (hb hby d16_30) rfl ?_
        refine st12 _ ?_
        show Steps p.tables e below (T12.setTop (mkF m 32 #[.val (.ref b), .val (.int 1), .val (.ref d), .val (.int 1), .val (.int 4), .val (.int 1), .val (.int xb)] [])) _
        refine XS.iinc X12.here hx rfl (hb hby d16_32) rfl (l' := #[.val (.ref b), .val (.int 2), .val (.ref d), .val (.int 1), .val (.int 4), .val (.int 1), .val (.int xb)]) rfl ?_
        refine XS.iinc X12.here hx rfl (hb hby d16_35) rfl (l' := #[.val (.ref b), .val (.int 2), .val (.ref d), .val (.int 2), .val (.int 4), .val (.int 1), .val (.int xb)]) rfl ?_
        refine XS.iinc X12.here hx rfl (hb hby d16_38) rfl (l' := #[.val (.ref b), .val (.int 2), .val (.ref d), .val (.int 2), .val (.int 4), .val (.int 2), .val (.int xb)]) rfl ?_
        refine XS.goto X12.here hx rfl (pc0 := 41) (pc' := 3) rfl (hb hby d16_41) (by decide) (by decide) ?_
        refine XS.iload X12.here hx rfl (hb hby d16_3) rfl ?_
        refine XS.iload X12.here hx rfl (hb hby d16_5) rfl ?_
        refine XS.icmpNo X12.here hx rfl (hb hby d16_7) rfl (tlt (by decide : (2 : Int32) < (4 : Int32))).2.1 ?_
        refine XS.aloadN X12.here hx rfl (hb hby d16_10) rfl rfl ?_
        refine XS.iloadN X12.here hx rfl (hb hby d16_11) rfl ?_
        show Steps p.tables e below (T12.setTop (mkF m 12 #[.val (.ref b), .val (.int 2), .val (.ref d), .val (.int 2), .val (.int 4), .val (.int 2), .val (.int xb)] [(.int 2), (.ref b)])) _
        refine X12.caload hx (cell := cl13) (by rw [show T12.heap = h12 from e12]; exact Ar13.1) (State.isArrayOf_alike (hZ).alike Ar13.2.1) Ar13.2.2 hin13 hat13 (g := (mkF m 12 #[.val (.ref b), .val (.int 2), .val (.ref d), .val (.int 2), .val (.int 4), .val (.int 2), .val (.int xb)] [(.int 2), (.ref b)])) rfl rfl (hb hby d16_12) _ ?_
        refine XS.istore X12.here hx rfl (hb hby d16_13) rfl (l' := #[.val (.ref b), .val (.int 2), .val (.ref d), .val (.int 2), .val (.int 4), .val (.int 2), .val (.int xc)]) rfl ?_
        refine XS.iload X12.here hx rfl (hb hby d16_15) rfl ?_
        refine XS.sipush X12.here hx rfl (hb hby d16_17) ?_
        exact .refl _)
      by_cases hc15 : (255 : Int32) < xc
      · skip
        have c16 : Go p e below S0 T12 (mkF m 25 #[.val (.ref b), .val (.int 2), .val (.ref d), .val (.int 2), .val (.int 4), .val (.int 2), .val (.int xc)] [(.int 2)]) := c14.trans (by
          refine XS.icmpNo X12.here hx rfl (hb hby d16_20) rfl (tlt hc15).2.2.2 ?_
          refine XS.iload X12.here hx rfl (hb hby d16_23) rfl ?_
          exact .refl _)
        refine ⟨T12, (some (.int 2)), _, _, _, X12, by decide, by decide, (fun q => by cases q), N12, ?_, fun fs hr => ?_⟩
        · rw [e12]
          exact ⟨(((Keep.refl h0 [d]).wr W6 (Or.inl (List.mem_of_getElem? (i := 0) rfl))).wr W12 (Or.inl (List.mem_of_getElem? (i := 0) rfl))), 2, rfl, by decide, hc15⟩
        · exact c16.trans (retI X12 hx hret (hb hby d16_25) hr)
      · skip
        obtain ⟨cl18, Ar18, q18, S18, M18, H18, G18⟩ := id V12a
        have hin18 : ¬ ((2 : Int32) < 0 ∨ cl18.slots.size ≤ ((2 : Int32)).toNatClampNeg) := inb_of S18 ⟨by decide, by decide⟩
        obtain ⟨T18, h18, X18, e18, W18, st18⟩ := stB X12 hx hZ e12 Ar18 (j := (2 : Int32)) hin18 (g := (mkF m 31 #[.val (.ref b), .val (.int 2), .val (.ref d), .val (.int 2), .val (.int 4), .val (.int 2), .val (.int xc)] [(.int (xc.toInt8.toInt32)), (.int 2), (.ref d)])) rfl rfl (hb hby d16_31)
        have V18 := Arv.set Ar18 q18 S18 M18 H18 G18 (fits_nar_byte _) W18 2 rfl (Nat.le_of_ble_eq_true rfl)
        have N18 := Fr.snoc X18 N12 gd
        rw [own_b2] at V18
        have V18a : Arv Z h18 d kd .byte (4 : Int32) [(.int (xa.toInt8.toInt32)), (.int (xb.toInt8.toInt32)), (.int (xc.toInt8.toInt32)), (.int 0)] (.int (0 : Int32)) := V18
        obtain ⟨cl19, Ar19, q19, S19, M19, H19, G19⟩ := id (((Kc.other W6 hne).other W12 hne).other W18 hne)
        have hin19 : ¬ ((3 : Int32) < 0 ∨ cl19.slots.size ≤ ((3 : Int32)).toNatClampNeg) := inb_of S19 ⟨by decide, by decide⟩
        have hat19 := Has.at (v := .int xd) H19 hin19 rfl
        have c20 : Go p e below S0 T18 (mkF m 20 #[.val (.ref b), .val (.int 3), .val (.ref d), .val (.int 3), .val (.int 4), .val (.int 3), .val (.int xd)] [(.int 255), (.int xd)]) := c14.trans (by
          refine XS.icmpYes X12.here hx rfl (pc0 := 20) (pc' := 26) rfl (hb hby d16_20) rfl (flt hc15).2.2.2 (by decide) (by decide) ?_
          refine XS.aloadN X12.here hx rfl (hb hby d16_26) rfl rfl ?_
          refine XS.iloadN X12.here hx rfl (hb hby d16_27) rfl ?_
          refine XS.iload X12.here hx rfl (hb hby d16_28) rfl ?_
          refine XS.i2b X12.here hx rfl (hb hby d16_30) rfl ?_
          refine st18 _ ?_
          show Steps p.tables e below (T18.setTop (mkF m 32 #[.val (.ref b), .val (.int 2), .val (.ref d), .val (.int 2), .val (.int 4), .val (.int 2), .val (.int xc)] [])) _
          refine XS.iinc X18.here hx rfl (hb hby d16_32) rfl (l' := #[.val (.ref b), .val (.int 3), .val (.ref d), .val (.int 2), .val (.int 4), .val (.int 2), .val (.int xc)]) rfl ?_
          refine XS.iinc X18.here hx rfl (hb hby d16_35) rfl (l' := #[.val (.ref b), .val (.int 3), .val (.ref d), .val (.int 3), .val (.int 4), .val (.int 2), .val (.int xc)]) rfl ?_
          refine XS.iinc X18.here hx rfl (hb hby d16_38) rfl (l' := #[.val (.ref b), .val (.int 3), .val (.ref d), .val (.int 3), .val (.int 4), .val (.int 3), .val (.int xc)]) rfl ?_
          refine XS.goto X18.here hx rfl (pc0 := 41) (pc' := 3) rfl (hb hby d16_41) (by decide) (by decide) ?_
          refine XS.iload X18.here hx rfl (hb hby d16_3) rfl ?_
          refine XS.iload X18.here hx rfl (hb hby d16_5) rfl ?_
          refine XS.icmpNo X18.here hx rfl (hb hby d16_7) rfl (tlt (by decide : (3 : Int32) < (4 : Int32))).2.1 ?_
          refine XS.aloadN X18.here hx rfl (hb hby d16_10) rfl rfl ?_
          refine XS.iloadN X18.here hx rfl (hb hby d16_11) rfl ?_
          show Steps p.tables e below (T18.setTop (mkF m 12 #[.val (.ref b), .val (.int 3), .val (.ref d), .val (.int 3), .val (.int 4), .val (.int 3), .val (.int xc)] [(.int 3), (.ref b)])) _
          refine X18.caload hx (cell := cl19) (by rw [show T18.heap = h18 from e18]; exact Ar19.1) (State.isArrayOf_alike (hZ).alike Ar19.2.1) Ar19.2.2 hin19 hat19 (g := (mkF m 12 #[.val (.ref b), .val (.int 3), .val (.ref d), .val (.int 3), .val (.int 4), .val (.int 3), .val (.int xc)] [(.int 3), (.ref b)])) rfl rfl (hb hby d16_12) _ ?_
          refine XS.istore X18.here hx rfl (hb hby d16_13) rfl (l' := #[.val (.ref b), .val (.int 3), .val (.ref d), .val (.int 3), .val (.int 4), .val (.int 3), .val (.int xd)]) rfl ?_
          refine XS.iload X18.here hx rfl (hb hby d16_15) rfl ?_
          refine XS.sipush X18.here hx rfl (hb hby d16_17) ?_
          exact .refl _)
        by_cases hc21 : (255 : Int32) < xd
        · skip
          have c22 : Go p e below S0 T18 (mkF m 25 #[.val (.ref b), .val (.int 3), .val (.ref d), .val (.int 3), .val (.int 4), .val (.int 3), .val (.int xd)] [(.int 3)]) := c20.trans (by
            refine XS.icmpNo X18.here hx rfl (hb hby d16_20) rfl (tlt hc21).2.2.2 ?_
            refine XS.iload X18.here hx rfl (hb hby d16_23) rfl ?_
            exact .refl _)
          refine ⟨T18, (some (.int 3)), _, _, _, X18, by decide, by decide, (fun q => by cases q), N18, ?_, fun fs hr => ?_⟩
          · rw [e18]
            exact ⟨((((Keep.refl h0 [d]).wr W6 (Or.inl (List.mem_of_getElem? (i := 0) rfl))).wr W12 (Or.inl (List.mem_of_getElem? (i := 0) rfl))).wr W18 (Or.inl (List.mem_of_getElem? (i := 0) rfl))), 3, rfl, by decide, hc21⟩
          · exact c22.trans (retI X18 hx hret (hb hby d16_25) hr)
        · skip
          obtain ⟨cl24, Ar24, q24, S24, M24, H24, G24⟩ := id V18a
          have hin24 : ¬ ((3 : Int32) < 0 ∨ cl24.slots.size ≤ ((3 : Int32)).toNatClampNeg) := inb_of S24 ⟨by decide, by decide⟩
          obtain ⟨T24, h24, X24, e24, W24, st24⟩ := stB X18 hx hZ e18 Ar24 (j := (3 : Int32)) hin24 (g := (mkF m 31 #[.val (.ref b), .val (.int 3), .val (.ref d), .val (.int 3), .val (.int 4), .val (.int 3), .val (.int xd)] [(.int (xd.toInt8.toInt32)), (.int 3), (.ref d)])) rfl rfl (hb hby d16_31)
          have V24 := Arv.set Ar24 q24 S24 M24 H24 G24 (fits_nar_byte _) W24 3 rfl (Nat.le_of_ble_eq_true rfl)
          have N24 := Fr.snoc X24 N18 gd
          rw [own_b2] at V24
          have V24a : Arv Z h24 d kd .byte (4 : Int32) [(.int (xa.toInt8.toInt32)), (.int (xb.toInt8.toInt32)), (.int (xc.toInt8.toInt32)), (.int (xd.toInt8.toInt32))] (.int (0 : Int32)) := V24
          have c25 : Go p e below S0 T24 (mkF m 46 #[.val (.ref b), .val (.int 4), .val (.ref d), .val (.int 4), .val (.int 4), .val (.int 4), .val (.int xd)] [(.int 4)]) := c20.trans (by
            refine XS.icmpYes X18.here hx rfl (pc0 := 20) (pc' := 26) rfl (hb hby d16_20) rfl (flt hc21).2.2.2 (by decide) (by decide) ?_
            refine XS.aloadN X18.here hx rfl (hb hby d16_26) rfl rfl ?_
            refine XS.iloadN X18.here hx rfl (hb hby d16_27) rfl ?_
            refine XS.iload X18.here hx rfl (hb hby d16_28) rfl ?_
            refine XS.i2b X18.here hx rfl (hb hby d16_30) rfl ?_
            refine st24 _ ?_
            show Steps p.tables e below (T24.setTop (mkF m 32 #[.val (.ref b), .val (.int 3), .val (.ref d), .val (.int 3), .val (.int 4), .val (.int 3), .val (.int xd)] [])) _
            refine XS.iinc X24.here hx rfl (hb hby d16_32) rfl (l' := #[.val (.ref b), .val (.int 4), .val (.ref d), .val (.int 3), .val (.int 4), .val (.int 3), .val (.int xd)]) rfl ?_
            refine XS.iinc X24.here hx rfl (hb hby d16_35) rfl (l' := #[.val (.ref b), .val (.int 4), .val (.ref d), .val (.int 4), .val (.int 4), .val (.int 3), .val (.int xd)]) rfl ?_
            refine XS.iinc X24.here hx rfl (hb hby d16_38) rfl (l' := #[.val (.ref b), .val (.int 4), .val (.ref d), .val (.int 4), .val (.int 4), .val (.int 4), .val (.int xd)]) rfl ?_
            refine XS.goto X24.here hx rfl (pc0 := 41) (pc' := 3) rfl (hb hby d16_41) (by decide) (by decide) ?_
            refine XS.iload X24.here hx rfl (hb hby d16_3) rfl ?_
            refine XS.iload X24.here hx rfl (hb hby d16_5) rfl ?_
            refine XS.icmpYes X24.here hx rfl (pc0 := 7) (pc' := 44) rfl (hb hby d16_7) rfl (flt (by decide : ¬ ((4 : Int32) < (4 : Int32)))).2.1 (by decide) (by decide) ?_
            refine XS.iload X24.here hx rfl (hb hby d16_44) rfl ?_
            exact .refl _)
          refine ⟨T24, (some (.int 4)), _, _, _, X24, by decide, by decide, (fun q => by cases q), N24, ?_, fun fs hr => ?_⟩
          · rw [e24]
            exact absurd (show ¬ (255 : Int32) < xa ∧ ¬ (255 : Int32) < xb ∧ ¬ (255 : Int32) < xc ∧ ¬ (255 : Int32) < xd from ⟨hc3, hc9, hc15, hc21⟩) hbad
          · exact c25.trans (retI X24 hx hret (hb hby d16_46) hr)
theorem own_gl4 (d : Value) (i : Nat) (xa xb xc xd : Int32) (h : i < 4) : ([(.int (own_lo xa)), (.int (own_hi xa)), (.int (own_lo xb)), (.int (own_hi xb)), (.int (own_lo xc)), (.int (own_hi xc)), (.int (own_lo xd)), (.int (own_hi xd))] : List Value).getD (2 * i) d = .int (own_lo (([xa, xb, xc, xd] : List Int32).getD i 0)) ∧ ([(.int (own_lo xa)), (.int (own_hi xa)), (.int (own_lo xb)), (.int (own_hi xb)), (.int (own_lo xc)), (.int (own_hi xc)), (.int (own_lo xd)), (.int (own_hi xd))] : List Value).getD (2 * i + 1) d = .int (own_hi (([xa, xb, xc, xd] : List Int32).getD i 0)) ∧ (own_C xa → own_C xb → own_C xc → own_C xd → own_C (([xa, xb, xc, xd] : List Int32).getD i 0)) := by
  match i, h with
  | 0, _ => exact ⟨rfl, rfl, fun hxa hxb hxc hxd => hxa⟩
  | 1, _ => exact ⟨rfl, rfl, fun hxa hxb hxc hxd => hxb⟩
  | 2, _ => exact ⟨rfl, rfl, fun hxa hxb hxc hxd => hxc⟩
  | 3, _ => exact ⟨rfl, rfl, fun hxa hxb hxc hxd => hxd⟩
theorem own_ne4 {i : Nat} (h : i < 4) : ¬ (Int32.ofNat i = (4 : Int32)) := by
  have t : ∀ i : Fin 4, ¬ (Int32.ofNat i.val = (4 : Int32)) := by decide
  exact t ⟨i, h⟩
theorem rmCmp3_4 (l : Launch) (Z : State) (a0 : Array Value) (hw : own_W Z a0) (b : Addr) (kc : ClassId) (xa xb xc xd : Int32) (z : Int32) (fm : Value) (h0 : Heap) (O0 : Old Z Z.heap.size h0) (Kc : Arv Z h0 b kc .char (4 : Int32) [(.int xa), (.int xb), (.int xc), (.int xd)] (.int (0 : Int32))) (hCxa : own_C xa) (hCxb : own_C xb) (hCxc : own_C xc) (hCxd : own_C xd) (hbad : ¬ (¬ (255 : Int32) < xa ∧ ¬ (255 : Int32) < xb ∧ ¬ (255 : Int32) < xc ∧ ¬ (255 : Int32) < xd)) (hs : own_S Z z fm) :
    own_NC l Z (⟨"java/lang/StringUTF16", "compress", "([CII)[B"⟩ : MethodName) jdk_52_method_16_code 6 (some (.array .byte)) ({ frames := 3, cells := 2, slots := 12, locals := 60 } : Room) #[(.ref b), (.int 0), (.int 4)] h0 (fun v h => ∃ (u : Addr) (ku : ClassId), v = some (.ref u) ∧ Keep h0 h [] ∧ h0.size ≤ u ∧ Arv Z h u ku .byte (8 : Int32) [(.int (own_lo xa)), (.int (own_hi xa)), (.int (own_lo xb)), (.int (own_hi xb)), (.int (own_lo xc)), (.int (own_hi xc)), (.int (own_lo xd)), (.int (own_hi xd))] (.int (0 : Int32))) := by
  refine own_nc (plainFor_of_name pnl4) ?_
  intro p e s m below meth c s₁ S0 X0 hx hby hml hret hnm hown hZ e0 cc
  have N0 := Fr.nil Z.heap.size
  have c0 : Go p e below S0 s₁ (mkF m 0 #[.val (.ref b), .val (.int 0), .val (.int 4), .unset, .unset, .unset] []) := cc.trans (XT.entry rfl)
  obtain ⟨SC, hz, SF, hfm, SA, SH, SL⟩ := id hs
  obtain ⟨T1, h1, k1, X1, e1, E1, A1, st1⟩ := newP X0 hx hZ (hw _ (List.mem_of_getElem? (i := 23) rfl)) e0 (g := (mkF m 1 #[.val (.ref b), .val (.int 0), .val (.int 4), .unset, .unset, .unset] [(.int 4)])) rfl (hb hby d15_1) rfl (by decide) (cap := 4) (by decide) (by decide) (by decide) (by decide)
  obtain ⟨b1, g1⟩ : ∃ z, z = h0.size := ⟨_, rfl⟩
  rw [← g1] at A1 st1
  have lo1 : h0.size ≤ b1 := Nat.le_of_eq g1.symm
  have ge1 : Z.heap.size ≤ b1 := Nat.le_trans O0.2.1 lo1
  have V1 := Arv.new A1 (by decide)
  have V1a : Arv Z h1 b1 k1 .byte (4 : Int32) [(.int 0), (.int 0), (.int 0), (.int 0)] (.int (0 : Int32)) := V1.pad (pad_rep [] (.int (0 : Int32)) 4)
  have c2 : Go p e below S0 T1 (mkF m 9 #[.val (.ref b), .val (.int 0), .val (.int 4), .val (.ref b1), .unset, .unset] [(.int 4), (.int 0), (.ref b1), (.int 0), (.ref b)]) := c0.trans (by
    refine XS.iloadN X0.here hx rfl (hb hby d15_0) rfl ?_
    refine st1 _ ?_
    refine XS.astoreN X1.here hx rfl (hb hby d15_3) rfl rfl (l' := #[.val (.ref b), .val (.int 0), .val (.int 4), .val (.ref b1), .unset, .unset]) rfl ?_
    refine XS.aloadN X1.here hx rfl (hb hby d15_4) rfl rfl ?_
    refine XS.iloadN X1.here hx rfl (hb hby d15_5) rfl ?_
    refine XS.aloadN X1.here hx rfl (hb hby d15_6) rfl rfl ?_
    refine XS.iconst X1.here hx rfl (hb hby d15_7) ?_
    refine XS.iloadN X1.here hx rfl (hb hby d15_8) rfl ?_
    exact .refl _)
  obtain ⟨v3, T3, L3, X3, ⟨N3', K3, i3, rfl, hi3, hq3⟩, c3'⟩ := own_stat X1 hx hml hZ hown (gw hw 75 rfl) (gw hw 76 rfl) (gw hw 73 rfl) (gw hw 77 rfl) (by decide) (kc := 0) (ks := 0) (h := h1) (W := 0) (argsL := [(.ref b), (.int 0), (.ref b1), (.int 0), (.int 4)]) (rest := []) (own_pay (W := 0) (rmCmp5_4 l Z a0 hw b b1 kc k1 xa xb xc xd h1 (O0.ext E1) (Kc.ext E1) V1a ge1 (Nat.ne_of_lt (Nat.lt_of_lt_of_le Kc.lt lo1)) hbad) hZ (gw hw 77 rfl) (gw hw 73 rfl) (by decide) (by decide)) c2 (lenOf pd_8 rfl) rfl (hb hby d15_9) e1
  have N3 := Fr.app N0 N3'
  have c3 : Go p e below S0 T3 (mkF m 12 #[.val (.ref b), .val (.int 0), .val (.int 4), .val (.ref b1), .unset, .unset] [(.int (Int32.ofNat i3))]) := c3'
  have c4 : Go p e below S0 T3 (mkF m 23 #[.val (.ref b), .val (.int 0), .val (.int 4), .val (.ref b1), .val (.int (Int32.ofNat i3)), .unset] [(.int 4), (.int 0), (.ref b)]) := c3.trans (by
    refine XS.istore X3.here hx rfl (hb hby d15_12) rfl (l' := #[.val (.ref b), .val (.int 0), .val (.int 4), .val (.ref b1), .val (.int (Int32.ofNat i3)), .unset]) rfl ?_
    refine XS.iload X3.here hx rfl (hb hby d15_14) rfl ?_
    refine XS.iloadN X3.here hx rfl (hb hby d15_16) rfl ?_
    refine XS.icmpNo X3.here hx rfl (hb hby d15_17) rfl (feq (own_ne4 hi3)).1 ?_
    refine XS.aloadN X3.here hx rfl (hb hby d15_20) rfl rfl ?_
    refine XS.iloadN X3.here hx rfl (hb hby d15_21) rfl ?_
    refine XS.iloadN X3.here hx rfl (hb hby d15_22) rfl ?_
    exact .refl _)
  obtain ⟨v5, T5, L5, X5, ⟨N5', u5, ku5, rfl, K5, lo5, Ku5⟩, c5'⟩ := own_stat X3 hx hml hZ hown (gw hw 88 rfl) (gw hw 89 rfl) (gw hw 73 rfl) (gw hw 90 rfl) (by decide) (kc := 1) (ks := 8) (h := T3.heap) (W := 0) (argsL := [(.ref b), (.int 0), (.int 4)]) (rest := []) (own_pay (W := 0) (rmToB4 l Z a0 hw b kc xa xb xc xd z fm T3.heap ((O0.ext E1).keep K3 (allS ge1 all0)) ((Kc.ext E1).keep K3 (ninS (Nat.ne_of_lt (Nat.lt_of_lt_of_le Kc.lt lo1)) nin0)) hs) hZ (gw hw 90 rfl) (gw hw 73 rfl) (by decide) (by decide)) c4 (lenOf pd_9 rfl) rfl (hb hby d15_23) rfl
  have N5 := Fr.app N3 N5'
  have c5 : Go p e below S0 T5 (mkF m 26 #[.val (.ref b), .val (.int 0), .val (.int 4), .val (.ref b1), .val (.int (Int32.ofNat i3)), .unset] [(.ref u5)]) := c5'
  have c6 : Go p e below S0 T5 (mkF m 32 #[.val (.ref b), .val (.int 0), .val (.int 4), .val (.ref b1), .val (.int (Int32.ofNat i3)), .val (.ref u5)] [(.int (Int32.ofNat i3)), (.ref u5)]) := c5.trans (by
    refine XS.astore X5.here hx rfl (hb hby d15_26) rfl rfl (l' := #[.val (.ref b), .val (.int 0), .val (.int 4), .val (.ref b1), .val (.int (Int32.ofNat i3)), .val (.ref u5)]) rfl ?_
    refine XS.aload X5.here hx rfl (hb hby d15_28) rfl rfl ?_
    refine XS.iload X5.here hx rfl (hb hby d15_30) rfl ?_
    exact .refl _)
  obtain ⟨v7, T7, L7, X7, ⟨N7', rfl, e7⟩, c7'⟩ := own_stat X5 hx hml hZ hown (gw hw 104 rfl) (gw hw 105 rfl) (gw hw 73 rfl) (gw hw 106 rfl) (by decide) (kc := 0) (ks := 0) (h := T5.heap) (W := 0) (argsL := [(.ref u5), (.int (Int32.ofNat i3))]) (rest := []) (own_pay (W := 0) (rmGet l Z a0 hw u5 ku5 [(.int (own_lo xa)), (.int (own_hi xa)), (.int (own_lo xb)), (.int (own_hi xb)), (.int (own_lo xc)), (.int (own_hi xc)), (.int (own_lo xd)), (.int (own_hi xd))] 8 i3 (([xa, xb, xc, xd] : List Int32).getD i3 0) z fm T5.heap (((O0.ext E1).keep K3 (allS ge1 all0)).keep K5 all0) Ku5 rfl (by decide) (by omega) (own_gl4 _ _ xa xb xc xd hi3).1 (own_gl4 _ _ xa xb xc xd hi3).2.1 ((own_gl4 (.int 0) _ xa xb xc xd hi3).2.2 hCxa hCxb hCxc hCxd) hs) hZ (gw hw 106 rfl) (gw hw 73 rfl) (by decide) (by decide)) c6 (lenOf pd_10 rfl) rfl (hb hby d15_32) rfl
  have N7 := Fr.app N5 N7'
  have c7 : Go p e below S0 T7 (mkF m 35 #[.val (.ref b), .val (.int 0), .val (.int 4), .val (.ref b1), .val (.int (Int32.ofNat i3)), .val (.ref u5)] [(.int (([xa, xb, xc, xd] : List Int32).getD i3 0))]) := c7'
  have c8 : Go p e below S0 T7 (mkF m 56 #[.val (.ref b), .val (.int 0), .val (.int 4), .val (.ref b1), .val (.int (Int32.ofNat i3)), .val (.ref u5)] [(.ref u5)]) := c7.trans (by
    refine XS.sipush X7.here hx rfl (hb hby d15_35) ?_
    refine XS.icmpYes X7.here hx rfl (pc0 := 38) (pc' := 54) rfl (hb hby d15_38) rfl (tlt hq3).2.2.1 (by decide) (by decide) ?_
    refine XS.aload X7.here hx rfl (hb hby d15_54) rfl rfl ?_
    exact .refl _)
  refine ⟨T7, (some (.ref u5)), _, _, _, X7, by decide, by decide, (fun q => by cases q), N7, ?_, fun fs hr => ?_⟩
  · rw [e7]
    exact ⟨u5, ku5, rfl, ((((Keep.refl h0 []).ext E1).trans K3 (allS (Or.inr (Nat.le_trans (Keep.refl h0 []).1 lo1)) all0)).trans K5 all0), (Nat.le_trans (own_kz ((Keep.refl h0 []).ext E1) K3).1 lo5), Ku5⟩
  · exact own_retR X7 hx c8 hret rfl rfl (hb hby d15_56) hr
theorem rmCFAL4 (l : Launch) (Z : State) (a0 : Array Value) (hw : own_W Z a0) (t : Addr) (kb : ClassId) (xa xb xc xd : Int32) (h0 : Heap) (O0 : Old Z Z.heap.size h0) (Kt : Arv Z h0 t kb .byte (8 : Int32) [(.int (own_lo xa)), (.int (own_hi xa)), (.int (own_lo xb)), (.int (own_hi xb)), (.int (own_lo xc)), (.int (own_hi xc)), (.int (own_lo xd)), (.int (own_hi xd))] (.int (0 : Int32))) :
    own_NC l Z (⟨"java/lang/StringUTF16", "coderFromArrayLen", "([BI)B"⟩ : MethodName) jdk_52_method_15_code 2 (some .byte) ({ frames := 0, cells := 0, slots := 0, locals := 0 } : Room) #[(.ref t), (.int 4)] h0 (fun v h => v = some (.int (1 : Int32)) ∧ h = h0) := by
  refine own_nc (plainFor_of_name pnl4) ?_
  intro p e s m below meth c s₁ S0 X0 hx hby hml hret hnm hown hZ e0 cc
  have N0 := Fr.nil Z.heap.size
  have c0 : Go p e below S0 s₁ (mkF m 0 #[.val (.ref t), .val (.int 4)] []) := cc.trans (XT.entry rfl)
  obtain ⟨cl1, Ar1, q1, S1, M1, H1, G1⟩ := id Kt
  have c2 : Go p e below S0 s₁ (mkF m 8 #[.val (.ref t), .val (.int 4)] [(.int 1)]) := c0.trans (by
    refine XS.iloadN X0.here hx rfl (hb hby d17_0) rfl ?_
    refine XS.aloadN X0.here hx rfl (hb hby d17_1) rfl rfl ?_
    refine X0.arraylength hx (by rw [show s₁.heap = h0 from e0]; exact Ar1.1) (State.isArrayOf_alike (hZ).alike Ar1.2.1) (g := (mkF m 2 #[.val (.ref t), .val (.int 4)] [(.ref t), (.int 4)])) rfl rfl (hb hby d17_2) _ ?_
    rw [len_of S1 M1]
    refine XS.isub X0.here hx rfl (hb hby d17_3) rfl ?_
    refine XS.bipush X0.here hx rfl (hb hby d17_4) ?_
    refine XS.iushr X0.here hx rfl (hb hby d17_6) rfl ?_
    refine XS.i2b X0.here hx rfl (hb hby d17_7) rfl ?_
    exact .refl _)
  refine ⟨s₁, (some (.int (1 : Int32))), _, _, _, X0, by decide, by decide, (fun q => by cases q), N0, ?_, fun fs hr => ?_⟩
  · rw [e0]
    exact ⟨rfl, rfl⟩
  · exact c2.trans (retN X0 hx (t := .byte) hret (by simp) (hb hby d17_8) hr)
theorem rmUI4_4 (l : Launch) (Z : State) (a0 : Array Value) (hw : own_W Z a0) (x b : Addr) (kc : ClassId) (u1 u2 : Value) (xa xb xc xd : Int32) (z : Int32) (fm : Value) (h0 : Heap) (O0 : Old Z Z.heap.size h0) (E : Exa Z h0 x "java/lang/String") (V : Fld Z h0 x "java/lang/String" "value" "[B" u1) (Cd : Fld Z h0 x "java/lang/String" "coder" "B" u2) (gx : Z.heap.size ≤ x) (Kc : Arv Z h0 b kc .char (4 : Int32) [(.int xa), (.int xb), (.int xc), (.int xd)] (.int (0 : Int32))) (hCxa : own_C xa) (hCxb : own_C xb) (hCxc : own_C xc) (hCxd : own_C xd) (hbad : ¬ (¬ (255 : Int32) < xa ∧ ¬ (255 : Int32) < xb ∧ ¬ (255 : Int32) < xc ∧ ¬ (255 : Int32) < xd)) (hs : own_S Z z fm) :
    own_NC l Z (⟨"java/lang/String", "<init>", "([CIILjava/lang/Void;)V"⟩ : MethodName) jdk_42_method_149_code 6 none ({ frames := 4, cells := 2, slots := 12, locals := 90 } : Room) #[(.ref x), (.ref b), (.int 0), (.int 4), .null] h0 (fun v h => v = none ∧ Keep h0 h [x] ∧ Exa Z h x "java/lang/String" ∧ Fld Z h x "java/lang/String" "coder" "B" (.int (1 : Int32)) ∧ ∃ (t : Addr) (kt : ClassId), h0.size ≤ t ∧ Fld Z h x "java/lang/String" "value" "[B" (.ref t) ∧ Arv Z h t kt .byte (8 : Int32) [(.int (own_lo xa)), (.int (own_hi xa)), (.int (own_lo xb)), (.int (own_hi xb)), (.int (own_lo xc)), (.int (own_hi xc)), (.int (own_lo xd)), (.int (own_hi xd))] (.int (0 : Int32))) := by
  refine own_nc (plainFor_of_name pnl2) ?_
  intro p e s m below meth c s₁ S0 X0 hx hby hml hret hnm hown hZ e0 cc
  have N0 := Fr.nil Z.heap.size
  have c0 : Go p e below S0 s₁ (mkF m 0 #[.val (.ref x), .val (.ref b), .val (.int 0), .val (.int 4), .val .null, .unset] []) := cc.trans (XT.entry rfl)
  obtain ⟨SC, hz, SF, hfm, SA, SH, SL⟩ := id hs
  obtain ⟨T1, X1, e1, st1⟩ := initO X0 hx hZ hown (gw hw 19 rfl) (gw hw 20 rfl) (gw hw 21 rfl) e0 (g := (mkF m 1 #[.val (.ref x), .val (.ref b), .val (.int 0), .val (.int 4), .val .null, .unset] [(.ref x)])) rfl (by rw [hml]; rfl) rfl (hb hby d4_1) (by decide) (W := 0) (by show 2 * 0 + _ ≤ _; exact Nat.le_of_eq rfl) (by decide)
  obtain ⟨T2, X2, e2, st2⟩ := getS2 X1 hx hZ hown (host := "") (Or.inl (gw hw 49 rfl)) Via.refl e1 (SC.ext O0.2) (g := (mkF m 27 #[.val (.ref x), .val (.ref b), .val (.int 0), .val (.int 4), .val .null, .unset] [])) rfl (hb hby d4_27)
  have c3 : Go p e below S0 T2 (mkF m 36 #[.val (.ref x), .val (.ref b), .val (.int 0), .val (.int 4), .val .null, .unset] [(.int 4), (.int 0), (.ref b)]) := c0.trans (by
    refine XS.aloadN X0.here hx rfl (hb hby d4_0) rfl rfl ?_
    refine st1 _ ?_
    refine XS.iloadN X1.here hx rfl (hb hby d4_4) rfl ?_
    refine XS.ifYes X1.here hx rfl (pc0 := 5) (pc' := 27) rfl (hb hby d4_5) rfl ((if0 _ _).trans (feq (by decide : ¬ ((4 : Int32) = (0 : Int32)))).2) (by decide) (by decide) ?_
    refine st2 _ ?_
    show Steps p.tables e below (T2.setTop (mkF m 30 #[.val (.ref x), .val (.ref b), .val (.int 0), .val (.int 4), .val .null, .unset] [(.int z)])) _
    refine XS.ifNo X2.here hx rfl (hb hby d4_30) rfl ((if0 _ _).trans (feq hz).1) ?_
    refine XS.aloadN X2.here hx rfl (hb hby d4_33) rfl rfl ?_
    refine XS.iloadN X2.here hx rfl (hb hby d4_34) rfl ?_
    refine XS.iloadN X2.here hx rfl (hb hby d4_35) rfl ?_
    exact .refl _)
  obtain ⟨v4, T4, L4, X4, ⟨N4', u4, ku4, rfl, K4, lo4, Ku4⟩, c4'⟩ := own_stat X2 hx hml hZ hown (gw hw 71 rfl) (gw hw 72 rfl) (gw hw 73 rfl) (gw hw 74 rfl) (by decide) (kc := 2) (ks := 12) (h := h0) (W := 0) (argsL := [(.ref b), (.int 0), (.int 4)]) (rest := []) (own_pay (W := 0) (rmCmp3_4 l Z a0 hw b kc xa xb xc xd z fm h0 O0 Kc hCxa hCxb hCxc hCxd hbad hs) hZ (gw hw 74 rfl) (gw hw 73 rfl) (by decide) (by decide)) c3 (lenOf pd_9 rfl) rfl (hb hby d4_36) e2
  have N4 := Fr.app N0 N4'
  have c4 : Go p e below S0 T4 (mkF m 39 #[.val (.ref x), .val (.ref b), .val (.int 0), .val (.int 4), .val .null, .unset] [(.ref u4)]) := c4'
  have c5 : Go p e below S0 T4 (mkF m 45 #[.val (.ref x), .val (.ref b), .val (.int 0), .val (.int 4), .val .null, .val (.ref u4)] [(.int 4), (.ref u4), (.ref x)]) := c4.trans (by
    refine XS.astore X4.here hx rfl (hb hby d4_39) rfl rfl (l' := #[.val (.ref x), .val (.ref b), .val (.int 0), .val (.int 4), .val .null, .val (.ref u4)]) rfl ?_
    refine XS.aloadN X4.here hx rfl (hb hby d4_41) rfl rfl ?_
    refine XS.aload X4.here hx rfl (hb hby d4_42) rfl rfl ?_
    refine XS.iloadN X4.here hx rfl (hb hby d4_44) rfl ?_
    exact .refl _)
  obtain ⟨v6, T6, L6, X6, ⟨N6', rfl, e6⟩, c6'⟩ := own_stat X4 hx hml hZ hown (gw hw 78 rfl) (gw hw 79 rfl) (gw hw 73 rfl) (gw hw 80 rfl) (by decide) (kc := 0) (ks := 0) (h := T4.heap) (W := 1) (argsL := [(.ref u4), (.int 4)]) (rest := [(.ref x)]) (own_pay (W := 1) (rmCFAL4 l Z a0 hw u4 ku4 xa xb xc xd T4.heap (O0.keep K4 all0) Ku4) hZ (gw hw 80 rfl) (gw hw 73 rfl) (by decide) (by decide)) c5 (lenOf pd_11 rfl) rfl (hb hby d4_45) rfl
  have N6 := Fr.app N4 N6'
  have c6 : Go p e below S0 T6 (mkF m 48 #[.val (.ref x), .val (.ref b), .val (.int 0), .val (.int 4), .val .null, .val (.ref u4)] [(.int 1), (.ref x)]) := c6'
  obtain ⟨T7, h7, X7, e7, W7, st7⟩ := putFN X6 hx hZ hown (gw hw 29 rfl) Via.refl e6 (Cd.keep K4 nin0) (E.keep K4) (Or.inr ⟨(gw hw 25 rfl), rfl, hnm⟩) (gw hw 10 rfl) (ty := .byte) (v' := (.int 1)) (by decide) rfl rfl (g := (mkF m 48 #[.val (.ref x), .val (.ref b), .val (.int 0), .val (.int 4), .val .null, .val (.ref u4)] [(.int 1), (.ref x)])) rfl rfl (hb hby d4_48)
  have N7 := Fr.snoc X7 N6 gx
  have Fw7 := (Cd.keep K4 nin0).same W7
  obtain ⟨T8, h8, X8, e8, W8, st8⟩ := putF X7 hx hZ hown (host := "") (Or.inl (gw hw 28 rfl)) Via.refl e7 ((V.keep K4 nin0).other W7 (Or.inr (slot_ne (Or.inr (gw hw 24 rfl)) (Or.inr (gw hw 25 rfl)) (by decide) (t := (.array .byte)) (t' := .byte) (by decide) (by decide)))) ((E.keep K4).wr W7) (Or.inr ⟨(gw hw 24 rfl), rfl, hnm⟩) (gw hw 10 rfl) (ty := (.array .byte)) (by decide) rfl rfl (g := (mkF m 54 #[.val (.ref x), .val (.ref b), .val (.int 0), .val (.int 4), .val .null, .val (.ref u4)] [(.ref u4), (.ref x)])) rfl rfl (hb hby d4_54)
  have N8 := Fr.snoc X8 N7 gx
  have Fw8 := ((V.keep K4 nin0).other W7 (Or.inr (slot_ne (Or.inr (gw hw 24 rfl)) (Or.inr (gw hw 25 rfl)) (by decide) (t := (.array .byte)) (t' := .byte) (by decide) (by decide)))).same W8
  have c9 : Go p e below S0 T8 (mkF m 57 #[.val (.ref x), .val (.ref b), .val (.int 0), .val (.int 4), .val .null, .val (.ref u4)] []) := c6.trans (by
    refine st7 _ ?_
    refine XS.aloadN X7.here hx rfl (hb hby d4_51) rfl rfl ?_
    refine XS.aload X7.here hx rfl (hb hby d4_52) rfl rfl ?_
    refine st8 _ ?_
    show Steps p.tables e below (T8.setTop (mkF m 57 #[.val (.ref x), .val (.ref b), .val (.int 0), .val (.int 4), .val .null, .val (.ref u4)] [])) _
    exact .refl _)
  refine ⟨T8, none, _, _, _, X8, by decide, by decide, (fun _ => rfl), N8, ?_, fun fs hr => ?_⟩
  · rw [e8]
    exact ⟨rfl, ((((Keep.refl h0 [x]).trans K4 all0).wr W7 (Or.inl (List.mem_of_getElem? (i := 0) rfl))).wr W8 (Or.inl (List.mem_of_getElem? (i := 0) rfl))), (((E.keep K4).wr W7).wr W8), (Fw7.other W8 (Or.inr (slot_ne (Or.inr (gw hw 25 rfl)) (Or.inr (gw hw 24 rfl)) (by decide) (t := .byte) (t' := (.array .byte)) (by decide) (by decide)))), u4, ku4, (Nat.le_trans (Keep.refl h0 []).1 lo4), Fw8, ((Ku4.other W7 (Ne.symm (Nat.ne_of_lt (Nat.lt_of_lt_of_le E.lt lo4)))).other W8 (Ne.symm (Nat.ne_of_lt (Nat.lt_of_lt_of_le E.lt lo4))))⟩
  · exact c9.trans (X8.returnOut hx hret (hb hby d4_57) hr)
theorem rmUI1_4 (l : Launch) (Z : State) (a0 : Array Value) (hw : own_W Z a0) (x b : Addr) (kc : ClassId) (u1 u2 : Value) (xa xb xc xd : Int32) (z : Int32) (fm : Value) (h0 : Heap) (O0 : Old Z Z.heap.size h0) (E : Exa Z h0 x "java/lang/String") (V : Fld Z h0 x "java/lang/String" "value" "[B" u1) (Cd : Fld Z h0 x "java/lang/String" "coder" "B" u2) (gx : Z.heap.size ≤ x) (Kc : Arv Z h0 b kc .char (4 : Int32) [(.int xa), (.int xb), (.int xc), (.int xd)] (.int (0 : Int32))) (hCxa : own_C xa) (hCxb : own_C xb) (hCxc : own_C xc) (hCxd : own_C xd) (hbad : ¬ (¬ (255 : Int32) < xa ∧ ¬ (255 : Int32) < xb ∧ ¬ (255 : Int32) < xc ∧ ¬ (255 : Int32) < xd)) (hs : own_S Z z fm) :
    own_NC l Z (⟨"java/lang/String", "<init>", "([C)V"⟩ : MethodName) jdk_42_method_3_code 2 none ({ frames := 5, cells := 2, slots := 12, locals := 120 } : Room) #[(.ref x), (.ref b)] h0 (fun v h => v = none ∧ Keep h0 h [x] ∧ Exa Z h x "java/lang/String" ∧ Fld Z h x "java/lang/String" "coder" "B" (.int (1 : Int32)) ∧ ∃ (t : Addr) (kt : ClassId), h0.size ≤ t ∧ Fld Z h x "java/lang/String" "value" "[B" (.ref t) ∧ Arv Z h t kt .byte (8 : Int32) [(.int (own_lo xa)), (.int (own_hi xa)), (.int (own_lo xb)), (.int (own_hi xb)), (.int (own_lo xc)), (.int (own_hi xc)), (.int (own_lo xd)), (.int (own_hi xd))] (.int (0 : Int32))) := by
  refine own_nc (plainFor_of_name pnl2) ?_
  intro p e s m below meth c s₁ S0 X0 hx hby hml hret hnm hown hZ e0 cc
  have N0 := Fr.nil Z.heap.size
  have c0 : Go p e below S0 s₁ (mkF m 0 #[.val (.ref x), .val (.ref b)] []) := cc.trans (XT.entry rfl)
  obtain ⟨SC, hz, SF, hfm, SA, SH, SL⟩ := id hs
  obtain ⟨cl1, Ar1, q1, S1, M1, H1, G1⟩ := id Kc
  have c2 : Go p e below S0 s₁ (mkF m 6 #[.val (.ref x), .val (.ref b)] [.null, (.int 4), (.int 0), (.ref b), (.ref x)]) := c0.trans (by
    refine XS.aloadN X0.here hx rfl (hb hby d3_0) rfl rfl ?_
    refine XS.aloadN X0.here hx rfl (hb hby d3_1) rfl rfl ?_
    refine XS.iconst X0.here hx rfl (hb hby d3_2) ?_
    refine XS.aloadN X0.here hx rfl (hb hby d3_3) rfl rfl ?_
    refine X0.arraylength hx (by rw [show s₁.heap = h0 from e0]; exact Ar1.1) (State.isArrayOf_alike (hZ).alike Ar1.2.1) (g := (mkF m 4 #[.val (.ref x), .val (.ref b)] [(.ref b), (.int 0), (.ref b), (.ref x)])) rfl rfl (hb hby d3_4) _ ?_
    rw [len_of S1 M1]
    refine XS.aconstNull X0.here hx rfl (hb hby d3_5) ?_
    exact .refl _)
  obtain ⟨v3, T3, L3, X3, ⟨N3', rfl, K3, E3, Cd3, t3, kt3, lo3, V3, Kt3⟩, c3'⟩ := own_spec X0 hx hml hZ hown rfl (gw hw 15 rfl) (gw hw 16 rfl) (gw hw 18 rfl) (by decide) (kc := 2) (ks := 12) (h := h0) (W := 0) (b := x) (argsL := [(.ref b), (.int 0), (.int 4), .null]) (rest := []) (own_pay (W := 0) (rmUI4_4 l Z a0 hw x b kc u1 u2 xa xb xc xd z fm h0 O0 E V Cd gx Kc hCxa hCxb hCxc hCxd hbad hs) hZ (gw hw 18 rfl) (gw hw 11 rfl) (by decide) (by decide)) c2 (lenOf pd_12 rfl) rfl (hb hby d3_6) e0
  have N3 := Fr.app N0 N3'
  have c3 : Go p e below S0 T3 (mkF m 9 #[.val (.ref x), .val (.ref b)] []) := c3'
  refine ⟨T3, none, _, _, _, X3, by decide, by decide, (fun _ => rfl), N3, ?_, fun fs hr => ?_⟩
  · skip
    exact ⟨rfl, K3, E3, Cd3, t3, kt3, lo3, V3, Kt3⟩
  · exact c3.trans (X3.returnOut hx hret (hb hby d3_9) hr)
theorem rmLen16_4 (l : Launch) (Z : State) (a0 : Array Value) (hw : own_W Z a0) (t : Addr) (kb : ClassId) (xa xb xc xd : Int32) (h0 : Heap) (O0 : Old Z Z.heap.size h0) (Kt : Arv Z h0 t kb .byte (8 : Int32) [(.int (own_lo xa)), (.int (own_hi xa)), (.int (own_lo xb)), (.int (own_hi xb)), (.int (own_lo xc)), (.int (own_hi xc)), (.int (own_lo xd)), (.int (own_hi xd))] (.int (0 : Int32))) :
    own_NC l Z (⟨"java/lang/StringUTF16", "length", "([B)I"⟩ : MethodName) jdk_52_method_6_code 1 (some .int) ({ frames := 0, cells := 0, slots := 0, locals := 0 } : Room) #[(.ref t)] h0 (fun v h => v = some (.int (4 : Int32)) ∧ h = h0) := by
  refine own_nc (plainFor_of_name pnl4) ?_
  intro p e s m below meth c s₁ S0 X0 hx hby hml hret hnm hown hZ e0 cc
  have N0 := Fr.nil Z.heap.size
  have c0 : Go p e below S0 s₁ (mkF m 0 #[.val (.ref t)] []) := cc.trans (XT.entry rfl)
  obtain ⟨cl1, Ar1, q1, S1, M1, H1, G1⟩ := id Kt
  have c2 : Go p e below S0 s₁ (mkF m 4 #[.val (.ref t)] [(.int 4)]) := c0.trans (by
    refine XS.aloadN X0.here hx rfl (hb hby d28_0) rfl rfl ?_
    refine X0.arraylength hx (by rw [show s₁.heap = h0 from e0]; exact Ar1.1) (State.isArrayOf_alike (hZ).alike Ar1.2.1) (g := (mkF m 1 #[.val (.ref t)] [(.ref t)])) rfl rfl (hb hby d28_1) _ ?_
    rw [len_of S1 M1]
    refine XS.iconst X0.here hx rfl (hb hby d28_2) ?_
    refine XS.ishr X0.here hx rfl (hb hby d28_3) rfl ?_
    exact .refl _)
  refine ⟨s₁, (some (.int 4)), _, _, _, X0, by decide, by decide, (fun q => by cases q), N0, ?_, fun fs hr => ?_⟩
  · rw [e0]
    exact ⟨rfl, rfl⟩
  · exact c2.trans (retI X0 hx hret (hb hby d28_4) hr)
theorem rmCFT_0_4_4n (l : Launch) (Z : State) (a0 : Array Value) (hw : own_W Z a0)  (h0 : Heap) (O0 : Old Z Z.heap.size h0)  :
    own_NC l Z (⟨"jdk/internal/util/Preconditions", "checkFromToIndex", "(IIILjava/util/function/BiFunction;)I"⟩ : MethodName) jdk_41_method_12_code 4 (some .int) ({ frames := 0, cells := 0, slots := 0, locals := 0 } : Room) #[(.int 0), (.int 4), (.int 4), .null] h0 (fun v h => v = some (.int (0 : Int32)) ∧ h = h0) := by
  refine own_nc (plainFor_of_name pnl5) ?_
  intro p e s m below meth c s₁ S0 X0 hx hby hml hret hnm hown hZ e0 cc
  have N0 := Fr.nil Z.heap.size
  have c0 : Go p e below S0 s₁ (mkF m 0 #[.val (.int 0), .val (.int 4), .val (.int 4), .val .null] []) := cc.trans (XT.entry rfl)
  have c1 : Go p e below S0 s₁ (mkF m 23 #[.val (.int 0), .val (.int 4), .val (.int 4), .val .null] [(.int 0)]) := c0.trans (by
    refine XS.iloadN X0.here hx rfl (hb hby d30_0) rfl ?_
    refine XS.ifNo X0.here hx rfl (hb hby d30_1) rfl ((if0 _ _).trans (flt (by decide : ¬ ((0 : Int32) < (0 : Int32)))).1) ?_
    refine XS.iloadN X0.here hx rfl (hb hby d30_4) rfl ?_
    refine XS.iloadN X0.here hx rfl (hb hby d30_5) rfl ?_
    refine XS.icmpNo X0.here hx rfl (hb hby d30_6) rfl (flt (by decide : ¬ ((4 : Int32) < (0 : Int32)))).2.2.1 ?_
    refine XS.iloadN X0.here hx rfl (hb hby d30_9) rfl ?_
    refine XS.iloadN X0.here hx rfl (hb hby d30_10) rfl ?_
    refine XS.icmpYes X0.here hx rfl (pc0 := 11) (pc' := 22) rfl (hb hby d30_11) rfl (flt (by decide : ¬ ((4 : Int32) < (4 : Int32)))).2.2.2 (by decide) (by decide) ?_
    refine XS.iloadN X0.here hx rfl (hb hby d30_22) rfl ?_
    show Steps p.tables e below (s₁.setTop (mkF m 23 #[.val (.int 0), .val (.int 4), .val (.int 4), .val .null] [(.int 0)])) _
    exact .refl _)
  refine ⟨s₁, (some (.int 0)), _, _, _, X0, by decide, by decide, (fun q => by cases q), N0, ?_, fun fs hr => ?_⟩
  · rw [e0]
    exact ⟨rfl, rfl⟩
  · exact c1.trans (retI X0 hx hret (hb hby d30_23) hr)
theorem rmCFT_0_4_4r (l : Launch) (Z : State) (a0 : Array Value) (hw : own_W Z a0) (fa : Addr) (h0 : Heap) (O0 : Old Z Z.heap.size h0)  :
    own_NC l Z (⟨"jdk/internal/util/Preconditions", "checkFromToIndex", "(IIILjava/util/function/BiFunction;)I"⟩ : MethodName) jdk_41_method_12_code 4 (some .int) ({ frames := 0, cells := 0, slots := 0, locals := 0 } : Room) #[(.int 0), (.int 4), (.int 4), (.ref fa)] h0 (fun v h => v = some (.int (0 : Int32)) ∧ h = h0) := by
  refine own_nc (plainFor_of_name pnl5) ?_
  intro p e s m below meth c s₁ S0 X0 hx hby hml hret hnm hown hZ e0 cc
  have N0 := Fr.nil Z.heap.size
  have c0 : Go p e below S0 s₁ (mkF m 0 #[.val (.int 0), .val (.int 4), .val (.int 4), .val (.ref fa)] []) := cc.trans (XT.entry rfl)
  have c1 : Go p e below S0 s₁ (mkF m 23 #[.val (.int 0), .val (.int 4), .val (.int 4), .val (.ref fa)] [(.int 0)]) := c0.trans (by
    refine XS.iloadN X0.here hx rfl (hb hby d30_0) rfl ?_
    refine XS.ifNo X0.here hx rfl (hb hby d30_1) rfl ((if0 _ _).trans (flt (by decide : ¬ ((0 : Int32) < (0 : Int32)))).1) ?_
    refine XS.iloadN X0.here hx rfl (hb hby d30_4) rfl ?_
    refine XS.iloadN X0.here hx rfl (hb hby d30_5) rfl ?_
    refine XS.icmpNo X0.here hx rfl (hb hby d30_6) rfl (flt (by decide : ¬ ((4 : Int32) < (0 : Int32)))).2.2.1 ?_
    refine XS.iloadN X0.here hx rfl (hb hby d30_9) rfl ?_
    refine XS.iloadN X0.here hx rfl (hb hby d30_10) rfl ?_
    refine XS.icmpYes X0.here hx rfl (pc0 := 11) (pc' := 22) rfl (hb hby d30_11) rfl (flt (by decide : ¬ ((4 : Int32) < (4 : Int32)))).2.2.2 (by decide) (by decide) ?_
    refine XS.iloadN X0.here hx rfl (hb hby d30_22) rfl ?_
    show Steps p.tables e below (s₁.setTop (mkF m 23 #[.val (.int 0), .val (.int 4), .val (.int 4), .val (.ref fa)] [(.int 0)])) _
    exact .refl _)
  refine ⟨s₁, (some (.int 0)), _, _, _, X0, by decide, by decide, (fun q => by cases q), N0, ?_, fun fs hr => ?_⟩
  · rw [e0]
    exact ⟨rfl, rfl⟩
  · exact c1.trans (retI X0 hx hret (hb hby d30_23) hr)
theorem rmCFT_0_4_4 (l : Launch) (Z : State) (a0 : Array Value) (hw : ∀ d ∈ tables_1, d.before a0 Z = true) (fm : Value) (h0 : Heap) (O0 : Old Z Z.heap.size h0) (hfm : fm.isRef = true) : own_NC l Z (⟨"jdk/internal/util/Preconditions", "checkFromToIndex", "(IIILjava/util/function/BiFunction;)I"⟩ : MethodName) jdk_41_method_12_code 4 (some .int) ({ frames := 0, cells := 0, slots := 0, locals := 0 } : Room) #[(.int (0 : Int32)), (.int (4 : Int32)), (.int (4 : Int32)), fm] h0 (fun v h => v = some (.int (0 : Int32)) ∧ h = h0) := by
  rcases ref_cases hfm with rfl | ⟨fa, rfl⟩
  · exact rmCFT_0_4_4n l Z a0 hw h0 O0
  · exact rmCFT_0_4_4r l Z a0 hw fa h0 O0
theorem rmCBE_0_4_4 (l : Launch) (Z : State) (a0 : Array Value) (hw : own_W Z a0) (z : Int32) (fm : Value) (h0 : Heap) (O0 : Old Z Z.heap.size h0) (hs : own_S Z z fm) :
    own_NC l Z (⟨"java/lang/String", "checkBoundsBeginEnd", "(III)V"⟩ : MethodName) jdk_42_method_158_code 3 none ({ frames := 1, cells := 0, slots := 0, locals := 20 } : Room) #[(.int 0), (.int 4), (.int 4)] h0 (fun v h => v = none ∧ h = h0) := by
  refine own_nc (plainFor_of_name pnl2) ?_
  intro p e s m below meth c s₁ S0 X0 hx hby hml hret hnm hown hZ e0 cc
  have N0 := Fr.nil Z.heap.size
  have c0 : Go p e below S0 s₁ (mkF m 0 #[.val (.int 0), .val (.int 4), .val (.int 4)] []) := cc.trans (XT.entry rfl)
  obtain ⟨SC, hz, SF, hfm, SA, SH, SL⟩ := id hs
  obtain ⟨T1, X1, e1, st1⟩ := getS2 X0 hx hZ hown (host := "") (Or.inl (gw hw 125 rfl)) Via.refl e0 (SF.ext O0.2) (g := (mkF m 3 #[.val (.int 0), .val (.int 4), .val (.int 4)] [(.int 4), (.int 4), (.int 0)])) rfl (hb hby d29_3)
  have c2 : Go p e below S0 T1 (mkF m 6 #[.val (.int 0), .val (.int 4), .val (.int 4)] [fm, (.int 4), (.int 4), (.int 0)]) := c0.trans (by
    refine XS.iloadN X0.here hx rfl (hb hby d29_0) rfl ?_
    refine XS.iloadN X0.here hx rfl (hb hby d29_1) rfl ?_
    refine XS.iloadN X0.here hx rfl (hb hby d29_2) rfl ?_
    refine st1 _ ?_
    show Steps p.tables e below (T1.setTop (mkF m 6 #[.val (.int 0), .val (.int 4), .val (.int 4)] [fm, (.int 4), (.int 4), (.int 0)])) _
    exact .refl _)
  obtain ⟨v3, T3, L3, X3, ⟨N3', rfl, e3⟩, c3'⟩ := own_stat X1 hx hml hZ hown (gw hw 127 rfl) (gw hw 128 rfl) (gw hw 126 rfl) (gw hw 129 rfl) (by decide) (kc := 0) (ks := 0) (h := h0) (W := 0) (argsL := [(.int 0), (.int 4), (.int 4), fm]) (rest := []) (own_pay (W := 0) (rmCFT_0_4_4 l Z a0 hw fm h0 O0 hfm) hZ (gw hw 129 rfl) (gw hw 126 rfl) (by decide) (by decide)) c2 (lenOf pd_14 rfl) rfl (hb hby d29_6) e1
  have N3 := Fr.app N0 N3'
  have c3 : Go p e below S0 T3 (mkF m 9 #[.val (.int 0), .val (.int 4), .val (.int 4)] [(.int 0)]) := c3'
  have c4 : Go p e below S0 T3 (mkF m 10 #[.val (.int 0), .val (.int 4), .val (.int 4)] []) := c3.trans (by
    refine XS.pop X3.here hx rfl (hb hby d29_9) rfl rfl ?_
    exact .refl _)
  refine ⟨T3, none, _, _, _, X3, by decide, by decide, (fun _ => rfl), N3, ?_, fun fs hr => ?_⟩
  · rw [e3]
    exact ⟨rfl, rfl⟩
  · exact c4.trans (X3.returnOut hx hret (hb hby d29_10) hr)
theorem rmUCBE4 (l : Launch) (Z : State) (a0 : Array Value) (hw : own_W Z a0) (t : Addr) (kb : ClassId) (xa xb xc xd : Int32) (z : Int32) (fm : Value) (h0 : Heap) (O0 : Old Z Z.heap.size h0) (Kt : Arv Z h0 t kb .byte (8 : Int32) [(.int (own_lo xa)), (.int (own_hi xa)), (.int (own_lo xb)), (.int (own_hi xb)), (.int (own_lo xc)), (.int (own_hi xc)), (.int (own_lo xd)), (.int (own_hi xd))] (.int (0 : Int32))) (hs : own_S Z z fm) :
    own_NC l Z (⟨"java/lang/StringUTF16", "checkBoundsBeginEnd", "(II[B)V"⟩ : MethodName) jdk_52_method_93_code 3 none ({ frames := 2, cells := 0, slots := 0, locals := 40 } : Room) #[(.int 0), (.int 4), (.ref t)] h0 (fun v h => v = none ∧ h = h0) := by
  refine own_nc (plainFor_of_name pnl4) ?_
  intro p e s m below meth c s₁ S0 X0 hx hby hml hret hnm hown hZ e0 cc
  have N0 := Fr.nil Z.heap.size
  have c0 : Go p e below S0 s₁ (mkF m 0 #[.val (.int 0), .val (.int 4), .val (.ref t)] []) := cc.trans (XT.entry rfl)
  obtain ⟨SC, hz, SF, hfm, SA, SH, SL⟩ := id hs
  have c1 : Go p e below S0 s₁ (mkF m 3 #[.val (.int 0), .val (.int 4), .val (.ref t)] [(.ref t), (.int 4), (.int 0)]) := c0.trans (by
    refine XS.iloadN X0.here hx rfl (hb hby d27_0) rfl ?_
    refine XS.iloadN X0.here hx rfl (hb hby d27_1) rfl ?_
    refine XS.aloadN X0.here hx rfl (hb hby d27_2) rfl rfl ?_
    exact .refl _)
  obtain ⟨v2, T2, L2, X2, ⟨N2', rfl, e2⟩, c2'⟩ := own_stat X0 hx hml hZ hown (gw hw 119 rfl) (gw hw 120 rfl) (gw hw 73 rfl) (gw hw 121 rfl) (by decide) (kc := 0) (ks := 0) (h := h0) (W := 2) (argsL := [(.ref t)]) (rest := [(.int 4), (.int 0)]) (own_pay (W := 2) (rmLen16_4 l Z a0 hw t kb xa xb xc xd h0 O0 Kt) hZ (gw hw 121 rfl) (gw hw 73 rfl) (by decide) (by decide)) c1 (lenOf pd_13 rfl) rfl (hb hby d27_3) e0
  have N2 := Fr.app N0 N2'
  have c2 : Go p e below S0 T2 (mkF m 6 #[.val (.int 0), .val (.int 4), .val (.ref t)] [(.int 4), (.int 4), (.int 0)]) := c2'
  obtain ⟨v3, T3, L3, X3, ⟨N3', rfl, e3⟩, c3'⟩ := own_stat X2 hx hml hZ hown (gw hw 122 rfl) (gw hw 123 rfl) (gw hw 11 rfl) (gw hw 124 rfl) (by decide) (kc := 0) (ks := 0) (h := h0) (W := 0) (argsL := [(.int 0), (.int 4), (.int 4)]) (rest := []) (own_pay (W := 0) (rmCBE_0_4_4 l Z a0 hw z fm h0 O0 hs) hZ (gw hw 124 rfl) (gw hw 11 rfl) (by decide) (by decide)) c2 (lenOf pd_15 rfl) rfl (hb hby d27_6) e2
  have N3 := Fr.app N2 N3'
  have c3 : Go p e below S0 T3 (mkF m 9 #[.val (.int 0), .val (.int 4), .val (.ref t)] []) := c3'
  refine ⟨T3, none, _, _, _, X3, by decide, by decide, (fun _ => rfl), N3, ?_, fun fs hr => ?_⟩
  · rw [e3]
    exact ⟨rfl, rfl⟩
  · exact c3.trans (X3.returnOut hx hret (hb hby d27_9) hr)
theorem rmUUn4 (l : Launch) (Z : State) (a0 : Array Value) (hw : own_W Z a0) (t : Addr) (kb : ClassId) (k : Int32) (xa xb xc xd : Int32) (z : Int32) (fm : Value) (h0 : Heap) (O0 : Old Z Z.heap.size h0) (Kt : Arv Z h0 t kb .byte (8 : Int32) [(.int (own_lo xa)), (.int (own_hi xa)), (.int (own_lo xb)), (.int (own_hi xb)), (.int (own_lo xc)), (.int (own_hi xc)), (.int (own_lo xd)), (.int (own_hi xd))] (.int (0 : Int32))) (hCxa : own_C xa) (hCxb : own_C xb) (hCxc : own_C xc) (hCxd : own_C xd) (hs : own_S Z z fm) :
    own_NC l Z (⟨"java/lang/StringUTF16", "indexOfCharUnsafe", "([BIII)I"⟩ : MethodName) jdk_52_method_48_code 5 (some .int) ({ frames := 1, cells := 0, slots := 0, locals := 20 } : Room) #[(.ref t), (.int k), (.int 0), (.int 4)] h0 (fun v h => (∃ r : Int32, v = some (.int r) ∧ decide (r < (0 : Int32)) = !own_has [xa, xb, xc, xd] k) ∧ h = h0) := by
  refine own_nc (plainFor_of_name pnl4) ?_
  intro p e s m below meth c s₁ S0 X0 hx hby hml hret hnm hown hZ e0 cc
  have N0 := Fr.nil Z.heap.size
  have c0 : Go p e below S0 s₁ (mkF m 0 #[.val (.ref t), .val (.int k), .val (.int 0), .val (.int 4), .unset] []) := cc.trans (XT.entry rfl)
  obtain ⟨SC, hz, SF, hfm, SA, SH, SL⟩ := id hs
  have c1 : Go p e below S0 s₁ (mkF m 12 #[.val (.ref t), .val (.int k), .val (.int 0), .val (.int 4), .val (.int 0)] [(.int 0), (.ref t)]) := c0.trans (by
    refine XS.iloadN X0.here hx rfl (hb hby d31_0) rfl ?_
    refine XS.istore X0.here hx rfl (hb hby d31_1) rfl (l' := #[.val (.ref t), .val (.int k), .val (.int 0), .val (.int 4), .val (.int 0)]) rfl ?_
    refine XS.iload X0.here hx rfl (hb hby d31_3) rfl ?_
    refine XS.iloadN X0.here hx rfl (hb hby d31_5) rfl ?_
    refine XS.icmpNo X0.here hx rfl (hb hby d31_6) rfl (tlt (by decide : (0 : Int32) < (4 : Int32))).2.1 ?_
    refine XS.aloadN X0.here hx rfl (hb hby d31_9) rfl rfl ?_
    refine XS.iload X0.here hx rfl (hb hby d31_10) rfl ?_
    exact .refl _)
  obtain ⟨v2, T2, L2, X2, ⟨N2', rfl, e2⟩, c2'⟩ := own_stat X0 hx hml hZ hown (gw hw 104 rfl) (gw hw 105 rfl) (gw hw 73 rfl) (gw hw 106 rfl) (by decide) (kc := 0) (ks := 0) (h := h0) (W := 0) (argsL := [(.ref t), (.int 0)]) (rest := []) (own_pay (W := 0) (rmGet l Z a0 hw t kb [(.int (own_lo xa)), (.int (own_hi xa)), (.int (own_lo xb)), (.int (own_hi xb)), (.int (own_lo xc)), (.int (own_hi xc)), (.int (own_lo xd)), (.int (own_hi xd))] 8 0 xa z fm h0 O0 Kt rfl (by decide) (by decide) rfl rfl hCxa hs) hZ (gw hw 106 rfl) (gw hw 73 rfl) (by decide) (by decide)) c1 (lenOf pd_10 rfl) rfl (hb hby d31_12) e0
  have N2 := Fr.app N0 N2'
  have c2 : Go p e below S0 T2 (mkF m 15 #[.val (.ref t), .val (.int k), .val (.int 0), .val (.int 4), .val (.int 0)] [(.int xa)]) := c2'
  have c3 : Go p e below S0 T2 (mkF m 16 #[.val (.ref t), .val (.int k), .val (.int 0), .val (.int 4), .val (.int 0)] [(.int k), (.int xa)]) := c2.trans (by
    refine XS.iloadN X2.here hx rfl (hb hby d31_15) rfl ?_
    exact .refl _)
  by_cases hc4 : xa = k
  · skip
    have c5 : Go p e below S0 T2 (mkF m 21 #[.val (.ref t), .val (.int k), .val (.int 0), .val (.int 4), .val (.int 0)] [(.int 0)]) := c3.trans (by
      refine XS.icmpNo X2.here hx rfl (hb hby d31_16) rfl (teq hc4).2 ?_
      refine XS.iload X2.here hx rfl (hb hby d31_19) rfl ?_
      exact .refl _)
    refine ⟨T2, (some (.int 0)), _, _, _, X2, by decide, by decide, (fun q => by cases q), N2, ?_, fun fs hr => ?_⟩
    · rw [e2]
      exact ⟨⟨_, rfl, by simp [own_has, hc4]⟩, rfl⟩
    · exact c5.trans (retI X2 hx hret (hb hby d31_21) hr)
  · skip
    have c7 : Go p e below S0 T2 (mkF m 12 #[.val (.ref t), .val (.int k), .val (.int 0), .val (.int 4), .val (.int 1)] [(.int 1), (.ref t)]) := c3.trans (by
      refine XS.icmpYes X2.here hx rfl (pc0 := 16) (pc' := 22) rfl (hb hby d31_16) rfl (feq hc4).2 (by decide) (by decide) ?_
      refine XS.iinc X2.here hx rfl (hb hby d31_22) rfl (l' := #[.val (.ref t), .val (.int k), .val (.int 0), .val (.int 4), .val (.int 1)]) rfl ?_
      refine XS.goto X2.here hx rfl (pc0 := 25) (pc' := 3) rfl (hb hby d31_25) (by decide) (by decide) ?_
      refine XS.iload X2.here hx rfl (hb hby d31_3) rfl ?_
      refine XS.iloadN X2.here hx rfl (hb hby d31_5) rfl ?_
      refine XS.icmpNo X2.here hx rfl (hb hby d31_6) rfl (tlt (by decide : (1 : Int32) < (4 : Int32))).2.1 ?_
      refine XS.aloadN X2.here hx rfl (hb hby d31_9) rfl rfl ?_
      refine XS.iload X2.here hx rfl (hb hby d31_10) rfl ?_
      exact .refl _)
    obtain ⟨v8, T8, L8, X8, ⟨N8', rfl, e8⟩, c8'⟩ := own_stat X2 hx hml hZ hown (gw hw 104 rfl) (gw hw 105 rfl) (gw hw 73 rfl) (gw hw 106 rfl) (by decide) (kc := 0) (ks := 0) (h := h0) (W := 0) (argsL := [(.ref t), (.int 1)]) (rest := []) (own_pay (W := 0) (rmGet l Z a0 hw t kb [(.int (own_lo xa)), (.int (own_hi xa)), (.int (own_lo xb)), (.int (own_hi xb)), (.int (own_lo xc)), (.int (own_hi xc)), (.int (own_lo xd)), (.int (own_hi xd))] 8 1 xb z fm h0 O0 Kt rfl (by decide) (by decide) rfl rfl hCxb hs) hZ (gw hw 106 rfl) (gw hw 73 rfl) (by decide) (by decide)) c7 (lenOf pd_10 rfl) rfl (hb hby d31_12) e2
    have N8 := Fr.app N2 N8'
    have c8 : Go p e below S0 T8 (mkF m 15 #[.val (.ref t), .val (.int k), .val (.int 0), .val (.int 4), .val (.int 1)] [(.int xb)]) := c8'
    have c9 : Go p e below S0 T8 (mkF m 16 #[.val (.ref t), .val (.int k), .val (.int 0), .val (.int 4), .val (.int 1)] [(.int k), (.int xb)]) := c8.trans (by
      refine XS.iloadN X8.here hx rfl (hb hby d31_15) rfl ?_
      exact .refl _)
    by_cases hc10 : xb = k
    · skip
      have c11 : Go p e below S0 T8 (mkF m 21 #[.val (.ref t), .val (.int k), .val (.int 0), .val (.int 4), .val (.int 1)] [(.int 1)]) := c9.trans (by
        refine XS.icmpNo X8.here hx rfl (hb hby d31_16) rfl (teq hc10).2 ?_
        refine XS.iload X8.here hx rfl (hb hby d31_19) rfl ?_
        exact .refl _)
      refine ⟨T8, (some (.int 1)), _, _, _, X8, by decide, by decide, (fun q => by cases q), N8, ?_, fun fs hr => ?_⟩
      · rw [e8]
        exact ⟨⟨_, rfl, by simp [own_has, hc4, hc10]⟩, rfl⟩
      · exact c11.trans (retI X8 hx hret (hb hby d31_21) hr)
    · skip
      have c13 : Go p e below S0 T8 (mkF m 12 #[.val (.ref t), .val (.int k), .val (.int 0), .val (.int 4), .val (.int 2)] [(.int 2), (.ref t)]) := c9.trans (by
        refine XS.icmpYes X8.here hx rfl (pc0 := 16) (pc' := 22) rfl (hb hby d31_16) rfl (feq hc10).2 (by decide) (by decide) ?_
        refine XS.iinc X8.here hx rfl (hb hby d31_22) rfl (l' := #[.val (.ref t), .val (.int k), .val (.int 0), .val (.int 4), .val (.int 2)]) rfl ?_
        refine XS.goto X8.here hx rfl (pc0 := 25) (pc' := 3) rfl (hb hby d31_25) (by decide) (by decide) ?_
        refine XS.iload X8.here hx rfl (hb hby d31_3) rfl ?_
        refine XS.iloadN X8.here hx rfl (hb hby d31_5) rfl ?_
        refine XS.icmpNo X8.here hx rfl (hb hby d31_6) rfl (tlt (by decide : (2 : Int32) < (4 : Int32))).2.1 ?_
        refine XS.aloadN X8.here hx rfl (hb hby d31_9) rfl rfl ?_
        refine XS.iload X8.here hx rfl (hb hby d31_10) rfl ?_
        exact .refl _)
      obtain ⟨v14, T14, L14, X14, ⟨N14', rfl, e14⟩, c14'⟩ := own_stat X8 hx hml hZ hown (gw hw 104 rfl) (gw hw 105 rfl) (gw hw 73 rfl) (gw hw 106 rfl) (by decide) (kc := 0) (ks := 0) (h := h0) (W := 0) (argsL := [(.ref t), (.int 2)]) (rest := []) (own_pay (W := 0) (rmGet l Z a0 hw t kb [(.int (own_lo xa)), (.int (own_hi xa)), (.int (own_lo xb)), (.int (own_hi xb)), (.int (own_lo xc)), (.int (own_hi xc)), (.int (own_lo xd)), (.int (own_hi xd))] 8 2 xc z fm h0 O0 Kt rfl (by decide) (by decide) rfl rfl hCxc hs) hZ (gw hw 106 rfl) (gw hw 73 rfl) (by decide) (by decide)) c13 (lenOf pd_10 rfl) rfl (hb hby d31_12) e8
      have N14 := Fr.app N8 N14'
      have c14 : Go p e below S0 T14 (mkF m 15 #[.val (.ref t), .val (.int k), .val (.int 0), .val (.int 4), .val (.int 2)] [(.int xc)]) := c14'
      have c15 : Go p e below S0 T14 (mkF m 16 #[.val (.ref t), .val (.int k), .val (.int 0), .val (.int 4), .val (.int 2)] [(.int k), (.int xc)]) := c14.trans (by
        refine XS.iloadN X14.here hx rfl (hb hby d31_15) rfl ?_
        exact .refl _)
      by_cases hc16 : xc = k
      · skip
        have c17 : Go p e below S0 T14 (mkF m 21 #[.val (.ref t), .val (.int k), .val (.int 0), .val (.int 4), .val (.int 2)] [(.int 2)]) := c15.trans (by
          refine XS.icmpNo X14.here hx rfl (hb hby d31_16) rfl (teq hc16).2 ?_
          refine XS.iload X14.here hx rfl (hb hby d31_19) rfl ?_
          exact .refl _)
        refine ⟨T14, (some (.int 2)), _, _, _, X14, by decide, by decide, (fun q => by cases q), N14, ?_, fun fs hr => ?_⟩
        · rw [e14]
          exact ⟨⟨_, rfl, by simp [own_has, hc4, hc10, hc16]⟩, rfl⟩
        · exact c17.trans (retI X14 hx hret (hb hby d31_21) hr)
      · skip
        have c19 : Go p e below S0 T14 (mkF m 12 #[.val (.ref t), .val (.int k), .val (.int 0), .val (.int 4), .val (.int 3)] [(.int 3), (.ref t)]) := c15.trans (by
          refine XS.icmpYes X14.here hx rfl (pc0 := 16) (pc' := 22) rfl (hb hby d31_16) rfl (feq hc16).2 (by decide) (by decide) ?_
          refine XS.iinc X14.here hx rfl (hb hby d31_22) rfl (l' := #[.val (.ref t), .val (.int k), .val (.int 0), .val (.int 4), .val (.int 3)]) rfl ?_
          refine XS.goto X14.here hx rfl (pc0 := 25) (pc' := 3) rfl (hb hby d31_25) (by decide) (by decide) ?_
          refine XS.iload X14.here hx rfl (hb hby d31_3) rfl ?_
          refine XS.iloadN X14.here hx rfl (hb hby d31_5) rfl ?_
          refine XS.icmpNo X14.here hx rfl (hb hby d31_6) rfl (tlt (by decide : (3 : Int32) < (4 : Int32))).2.1 ?_
          refine XS.aloadN X14.here hx rfl (hb hby d31_9) rfl rfl ?_
          refine XS.iload X14.here hx rfl (hb hby d31_10) rfl ?_
          exact .refl _)
        obtain ⟨v20, T20, L20, X20, ⟨N20', rfl, e20⟩, c20'⟩ := own_stat X14 hx hml hZ hown (gw hw 104 rfl) (gw hw 105 rfl) (gw hw 73 rfl) (gw hw 106 rfl) (by decide) (kc := 0) (ks := 0) (h := h0) (W := 0) (argsL := [(.ref t), (.int 3)]) (rest := []) (own_pay (W := 0) (rmGet l Z a0 hw t kb [(.int (own_lo xa)), (.int (own_hi xa)), (.int (own_lo xb)), (.int (own_hi xb)), (.int (own_lo xc)), (.int (own_hi xc)), (.int (own_lo xd)), (.int (own_hi xd))] 8 3 xd z fm h0 O0 Kt rfl (by decide) (by decide) rfl rfl hCxd hs) hZ (gw hw 106 rfl) (gw hw 73 rfl) (by decide) (by decide)) c19 (lenOf pd_10 rfl) rfl (hb hby d31_12) e14
        have N20 := Fr.app N14 N20'
        have c20 : Go p e below S0 T20 (mkF m 15 #[.val (.ref t), .val (.int k), .val (.int 0), .val (.int 4), .val (.int 3)] [(.int xd)]) := c20'
        have c21 : Go p e below S0 T20 (mkF m 16 #[.val (.ref t), .val (.int k), .val (.int 0), .val (.int 4), .val (.int 3)] [(.int k), (.int xd)]) := c20.trans (by
          refine XS.iloadN X20.here hx rfl (hb hby d31_15) rfl ?_
          exact .refl _)
        by_cases hc22 : xd = k
        · skip
          have c23 : Go p e below S0 T20 (mkF m 21 #[.val (.ref t), .val (.int k), .val (.int 0), .val (.int 4), .val (.int 3)] [(.int 3)]) := c21.trans (by
            refine XS.icmpNo X20.here hx rfl (hb hby d31_16) rfl (teq hc22).2 ?_
            refine XS.iload X20.here hx rfl (hb hby d31_19) rfl ?_
            exact .refl _)
          refine ⟨T20, (some (.int 3)), _, _, _, X20, by decide, by decide, (fun q => by cases q), N20, ?_, fun fs hr => ?_⟩
          · rw [e20]
            exact ⟨⟨_, rfl, by simp [own_has, hc4, hc10, hc16, hc22]⟩, rfl⟩
          · exact c23.trans (retI X20 hx hret (hb hby d31_21) hr)
        · skip
          have c25 : Go p e below S0 T20 (mkF m 29 #[.val (.ref t), .val (.int k), .val (.int 0), .val (.int 4), .val (.int 4)] [(.int (-1))]) := c21.trans (by
            refine XS.icmpYes X20.here hx rfl (pc0 := 16) (pc' := 22) rfl (hb hby d31_16) rfl (feq hc22).2 (by decide) (by decide) ?_
            refine XS.iinc X20.here hx rfl (hb hby d31_22) rfl (l' := #[.val (.ref t), .val (.int k), .val (.int 0), .val (.int 4), .val (.int 4)]) rfl ?_
            refine XS.goto X20.here hx rfl (pc0 := 25) (pc' := 3) rfl (hb hby d31_25) (by decide) (by decide) ?_
            refine XS.iload X20.here hx rfl (hb hby d31_3) rfl ?_
            refine XS.iloadN X20.here hx rfl (hb hby d31_5) rfl ?_
            refine XS.icmpYes X20.here hx rfl (pc0 := 6) (pc' := 28) rfl (hb hby d31_6) rfl (flt (by decide : ¬ ((4 : Int32) < (4 : Int32)))).2.1 (by decide) (by decide) ?_
            refine XS.iconst X20.here hx rfl (hb hby d31_28) ?_
            exact .refl _)
          refine ⟨T20, (some (.int (-1))), _, _, _, X20, by decide, by decide, (fun q => by cases q), N20, ?_, fun fs hr => ?_⟩
          · rw [e20]
            exact ⟨⟨_, rfl, by simp [own_has, hc4, hc10, hc16, hc22]⟩, rfl⟩
          · exact c25.trans (retI X20 hx hret (hb hby d31_29) hr)
theorem rmUIxC4 (l : Launch) (Z : State) (a0 : Array Value) (hw : own_W Z a0) (t : Addr) (kb : ClassId) (k : Int32) (xa xb xc xd : Int32) (z : Int32) (fm : Value) (h0 : Heap) (O0 : Old Z Z.heap.size h0) (Kt : Arv Z h0 t kb .byte (8 : Int32) [(.int (own_lo xa)), (.int (own_hi xa)), (.int (own_lo xb)), (.int (own_hi xb)), (.int (own_lo xc)), (.int (own_hi xc)), (.int (own_lo xd)), (.int (own_hi xd))] (.int (0 : Int32))) (hCxa : own_C xa) (hCxb : own_C xb) (hCxc : own_C xc) (hCxd : own_C xd) (hs : own_S Z z fm) :
    own_NC l Z (⟨"java/lang/StringUTF16", "indexOfChar", "([BIII)I"⟩ : MethodName) jdk_52_method_47_code 4 (some .int) ({ frames := 3, cells := 0, slots := 0, locals := 60 } : Room) #[(.ref t), (.int k), (.int 0), (.int 4)] h0 (fun v h => (∃ r : Int32, v = some (.int r) ∧ decide (r < (0 : Int32)) = !own_has [xa, xb, xc, xd] k) ∧ h = h0) := by
  refine own_nc (plainFor_of_name pnl4) ?_
  intro p e s m below meth c s₁ S0 X0 hx hby hml hret hnm hown hZ e0 cc
  have N0 := Fr.nil Z.heap.size
  have c0 : Go p e below S0 s₁ (mkF m 0 #[.val (.ref t), .val (.int k), .val (.int 0), .val (.int 4)] []) := cc.trans (XT.entry rfl)
  obtain ⟨SC, hz, SF, hfm, SA, SH, SL⟩ := id hs
  have c1 : Go p e below S0 s₁ (mkF m 3 #[.val (.ref t), .val (.int k), .val (.int 0), .val (.int 4)] [(.ref t), (.int 4), (.int 0)]) := c0.trans (by
    refine XS.iloadN X0.here hx rfl (hb hby d26_0) rfl ?_
    refine XS.iloadN X0.here hx rfl (hb hby d26_1) rfl ?_
    refine XS.aloadN X0.here hx rfl (hb hby d26_2) rfl rfl ?_
    exact .refl _)
  obtain ⟨v2, T2, L2, X2, ⟨N2', rfl, e2⟩, c2'⟩ := own_stat X0 hx hml hZ hown (gw hw 116 rfl) (gw hw 117 rfl) (gw hw 73 rfl) (gw hw 118 rfl) (by decide) (kc := 0) (ks := 0) (h := h0) (W := 0) (argsL := [(.int 0), (.int 4), (.ref t)]) (rest := []) (own_pay (W := 0) (rmUCBE4 l Z a0 hw t kb xa xb xc xd z fm h0 O0 Kt hs) hZ (gw hw 118 rfl) (gw hw 73 rfl) (by decide) (by decide)) c1 (lenOf pd_16 rfl) rfl (hb hby d26_3) e0
  have N2 := Fr.app N0 N2'
  have c2 : Go p e below S0 T2 (mkF m 6 #[.val (.ref t), .val (.int k), .val (.int 0), .val (.int 4)] []) := c2'
  have c3 : Go p e below S0 T2 (mkF m 10 #[.val (.ref t), .val (.int k), .val (.int 0), .val (.int 4)] [(.int 4), (.int 0), (.int k), (.ref t)]) := c2.trans (by
    refine XS.aloadN X2.here hx rfl (hb hby d26_6) rfl rfl ?_
    refine XS.iloadN X2.here hx rfl (hb hby d26_7) rfl ?_
    refine XS.iloadN X2.here hx rfl (hb hby d26_8) rfl ?_
    refine XS.iloadN X2.here hx rfl (hb hby d26_9) rfl ?_
    exact .refl _)
  obtain ⟨v4, T4, L4, X4, ⟨N4', ⟨r4, rfl, hr4⟩, e4⟩, c4'⟩ := own_stat X2 hx hml hZ hown (gw hw 130 rfl) (gw hw 131 rfl) (gw hw 73 rfl) (gw hw 132 rfl) (by decide) (kc := 0) (ks := 0) (h := h0) (W := 0) (argsL := [(.ref t), (.int k), (.int 0), (.int 4)]) (rest := []) (own_pay (W := 0) (rmUUn4 l Z a0 hw t kb k xa xb xc xd z fm h0 O0 Kt hCxa hCxb hCxc hCxd hs) hZ (gw hw 132 rfl) (gw hw 73 rfl) (by decide) (by decide)) c3 (lenOf pd_4 rfl) rfl (hb hby d26_10) e2
  have N4 := Fr.app N2 N4'
  have c4 : Go p e below S0 T4 (mkF m 13 #[.val (.ref t), .val (.int k), .val (.int 0), .val (.int 4)] [(.int r4)]) := c4'
  refine ⟨T4, (some (.int r4)), _, _, _, X4, by decide, by decide, (fun q => by cases q), N4, ?_, fun fs hr => ?_⟩
  · rw [e4]
    exact ⟨⟨_, rfl, hr4⟩, rfl⟩
  · exact c4.trans (retI X4 hx hret (hb hby d26_13) hr)
theorem rmUIx4 (l : Launch) (Z : State) (a0 : Array Value) (hw : own_W Z a0) (t : Addr) (kb : ClassId) (k : Int32) (xa xb xc xd : Int32) (z : Int32) (fm : Value) (h0 : Heap) (O0 : Old Z Z.heap.size h0) (Kt : Arv Z h0 t kb .byte (8 : Int32) [(.int (own_lo xa)), (.int (own_hi xa)), (.int (own_lo xb)), (.int (own_hi xb)), (.int (own_lo xc)), (.int (own_hi xc)), (.int (own_lo xd)), (.int (own_hi xd))] (.int (0 : Int32))) (hCxa : own_C xa) (hCxb : own_C xb) (hCxc : own_C xc) (hCxd : own_C xd) (hs : own_S Z z fm) (hk : own_B k) :
    own_NC l Z (⟨"java/lang/StringUTF16", "indexOf", "([BIII)I"⟩ : MethodName) jdk_52_method_40_code 4 (some .int) ({ frames := 4, cells := 0, slots := 0, locals := 80 } : Room) #[(.ref t), (.int k), (.int 0), (.int 4)] h0 (fun v h => (∃ r : Int32, v = some (.int r) ∧ decide (r < (0 : Int32)) = !own_has [xa, xb, xc, xd] k) ∧ h = h0) := by
  refine own_nc (plainFor_of_name pnl4) ?_
  intro p e s m below meth c s₁ S0 X0 hx hby hml hret hnm hown hZ e0 cc
  have N0 := Fr.nil Z.heap.size
  have c0 : Go p e below S0 s₁ (mkF m 0 #[.val (.ref t), .val (.int k), .val (.int 0), .val (.int 4)] []) := cc.trans (XT.entry rfl)
  obtain ⟨SC, hz, SF, hfm, SA, SH, SL⟩ := id hs
  have c1 : Go p e below S0 s₁ (mkF m 2 #[.val (.ref t), .val (.int k), .val (.int 0), .val (.int 4)] [(.int 0), (.int 0)]) := c0.trans (by
    refine XS.iloadN X0.here hx rfl (hb hby d25_0) rfl ?_
    refine XS.iconst X0.here hx rfl (hb hby d25_1) ?_
    exact .refl _)
  obtain ⟨v2, T2, L2, X2, ⟨N2', rfl, e2⟩, c2'⟩ := own_stat X0 hx hml hZ hown (gw hw 110 rfl) (gw hw 68 rfl) (gw hw 2 rfl) (gw hw 69 rfl) (by decide) (kc := 0) (ks := 0) (h := h0) (W := 0) (argsL := [(.int 0), (.int 0)]) (rest := []) (own_pay (W := 0) (rmMax_0_0 l Z a0 hw h0 O0) hZ (gw hw 69 rfl) (gw hw 2 rfl) (by decide) (by decide)) c1 (lenOf pd_1 rfl) rfl (hb hby d25_2) e0
  have N2 := Fr.app N0 N2'
  have c2 : Go p e below S0 T2 (mkF m 5 #[.val (.ref t), .val (.int k), .val (.int 0), .val (.int 4)] [(.int 0)]) := c2'
  obtain ⟨cl3, Ar3, q3, S3, M3, H3, G3⟩ := id Kt
  have c4 : Go p e below S0 T2 (mkF m 11 #[.val (.ref t), .val (.int k), .val (.int 0), .val (.int 4)] [(.int 4), (.int 4)]) := c2.trans (by
    refine XS.istoreN X2.here hx rfl (hb hby d25_5) rfl (l' := #[.val (.ref t), .val (.int k), .val (.int 0), .val (.int 4)]) rfl ?_
    refine XS.iloadN X2.here hx rfl (hb hby d25_6) rfl ?_
    refine XS.aloadN X2.here hx rfl (hb hby d25_7) rfl rfl ?_
    refine X2.arraylength hx (by rw [show T2.heap = h0 from e2]; exact Ar3.1) (State.isArrayOf_alike (hZ).alike Ar3.2.1) (g := (mkF m 8 #[.val (.ref t), .val (.int k), .val (.int 0), .val (.int 4)] [(.ref t), (.int 4)])) rfl rfl (hb hby d25_8) _ ?_
    rw [len_of S3 M3]
    refine XS.iconst X2.here hx rfl (hb hby d25_9) ?_
    refine XS.ishr X2.here hx rfl (hb hby d25_10) rfl ?_
    exact .refl _)
  obtain ⟨v5, T5, L5, X5, ⟨N5', rfl, e5⟩, c5'⟩ := own_stat X2 hx hml hZ hown (gw hw 111 rfl) (gw hw 1 rfl) (gw hw 2 rfl) (gw hw 3 rfl) (by decide) (kc := 0) (ks := 0) (h := h0) (W := 0) (argsL := [(.int 4), (.int 4)]) (rest := []) (own_pay (W := 0) (rmMin_4_4 l Z a0 hw h0 O0) hZ (gw hw 3 rfl) (gw hw 2 rfl) (by decide) (by decide)) c4 (lenOf pd_1 rfl) rfl (hb hby d25_11) e2
  have N5 := Fr.app N2 N5'
  have c5 : Go p e below S0 T5 (mkF m 14 #[.val (.ref t), .val (.int k), .val (.int 0), .val (.int 4)] [(.int 4)]) := c5'
  have c7 : Go p e below S0 T5 (mkF m 32 #[.val (.ref t), .val (.int k), .val (.int 0), .val (.int 4)] [(.int 4), (.int 0), (.int k), (.ref t)]) := c5.trans (by
    refine XS.istoreN X5.here hx rfl (hb hby d25_14) rfl (l' := #[.val (.ref t), .val (.int k), .val (.int 0), .val (.int 4)]) rfl ?_
    refine XS.iloadN X5.here hx rfl (hb hby d25_15) rfl ?_
    refine XS.iloadN X5.here hx rfl (hb hby d25_16) rfl ?_
    refine XS.icmpYes X5.here hx rfl (pc0 := 17) (pc' := 22) rfl (hb hby d25_17) rfl (tlt (by decide : (0 : Int32) < (4 : Int32))).1 (by decide) (by decide) ?_
    refine XS.iloadN X5.here hx rfl (hb hby d25_22) rfl ?_
    refine X5.ldcInt hx hown (mvT hZ (gw hw 112 rfl)) (g := (mkF m 23 #[.val (.ref t), .val (.int k), .val (.int 0), .val (.int 4)] [(.int k)])) rfl (hb hby d25_23) _ ?_
    refine XS.icmpNo X5.here hx rfl (hb hby d25_25) rfl (tlt (own_k16 hk)).2.1 ?_
    refine XS.aloadN X5.here hx rfl (hb hby d25_28) rfl rfl ?_
    refine XS.iloadN X5.here hx rfl (hb hby d25_29) rfl ?_
    show Steps p.tables e below (T5.setTop (mkF m 30 #[.val (.ref t), .val (.int k), .val (.int 0), .val (.int 4)] [(.int k), (.ref t)])) _
    refine XS.iloadN X5.here hx rfl (hb hby d25_30) rfl ?_
    refine XS.iloadN X5.here hx rfl (hb hby d25_31) rfl ?_
    exact .refl _)
  obtain ⟨v8, T8, L8, X8, ⟨N8', ⟨r8, rfl, hr8⟩, e8⟩, c8'⟩ := own_stat X5 hx hml hZ hown (gw hw 113 rfl) (gw hw 114 rfl) (gw hw 73 rfl) (gw hw 115 rfl) (by decide) (kc := 0) (ks := 0) (h := h0) (W := 0) (argsL := [(.ref t), (.int k), (.int 0), (.int 4)]) (rest := []) (own_pay (W := 0) (rmUIxC4 l Z a0 hw t kb k xa xb xc xd z fm h0 O0 Kt hCxa hCxb hCxc hCxd hs) hZ (gw hw 115 rfl) (gw hw 73 rfl) (by decide) (by decide)) c7 (lenOf pd_4 rfl) rfl (hb hby d25_32) e5
  have N8 := Fr.app N5 N8'
  have c8 : Go p e below S0 T8 (mkF m 35 #[.val (.ref t), .val (.int k), .val (.int 0), .val (.int 4)] [(.int r8)]) := c8'
  refine ⟨T8, (some (.int r8)), _, _, _, X8, by decide, by decide, (fun q => by cases q), N8, ?_, fun fs hr => ?_⟩
  · rw [e8]
    exact ⟨⟨_, rfl, hr8⟩, rfl⟩
  · exact c8.trans (retI X8 hx hret (hb hby d25_35) hr)
theorem rmLenU4 (l : Launch) (Z : State) (a0 : Array Value) (hw : own_W Z a0) (x t : Addr) (kb : ClassId) (xa xb xc xd : Int32) (z : Int32) (fm : Value) (h0 : Heap) (O0 : Old Z Z.heap.size h0) (E : Exa Z h0 x "java/lang/String") (V : Fld Z h0 x "java/lang/String" "value" "[B" (.ref t)) (Cd : Fld Z h0 x "java/lang/String" "coder" "B" (.int (1 : Int32))) (Kt : Arv Z h0 t kb .byte (8 : Int32) [(.int (own_lo xa)), (.int (own_hi xa)), (.int (own_lo xb)), (.int (own_hi xb)), (.int (own_lo xc)), (.int (own_hi xc)), (.int (own_lo xd)), (.int (own_hi xd))] (.int (0 : Int32))) (hs : own_S Z z fm) :
    own_NC l Z (⟨"java/lang/String", "length", "()I"⟩ : MethodName) jdk_42_method_54_code 1 (some .int) ({ frames := 1, cells := 0, slots := 0, locals := 20 } : Room) #[(.ref x)] h0 (fun v h => v = some (.int (4 : Int32)) ∧ h = h0) := by
  refine own_nc (plainFor_of_name pnl2) ?_
  intro p e s m below meth c s₁ S0 X0 hx hby hml hret hnm hown hZ e0 cc
  have N0 := Fr.nil Z.heap.size
  have c0 : Go p e below S0 s₁ (mkF m 0 #[.val (.ref x)] []) := cc.trans (XT.entry rfl)
  obtain ⟨SC, hz, SF, hfm, SA, SH, SL⟩ := id hs
  obtain ⟨T1, X1, e1, st1⟩ := getF X0 hx hZ hown (host := "") (Or.inl (gw hw 28 rfl)) Via.refl e0 V (g := (mkF m 1 #[.val (.ref x)] [(.ref x)])) rfl rfl (hb hby d10_1)
  obtain ⟨cl2, Ar2, q2, S2, M2, H2, G2⟩ := id Kt
  have c3 : Go p e below S0 T1 (mkF m 6 #[.val (.ref x)] [(.ref x), (.int 8)]) := c0.trans (by
    refine XS.aloadN X0.here hx rfl (hb hby d10_0) rfl rfl ?_
    refine st1 _ ?_
    refine X1.arraylength hx (by rw [show T1.heap = h0 from e1]; exact Ar2.1) (State.isArrayOf_alike (hZ).alike Ar2.2.1) (g := (mkF m 4 #[.val (.ref x)] [(.ref t)])) rfl rfl (hb hby d10_4) _ ?_
    rw [len_of S2 M2]
    refine XS.aloadN X1.here hx rfl (hb hby d10_5) rfl rfl ?_
    exact .refl _)
  obtain ⟨v4, T4, L4, X4, ⟨N4', rfl, e4⟩, c4'⟩ := own_virt X1 hx hml hZ hown (gw hw 55 rfl) (gw hw 56 rfl) (gw hw 58 rfl) (gw hw 57 rfl) (gw hw 58 rfl) (by decide) (kc := 0) (ks := 0) (h := h0) (W := 1) (b := x) (argsL := []) (rest := [(.int 8)]) (own_pay (W := 1) (rmCodU l Z a0 hw x z fm h0 O0 Cd hs) hZ (gw hw 59 rfl) (gw hw 11 rfl) (by decide) (by decide)) E c3 (lenOf pd_17 rfl) rfl (hb hby d10_6) e1
  have N4 := Fr.app N0 N4'
  have c4 : Go p e below S0 T4 (mkF m 9 #[.val (.ref x)] [(.int 1), (.int 8)]) := c4'
  have c5 : Go p e below S0 T4 (mkF m 10 #[.val (.ref x)] [(.int 4)]) := c4.trans (by
    refine XS.ishr X4.here hx rfl (hb hby d10_9) rfl ?_
    exact .refl _)
  refine ⟨T4, (some (.int 4)), _, _, _, X4, by decide, by decide, (fun q => by cases q), N4, ?_, fun fs hr => ?_⟩
  · rw [e4]
    exact ⟨rfl, rfl⟩
  · exact c5.trans (retI X4 hx hret (hb hby d10_10) hr)
theorem rmIxIIU4 (l : Launch) (Z : State) (a0 : Array Value) (hw : own_W Z a0) (x t : Addr) (kb : ClassId) (k : Int32) (xa xb xc xd : Int32) (z : Int32) (fm : Value) (h0 : Heap) (O0 : Old Z Z.heap.size h0) (E : Exa Z h0 x "java/lang/String") (V : Fld Z h0 x "java/lang/String" "value" "[B" (.ref t)) (Cd : Fld Z h0 x "java/lang/String" "coder" "B" (.int (1 : Int32))) (Kt : Arv Z h0 t kb .byte (8 : Int32) [(.int (own_lo xa)), (.int (own_hi xa)), (.int (own_lo xb)), (.int (own_hi xb)), (.int (own_lo xc)), (.int (own_hi xc)), (.int (own_lo xd)), (.int (own_hi xd))] (.int (0 : Int32))) (hk : own_B k) (hCxa : own_C xa) (hCxb : own_C xb) (hCxc : own_C xc) (hCxd : own_C xd) (hs : own_S Z z fm) :
    own_NC l Z (⟨"java/lang/String", "indexOf", "(II)I"⟩ : MethodName) jdk_42_method_80_code 3 (some .int) ({ frames := 5, cells := 0, slots := 0, locals := 110 } : Room) #[(.ref x), (.int k), (.int 0)] h0 (fun v h => (∃ r : Int32, v = some (.int r) ∧ decide (r < (0 : Int32)) = !own_has [xa, xb, xc, xd] k) ∧ h = h0) := by
  refine own_nc (plainFor_of_name pnl2) ?_
  intro p e s m below meth c s₁ S0 X0 hx hby hml hret hnm hown hZ e0 cc
  have N0 := Fr.nil Z.heap.size
  have c0 : Go p e below S0 s₁ (mkF m 0 #[.val (.ref x), .val (.int k), .val (.int 0)] []) := cc.trans (XT.entry rfl)
  obtain ⟨SC, hz, SF, hfm, SA, SH, SL⟩ := id hs
  have c1 : Go p e below S0 s₁ (mkF m 1 #[.val (.ref x), .val (.int k), .val (.int 0)] [(.ref x)]) := c0.trans (by
    refine XS.aloadN X0.here hx rfl (hb hby d8_0) rfl rfl ?_
    exact .refl _)
  obtain ⟨v2, T2, L2, X2, ⟨N2', rfl, e2⟩, c2'⟩ := own_virt X0 hx hml hZ hown (gw hw 44 rfl) (gw hw 45 rfl) (gw hw 47 rfl) (gw hw 46 rfl) (gw hw 47 rfl) (by decide) (kc := 0) (ks := 0) (h := h0) (W := 0) (b := x) (argsL := []) (rest := []) (own_pay (W := 0) (rmIsU l Z a0 hw x z fm h0 O0 Cd hs) hZ (gw hw 48 rfl) (gw hw 11 rfl) (by decide) (by decide)) E c1 (lenOf pd_2 rfl) rfl (hb hby d8_1) e0
  have N2 := Fr.app N0 N2'
  have c2 : Go p e below S0 T2 (mkF m 4 #[.val (.ref x), .val (.int k), .val (.int 0)] [(.int 0)]) := c2'
  obtain ⟨T3, X3, e3, st3⟩ := getF X2 hx hZ hown (host := "") (Or.inl (gw hw 28 rfl)) Via.refl e2 V (g := (mkF m 24 #[.val (.ref x), .val (.int k), .val (.int 0)] [(.ref x)])) rfl rfl (hb hby d8_24)
  have c4 : Go p e below S0 T3 (mkF m 30 #[.val (.ref x), .val (.int k), .val (.int 0)] [(.ref x), (.int 0), (.int k), (.ref t)]) := c2.trans (by
    refine XS.ifYes X2.here hx rfl (pc0 := 4) (pc' := 23) rfl (hb hby d8_4) rfl ((if0 _ _).trans (teq (by decide : (0 : Int32) = (0 : Int32))).1) (by decide) (by decide) ?_
    refine XS.aloadN X2.here hx rfl (hb hby d8_23) rfl rfl ?_
    refine st3 _ ?_
    refine XS.iloadN X3.here hx rfl (hb hby d8_27) rfl ?_
    refine XS.iloadN X3.here hx rfl (hb hby d8_28) rfl ?_
    refine XS.aloadN X3.here hx rfl (hb hby d8_29) rfl rfl ?_
    exact .refl _)
  obtain ⟨v5, T5, L5, X5, ⟨N5', rfl, e5⟩, c5'⟩ := own_virt X3 hx hml hZ hown (gw hw 50 rfl) (gw hw 51 rfl) (gw hw 53 rfl) (gw hw 52 rfl) (gw hw 53 rfl) (by decide) (kc := 0) (ks := 0) (h := h0) (W := 3) (b := x) (argsL := []) (rest := [(.int 0), (.int k), (.ref t)]) (own_pay (W := 3) (rmLenU4 l Z a0 hw x t kb xa xb xc xd z fm h0 O0 E V Cd Kt hs) hZ (gw hw 54 rfl) (gw hw 11 rfl) (by decide) (by decide)) E c4 (lenOf pd_3 rfl) rfl (hb hby d8_30) e3
  have N5 := Fr.app N2 N5'
  have c5 : Go p e below S0 T5 (mkF m 33 #[.val (.ref x), .val (.int k), .val (.int 0)] [(.int 4), (.int 0), (.int k), (.ref t)]) := c5'
  obtain ⟨v6, T6, L6, X6, ⟨N6', ⟨r6, rfl, hr6⟩, e6⟩, c6'⟩ := own_stat X5 hx hml hZ hown (gw hw 107 rfl) (gw hw 108 rfl) (gw hw 73 rfl) (gw hw 109 rfl) (by decide) (kc := 0) (ks := 0) (h := h0) (W := 0) (argsL := [(.ref t), (.int k), (.int 0), (.int 4)]) (rest := []) (own_pay (W := 0) (rmUIx4 l Z a0 hw t kb k xa xb xc xd z fm h0 O0 Kt hCxa hCxb hCxc hCxd hs hk) hZ (gw hw 109 rfl) (gw hw 73 rfl) (by decide) (by decide)) c5 (lenOf pd_4 rfl) rfl (hb hby d8_33) e5
  have N6 := Fr.app N5 N6'
  have c6 : Go p e below S0 T6 (mkF m 36 #[.val (.ref x), .val (.int k), .val (.int 0)] [(.int r6)]) := c6'
  refine ⟨T6, (some (.int r6)), _, _, _, X6, by decide, by decide, (fun q => by cases q), N6, ?_, fun fs hr => ?_⟩
  · rw [e6]
    exact ⟨⟨_, rfl, hr6⟩, rfl⟩
  · exact c6.trans (retI X6 hx hret (hb hby d8_36) hr)
theorem rmIxU4 (l : Launch) (Z : State) (a0 : Array Value) (hw : own_W Z a0) (x t : Addr) (kb : ClassId) (k : Int32) (xa xb xc xd : Int32) (z : Int32) (fm : Value) (h0 : Heap) (O0 : Old Z Z.heap.size h0) (E : Exa Z h0 x "java/lang/String") (V : Fld Z h0 x "java/lang/String" "value" "[B" (.ref t)) (Cd : Fld Z h0 x "java/lang/String" "coder" "B" (.int (1 : Int32))) (Kt : Arv Z h0 t kb .byte (8 : Int32) [(.int (own_lo xa)), (.int (own_hi xa)), (.int (own_lo xb)), (.int (own_hi xb)), (.int (own_lo xc)), (.int (own_hi xc)), (.int (own_lo xd)), (.int (own_hi xd))] (.int (0 : Int32))) (hk : own_B k) (hCxa : own_C xa) (hCxb : own_C xb) (hCxc : own_C xc) (hCxd : own_C xd) (hs : own_S Z z fm) :
    own_NC l Z (⟨"java/lang/String", "indexOf", "(I)I"⟩ : MethodName) jdk_42_method_79_code 2 (some .int) ({ frames := 6, cells := 0, slots := 0, locals := 130 } : Room) #[(.ref x), (.int k)] h0 (fun v h => (∃ r : Int32, v = some (.int r) ∧ decide (r < (0 : Int32)) = !own_has [xa, xb, xc, xd] k) ∧ h = h0) := by
  refine own_nc (plainFor_of_name pnl2) ?_
  intro p e s m below meth c s₁ S0 X0 hx hby hml hret hnm hown hZ e0 cc
  have N0 := Fr.nil Z.heap.size
  have c0 : Go p e below S0 s₁ (mkF m 0 #[.val (.ref x), .val (.int k)] []) := cc.trans (XT.entry rfl)
  obtain ⟨SC, hz, SF, hfm, SA, SH, SL⟩ := id hs
  have c1 : Go p e below S0 s₁ (mkF m 3 #[.val (.ref x), .val (.int k)] [(.int 0), (.int k), (.ref x)]) := c0.trans (by
    refine XS.aloadN X0.here hx rfl (hb hby d7_0) rfl rfl ?_
    refine XS.iloadN X0.here hx rfl (hb hby d7_1) rfl ?_
    refine XS.iconst X0.here hx rfl (hb hby d7_2) ?_
    exact .refl _)
  obtain ⟨v2, T2, L2, X2, ⟨N2', ⟨r2, rfl, hr2⟩, e2⟩, c2'⟩ := own_virt X0 hx hml hZ hown (gw hw 39 rfl) (gw hw 40 rfl) (gw hw 42 rfl) (gw hw 41 rfl) (gw hw 42 rfl) (by decide) (kc := 0) (ks := 0) (h := h0) (W := 0) (b := x) (argsL := [(.int k), (.int 0)]) (rest := []) (own_pay (W := 0) (rmIxIIU4 l Z a0 hw x t kb k xa xb xc xd z fm h0 O0 E V Cd Kt hk hCxa hCxb hCxc hCxd hs) hZ (gw hw 43 rfl) (gw hw 11 rfl) (by decide) (by decide)) E c1 (lenOf pd_1 rfl) rfl (hb hby d7_3) e0
  have N2 := Fr.app N0 N2'
  have c2 : Go p e below S0 T2 (mkF m 6 #[.val (.ref x), .val (.int k)] [(.int r2)]) := c2'
  refine ⟨T2, (some (.int r2)), _, _, _, X2, by decide, by decide, (fun q => by cases q), N2, ?_, fun fs hr => ?_⟩
  · rw [e2]
    exact ⟨⟨_, rfl, hr2⟩, rfl⟩
  · exact c2.trans (retI X2 hx hret (hb hby d7_6) hr)
theorem rmFitU4 (l : Launch) (Z : State) (a0 : Array Value) (hw : own_W Z a0) (x t : Addr) (kb : ClassId) (xa xb xc xd : Int32) (z : Int32) (fm : Value) (h0 : Heap) (O0 : Old Z Z.heap.size h0) (E : Exa Z h0 x "java/lang/String") (V : Fld Z h0 x "java/lang/String" "value" "[B" (.ref t)) (Cd : Fld Z h0 x "java/lang/String" "coder" "B" (.int (1 : Int32))) (Kt : Arv Z h0 t kb .byte (8 : Int32) [(.int (own_lo xa)), (.int (own_hi xa)), (.int (own_lo xb)), (.int (own_hi xb)), (.int (own_lo xc)), (.int (own_hi xc)), (.int (own_lo xd)), (.int (own_hi xd))] (.int (0 : Int32))) (hCxa : own_C xa) (hCxb : own_C xb) (hCxc : own_C xc) (hCxd : own_C xd) (hs : own_S Z z fm) :
    own_NC l Z (⟨"com/example/caseward/caseward/core/Right", "fitsField", "(Ljava/lang/String;)Z"⟩ : MethodName) prog_47_method_5_code 1 (some .boolean) ({ frames := 7, cells := 0, slots := 0, locals := 150 } : Room) #[(.ref x)] h0 (fun v h => v = some (.int (own_i (!own_has [xa, xb, xc, xd] (44 : Int32) && !own_has [xa, xb, xc, xd] (10 : Int32) && !own_has [xa, xb, xc, xd] (13 : Int32)))) ∧ h = h0) := by
  refine own_nc (plainFor_of_name pnl3) ?_
  intro p e s m below meth c s₁ S0 X0 hx hby hml hret hnm hown hZ e0 cc
  have N0 := Fr.nil Z.heap.size
  have c0 : Go p e below S0 s₁ (mkF m 0 #[.val (.ref x)] []) := cc.trans (XT.entry rfl)
  obtain ⟨SC, hz, SF, hfm, SA, SH, SL⟩ := id hs
  have c1 : Go p e below S0 s₁ (mkF m 3 #[.val (.ref x)] [(.int 44), (.ref x)]) := c0.trans (by
    refine XS.aloadN X0.here hx rfl (hb hby d6_0) rfl rfl ?_
    refine XS.bipush X0.here hx rfl (hb hby d6_1) ?_
    exact .refl _)
  obtain ⟨v2, T2, L2, X2, ⟨N2', ⟨r2, rfl, hr2⟩, e2⟩, c2'⟩ := own_virt X0 hx hml hZ hown (gw hw 34 rfl) (gw hw 35 rfl) (gw hw 37 rfl) (gw hw 36 rfl) (gw hw 37 rfl) (by decide) (kc := 0) (ks := 0) (h := h0) (W := 0) (b := x) (argsL := [(.int 44)]) (rest := []) (own_pay (W := 0) (rmIxU4 l Z a0 hw x t kb (44 : Int32) xa xb xc xd z fm h0 O0 E V Cd Kt (own_Bl 44 (by decide)) hCxa hCxb hCxc hCxd hs) hZ (gw hw 38 rfl) (gw hw 11 rfl) (by decide) (by decide)) E c1 (lenOf pd_5 rfl) rfl (hb hby d6_3) e0
  have N2 := Fr.app N0 N2'
  have c2 : Go p e below S0 T2 (mkF m 6 #[.val (.ref x)] [(.int r2)]) := c2'
  by_cases hc3 : r2 < (0 : Int32)
  · skip
    have c4 : Go p e below S0 T2 (mkF m 12 #[.val (.ref x)] [(.int 10), (.ref x)]) := c2.trans (by
      refine XS.ifNo X2.here hx rfl (hb hby d6_6) rfl ((if0 _ _).trans (tlt hc3).2.1) ?_
      refine XS.aloadN X2.here hx rfl (hb hby d6_9) rfl rfl ?_
      refine XS.bipush X2.here hx rfl (hb hby d6_10) ?_
      exact .refl _)
    obtain ⟨v5, T5, L5, X5, ⟨N5', ⟨r5, rfl, hr5⟩, e5⟩, c5'⟩ := own_virt X2 hx hml hZ hown (gw hw 34 rfl) (gw hw 35 rfl) (gw hw 37 rfl) (gw hw 36 rfl) (gw hw 37 rfl) (by decide) (kc := 0) (ks := 0) (h := h0) (W := 0) (b := x) (argsL := [(.int 10)]) (rest := []) (own_pay (W := 0) (rmIxU4 l Z a0 hw x t kb (10 : Int32) xa xb xc xd z fm h0 O0 E V Cd Kt (own_Bl 10 (by decide)) hCxa hCxb hCxc hCxd hs) hZ (gw hw 38 rfl) (gw hw 11 rfl) (by decide) (by decide)) E c4 (lenOf pd_5 rfl) rfl (hb hby d6_12) e2
    have N5 := Fr.app N2 N5'
    have c5 : Go p e below S0 T5 (mkF m 15 #[.val (.ref x)] [(.int r5)]) := c5'
    by_cases hc6 : r5 < (0 : Int32)
    · skip
      have c7 : Go p e below S0 T5 (mkF m 21 #[.val (.ref x)] [(.int 13), (.ref x)]) := c5.trans (by
        refine XS.ifNo X5.here hx rfl (hb hby d6_15) rfl ((if0 _ _).trans (tlt hc6).2.1) ?_
        refine XS.aloadN X5.here hx rfl (hb hby d6_18) rfl rfl ?_
        refine XS.bipush X5.here hx rfl (hb hby d6_19) ?_
        exact .refl _)
      obtain ⟨v8, T8, L8, X8, ⟨N8', ⟨r8, rfl, hr8⟩, e8⟩, c8'⟩ := own_virt X5 hx hml hZ hown (gw hw 34 rfl) (gw hw 35 rfl) (gw hw 37 rfl) (gw hw 36 rfl) (gw hw 37 rfl) (by decide) (kc := 0) (ks := 0) (h := h0) (W := 0) (b := x) (argsL := [(.int 13)]) (rest := []) (own_pay (W := 0) (rmIxU4 l Z a0 hw x t kb (13 : Int32) xa xb xc xd z fm h0 O0 E V Cd Kt (own_Bl 13 (by decide)) hCxa hCxb hCxc hCxd hs) hZ (gw hw 38 rfl) (gw hw 11 rfl) (by decide) (by decide)) E c7 (lenOf pd_5 rfl) rfl (hb hby d6_21) e5
      have N8 := Fr.app N5 N8'
      have c8 : Go p e below S0 T8 (mkF m 24 #[.val (.ref x)] [(.int r8)]) := c8'
      by_cases hc9 : r8 < (0 : Int32)
      · skip
        have c10 : Go p e below S0 T8 (mkF m 32 #[.val (.ref x)] [(.int 1)]) := c8.trans (by
          refine XS.ifNo X8.here hx rfl (hb hby d6_24) rfl ((if0 _ _).trans (tlt hc9).2.1) ?_
          refine XS.iconst X8.here hx rfl (hb hby d6_27) ?_
          refine XS.goto X8.here hx rfl (pc0 := 28) (pc' := 32) rfl (hb hby d6_28) (by decide) (by decide) ?_
          exact .refl _)
        refine ⟨T8, (some (.int (1 : Int32))), _, _, _, X8, by decide, by decide, (fun q => by cases q), N8, ?_, fun fs hr => ?_⟩
        · rw [e8]
          have q2' := own_rdec hr2
          have q5' := own_rdec hr5
          have q8' := own_rdec hr8
          exact ⟨by simp [own_i, (q2').mpr hc3, (q5').mpr hc6, (q8').mpr hc9], rfl⟩
        · exact c10.trans (retN X8 hx (t := .boolean) hret (by simp) (hb hby d6_32) hr)
      · skip
        have c12 : Go p e below S0 T8 (mkF m 32 #[.val (.ref x)] [(.int 0)]) := c8.trans (by
          refine XS.ifYes X8.here hx rfl (pc0 := 24) (pc' := 31) rfl (hb hby d6_24) rfl ((if0 _ _).trans (flt hc9).2.1) (by decide) (by decide) ?_
          refine XS.iconst X8.here hx rfl (hb hby d6_31) ?_
          exact .refl _)
        refine ⟨T8, (some (.int (0 : Int32))), _, _, _, X8, by decide, by decide, (fun q => by cases q), N8, ?_, fun fs hr => ?_⟩
        · rw [e8]
          have q2' := own_rdec hr2
          have q5' := own_rdec hr5
          have q8' := own_rdec hr8
          exact ⟨by simp [own_i, (q2').mpr hc3, (q5').mpr hc6, (show _ = false from Bool.eq_false_iff.mpr (fun z => hc9 ((q8').mp z)))], rfl⟩
        · exact c12.trans (retN X8 hx (t := .boolean) hret (by simp) (hb hby d6_32) hr)
    · skip
      have c14 : Go p e below S0 T5 (mkF m 32 #[.val (.ref x)] [(.int 0)]) := c5.trans (by
        refine XS.ifYes X5.here hx rfl (pc0 := 15) (pc' := 31) rfl (hb hby d6_15) rfl ((if0 _ _).trans (flt hc6).2.1) (by decide) (by decide) ?_
        refine XS.iconst X5.here hx rfl (hb hby d6_31) ?_
        exact .refl _)
      refine ⟨T5, (some (.int (0 : Int32))), _, _, _, X5, by decide, by decide, (fun q => by cases q), N5, ?_, fun fs hr => ?_⟩
      · rw [e5]
        have q2' := own_rdec hr2
        have q5' := own_rdec hr5
        exact ⟨by simp [own_i, (q2').mpr hc3, (show _ = false from Bool.eq_false_iff.mpr (fun z => hc6 ((q5').mp z)))], rfl⟩
      · exact c14.trans (retN X5 hx (t := .boolean) hret (by simp) (hb hby d6_32) hr)
  · skip
    have c16 : Go p e below S0 T2 (mkF m 32 #[.val (.ref x)] [(.int 0)]) := c2.trans (by
      refine XS.ifYes X2.here hx rfl (pc0 := 6) (pc' := 31) rfl (hb hby d6_6) rfl ((if0 _ _).trans (flt hc3).2.1) (by decide) (by decide) ?_
      refine XS.iconst X2.here hx rfl (hb hby d6_31) ?_
      exact .refl _)
    refine ⟨T2, (some (.int (0 : Int32))), _, _, _, X2, by decide, by decide, (fun q => by cases q), N2, ?_, fun fs hr => ?_⟩
    · rw [e2]
      have q2' := own_rdec hr2
      exact ⟨by simp [own_i, (show _ = false from Bool.eq_false_iff.mpr (fun z => hc3 ((q2').mp z)))], rfl⟩
    · exact c16.trans (retN X2 hx (t := .boolean) hret (by simp) (hb hby d6_32) hr)
theorem rmI4 (l : Launch) (Z : State) (a0 : Array Value) (hw : own_W Z a0) (hEL : EW Z a0 EL) (x b : Addr) (u1 u2 : Value) (h0 : Heap) (O0 : Old Z Z.heap.size h0) (E : Exa Z h0 x "java/lang/String") (V : Fld Z h0 x "java/lang/String" "value" "[B" u1) (Cd : Fld Z h0 x "java/lang/String" "coder" "B" u2) (gx : Z.heap.size ≤ x) :
    own_WC l Z EL (⟨"java/lang/String", "<init>", "([CIILjava/lang/Void;)V"⟩ : MethodName) jdk_42_method_149_code 6 none ({ frames := 1, cells := 4, slots := 8, locals := 12 } : Room) #[(.ref x), (.ref b), (.int 0), (.int 0), .null] h0 [x] (fun v h => v = none ∧ Keep h0 h [x] ∧ Exa Z h x "java/lang/String" ∧ Fld Z h x "java/lang/String" "coder" "B" (.int (0 : Int32)) ∧ ∃ (t : Addr) (kt : ClassId), Fld Z h x "java/lang/String" "value" "[B" (.ref t) ∧ Arv Z h t kt .byte (0 : Int32) [] (.int (0 : Int32))) := by
  refine own_wc (plainFor_of_name pnl2) hEL ?_
  intro p e s m below meth c s₁ S0 X0 hx hby hml hret hnm hown hZ e0 hS0 CR0 hsf cc
  have N0 := Fr.nil Z.heap.size
  have hk0 : 0 ≤ h0.size := Nat.zero_le _
  have hstr : ∀ d ∈ Bundle.stringAtoms, d.before a0 Z = true := fun d hd => hw d (own_strA d hd)
  have c0 : Go p e below S0 s₁ (mkF m 0 #[.val (.ref x), .val (.ref b), .val (.int 0), .val (.int 0), .val .null, .unset] []) := cc.trans (XT.entry rfl)
  obtain ⟨T1, X1, e1, st1⟩ := initO X0 hx hZ hown (gw hw 19 rfl) (gw hw 20 rfl) (gw hw 21 rfl) e0 (g := (mkF m 1 #[.val (.ref x), .val (.ref b), .val (.int 0), .val (.int 0), .val .null, .unset] [(.ref x)])) rfl (by rw [hml]; rfl) rfl (hb hby d4_1) (by decide) (W := 0) (by show 2 * 0 + _ ≤ _; exact Nat.le_of_eq rfl) (by decide)
  obtain ⟨la_2, T2, h2, kn2, lb_2, lk2, X2, e2, E2, hS2, hk2, hZ2, hown2, Ea2, Ca2, Va2, Kb2, la2, lb2, R2, Lt2, ne2, st2⟩ := ldcCH X1 hx hZ hown (gw hw 22 rfl) hstr e1 hS0 hk0 hEL (by decide) CR0.1 (vs := []) (z := (0 : Int32)) ⟨by decide, by decide⟩ (by decide) (by decide) (g := (mkF m 9 #[.val (.ref x), .val (.ref b), .val (.int 0), .val (.int 0), .val .null, .unset] [(.ref x)])) rfl (hb hby d4_9) (n := 0) (by decide) (by decide) (by decide) (by decide)
  have CR2 := CR0.trans R2
  obtain ⟨T3, X3, e3, st3⟩ := getF X2 hx hZ2 hown2 (host := "") (Or.inl (gw hw 28 rfl)) Via.refl e2 Va2 (g := (mkF m 11 #[.val (.ref x), .val (.ref b), .val (.int 0), .val (.int 0), .val .null, .unset] [(.ref la_2), (.ref x)])) rfl rfl (hb hby d4_11)
  obtain ⟨T4, h4, X4, e4, W4, st4⟩ := putF X3 hx hZ2 hown2 (host := "") (Or.inl (gw hw 28 rfl)) Via.refl e3 (V.ext E2) (E.ext E2) (Or.inr ⟨(gw hw 24 rfl), rfl, hnm⟩) (gw hw 10 rfl) (ty := (.array .byte)) (by decide) rfl rfl (g := (mkF m 14 #[.val (.ref x), .val (.ref b), .val (.int 0), .val (.int 0), .val .null, .unset] [(.ref lb_2), (.ref x)])) rfl rfl (hb hby d4_14)
  have N4 := Fr.snoc X4 N0 gx
  have Fw4 := (V.ext E2).same W4
  have R4 := CHr.wr W4 (R2.safe E.lt (hsf x (List.mem_cons_self ..))) CR2.1
  have CR4 := CR2.trans R4
  have hk4 := Nat.le_trans hk2 R4.2.1
  obtain ⟨la_5, T5, h5, kn5, lb_5, lk5, X5, e5, E5, hS5, hk5, hZ5, hown5, Ea5, Ca5, Va5, Kb5, la5, lb5, R5, Lt5, ne5, st5⟩ := ldcCH X4 hx hZ2 hown2 (gw hw 22 rfl) hstr e4 hS2 hk4 hEL (by decide) CR4.1 (vs := []) (z := (0 : Int32)) ⟨by decide, by decide⟩ (by decide) (by decide) (g := (mkF m 18 #[.val (.ref x), .val (.ref b), .val (.int 0), .val (.int 0), .val .null, .unset] [(.ref x)])) rfl (hb hby d4_18) (n := 0) (by decide) (by decide) (by decide) (by decide)
  have CR5 := CR4.trans R5
  obtain ⟨T6, X6, e6, st6⟩ := getF X5 hx hZ5 hown5 (host := "") (Or.inl (gw hw 29 rfl)) Via.refl e5 Ca5 (g := (mkF m 20 #[.val (.ref x), .val (.ref b), .val (.int 0), .val (.int 0), .val .null, .unset] [(.ref la_5), (.ref x)])) rfl rfl (hb hby d4_20)
  obtain ⟨T7, h7, X7, e7, W7, st7⟩ := putFN X6 hx hZ5 hown5 (gw hw 29 rfl) Via.refl e6 (((Cd.ext E2).other W4 (Or.inr (slot_ne (Or.inr (gw hw 25 rfl)) (Or.inr (gw hw 24 rfl)) (by decide) (t := .byte) (t' := (.array .byte)) (by decide) (by decide)))).ext E5) (((E.ext E2).wr W4).ext E5) (Or.inr ⟨(gw hw 25 rfl), rfl, hnm⟩) (gw hw 10 rfl) (ty := .byte) (v' := (.int 0)) (by decide) rfl rfl (g := (mkF m 23 #[.val (.ref x), .val (.ref b), .val (.int 0), .val (.int 0), .val .null, .unset] [(.int 0), (.ref x)])) rfl rfl (hb hby d4_23)
  have N7 := Fr.snoc X7 N4 gx
  have Fw7 := (((Cd.ext E2).other W4 (Or.inr (slot_ne (Or.inr (gw hw 25 rfl)) (Or.inr (gw hw 24 rfl)) (by decide) (t := .byte) (t' := (.array .byte)) (by decide) (by decide)))).ext E5).same W7
  have R7 := CHr.wr W7 (((R2.trans R4).trans R5).safe E.lt (hsf x (List.mem_cons_self ..))) CR5.1
  have CR7 := CR5.trans R7
  have hk7 := Nat.le_trans hk5 R7.2.1
  have c8 : Go p e below S0 T7 (mkF m 26 #[.val (.ref x), .val (.ref b), .val (.int 0), .val (.int 0), .val .null, .unset] []) := c0.trans (by
    refine XS.aloadN X0.here hx rfl (hb hby d4_0) rfl rfl ?_
    refine st1 _ ?_
    refine XS.iloadN X1.here hx rfl (hb hby d4_4) rfl ?_
    refine XS.ifNo X1.here hx rfl (hb hby d4_5) rfl ((if0 _ _).trans (teq (by decide : (0 : Int32) = (0 : Int32))).2) ?_
    refine XS.aloadN X1.here hx rfl (hb hby d4_8) rfl rfl ?_
    refine st2 _ ?_
    show Steps p.tables e below (T2.setTop (mkF m 11 #[.val (.ref x), .val (.ref b), .val (.int 0), .val (.int 0), .val .null, .unset] [(.ref la_2), (.ref x)])) _
    refine st3 _ ?_
    refine st4 _ ?_
    refine XS.aloadN X4.here hx rfl (hb hby d4_17) rfl rfl ?_
    refine st5 _ ?_
    show Steps p.tables e below (T5.setTop (mkF m 20 #[.val (.ref x), .val (.ref b), .val (.int 0), .val (.int 0), .val .null, .unset] [(.ref la_5), (.ref x)])) _
    refine st6 _ ?_
    refine st7 _ ?_
    exact .refl _)
  refine ⟨T7, T5.vm, _, none, _, _, _, X7, by decide, by decide, (fun _ => rfl), N7, hS5, by rw [e7]; exact hk7, hZ5, by rw [e7]; exact CR7, ?_, fun fs hr => ?_⟩
  · rw [e7]
    exact ⟨rfl, (((((Keep.refl h0 [x]).ext E2).wr W4 (Or.inl (List.mem_of_getElem? (i := 0) rfl))).ext E5).wr W7 (Or.inl (List.mem_of_getElem? (i := 0) rfl))), ((((E.ext E2).wr W4).ext E5).wr W7), Fw7, lb_2, lk2, ((Fw4.ext E5).other W7 (Or.inr (slot_ne (Or.inr (gw hw 24 rfl)) (Or.inr (gw hw 25 rfl)) (by decide) (t := (.array .byte)) (t' := .byte) (by decide) (by decide)))), (((Kb2.other W4 (Ne.symm (ne2 x (R2.safe E.lt (hsf x (List.mem_cons_self ..)))).2)).ext E5).other W7 (Ne.symm (ne2 x (R2.safe E.lt (hsf x (List.mem_cons_self ..)))).2))⟩
  · exact c8.trans (X7.returnOut hx hret (hb hby d4_26) hr)
theorem rmI1 (l : Launch) (Z : State) (a0 : Array Value) (hw : own_W Z a0) (hEL : EW Z a0 EL) (x b : Addr) (kc : ClassId) (u1 u2 : Value) (h0 : Heap) (O0 : Old Z Z.heap.size h0) (E : Exa Z h0 x "java/lang/String") (V : Fld Z h0 x "java/lang/String" "value" "[B" u1) (Cd : Fld Z h0 x "java/lang/String" "coder" "B" u2) (gx : Z.heap.size ≤ x) (Kc : Arv Z h0 b kc .char (0 : Int32) [] (.int (0 : Int32))) :
    own_WC l Z EL (⟨"java/lang/String", "<init>", "([C)V"⟩ : MethodName) jdk_42_method_3_code 2 none ({ frames := 2, cells := 4, slots := 8, locals := 30 } : Room) #[(.ref x), (.ref b)] h0 [x] (fun v h => v = none ∧ Keep h0 h [x] ∧ Exa Z h x "java/lang/String" ∧ Fld Z h x "java/lang/String" "coder" "B" (.int (0 : Int32)) ∧ ∃ (t : Addr) (kt : ClassId), Fld Z h x "java/lang/String" "value" "[B" (.ref t) ∧ Arv Z h t kt .byte (0 : Int32) [] (.int (0 : Int32))) := by
  refine own_wc (plainFor_of_name pnl2) hEL ?_
  intro p e s m below meth c s₁ S0 X0 hx hby hml hret hnm hown hZ e0 hS0 CR0 hsf cc
  have N0 := Fr.nil Z.heap.size
  have hk0 : 0 ≤ h0.size := Nat.zero_le _
  have hstr : ∀ d ∈ Bundle.stringAtoms, d.before a0 Z = true := fun d hd => hw d (own_strA d hd)
  have c0 : Go p e below S0 s₁ (mkF m 0 #[.val (.ref x), .val (.ref b)] []) := cc.trans (XT.entry rfl)
  obtain ⟨cl1, Ar1, q1, S1, M1, H1, G1⟩ := id Kc
  have c2 : Go p e below S0 s₁ (mkF m 6 #[.val (.ref x), .val (.ref b)] [.null, (.int 0), (.int 0), (.ref b), (.ref x)]) := c0.trans (by
    refine XS.aloadN X0.here hx rfl (hb hby d3_0) rfl rfl ?_
    refine XS.aloadN X0.here hx rfl (hb hby d3_1) rfl rfl ?_
    refine XS.iconst X0.here hx rfl (hb hby d3_2) ?_
    refine XS.aloadN X0.here hx rfl (hb hby d3_3) rfl rfl ?_
    refine X0.arraylength hx (by rw [show s₁.heap = h0 from e0]; exact Ar1.1) (State.isArrayOf_alike (hZ).alike Ar1.2.1) (g := (mkF m 4 #[.val (.ref x), .val (.ref b)] [(.ref b), (.int 0), (.ref b), (.ref x)])) rfl rfl (hb hby d3_4) _ ?_
    rw [len_of S1 M1]
    refine XS.aconstNull X0.here hx rfl (hb hby d3_5) ?_
    exact .refl _)
  obtain ⟨v3, T3, L3, X3, hS3, hZ3, hown3, R3, ⟨N3', rfl, K3, E3, Cd3, t3, kt3, V3, Kt3⟩, c3'⟩ := own_wspec X0 hx hml hZ hown hS0 hk0 rfl (gw hw 15 rfl) (gw hw 16 rfl) (gw hw 18 rfl) (by decide) (kc := 4) (ks := 8) (h := h0) (W := 0) (b := x) (argsL := [(.ref b), (.int 0), (.int 0), .null]) (rest := []) (own_wpay (W := 0) (rmI4 l Z a0 hw hEL x b u1 u2 h0 O0 E V Cd gx) hZ (gw hw 18 rfl) (gw hw 11 rfl) (by decide) (by decide) hEL CR0.1 (allS ⟨E.lt, (hsf x (List.mem_cons_self ..))⟩ all0)) c2 (lenOf pd_12 rfl) rfl (hb hby d3_6) e0
  have N3 := Fr.app N0 N3'
  have CR3 := CR0.trans R3
  have c3 : Go p e below S0 T3 (mkF m 9 #[.val (.ref x), .val (.ref b)] []) := c3'
  refine ⟨T3, T3.vm, _, none, _, _, _, X3, by decide, by decide, (fun _ => rfl), N3, hS3, (Nat.le_refl _), hZ3, CR3, ?_, fun fs hr => ?_⟩
  · skip
    exact ⟨rfl, K3, E3, Cd3, t3, kt3, V3, Kt3⟩
  · exact c3.trans (X3.returnOut hx hret (hb hby d3_9) hr)
theorem rm0 (l : Launch) (Z : State) (a0 : Array Value) (hw : own_W Z a0) (hEL : EW Z a0 EL) (p0 p1 p2 p3 p4 : Int32) (z : Int32) (fm : Value) (h0 : Heap) (O0 : Old Z Z.heap.size h0) (hs : own_S Z z fm) :
    own_WW l Z EL x code maxLocals ret room_1 #[(.int p0), (.int p1), (.int p2), (.int p3), (.int p4)] h0 [] (fun v h => v = some (.int (1 : Int32))) := by
  intro p e s m below meth c s₁ S0 X0 hx hby hml hret hnm hown hZ e0 hS0 CR0 hsf cc
  have N0 := Fr.nil Z.heap.size
  have hk0 : 0 ≤ h0.size := Nat.zero_le _
  have hstr : ∀ d ∈ Bundle.stringAtoms, d.before a0 Z = true := fun d hd => hw d (own_strA d hd)
  have c0 : Go p e below S0 s₁ (mkF m 0 #[.val (.int p0), .val (.int p1), .val (.int p2), .val (.int p3), .val (.int p4), .unset, .unset, .unset, .unset, .unset, .unset, .unset, .unset] []) := cc.trans (XT.entry rfl)
  obtain ⟨SC, hz, SF, hfm, SA, SH, SL⟩ := id hs
  have c1 : Go p e below S0 s₁ (mkF m 5 #[.val (.int p0), .val (.int p1), .val (.int p2), .val (.int p3), .val (.int p4), .unset, .unset, .unset, .unset, .unset, .unset, .unset, .unset] [(.int 4), (.int (p0 &&& (7 : Int32)))]) := c0.trans (by
    refine XS.iloadN X0.here hx rfl (hb hby at_0) rfl ?_
    refine XS.bipush X0.here hx rfl (hb hby at_1) ?_
    refine XS.iand X0.here hx rfl (hb hby at_3) rfl ?_
    refine XS.iconst X0.here hx rfl (hb hby at_4) ?_
    exact .refl _)
  obtain ⟨v2, T2, L2, X2, ⟨N2', rfl, e2⟩, c2'⟩ := own_stat X0 hx hml hZ hown (gw hw 0 rfl) (gw hw 1 rfl) (gw hw 2 rfl) (gw hw 3 rfl) (by decide) (kc := 0) (ks := 0) (h := h0) (W := 0) (argsL := [(.int (p0 &&& (7 : Int32))), (.int 4)]) (rest := []) (own_pay (W := 0) (rmMin4 l Z a0 hw (p0 &&& (7 : Int32)) h0 O0) hZ (gw hw 3 rfl) (gw hw 2 rfl) (by decide) (by decide)) c1 (lenOf pd_1 rfl) rfl (hb hby at_5) e0
  have N2 := Fr.app N0 N2'
  have c2 : Go p e below S0 T2 (mkF m 8 #[.val (.int p0), .val (.int p1), .val (.int p2), .val (.int p3), .val (.int p4), .unset, .unset, .unset, .unset, .unset, .unset, .unset, .unset] [(.int (own_min4 (p0 &&& (7 : Int32))))]) := c2'
  have hnn := own_min4_cases p0
  obtain ⟨nn, en⟩ : ∃ nn, (own_min4 (p0 &&& (7 : Int32))) = nn := ⟨_, rfl⟩
  rw [en] at hnn
  have c3 : Go p e below S0 T2 (mkF m 8 #[.val (.int p0), .val (.int p1), .val (.int p2), .val (.int p3), .val (.int p4), .unset, .unset, .unset, .unset, .unset, .unset, .unset, .unset] [(.int nn)]) := by rw [← en]; exact c2
  have c4 : Go p e below S0 T2 (mkF m 11 #[.val (.int p0), .val (.int p1), .val (.int p2), .val (.int p3), .val (.int p4), .val (.int nn), .unset, .unset, .unset, .unset, .unset, .unset, .unset] [(.int p1)]) := c3.trans (by
    refine XS.istore X2.here hx rfl (hb hby at_8) rfl (l' := #[.val (.int p0), .val (.int p1), .val (.int p2), .val (.int p3), .val (.int p4), .val (.int nn), .unset, .unset, .unset, .unset, .unset, .unset, .unset]) rfl ?_
    refine XS.iloadN X2.here hx rfl (hb hby at_10) rfl ?_
    exact .refl _)
  obtain ⟨v5, T5, L5, X5, ⟨N5', x5, hC5, rfl, e5⟩, c5'⟩ := own_stat X2 hx hml hZ hown (gw hw 4 rfl) (gw hw 5 rfl) (gw hw 6 rfl) (gw hw 7 rfl) (by decide) (kc := 0) (ks := 0) (h := h0) (W := 0) (argsL := [(.int p1)]) (rest := []) (own_pay (W := 0) (rmDraw l Z a0 hw p1 h0 O0) hZ (gw hw 7 rfl) (gw hw 6 rfl) (by decide) (by decide)) c4 (lenOf pd_18 rfl) rfl (hb hby at_11) e2
  have N5 := Fr.app N2 N5'
  have c5 : Go p e below S0 T5 (mkF m 14 #[.val (.int p0), .val (.int p1), .val (.int p2), .val (.int p3), .val (.int p4), .val (.int nn), .unset, .unset, .unset, .unset, .unset, .unset, .unset] [(.int x5)]) := c5'
  have c6 : Go p e below S0 T5 (mkF m 17 #[.val (.int p0), .val (.int p1), .val (.int p2), .val (.int p3), .val (.int p4), .val (.int nn), .val (.int x5), .unset, .unset, .unset, .unset, .unset, .unset] [(.int p2)]) := c5.trans (by
    refine XS.istore X5.here hx rfl (hb hby at_14) rfl (l' := #[.val (.int p0), .val (.int p1), .val (.int p2), .val (.int p3), .val (.int p4), .val (.int nn), .val (.int x5), .unset, .unset, .unset, .unset, .unset, .unset]) rfl ?_
    refine XS.iloadN X5.here hx rfl (hb hby at_16) rfl ?_
    exact .refl _)
  obtain ⟨v7, T7, L7, X7, ⟨N7', x7, hC7, rfl, e7⟩, c7'⟩ := own_stat X5 hx hml hZ hown (gw hw 4 rfl) (gw hw 5 rfl) (gw hw 6 rfl) (gw hw 7 rfl) (by decide) (kc := 0) (ks := 0) (h := h0) (W := 0) (argsL := [(.int p2)]) (rest := []) (own_pay (W := 0) (rmDraw l Z a0 hw p2 h0 O0) hZ (gw hw 7 rfl) (gw hw 6 rfl) (by decide) (by decide)) c6 (lenOf pd_18 rfl) rfl (hb hby at_17) e5
  have N7 := Fr.app N5 N7'
  have c7 : Go p e below S0 T7 (mkF m 20 #[.val (.int p0), .val (.int p1), .val (.int p2), .val (.int p3), .val (.int p4), .val (.int nn), .val (.int x5), .unset, .unset, .unset, .unset, .unset, .unset] [(.int x7)]) := c7'
  have c8 : Go p e below S0 T7 (mkF m 23 #[.val (.int p0), .val (.int p1), .val (.int p2), .val (.int p3), .val (.int p4), .val (.int nn), .val (.int x5), .val (.int x7), .unset, .unset, .unset, .unset, .unset] [(.int p3)]) := c7.trans (by
    refine XS.istore X7.here hx rfl (hb hby at_20) rfl (l' := #[.val (.int p0), .val (.int p1), .val (.int p2), .val (.int p3), .val (.int p4), .val (.int nn), .val (.int x5), .val (.int x7), .unset, .unset, .unset, .unset, .unset]) rfl ?_
    refine XS.iloadN X7.here hx rfl (hb hby at_22) rfl ?_
    exact .refl _)
  obtain ⟨v9, T9, L9, X9, ⟨N9', x9, hC9, rfl, e9⟩, c9'⟩ := own_stat X7 hx hml hZ hown (gw hw 4 rfl) (gw hw 5 rfl) (gw hw 6 rfl) (gw hw 7 rfl) (by decide) (kc := 0) (ks := 0) (h := h0) (W := 0) (argsL := [(.int p3)]) (rest := []) (own_pay (W := 0) (rmDraw l Z a0 hw p3 h0 O0) hZ (gw hw 7 rfl) (gw hw 6 rfl) (by decide) (by decide)) c8 (lenOf pd_18 rfl) rfl (hb hby at_23) e7
  have N9 := Fr.app N7 N9'
  have c9 : Go p e below S0 T9 (mkF m 26 #[.val (.int p0), .val (.int p1), .val (.int p2), .val (.int p3), .val (.int p4), .val (.int nn), .val (.int x5), .val (.int x7), .unset, .unset, .unset, .unset, .unset] [(.int x9)]) := c9'
  have c10 : Go p e below S0 T9 (mkF m 30 #[.val (.int p0), .val (.int p1), .val (.int p2), .val (.int p3), .val (.int p4), .val (.int nn), .val (.int x5), .val (.int x7), .val (.int x9), .unset, .unset, .unset, .unset] [(.int p4)]) := c9.trans (by
    refine XS.istore X9.here hx rfl (hb hby at_26) rfl (l' := #[.val (.int p0), .val (.int p1), .val (.int p2), .val (.int p3), .val (.int p4), .val (.int nn), .val (.int x5), .val (.int x7), .val (.int x9), .unset, .unset, .unset, .unset]) rfl ?_
    refine XS.iload X9.here hx rfl (hb hby at_28) rfl ?_
    exact .refl _)
  obtain ⟨v11, T11, L11, X11, ⟨N11', x11, hC11, rfl, e11⟩, c11'⟩ := own_stat X9 hx hml hZ hown (gw hw 4 rfl) (gw hw 5 rfl) (gw hw 6 rfl) (gw hw 7 rfl) (by decide) (kc := 0) (ks := 0) (h := h0) (W := 0) (argsL := [(.int p4)]) (rest := []) (own_pay (W := 0) (rmDraw l Z a0 hw p4 h0 O0) hZ (gw hw 7 rfl) (gw hw 6 rfl) (by decide) (by decide)) c10 (lenOf pd_18 rfl) rfl (hb hby at_30) e9
  have N11 := Fr.app N9 N11'
  have c11 : Go p e below S0 T11 (mkF m 33 #[.val (.int p0), .val (.int p1), .val (.int p2), .val (.int p3), .val (.int p4), .val (.int nn), .val (.int x5), .val (.int x7), .val (.int x9), .unset, .unset, .unset, .unset] [(.int x11)]) := c11'
  have c12 : Go p e below S0 T11 (mkF m 37 #[.val (.int p0), .val (.int p1), .val (.int p2), .val (.int p3), .val (.int p4), .val (.int nn), .val (.int x5), .val (.int x7), .val (.int x9), .val (.int x11), .unset, .unset, .unset] [(.int nn)]) := c11.trans (by
    refine XS.istore X11.here hx rfl (hb hby at_33) rfl (l' := #[.val (.int p0), .val (.int p1), .val (.int p2), .val (.int p3), .val (.int p4), .val (.int nn), .val (.int x5), .val (.int x7), .val (.int x9), .val (.int x11), .unset, .unset, .unset]) rfl ?_
    refine XS.iload X11.here hx rfl (hb hby at_35) rfl ?_
    exact .refl _)
  rcases hnn with hn | hn | hn | hn | hn
  · skip
    have c13 : Go p e below S0 T11 (mkF m 37 #[.val (.int p0), .val (.int p1), .val (.int p2), .val (.int p3), .val (.int p4), .val (.int 0), .val (.int x5), .val (.int x7), .val (.int x9), .val (.int x11), .unset, .unset, .unset] [(.int 0)]) := by rw [← hn]; exact c12
    obtain ⟨T14, h14, k14, X14, e14, E14, A14, st14⟩ := newP X11 hx hZ (hw _ (List.mem_of_getElem? (i := 8) rfl)) e11 (g := (mkF m 37 #[.val (.int p0), .val (.int p1), .val (.int p2), .val (.int p3), .val (.int p4), .val (.int 0), .val (.int x5), .val (.int x7), .val (.int x9), .val (.int x11), .unset, .unset, .unset] [(.int 0)])) rfl (hb hby at_37) rfl (by decide) (cap := 0) (by decide) (by decide) (by decide) (by decide)
    obtain ⟨b14, g14⟩ : ∃ z, z = h0.size := ⟨_, rfl⟩
    rw [← g14] at A14 st14
    have lo14 : h0.size ≤ b14 := Nat.le_of_eq g14.symm
    have ge14 : Z.heap.size ≤ b14 := Nat.le_trans O0.2.1 lo14
    have R14 := CHr.ext (EL := EL) E14 CR0.1
    have sf14 := Safe.ext E14 CR0.1 (Safe.new lo14)
    have CR14 := CR0.trans R14
    have hk14 := Nat.le_trans hk0 R14.2.1
    have V14 := Arv.new A14 (by decide)
    obtain ⟨T15, h15, X15, e15, E15, A15, D15, -, st15⟩ := newO X14 hx hZ hown (gw hw 9 rfl) (gw hw 10 rfl) (gw hw 11 rfl) e14 (g := (mkF m 88 #[.val (.int p0), .val (.int p1), .val (.int p2), .val (.int p3), .val (.int p4), .val (.int 0), .val (.int x5), .val (.int x7), .val (.int x9), .val (.int x11), .val (.ref b14), .unset, .unset] [])) rfl (hb hby at_88) (by decide) (by decide)
    obtain ⟨b15, g15⟩ : ∃ z, z = h14.size := ⟨_, rfl⟩
    rw [← g15] at A15 D15 st15
    have lo15 : h14.size ≤ b15 := Nat.le_of_eq g15.symm
    have ge15 : Z.heap.size ≤ b15 := Nat.le_trans (O0.ext E14).2.1 lo15
    have R15 := CHr.ext (EL := EL) E15 CR14.1
    have sf15 := Safe.ext E15 CR14.1 (Safe.new lo15)
    have CR15 := CR14.trans R15
    have hk15 := Nat.le_trans hk14 R15.2.1
    have F15_value : Fld Z h15 b15 "java/lang/String" "value" "[B" .null := D15 (Or.inr (gw hw 24 rfl)) (ty := (.array .byte)) (by decide)
    have F15_coder : Fld Z h15 b15 "java/lang/String" "coder" "B" (.int 0) := D15 (Or.inr (gw hw 25 rfl)) (ty := .byte) (by decide)
    have c16 : Go p e below S0 T15 (mkF m 94 #[.val (.int p0), .val (.int p1), .val (.int p2), .val (.int p3), .val (.int p4), .val (.int 0), .val (.int x5), .val (.int x7), .val (.int x9), .val (.int x11), .val (.ref b14), .unset, .unset] [(.ref b14), (.ref b15), (.ref b15)]) := c13.trans (by
      refine st14 _ ?_
      refine XS.astore X14.here hx rfl (hb hby at_39) rfl rfl (l' := #[.val (.int p0), .val (.int p1), .val (.int p2), .val (.int p3), .val (.int p4), .val (.int 0), .val (.int x5), .val (.int x7), .val (.int x9), .val (.int x11), .val (.ref b14), .unset, .unset]) rfl ?_
      refine XS.iload X14.here hx rfl (hb hby at_41) rfl ?_
      refine XS.ifYes X14.here hx rfl (pc0 := 43) (pc' := 52) rfl (hb hby at_43) rfl ((if0 _ _).trans (flt (by decide : ¬ ((0 : Int32) < (0 : Int32)))).2.2.2) (by decide) (by decide) ?_
      refine XS.iload X14.here hx rfl (hb hby at_52) rfl ?_
      refine XS.iconst X14.here hx rfl (hb hby at_54) ?_
      refine XS.icmpYes X14.here hx rfl (pc0 := 55) (pc' := 64) rfl (hb hby at_55) rfl (flt (by decide : ¬ ((1 : Int32) < (0 : Int32)))).2.2.2 (by decide) (by decide) ?_
      refine XS.iload X14.here hx rfl (hb hby at_64) rfl ?_
      refine XS.iconst X14.here hx rfl (hb hby at_66) ?_
      show Steps p.tables e below (T14.setTop (mkF m 67 #[.val (.int p0), .val (.int p1), .val (.int p2), .val (.int p3), .val (.int p4), .val (.int 0), .val (.int x5), .val (.int x7), .val (.int x9), .val (.int x11), .val (.ref b14), .unset, .unset] [(.int 2), (.int 0)])) _
      refine XS.icmpYes X14.here hx rfl (pc0 := 67) (pc' := 76) rfl (hb hby at_67) rfl (flt (by decide : ¬ ((2 : Int32) < (0 : Int32)))).2.2.2 (by decide) (by decide) ?_
      refine XS.iload X14.here hx rfl (hb hby at_76) rfl ?_
      refine XS.iconst X14.here hx rfl (hb hby at_78) ?_
      refine XS.icmpYes X14.here hx rfl (pc0 := 79) (pc' := 88) rfl (hb hby at_79) rfl (flt (by decide : ¬ ((3 : Int32) < (0 : Int32)))).2.2.2 (by decide) (by decide) ?_
      refine st15 _ ?_
      show Steps p.tables e below (T15.setTop (mkF m 91 #[.val (.int p0), .val (.int p1), .val (.int p2), .val (.int p3), .val (.int p4), .val (.int 0), .val (.int x5), .val (.int x7), .val (.int x9), .val (.int x11), .val (.ref b14), .unset, .unset] [(.ref b15)])) _
      refine XS.dup X15.here hx rfl (hb hby at_91) rfl rfl ?_
      refine XS.aload X15.here hx rfl (hb hby at_92) rfl rfl ?_
      exact .refl _)
    obtain ⟨v17, T17, L17, X17, hS17, hZ17, hown17, R17, ⟨N17', rfl, K17, E17, Cd17, t17, kt17, V17, Kt17⟩, c17'⟩ := own_wspec X15 hx hml hZ hown hS0 hk15 rfl (gw hw 12 rfl) (gw hw 13 rfl) (gw hw 14 rfl) (by decide) (kc := 4) (ks := 8) (h := h15) (W := 1) (b := b15) (argsL := [(.ref b14)]) (rest := [(.ref b15)]) (own_wpay (W := 1) (rmI1 l Z a0 hw hEL b15 b14 k14 _ _ h15 ((O0.ext E14).ext E15) A15 F15_value F15_coder ge15 (V14.ext E15)) hZ (gw hw 14 rfl) (gw hw 11 rfl) (by decide) (by decide) hEL CR15.1 (allS ⟨A15.lt, sf15⟩ all0)) c16 (lenOf pd_19 rfl) rfl (hb hby at_94) e15
    have N17 := Fr.app N11 N17'
    have CR17 := CR15.trans R17
    have c17 : Go p e below S0 T17 (mkF m 97 #[.val (.int p0), .val (.int p1), .val (.int p2), .val (.int p3), .val (.int p4), .val (.int 0), .val (.int x5), .val (.int x7), .val (.int x9), .val (.int x11), .val (.ref b14), .unset, .unset] [(.ref b15)]) := c17'
    have c18 : Go p e below S0 T17 (mkF m 163 #[.val (.int p0), .val (.int p1), .val (.int p2), .val (.int p3), .val (.int p4), .val (.int 0), .val (.int x5), .val (.int x7), .val (.int x9), .val (.int x11), .val (.ref b14), .val (.ref b15), .val (.int 0)] [(.ref b15)]) := c17.trans (by
      refine XS.astore X17.here hx rfl (hb hby at_97) rfl rfl (l' := #[.val (.int p0), .val (.int p1), .val (.int p2), .val (.int p3), .val (.int p4), .val (.int 0), .val (.int x5), .val (.int x7), .val (.int x9), .val (.int x11), .val (.ref b14), .val (.ref b15), .unset]) rfl ?_
      refine XS.iload X17.here hx rfl (hb hby at_99) rfl ?_
      refine XS.ifYes X17.here hx rfl (pc0 := 101) (pc' := 112) rfl (hb hby at_101) rfl ((if0 _ _).trans (flt (by decide : ¬ ((0 : Int32) < (0 : Int32)))).2.2.2) (by decide) (by decide) ?_
      refine XS.iload X17.here hx rfl (hb hby at_112) rfl ?_
      refine XS.iconst X17.here hx rfl (hb hby at_114) ?_
      refine XS.icmpYes X17.here hx rfl (pc0 := 115) (pc' := 126) rfl (hb hby at_115) rfl (flt (by decide : ¬ ((1 : Int32) < (0 : Int32)))).2.2.2 (by decide) (by decide) ?_
      refine XS.iload X17.here hx rfl (hb hby at_126) rfl ?_
      refine XS.iconst X17.here hx rfl (hb hby at_128) ?_
      refine XS.icmpYes X17.here hx rfl (pc0 := 129) (pc' := 140) rfl (hb hby at_129) rfl (flt (by decide : ¬ ((2 : Int32) < (0 : Int32)))).2.2.2 (by decide) (by decide) ?_
      refine XS.iload X17.here hx rfl (hb hby at_140) rfl ?_
      show Steps p.tables e below (T17.setTop (mkF m 142 #[.val (.int p0), .val (.int p1), .val (.int p2), .val (.int p3), .val (.int p4), .val (.int 0), .val (.int x5), .val (.int x7), .val (.int x9), .val (.int x11), .val (.ref b14), .val (.ref b15), .unset] [(.int 0)])) _
      refine XS.iconst X17.here hx rfl (hb hby at_142) ?_
      refine XS.icmpYes X17.here hx rfl (pc0 := 143) (pc' := 158) rfl (hb hby at_143) rfl (flt (by decide : ¬ ((3 : Int32) < (0 : Int32)))).2.2.2 (by decide) (by decide) ?_
      refine XS.iconst X17.here hx rfl (hb hby at_158) ?_
      refine XS.istore X17.here hx rfl (hb hby at_159) rfl (l' := #[.val (.int p0), .val (.int p1), .val (.int p2), .val (.int p3), .val (.int p4), .val (.int 0), .val (.int x5), .val (.int x7), .val (.int x9), .val (.int x11), .val (.ref b14), .val (.ref b15), .val (.int 0)]) rfl ?_
      refine XS.aload X17.here hx rfl (hb hby at_161) rfl rfl ?_
      exact .refl _)
    obtain ⟨v19, T19, L19, X19, ⟨N19', rfl, e19⟩, c19'⟩ := own_stat X17 hx hml hZ17 hown17 (gw hw 30 rfl) (gw hw 31 rfl) (gw hw 32 rfl) (gw hw 33 rfl) (by decide) (kc := 0) (ks := 0) (h := T17.heap) (W := 0) (argsL := [(.ref b15)]) (rest := []) (own_pay (W := 0) (rmFitL0 l Z a0 hw b15 t17 kt17  z fm T17.heap (((O0.ext E14).ext E15).keep K17 (allS ge15 all0)) E17 V17 Cd17 Kt17  hs) hZ17 (gw hw 33 rfl) (gw hw 32 rfl) (by decide) (by decide)) c18 (lenOf pd_20 rfl) rfl (hb hby at_163) rfl
    have N19 := Fr.app N17 N19'
    have c19 : Go p e below S0 T19 (mkF m 166 #[.val (.int p0), .val (.int p1), .val (.int p2), .val (.int p3), .val (.int p4), .val (.int 0), .val (.int x5), .val (.int x7), .val (.int x9), .val (.int x11), .val (.ref b14), .val (.ref b15), .val (.int 0)] [(.int (own_i (!own_has [] (44 : Int32) && !own_has [] (10 : Int32) && !own_has [] (13 : Int32))))]) := c19'
    have c20 : Go p e below S0 T19 (mkF m 184 #[.val (.int p0), .val (.int p1), .val (.int p2), .val (.int p3), .val (.int p4), .val (.int 0), .val (.int x5), .val (.int x7), .val (.int x9), .val (.int x11), .val (.ref b14), .val (.ref b15), .val (.int 0)] [(.int 1)]) := c19.trans (by
      refine XS.iload X19.here hx rfl (hb hby at_166) rfl ?_
      refine XS.ifNo X19.here hx rfl (hb hby at_168) rfl ((if0 _ _).trans (teq (by decide : (0 : Int32) = (0 : Int32))).2) ?_
      refine XS.iconst X19.here hx rfl (hb hby at_171) ?_
      refine XS.goto X19.here hx rfl (pc0 := 172) (pc' := 176) rfl (hb hby at_172) (by decide) (by decide) ?_
      refine XS.icmpNo X19.here hx rfl (hb hby at_176) rfl (teq (by rw [own_fin]; simp [own_anyb, own_i] : (own_i (!own_has [] (44 : Int32) && !own_has [] (10 : Int32) && !own_has [] (13 : Int32))) = (1 : Int32))).2 ?_
      refine XS.iconst X19.here hx rfl (hb hby at_179) ?_
      refine XS.goto X19.here hx rfl (pc0 := 180) (pc' := 184) rfl (hb hby at_180) (by decide) (by decide) ?_
      exact .refl _)
    refine ⟨T19, T17.vm, _, (some (.int (1 : Int32))), _, _, _, X19, by decide, by decide, (fun q => by cases q), N19, hS17, by rw [e19]; exact (Nat.le_refl _), hZ17, by rw [e19]; exact CR17, ?_, fun fs hr => ?_⟩
    · skip
      exact rfl
    · exact c20.trans (retN X19 hx (t := .boolean) hret (by simp) (hb hby at_184) hr)
  · skip
    have c22 : Go p e below S0 T11 (mkF m 37 #[.val (.int p0), .val (.int p1), .val (.int p2), .val (.int p3), .val (.int p4), .val (.int 1), .val (.int x5), .val (.int x7), .val (.int x9), .val (.int x11), .unset, .unset, .unset] [(.int 1)]) := by rw [← hn]; exact c12
    obtain ⟨T23, h23, k23, X23, e23, E23, A23, st23⟩ := newP X11 hx hZ (hw _ (List.mem_of_getElem? (i := 8) rfl)) e11 (g := (mkF m 37 #[.val (.int p0), .val (.int p1), .val (.int p2), .val (.int p3), .val (.int p4), .val (.int 1), .val (.int x5), .val (.int x7), .val (.int x9), .val (.int x11), .unset, .unset, .unset] [(.int 1)])) rfl (hb hby at_37) rfl (by decide) (cap := 1) (by decide) (by decide) (by decide) (by decide)
    obtain ⟨b23, g23⟩ : ∃ z, z = h0.size := ⟨_, rfl⟩
    rw [← g23] at A23 st23
    have lo23 : h0.size ≤ b23 := Nat.le_of_eq g23.symm
    have ge23 : Z.heap.size ≤ b23 := Nat.le_trans O0.2.1 lo23
    have R23 := CHr.ext (EL := EL) E23 CR0.1
    have sf23 := Safe.ext E23 CR0.1 (Safe.new lo23)
    have CR23 := CR0.trans R23
    have hk23 := Nat.le_trans hk0 R23.2.1
    have V23 := Arv.new A23 (by decide)
    have V23a : Arv Z h23 b23 k23 .char (1 : Int32) [(.int 0)] (.int (0 : Int32)) := V23.pad (pad_rep [] (.int (0 : Int32)) 1)
    obtain ⟨cl24, Ar24, q24, S24, M24, H24, G24⟩ := id V23a
    have hin24 : ¬ ((0 : Int32) < 0 ∨ cl24.slots.size ≤ ((0 : Int32)).toNatClampNeg) := inb_of S24 ⟨by decide, by decide⟩
    obtain ⟨T24, h24, X24, e24, W24, st24⟩ := stC X23 hx hZ e23 Ar24 (j := (0 : Int32)) hin24 (g := (mkF m 51 #[.val (.int p0), .val (.int p1), .val (.int p2), .val (.int p3), .val (.int p4), .val (.int 1), .val (.int x5), .val (.int x7), .val (.int x9), .val (.int x11), .val (.ref b23), .unset, .unset] [(.int x5), (.int 0), (.ref b23)])) rfl rfl (hb hby at_51)
    have V24 := Arv.set Ar24 q24 S24 M24 H24 G24 (fits_nar_char _) W24 0 rfl (Nat.le_of_ble_eq_true rfl)
    have N24 := Fr.snoc X24 N11 ge23
    have R24 := CHr.wr W24 sf23 CR23.1
    have CR24 := CR23.trans R24
    have hk24 := Nat.le_trans hk23 R24.2.1
    rw [hC5.nar] at V24
    have V24a : Arv Z h24 b23 k23 .char (1 : Int32) [(.int x5)] (.int (0 : Int32)) := V24
    have c25 : Go p e below S0 T24 (mkF m 88 #[.val (.int p0), .val (.int p1), .val (.int p2), .val (.int p3), .val (.int p4), .val (.int 1), .val (.int x5), .val (.int x7), .val (.int x9), .val (.int x11), .val (.ref b23), .unset, .unset] []) := c22.trans (by
      refine st23 _ ?_
      refine XS.astore X23.here hx rfl (hb hby at_39) rfl rfl (l' := #[.val (.int p0), .val (.int p1), .val (.int p2), .val (.int p3), .val (.int p4), .val (.int 1), .val (.int x5), .val (.int x7), .val (.int x9), .val (.int x11), .val (.ref b23), .unset, .unset]) rfl ?_
      refine XS.iload X23.here hx rfl (hb hby at_41) rfl ?_
      refine XS.ifNo X23.here hx rfl (hb hby at_43) rfl ((if0 _ _).trans (tlt (by decide : (0 : Int32) < (1 : Int32))).2.2.2) ?_
      refine XS.aload X23.here hx rfl (hb hby at_46) rfl rfl ?_
      refine XS.iconst X23.here hx rfl (hb hby at_48) ?_
      refine XS.iload X23.here hx rfl (hb hby at_49) rfl ?_
      refine st24 _ ?_
      show Steps p.tables e below (T24.setTop (mkF m 52 #[.val (.int p0), .val (.int p1), .val (.int p2), .val (.int p3), .val (.int p4), .val (.int 1), .val (.int x5), .val (.int x7), .val (.int x9), .val (.int x11), .val (.ref b23), .unset, .unset] [])) _
      refine XS.iload X24.here hx rfl (hb hby at_52) rfl ?_
      refine XS.iconst X24.here hx rfl (hb hby at_54) ?_
      refine XS.icmpYes X24.here hx rfl (pc0 := 55) (pc' := 64) rfl (hb hby at_55) rfl (flt (by decide : ¬ ((1 : Int32) < (1 : Int32)))).2.2.2 (by decide) (by decide) ?_
      refine XS.iload X24.here hx rfl (hb hby at_64) rfl ?_
      refine XS.iconst X24.here hx rfl (hb hby at_66) ?_
      refine XS.icmpYes X24.here hx rfl (pc0 := 67) (pc' := 76) rfl (hb hby at_67) rfl (flt (by decide : ¬ ((2 : Int32) < (1 : Int32)))).2.2.2 (by decide) (by decide) ?_
      refine XS.iload X24.here hx rfl (hb hby at_76) rfl ?_
      refine XS.iconst X24.here hx rfl (hb hby at_78) ?_
      refine XS.icmpYes X24.here hx rfl (pc0 := 79) (pc' := 88) rfl (hb hby at_79) rfl (flt (by decide : ¬ ((3 : Int32) < (1 : Int32)))).2.2.2 (by decide) (by decide) ?_
      exact .refl _)
    by_cases hall : ¬ (255 : Int32) < x5
    · skip
      have hBx5 := (hC5).toB hall
      obtain ⟨T26, h26, X26, e26, E26, A26, D26, -, st26⟩ := newO X24 hx hZ hown (gw hw 9 rfl) (gw hw 10 rfl) (gw hw 11 rfl) e24 (g := (mkF m 88 #[.val (.int p0), .val (.int p1), .val (.int p2), .val (.int p3), .val (.int p4), .val (.int 1), .val (.int x5), .val (.int x7), .val (.int x9), .val (.int x11), .val (.ref b23), .unset, .unset] [])) rfl (hb hby at_88) (by decide) (by decide)
      obtain ⟨b26, g26⟩ : ∃ z, z = h24.size := ⟨_, rfl⟩
      rw [← g26] at A26 D26 st26
      have lo26 : h24.size ≤ b26 := Nat.le_of_eq g26.symm
      have ge26 : Z.heap.size ≤ b26 := Nat.le_trans ((O0.ext E23).wr W24 ge23).2.1 lo26
      have R26 := CHr.ext (EL := EL) E26 CR24.1
      have sf26 := Safe.ext E26 CR24.1 (Safe.new lo26)
      have CR26 := CR24.trans R26
      have hk26 := Nat.le_trans hk24 R26.2.1
      have F26_value : Fld Z h26 b26 "java/lang/String" "value" "[B" .null := D26 (Or.inr (gw hw 24 rfl)) (ty := (.array .byte)) (by decide)
      have F26_coder : Fld Z h26 b26 "java/lang/String" "coder" "B" (.int 0) := D26 (Or.inr (gw hw 25 rfl)) (ty := .byte) (by decide)
      have c27 : Go p e below S0 T26 (mkF m 94 #[.val (.int p0), .val (.int p1), .val (.int p2), .val (.int p3), .val (.int p4), .val (.int 1), .val (.int x5), .val (.int x7), .val (.int x9), .val (.int x11), .val (.ref b23), .unset, .unset] [(.ref b23), (.ref b26), (.ref b26)]) := c25.trans (by
        refine st26 _ ?_
        refine XS.dup X26.here hx rfl (hb hby at_91) rfl rfl ?_
        refine XS.aload X26.here hx rfl (hb hby at_92) rfl rfl ?_
        exact .refl _)
      obtain ⟨v28, T28, L28, X28, ⟨rfl, N28', K28, E28, Cd28, t28, kb28, gt28, lo28, ne28, V28, Kb28⟩, c28'⟩ := own_spec X26 hx hml hZ hown rfl (gw hw 12 rfl) (gw hw 13 rfl) (gw hw 14 rfl) (by decide) (Q := StrChars.Road.QV Z b26 (1 : Int32) (([x5] : List Int32).map (fun c : Int32 => c.toInt8.toInt32)) h26 Z.heap.size) (kc := 1) (ks := 1) (h := h26) (W := 1) (b := b26) (argsL := [(.ref b23)]) (rest := [(.ref b26)]) (StrChars.Road.backV (s := (s.setVm s.vm)) (R := room_1) (W := 1) hZ (own_wi hw) (kI := 4) (gw hw 10 rfl) (cs := [x5]) (bs := ([x5] : List Int32).map (fun c : Int32 => c.toInt8.toInt32)) (n := 1) ge26 (((O0.ext E23).wr W24 ge23).ext E26).2.1 A26 F26_value F26_coder (V24a.ext E26) (SC.ext (((O0.ext E23).wr W24 ge23).ext E26).2) hz rfl rfl (by decide) (by decide) (fun c hc => ((own_cons hBx5 own_nil) c hc).rng) rfl (by decide) (by decide)) c27 (lenOf pd_19 rfl) rfl (hb hby at_94) e26
      have N28 := Fr.app N24 N28'
      have R28 := CHr.keep K28 (sfS sf26 sf0) CR26.1
      have CR28 := CR26.trans R28
      have hk28 := Nat.le_trans hk26 R28.2.1
      have c28 : Go p e below S0 T28 (mkF m 97 #[.val (.int p0), .val (.int p1), .val (.int p2), .val (.int p3), .val (.int p4), .val (.int 1), .val (.int x5), .val (.int x7), .val (.int x9), .val (.int x11), .val (.ref b23), .unset, .unset] [(.ref b26)]) := c28'
      have c29 : Go p e below S0 T28 (mkF m 106 #[.val (.int p0), .val (.int p1), .val (.int p2), .val (.int p3), .val (.int p4), .val (.int 1), .val (.int x5), .val (.int x7), .val (.int x9), .val (.int x11), .val (.ref b23), .val (.ref b26), .unset] [(.int x5)]) := c28.trans (by
        refine XS.astore X28.here hx rfl (hb hby at_97) rfl rfl (l' := #[.val (.int p0), .val (.int p1), .val (.int p2), .val (.int p3), .val (.int p4), .val (.int 1), .val (.int x5), .val (.int x7), .val (.int x9), .val (.int x11), .val (.ref b23), .val (.ref b26), .unset]) rfl ?_
        refine XS.iload X28.here hx rfl (hb hby at_99) rfl ?_
        refine XS.ifNo X28.here hx rfl (hb hby at_101) rfl ((if0 _ _).trans (tlt (by decide : (0 : Int32) < (1 : Int32))).2.2.2) ?_
        refine XS.iload X28.here hx rfl (hb hby at_104) rfl ?_
        exact .refl _)
      obtain ⟨v30, T30, L30, X30, ⟨N30', rfl, e30⟩, c30'⟩ := own_stat X28 hx hml hZ hown (gw hw 81 rfl) (gw hw 82 rfl) (gw hw 6 rfl) (gw hw 83 rfl) (by decide) (kc := 0) (ks := 0) (h := T28.heap) (W := 0) (argsL := [(.int x5)]) (rest := []) (own_pay (W := 0) (rmBad l Z a0 hw x5 T28.heap ((((O0.ext E23).wr W24 ge23).ext E26).keep K28 (allS ge26 all0))) hZ (gw hw 83 rfl) (gw hw 6 rfl) (by decide) (by decide)) c29 (lenOf pd_21 rfl) rfl (hb hby at_106) rfl
      have N30 := Fr.app N28 N30'
      have c30 : Go p e below S0 T30 (mkF m 109 #[.val (.int p0), .val (.int p1), .val (.int p2), .val (.int p3), .val (.int p4), .val (.int 1), .val (.int x5), .val (.int x7), .val (.int x9), .val (.int x11), .val (.ref b23), .val (.ref b26), .unset] [(.int (own_i (own_bad x5)))]) := c30'
      by_cases hc31 : (own_i (own_bad x5)) = (0 : Int32)
      · skip
        have c32 : Go p e below S0 T30 (mkF m 163 #[.val (.int p0), .val (.int p1), .val (.int p2), .val (.int p3), .val (.int p4), .val (.int 1), .val (.int x5), .val (.int x7), .val (.int x9), .val (.int x11), .val (.ref b23), .val (.ref b26), .val (.int 0)] [(.ref b26)]) := c30.trans (by
          refine XS.ifNo X30.here hx rfl (hb hby at_109) rfl ((if0 _ _).trans (teq hc31).2) ?_
          refine XS.iload X30.here hx rfl (hb hby at_112) rfl ?_
          refine XS.iconst X30.here hx rfl (hb hby at_114) ?_
          refine XS.icmpYes X30.here hx rfl (pc0 := 115) (pc' := 126) rfl (hb hby at_115) rfl (flt (by decide : ¬ ((1 : Int32) < (1 : Int32)))).2.2.2 (by decide) (by decide) ?_
          refine XS.iload X30.here hx rfl (hb hby at_126) rfl ?_
          refine XS.iconst X30.here hx rfl (hb hby at_128) ?_
          refine XS.icmpYes X30.here hx rfl (pc0 := 129) (pc' := 140) rfl (hb hby at_129) rfl (flt (by decide : ¬ ((2 : Int32) < (1 : Int32)))).2.2.2 (by decide) (by decide) ?_
          refine XS.iload X30.here hx rfl (hb hby at_140) rfl ?_
          refine XS.iconst X30.here hx rfl (hb hby at_142) ?_
          show Steps p.tables e below (T30.setTop (mkF m 143 #[.val (.int p0), .val (.int p1), .val (.int p2), .val (.int p3), .val (.int p4), .val (.int 1), .val (.int x5), .val (.int x7), .val (.int x9), .val (.int x11), .val (.ref b23), .val (.ref b26), .unset] [(.int 3), (.int 1)])) _
          refine XS.icmpYes X30.here hx rfl (pc0 := 143) (pc' := 158) rfl (hb hby at_143) rfl (flt (by decide : ¬ ((3 : Int32) < (1 : Int32)))).2.2.2 (by decide) (by decide) ?_
          refine XS.iconst X30.here hx rfl (hb hby at_158) ?_
          refine XS.istore X30.here hx rfl (hb hby at_159) rfl (l' := #[.val (.int p0), .val (.int p1), .val (.int p2), .val (.int p3), .val (.int p4), .val (.int 1), .val (.int x5), .val (.int x7), .val (.int x9), .val (.int x11), .val (.ref b23), .val (.ref b26), .val (.int 0)]) rfl ?_
          refine XS.aload X30.here hx rfl (hb hby at_161) rfl rfl ?_
          exact .refl _)
        obtain ⟨v33, T33, L33, X33, ⟨N33', rfl, e33⟩, c33'⟩ := own_stat X30 hx hml hZ hown (gw hw 30 rfl) (gw hw 31 rfl) (gw hw 32 rfl) (gw hw 33 rfl) (by decide) (kc := 0) (ks := 0) (h := T28.heap) (W := 0) (argsL := [(.ref b26)]) (rest := []) (own_pay (W := 0) (rmFitL1 l Z a0 hw b26 t28 kb28 x5 z fm T28.heap ((((O0.ext E23).wr W24 ge23).ext E26).keep K28 (allS ge26 all0)) E28 V28 Cd28 Kb28 hBx5 hs) hZ (gw hw 33 rfl) (gw hw 32 rfl) (by decide) (by decide)) c32 (lenOf pd_20 rfl) rfl (hb hby at_163) e30
        have N33 := Fr.app N30 N33'
        have c33 : Go p e below S0 T33 (mkF m 166 #[.val (.int p0), .val (.int p1), .val (.int p2), .val (.int p3), .val (.int p4), .val (.int 1), .val (.int x5), .val (.int x7), .val (.int x9), .val (.int x11), .val (.ref b23), .val (.ref b26), .val (.int 0)] [(.int (own_i (!own_has [x5] (44 : Int32) && !own_has [x5] (10 : Int32) && !own_has [x5] (13 : Int32))))]) := c33'
        have c34 : Go p e below S0 T33 (mkF m 184 #[.val (.int p0), .val (.int p1), .val (.int p2), .val (.int p3), .val (.int p4), .val (.int 1), .val (.int x5), .val (.int x7), .val (.int x9), .val (.int x11), .val (.ref b23), .val (.ref b26), .val (.int 0)] [(.int 1)]) := c33.trans (by
          refine XS.iload X33.here hx rfl (hb hby at_166) rfl ?_
          refine XS.ifNo X33.here hx rfl (hb hby at_168) rfl ((if0 _ _).trans (teq (by decide : (0 : Int32) = (0 : Int32))).2) ?_
          refine XS.iconst X33.here hx rfl (hb hby at_171) ?_
          refine XS.goto X33.here hx rfl (pc0 := 172) (pc' := 176) rfl (hb hby at_172) (by decide) (by decide) ?_
          refine XS.icmpNo X33.here hx rfl (hb hby at_176) rfl (teq (by rw [own_fin]; simp [own_anyb, own_i, ((own_i0 _).mp hc31)] : (own_i (!own_has [x5] (44 : Int32) && !own_has [x5] (10 : Int32) && !own_has [x5] (13 : Int32))) = (1 : Int32))).2 ?_
          refine XS.iconst X33.here hx rfl (hb hby at_179) ?_
          refine XS.goto X33.here hx rfl (pc0 := 180) (pc' := 184) rfl (hb hby at_180) (by decide) (by decide) ?_
          exact .refl _)
        refine ⟨T33, s.vm, _, (some (.int (1 : Int32))), _, _, _, X33, by decide, by decide, (fun q => by cases q), N33, hS0, by rw [e33]; exact hk28, hZ, by rw [e33]; exact CR28, ?_, fun fs hr => ?_⟩
        · skip
          exact rfl
        · exact c34.trans (retN X33 hx (t := .boolean) hret (by simp) (hb hby at_184) hr)
      · skip
        have c36 : Go p e below S0 T30 (mkF m 163 #[.val (.int p0), .val (.int p1), .val (.int p2), .val (.int p3), .val (.int p4), .val (.int 1), .val (.int x5), .val (.int x7), .val (.int x9), .val (.int x11), .val (.ref b23), .val (.ref b26), .val (.int 1)] [(.ref b26)]) := c30.trans (by
          refine XS.ifYes X30.here hx rfl (pc0 := 109) (pc' := 154) rfl (hb hby at_109) rfl ((if0 _ _).trans (feq hc31).2) (by decide) (by decide) ?_
          refine XS.iconst X30.here hx rfl (hb hby at_154) ?_
          refine XS.goto X30.here hx rfl (pc0 := 155) (pc' := 159) rfl (hb hby at_155) (by decide) (by decide) ?_
          refine XS.istore X30.here hx rfl (hb hby at_159) rfl (l' := #[.val (.int p0), .val (.int p1), .val (.int p2), .val (.int p3), .val (.int p4), .val (.int 1), .val (.int x5), .val (.int x7), .val (.int x9), .val (.int x11), .val (.ref b23), .val (.ref b26), .val (.int 1)]) rfl ?_
          refine XS.aload X30.here hx rfl (hb hby at_161) rfl rfl ?_
          exact .refl _)
        obtain ⟨v37, T37, L37, X37, ⟨N37', rfl, e37⟩, c37'⟩ := own_stat X30 hx hml hZ hown (gw hw 30 rfl) (gw hw 31 rfl) (gw hw 32 rfl) (gw hw 33 rfl) (by decide) (kc := 0) (ks := 0) (h := T28.heap) (W := 0) (argsL := [(.ref b26)]) (rest := []) (own_pay (W := 0) (rmFitL1 l Z a0 hw b26 t28 kb28 x5 z fm T28.heap ((((O0.ext E23).wr W24 ge23).ext E26).keep K28 (allS ge26 all0)) E28 V28 Cd28 Kb28 hBx5 hs) hZ (gw hw 33 rfl) (gw hw 32 rfl) (by decide) (by decide)) c36 (lenOf pd_20 rfl) rfl (hb hby at_163) e30
        have N37 := Fr.app N30 N37'
        have c37 : Go p e below S0 T37 (mkF m 166 #[.val (.int p0), .val (.int p1), .val (.int p2), .val (.int p3), .val (.int p4), .val (.int 1), .val (.int x5), .val (.int x7), .val (.int x9), .val (.int x11), .val (.ref b23), .val (.ref b26), .val (.int 1)] [(.int (own_i (!own_has [x5] (44 : Int32) && !own_has [x5] (10 : Int32) && !own_has [x5] (13 : Int32))))]) := c37'
        have c38 : Go p e below S0 T37 (mkF m 184 #[.val (.int p0), .val (.int p1), .val (.int p2), .val (.int p3), .val (.int p4), .val (.int 1), .val (.int x5), .val (.int x7), .val (.int x9), .val (.int x11), .val (.ref b23), .val (.ref b26), .val (.int 1)] [(.int 1)]) := c37.trans (by
          refine XS.iload X37.here hx rfl (hb hby at_166) rfl ?_
          refine XS.ifYes X37.here hx rfl (pc0 := 168) (pc' := 175) rfl (hb hby at_168) rfl ((if0 _ _).trans (feq (by decide : ¬ ((1 : Int32) = (0 : Int32)))).2) (by decide) (by decide) ?_
          refine XS.iconst X37.here hx rfl (hb hby at_175) ?_
          refine XS.icmpNo X37.here hx rfl (hb hby at_176) rfl (teq (by rw [own_fin]; simp [own_anyb, own_i, (own_nz hc31)] : (own_i (!own_has [x5] (44 : Int32) && !own_has [x5] (10 : Int32) && !own_has [x5] (13 : Int32))) = (0 : Int32))).2 ?_
          refine XS.iconst X37.here hx rfl (hb hby at_179) ?_
          refine XS.goto X37.here hx rfl (pc0 := 180) (pc' := 184) rfl (hb hby at_180) (by decide) (by decide) ?_
          exact .refl _)
        refine ⟨T37, s.vm, _, (some (.int (1 : Int32))), _, _, _, X37, by decide, by decide, (fun q => by cases q), N37, hS0, by rw [e37]; exact hk28, hZ, by rw [e37]; exact CR28, ?_, fun fs hr => ?_⟩
        · skip
          exact rfl
        · exact c38.trans (retN X37 hx (t := .boolean) hret (by simp) (hb hby at_184) hr)
    · skip
      obtain ⟨T40, h40, X40, e40, E40, A40, D40, -, st40⟩ := newO X24 hx hZ hown (gw hw 9 rfl) (gw hw 10 rfl) (gw hw 11 rfl) e24 (g := (mkF m 88 #[.val (.int p0), .val (.int p1), .val (.int p2), .val (.int p3), .val (.int p4), .val (.int 1), .val (.int x5), .val (.int x7), .val (.int x9), .val (.int x11), .val (.ref b23), .unset, .unset] [])) rfl (hb hby at_88) (by decide) (by decide)
      obtain ⟨b40, g40⟩ : ∃ z, z = h24.size := ⟨_, rfl⟩
      rw [← g40] at A40 D40 st40
      have lo40 : h24.size ≤ b40 := Nat.le_of_eq g40.symm
      have ge40 : Z.heap.size ≤ b40 := Nat.le_trans ((O0.ext E23).wr W24 ge23).2.1 lo40
      have R40 := CHr.ext (EL := EL) E40 CR24.1
      have sf40 := Safe.ext E40 CR24.1 (Safe.new lo40)
      have CR40 := CR24.trans R40
      have hk40 := Nat.le_trans hk24 R40.2.1
      have F40_value : Fld Z h40 b40 "java/lang/String" "value" "[B" .null := D40 (Or.inr (gw hw 24 rfl)) (ty := (.array .byte)) (by decide)
      have F40_coder : Fld Z h40 b40 "java/lang/String" "coder" "B" (.int 0) := D40 (Or.inr (gw hw 25 rfl)) (ty := .byte) (by decide)
      have c41 : Go p e below S0 T40 (mkF m 94 #[.val (.int p0), .val (.int p1), .val (.int p2), .val (.int p3), .val (.int p4), .val (.int 1), .val (.int x5), .val (.int x7), .val (.int x9), .val (.int x11), .val (.ref b23), .unset, .unset] [(.ref b23), (.ref b40), (.ref b40)]) := c25.trans (by
        refine st40 _ ?_
        refine XS.dup X40.here hx rfl (hb hby at_91) rfl rfl ?_
        refine XS.aload X40.here hx rfl (hb hby at_92) rfl rfl ?_
        exact .refl _)
      obtain ⟨v42, T42, L42, X42, ⟨N42', rfl, K42, E42, Cd42, t42, kt42, lo42, V42, Kt42⟩, c42'⟩ := own_spec X40 hx hml hZ hown rfl (gw hw 12 rfl) (gw hw 13 rfl) (gw hw 14 rfl) (by decide) (kc := 2) (ks := 3) (h := h40) (W := 1) (b := b40) (argsL := [(.ref b23)]) (rest := [(.ref b40)]) (own_pay (W := 1) (rmUI1_1 l Z a0 hw b40 b23 k23 _ _ x5 z fm h40 (((O0.ext E23).wr W24 ge23).ext E40) A40 F40_value F40_coder ge40 (V24a.ext E40) hC5 hall hs) hZ (gw hw 14 rfl) (gw hw 11 rfl) (by decide) (by decide)) c41 (lenOf pd_19 rfl) rfl (hb hby at_94) e40
      have N42 := Fr.app N24 N42'
      have R42 := CHr.keep K42 (sfS sf40 sf0) CR40.1
      have CR42 := CR40.trans R42
      have hk42 := Nat.le_trans hk40 R42.2.1
      have c42 : Go p e below S0 T42 (mkF m 97 #[.val (.int p0), .val (.int p1), .val (.int p2), .val (.int p3), .val (.int p4), .val (.int 1), .val (.int x5), .val (.int x7), .val (.int x9), .val (.int x11), .val (.ref b23), .unset, .unset] [(.ref b40)]) := c42'
      have c43 : Go p e below S0 T42 (mkF m 106 #[.val (.int p0), .val (.int p1), .val (.int p2), .val (.int p3), .val (.int p4), .val (.int 1), .val (.int x5), .val (.int x7), .val (.int x9), .val (.int x11), .val (.ref b23), .val (.ref b40), .unset] [(.int x5)]) := c42.trans (by
        refine XS.astore X42.here hx rfl (hb hby at_97) rfl rfl (l' := #[.val (.int p0), .val (.int p1), .val (.int p2), .val (.int p3), .val (.int p4), .val (.int 1), .val (.int x5), .val (.int x7), .val (.int x9), .val (.int x11), .val (.ref b23), .val (.ref b40), .unset]) rfl ?_
        refine XS.iload X42.here hx rfl (hb hby at_99) rfl ?_
        refine XS.ifNo X42.here hx rfl (hb hby at_101) rfl ((if0 _ _).trans (tlt (by decide : (0 : Int32) < (1 : Int32))).2.2.2) ?_
        refine XS.iload X42.here hx rfl (hb hby at_104) rfl ?_
        exact .refl _)
      obtain ⟨v44, T44, L44, X44, ⟨N44', rfl, e44⟩, c44'⟩ := own_stat X42 hx hml hZ hown (gw hw 81 rfl) (gw hw 82 rfl) (gw hw 6 rfl) (gw hw 83 rfl) (by decide) (kc := 0) (ks := 0) (h := T42.heap) (W := 0) (argsL := [(.int x5)]) (rest := []) (own_pay (W := 0) (rmBad l Z a0 hw x5 T42.heap ((((O0.ext E23).wr W24 ge23).ext E40).keep K42 (allS ge40 all0))) hZ (gw hw 83 rfl) (gw hw 6 rfl) (by decide) (by decide)) c43 (lenOf pd_21 rfl) rfl (hb hby at_106) rfl
      have N44 := Fr.app N42 N44'
      have c44 : Go p e below S0 T44 (mkF m 109 #[.val (.int p0), .val (.int p1), .val (.int p2), .val (.int p3), .val (.int p4), .val (.int 1), .val (.int x5), .val (.int x7), .val (.int x9), .val (.int x11), .val (.ref b23), .val (.ref b40), .unset] [(.int (own_i (own_bad x5)))]) := c44'
      by_cases hc45 : (own_i (own_bad x5)) = (0 : Int32)
      · skip
        have c46 : Go p e below S0 T44 (mkF m 163 #[.val (.int p0), .val (.int p1), .val (.int p2), .val (.int p3), .val (.int p4), .val (.int 1), .val (.int x5), .val (.int x7), .val (.int x9), .val (.int x11), .val (.ref b23), .val (.ref b40), .val (.int 0)] [(.ref b40)]) := c44.trans (by
          refine XS.ifNo X44.here hx rfl (hb hby at_109) rfl ((if0 _ _).trans (teq hc45).2) ?_
          refine XS.iload X44.here hx rfl (hb hby at_112) rfl ?_
          refine XS.iconst X44.here hx rfl (hb hby at_114) ?_
          refine XS.icmpYes X44.here hx rfl (pc0 := 115) (pc' := 126) rfl (hb hby at_115) rfl (flt (by decide : ¬ ((1 : Int32) < (1 : Int32)))).2.2.2 (by decide) (by decide) ?_
          refine XS.iload X44.here hx rfl (hb hby at_126) rfl ?_
          refine XS.iconst X44.here hx rfl (hb hby at_128) ?_
          refine XS.icmpYes X44.here hx rfl (pc0 := 129) (pc' := 140) rfl (hb hby at_129) rfl (flt (by decide : ¬ ((2 : Int32) < (1 : Int32)))).2.2.2 (by decide) (by decide) ?_
          refine XS.iload X44.here hx rfl (hb hby at_140) rfl ?_
          refine XS.iconst X44.here hx rfl (hb hby at_142) ?_
          show Steps p.tables e below (T44.setTop (mkF m 143 #[.val (.int p0), .val (.int p1), .val (.int p2), .val (.int p3), .val (.int p4), .val (.int 1), .val (.int x5), .val (.int x7), .val (.int x9), .val (.int x11), .val (.ref b23), .val (.ref b40), .unset] [(.int 3), (.int 1)])) _
          refine XS.icmpYes X44.here hx rfl (pc0 := 143) (pc' := 158) rfl (hb hby at_143) rfl (flt (by decide : ¬ ((3 : Int32) < (1 : Int32)))).2.2.2 (by decide) (by decide) ?_
          refine XS.iconst X44.here hx rfl (hb hby at_158) ?_
          refine XS.istore X44.here hx rfl (hb hby at_159) rfl (l' := #[.val (.int p0), .val (.int p1), .val (.int p2), .val (.int p3), .val (.int p4), .val (.int 1), .val (.int x5), .val (.int x7), .val (.int x9), .val (.int x11), .val (.ref b23), .val (.ref b40), .val (.int 0)]) rfl ?_
          refine XS.aload X44.here hx rfl (hb hby at_161) rfl rfl ?_
          exact .refl _)
        obtain ⟨v47, T47, L47, X47, ⟨N47', rfl, e47⟩, c47'⟩ := own_stat X44 hx hml hZ hown (gw hw 30 rfl) (gw hw 31 rfl) (gw hw 32 rfl) (gw hw 33 rfl) (by decide) (kc := 0) (ks := 0) (h := T42.heap) (W := 0) (argsL := [(.ref b40)]) (rest := []) (own_pay (W := 0) (rmFitU1 l Z a0 hw b40 t42 kt42 x5 z fm T42.heap ((((O0.ext E23).wr W24 ge23).ext E40).keep K42 (allS ge40 all0)) E42 V42 Cd42 Kt42 hC5 hs) hZ (gw hw 33 rfl) (gw hw 32 rfl) (by decide) (by decide)) c46 (lenOf pd_20 rfl) rfl (hb hby at_163) e44
        have N47 := Fr.app N44 N47'
        have c47 : Go p e below S0 T47 (mkF m 166 #[.val (.int p0), .val (.int p1), .val (.int p2), .val (.int p3), .val (.int p4), .val (.int 1), .val (.int x5), .val (.int x7), .val (.int x9), .val (.int x11), .val (.ref b23), .val (.ref b40), .val (.int 0)] [(.int (own_i (!own_has [x5] (44 : Int32) && !own_has [x5] (10 : Int32) && !own_has [x5] (13 : Int32))))]) := c47'
        have c48 : Go p e below S0 T47 (mkF m 184 #[.val (.int p0), .val (.int p1), .val (.int p2), .val (.int p3), .val (.int p4), .val (.int 1), .val (.int x5), .val (.int x7), .val (.int x9), .val (.int x11), .val (.ref b23), .val (.ref b40), .val (.int 0)] [(.int 1)]) := c47.trans (by
          refine XS.iload X47.here hx rfl (hb hby at_166) rfl ?_
          refine XS.ifNo X47.here hx rfl (hb hby at_168) rfl ((if0 _ _).trans (teq (by decide : (0 : Int32) = (0 : Int32))).2) ?_
          refine XS.iconst X47.here hx rfl (hb hby at_171) ?_
          refine XS.goto X47.here hx rfl (pc0 := 172) (pc' := 176) rfl (hb hby at_172) (by decide) (by decide) ?_
          refine XS.icmpNo X47.here hx rfl (hb hby at_176) rfl (teq (by rw [own_fin]; simp [own_anyb, own_i, ((own_i0 _).mp hc45)] : (own_i (!own_has [x5] (44 : Int32) && !own_has [x5] (10 : Int32) && !own_has [x5] (13 : Int32))) = (1 : Int32))).2 ?_
          refine XS.iconst X47.here hx rfl (hb hby at_179) ?_
          refine XS.goto X47.here hx rfl (pc0 := 180) (pc' := 184) rfl (hb hby at_180) (by decide) (by decide) ?_
          exact .refl _)
        refine ⟨T47, s.vm, _, (some (.int (1 : Int32))), _, _, _, X47, by decide, by decide, (fun q => by cases q), N47, hS0, by rw [e47]; exact hk42, hZ, by rw [e47]; exact CR42, ?_, fun fs hr => ?_⟩
        · skip
          exact rfl
        · exact c48.trans (retN X47 hx (t := .boolean) hret (by simp) (hb hby at_184) hr)
      · skip
        have c50 : Go p e below S0 T44 (mkF m 163 #[.val (.int p0), .val (.int p1), .val (.int p2), .val (.int p3), .val (.int p4), .val (.int 1), .val (.int x5), .val (.int x7), .val (.int x9), .val (.int x11), .val (.ref b23), .val (.ref b40), .val (.int 1)] [(.ref b40)]) := c44.trans (by
          refine XS.ifYes X44.here hx rfl (pc0 := 109) (pc' := 154) rfl (hb hby at_109) rfl ((if0 _ _).trans (feq hc45).2) (by decide) (by decide) ?_
          refine XS.iconst X44.here hx rfl (hb hby at_154) ?_
          refine XS.goto X44.here hx rfl (pc0 := 155) (pc' := 159) rfl (hb hby at_155) (by decide) (by decide) ?_
          refine XS.istore X44.here hx rfl (hb hby at_159) rfl (l' := #[.val (.int p0), .val (.int p1), .val (.int p2), .val (.int p3), .val (.int p4), .val (.int 1), .val (.int x5), .val (.int x7), .val (.int x9), .val (.int x11), .val (.ref b23), .val (.ref b40), .val (.int 1)]) rfl ?_
          refine XS.aload X44.here hx rfl (hb hby at_161) rfl rfl ?_
          exact .refl _)
        obtain ⟨v51, T51, L51, X51, ⟨N51', rfl, e51⟩, c51'⟩ := own_stat X44 hx hml hZ hown (gw hw 30 rfl) (gw hw 31 rfl) (gw hw 32 rfl) (gw hw 33 rfl) (by decide) (kc := 0) (ks := 0) (h := T42.heap) (W := 0) (argsL := [(.ref b40)]) (rest := []) (own_pay (W := 0) (rmFitU1 l Z a0 hw b40 t42 kt42 x5 z fm T42.heap ((((O0.ext E23).wr W24 ge23).ext E40).keep K42 (allS ge40 all0)) E42 V42 Cd42 Kt42 hC5 hs) hZ (gw hw 33 rfl) (gw hw 32 rfl) (by decide) (by decide)) c50 (lenOf pd_20 rfl) rfl (hb hby at_163) e44
        have N51 := Fr.app N44 N51'
        have c51 : Go p e below S0 T51 (mkF m 166 #[.val (.int p0), .val (.int p1), .val (.int p2), .val (.int p3), .val (.int p4), .val (.int 1), .val (.int x5), .val (.int x7), .val (.int x9), .val (.int x11), .val (.ref b23), .val (.ref b40), .val (.int 1)] [(.int (own_i (!own_has [x5] (44 : Int32) && !own_has [x5] (10 : Int32) && !own_has [x5] (13 : Int32))))]) := c51'
        have c52 : Go p e below S0 T51 (mkF m 184 #[.val (.int p0), .val (.int p1), .val (.int p2), .val (.int p3), .val (.int p4), .val (.int 1), .val (.int x5), .val (.int x7), .val (.int x9), .val (.int x11), .val (.ref b23), .val (.ref b40), .val (.int 1)] [(.int 1)]) := c51.trans (by
          refine XS.iload X51.here hx rfl (hb hby at_166) rfl ?_
          refine XS.ifYes X51.here hx rfl (pc0 := 168) (pc' := 175) rfl (hb hby at_168) rfl ((if0 _ _).trans (feq (by decide : ¬ ((1 : Int32) = (0 : Int32)))).2) (by decide) (by decide) ?_
          refine XS.iconst X51.here hx rfl (hb hby at_175) ?_
          refine XS.icmpNo X51.here hx rfl (hb hby at_176) rfl (teq (by rw [own_fin]; simp [own_anyb, own_i, (own_nz hc45)] : (own_i (!own_has [x5] (44 : Int32) && !own_has [x5] (10 : Int32) && !own_has [x5] (13 : Int32))) = (0 : Int32))).2 ?_
          refine XS.iconst X51.here hx rfl (hb hby at_179) ?_
          refine XS.goto X51.here hx rfl (pc0 := 180) (pc' := 184) rfl (hb hby at_180) (by decide) (by decide) ?_
          exact .refl _)
        refine ⟨T51, s.vm, _, (some (.int (1 : Int32))), _, _, _, X51, by decide, by decide, (fun q => by cases q), N51, hS0, by rw [e51]; exact hk42, hZ, by rw [e51]; exact CR42, ?_, fun fs hr => ?_⟩
        · skip
          exact rfl
        · exact c52.trans (retN X51 hx (t := .boolean) hret (by simp) (hb hby at_184) hr)
  · skip
    have c54 : Go p e below S0 T11 (mkF m 37 #[.val (.int p0), .val (.int p1), .val (.int p2), .val (.int p3), .val (.int p4), .val (.int 2), .val (.int x5), .val (.int x7), .val (.int x9), .val (.int x11), .unset, .unset, .unset] [(.int 2)]) := by rw [← hn]; exact c12
    obtain ⟨T55, h55, k55, X55, e55, E55, A55, st55⟩ := newP X11 hx hZ (hw _ (List.mem_of_getElem? (i := 8) rfl)) e11 (g := (mkF m 37 #[.val (.int p0), .val (.int p1), .val (.int p2), .val (.int p3), .val (.int p4), .val (.int 2), .val (.int x5), .val (.int x7), .val (.int x9), .val (.int x11), .unset, .unset, .unset] [(.int 2)])) rfl (hb hby at_37) rfl (by decide) (cap := 2) (by decide) (by decide) (by decide) (by decide)
    obtain ⟨b55, g55⟩ : ∃ z, z = h0.size := ⟨_, rfl⟩
    rw [← g55] at A55 st55
    have lo55 : h0.size ≤ b55 := Nat.le_of_eq g55.symm
    have ge55 : Z.heap.size ≤ b55 := Nat.le_trans O0.2.1 lo55
    have R55 := CHr.ext (EL := EL) E55 CR0.1
    have sf55 := Safe.ext E55 CR0.1 (Safe.new lo55)
    have CR55 := CR0.trans R55
    have hk55 := Nat.le_trans hk0 R55.2.1
    have V55 := Arv.new A55 (by decide)
    have V55a : Arv Z h55 b55 k55 .char (2 : Int32) [(.int 0), (.int 0)] (.int (0 : Int32)) := V55.pad (pad_rep [] (.int (0 : Int32)) 2)
    obtain ⟨cl56, Ar56, q56, S56, M56, H56, G56⟩ := id V55a
    have hin56 : ¬ ((0 : Int32) < 0 ∨ cl56.slots.size ≤ ((0 : Int32)).toNatClampNeg) := inb_of S56 ⟨by decide, by decide⟩
    obtain ⟨T56, h56, X56, e56, W56, st56⟩ := stC X55 hx hZ e55 Ar56 (j := (0 : Int32)) hin56 (g := (mkF m 51 #[.val (.int p0), .val (.int p1), .val (.int p2), .val (.int p3), .val (.int p4), .val (.int 2), .val (.int x5), .val (.int x7), .val (.int x9), .val (.int x11), .val (.ref b55), .unset, .unset] [(.int x5), (.int 0), (.ref b55)])) rfl rfl (hb hby at_51)
    have V56 := Arv.set Ar56 q56 S56 M56 H56 G56 (fits_nar_char _) W56 0 rfl (Nat.le_of_ble_eq_true rfl)
    have N56 := Fr.snoc X56 N11 ge55
    have R56 := CHr.wr W56 sf55 CR55.1
    have CR56 := CR55.trans R56
    have hk56 := Nat.le_trans hk55 R56.2.1
    rw [hC5.nar] at V56
    have V56a : Arv Z h56 b55 k55 .char (2 : Int32) [(.int x5), (.int 0)] (.int (0 : Int32)) := V56
    obtain ⟨cl57, Ar57, q57, S57, M57, H57, G57⟩ := id V56a
    have hin57 : ¬ ((1 : Int32) < 0 ∨ cl57.slots.size ≤ ((1 : Int32)).toNatClampNeg) := inb_of S57 ⟨by decide, by decide⟩
    obtain ⟨T57, h57, X57, e57, W57, st57⟩ := stC X56 hx hZ e56 Ar57 (j := (1 : Int32)) hin57 (g := (mkF m 63 #[.val (.int p0), .val (.int p1), .val (.int p2), .val (.int p3), .val (.int p4), .val (.int 2), .val (.int x5), .val (.int x7), .val (.int x9), .val (.int x11), .val (.ref b55), .unset, .unset] [(.int x7), (.int 1), (.ref b55)])) rfl rfl (hb hby at_63)
    have V57 := Arv.set Ar57 q57 S57 M57 H57 G57 (fits_nar_char _) W57 1 rfl (Nat.le_of_ble_eq_true rfl)
    have N57 := Fr.snoc X57 N56 ge55
    have R57 := CHr.wr W57 (R56.safe V55.lt sf55) CR56.1
    have CR57 := CR56.trans R57
    have hk57 := Nat.le_trans hk56 R57.2.1
    rw [hC7.nar] at V57
    have V57a : Arv Z h57 b55 k55 .char (2 : Int32) [(.int x5), (.int x7)] (.int (0 : Int32)) := V57
    have c58 : Go p e below S0 T57 (mkF m 88 #[.val (.int p0), .val (.int p1), .val (.int p2), .val (.int p3), .val (.int p4), .val (.int 2), .val (.int x5), .val (.int x7), .val (.int x9), .val (.int x11), .val (.ref b55), .unset, .unset] []) := c54.trans (by
      refine st55 _ ?_
      refine XS.astore X55.here hx rfl (hb hby at_39) rfl rfl (l' := #[.val (.int p0), .val (.int p1), .val (.int p2), .val (.int p3), .val (.int p4), .val (.int 2), .val (.int x5), .val (.int x7), .val (.int x9), .val (.int x11), .val (.ref b55), .unset, .unset]) rfl ?_
      refine XS.iload X55.here hx rfl (hb hby at_41) rfl ?_
      refine XS.ifNo X55.here hx rfl (hb hby at_43) rfl ((if0 _ _).trans (tlt (by decide : (0 : Int32) < (2 : Int32))).2.2.2) ?_
      refine XS.aload X55.here hx rfl (hb hby at_46) rfl rfl ?_
      refine XS.iconst X55.here hx rfl (hb hby at_48) ?_
      refine XS.iload X55.here hx rfl (hb hby at_49) rfl ?_
      refine st56 _ ?_
      show Steps p.tables e below (T56.setTop (mkF m 52 #[.val (.int p0), .val (.int p1), .val (.int p2), .val (.int p3), .val (.int p4), .val (.int 2), .val (.int x5), .val (.int x7), .val (.int x9), .val (.int x11), .val (.ref b55), .unset, .unset] [])) _
      refine XS.iload X56.here hx rfl (hb hby at_52) rfl ?_
      refine XS.iconst X56.here hx rfl (hb hby at_54) ?_
      refine XS.icmpNo X56.here hx rfl (hb hby at_55) rfl (tlt (by decide : (1 : Int32) < (2 : Int32))).2.2.2 ?_
      refine XS.aload X56.here hx rfl (hb hby at_58) rfl rfl ?_
      refine XS.iconst X56.here hx rfl (hb hby at_60) ?_
      refine XS.iload X56.here hx rfl (hb hby at_61) rfl ?_
      refine st57 _ ?_
      show Steps p.tables e below (T57.setTop (mkF m 64 #[.val (.int p0), .val (.int p1), .val (.int p2), .val (.int p3), .val (.int p4), .val (.int 2), .val (.int x5), .val (.int x7), .val (.int x9), .val (.int x11), .val (.ref b55), .unset, .unset] [])) _
      refine XS.iload X57.here hx rfl (hb hby at_64) rfl ?_
      refine XS.iconst X57.here hx rfl (hb hby at_66) ?_
      refine XS.icmpYes X57.here hx rfl (pc0 := 67) (pc' := 76) rfl (hb hby at_67) rfl (flt (by decide : ¬ ((2 : Int32) < (2 : Int32)))).2.2.2 (by decide) (by decide) ?_
      refine XS.iload X57.here hx rfl (hb hby at_76) rfl ?_
      refine XS.iconst X57.here hx rfl (hb hby at_78) ?_
      refine XS.icmpYes X57.here hx rfl (pc0 := 79) (pc' := 88) rfl (hb hby at_79) rfl (flt (by decide : ¬ ((3 : Int32) < (2 : Int32)))).2.2.2 (by decide) (by decide) ?_
      exact .refl _)
    by_cases hall : ¬ (255 : Int32) < x5 ∧ ¬ (255 : Int32) < x7
    · skip
      obtain ⟨lx5, lx7⟩ := hall
      have hBx5 := (hC5).toB lx5
      have hBx7 := (hC7).toB lx7
      obtain ⟨T59, h59, X59, e59, E59, A59, D59, -, st59⟩ := newO X57 hx hZ hown (gw hw 9 rfl) (gw hw 10 rfl) (gw hw 11 rfl) e57 (g := (mkF m 88 #[.val (.int p0), .val (.int p1), .val (.int p2), .val (.int p3), .val (.int p4), .val (.int 2), .val (.int x5), .val (.int x7), .val (.int x9), .val (.int x11), .val (.ref b55), .unset, .unset] [])) rfl (hb hby at_88) (by decide) (by decide)
      obtain ⟨b59, g59⟩ : ∃ z, z = h57.size := ⟨_, rfl⟩
      rw [← g59] at A59 D59 st59
      have lo59 : h57.size ≤ b59 := Nat.le_of_eq g59.symm
      have ge59 : Z.heap.size ≤ b59 := Nat.le_trans (((O0.ext E55).wr W56 ge55).wr W57 ge55).2.1 lo59
      have R59 := CHr.ext (EL := EL) E59 CR57.1
      have sf59 := Safe.ext E59 CR57.1 (Safe.new lo59)
      have CR59 := CR57.trans R59
      have hk59 := Nat.le_trans hk57 R59.2.1
      have F59_value : Fld Z h59 b59 "java/lang/String" "value" "[B" .null := D59 (Or.inr (gw hw 24 rfl)) (ty := (.array .byte)) (by decide)
      have F59_coder : Fld Z h59 b59 "java/lang/String" "coder" "B" (.int 0) := D59 (Or.inr (gw hw 25 rfl)) (ty := .byte) (by decide)
      have c60 : Go p e below S0 T59 (mkF m 94 #[.val (.int p0), .val (.int p1), .val (.int p2), .val (.int p3), .val (.int p4), .val (.int 2), .val (.int x5), .val (.int x7), .val (.int x9), .val (.int x11), .val (.ref b55), .unset, .unset] [(.ref b55), (.ref b59), (.ref b59)]) := c58.trans (by
        refine st59 _ ?_
        refine XS.dup X59.here hx rfl (hb hby at_91) rfl rfl ?_
        refine XS.aload X59.here hx rfl (hb hby at_92) rfl rfl ?_
        exact .refl _)
      obtain ⟨v61, T61, L61, X61, ⟨rfl, N61', K61, E61, Cd61, t61, kb61, gt61, lo61, ne61, V61, Kb61⟩, c61'⟩ := own_spec X59 hx hml hZ hown rfl (gw hw 12 rfl) (gw hw 13 rfl) (gw hw 14 rfl) (by decide) (Q := StrChars.Road.QV Z b59 (2 : Int32) (([x5, x7] : List Int32).map (fun c : Int32 => c.toInt8.toInt32)) h59 Z.heap.size) (kc := 1) (ks := 2) (h := h59) (W := 1) (b := b59) (argsL := [(.ref b55)]) (rest := [(.ref b59)]) (StrChars.Road.backV (s := (s.setVm s.vm)) (R := room_1) (W := 1) hZ (own_wi hw) (kI := 4) (gw hw 10 rfl) (cs := [x5, x7]) (bs := ([x5, x7] : List Int32).map (fun c : Int32 => c.toInt8.toInt32)) (n := 2) ge59 ((((O0.ext E55).wr W56 ge55).wr W57 ge55).ext E59).2.1 A59 F59_value F59_coder (V57a.ext E59) (SC.ext ((((O0.ext E55).wr W56 ge55).wr W57 ge55).ext E59).2) hz rfl rfl (by decide) (by decide) (fun c hc => ((own_cons hBx5 (own_cons hBx7 own_nil)) c hc).rng) rfl (by decide) (by decide)) c60 (lenOf pd_19 rfl) rfl (hb hby at_94) e59
      have N61 := Fr.app N57 N61'
      have R61 := CHr.keep K61 (sfS sf59 sf0) CR59.1
      have CR61 := CR59.trans R61
      have hk61 := Nat.le_trans hk59 R61.2.1
      have c61 : Go p e below S0 T61 (mkF m 97 #[.val (.int p0), .val (.int p1), .val (.int p2), .val (.int p3), .val (.int p4), .val (.int 2), .val (.int x5), .val (.int x7), .val (.int x9), .val (.int x11), .val (.ref b55), .unset, .unset] [(.ref b59)]) := c61'
      have c62 : Go p e below S0 T61 (mkF m 106 #[.val (.int p0), .val (.int p1), .val (.int p2), .val (.int p3), .val (.int p4), .val (.int 2), .val (.int x5), .val (.int x7), .val (.int x9), .val (.int x11), .val (.ref b55), .val (.ref b59), .unset] [(.int x5)]) := c61.trans (by
        refine XS.astore X61.here hx rfl (hb hby at_97) rfl rfl (l' := #[.val (.int p0), .val (.int p1), .val (.int p2), .val (.int p3), .val (.int p4), .val (.int 2), .val (.int x5), .val (.int x7), .val (.int x9), .val (.int x11), .val (.ref b55), .val (.ref b59), .unset]) rfl ?_
        refine XS.iload X61.here hx rfl (hb hby at_99) rfl ?_
        refine XS.ifNo X61.here hx rfl (hb hby at_101) rfl ((if0 _ _).trans (tlt (by decide : (0 : Int32) < (2 : Int32))).2.2.2) ?_
        refine XS.iload X61.here hx rfl (hb hby at_104) rfl ?_
        exact .refl _)
      obtain ⟨v63, T63, L63, X63, ⟨N63', rfl, e63⟩, c63'⟩ := own_stat X61 hx hml hZ hown (gw hw 81 rfl) (gw hw 82 rfl) (gw hw 6 rfl) (gw hw 83 rfl) (by decide) (kc := 0) (ks := 0) (h := T61.heap) (W := 0) (argsL := [(.int x5)]) (rest := []) (own_pay (W := 0) (rmBad l Z a0 hw x5 T61.heap (((((O0.ext E55).wr W56 ge55).wr W57 ge55).ext E59).keep K61 (allS ge59 all0))) hZ (gw hw 83 rfl) (gw hw 6 rfl) (by decide) (by decide)) c62 (lenOf pd_21 rfl) rfl (hb hby at_106) rfl
      have N63 := Fr.app N61 N63'
      have c63 : Go p e below S0 T63 (mkF m 109 #[.val (.int p0), .val (.int p1), .val (.int p2), .val (.int p3), .val (.int p4), .val (.int 2), .val (.int x5), .val (.int x7), .val (.int x9), .val (.int x11), .val (.ref b55), .val (.ref b59), .unset] [(.int (own_i (own_bad x5)))]) := c63'
      by_cases hc64 : (own_i (own_bad x5)) = (0 : Int32)
      · skip
        have c65 : Go p e below S0 T63 (mkF m 120 #[.val (.int p0), .val (.int p1), .val (.int p2), .val (.int p3), .val (.int p4), .val (.int 2), .val (.int x5), .val (.int x7), .val (.int x9), .val (.int x11), .val (.ref b55), .val (.ref b59), .unset] [(.int x7)]) := c63.trans (by
          refine XS.ifNo X63.here hx rfl (hb hby at_109) rfl ((if0 _ _).trans (teq hc64).2) ?_
          refine XS.iload X63.here hx rfl (hb hby at_112) rfl ?_
          refine XS.iconst X63.here hx rfl (hb hby at_114) ?_
          refine XS.icmpNo X63.here hx rfl (hb hby at_115) rfl (tlt (by decide : (1 : Int32) < (2 : Int32))).2.2.2 ?_
          refine XS.iload X63.here hx rfl (hb hby at_118) rfl ?_
          exact .refl _)
        obtain ⟨v66, T66, L66, X66, ⟨N66', rfl, e66⟩, c66'⟩ := own_stat X63 hx hml hZ hown (gw hw 81 rfl) (gw hw 82 rfl) (gw hw 6 rfl) (gw hw 83 rfl) (by decide) (kc := 0) (ks := 0) (h := T61.heap) (W := 0) (argsL := [(.int x7)]) (rest := []) (own_pay (W := 0) (rmBad l Z a0 hw x7 T61.heap (((((O0.ext E55).wr W56 ge55).wr W57 ge55).ext E59).keep K61 (allS ge59 all0))) hZ (gw hw 83 rfl) (gw hw 6 rfl) (by decide) (by decide)) c65 (lenOf pd_21 rfl) rfl (hb hby at_120) e63
        have N66 := Fr.app N63 N66'
        have c66 : Go p e below S0 T66 (mkF m 123 #[.val (.int p0), .val (.int p1), .val (.int p2), .val (.int p3), .val (.int p4), .val (.int 2), .val (.int x5), .val (.int x7), .val (.int x9), .val (.int x11), .val (.ref b55), .val (.ref b59), .unset] [(.int (own_i (own_bad x7)))]) := c66'
        by_cases hc67 : (own_i (own_bad x7)) = (0 : Int32)
        · skip
          have c68 : Go p e below S0 T66 (mkF m 163 #[.val (.int p0), .val (.int p1), .val (.int p2), .val (.int p3), .val (.int p4), .val (.int 2), .val (.int x5), .val (.int x7), .val (.int x9), .val (.int x11), .val (.ref b55), .val (.ref b59), .val (.int 0)] [(.ref b59)]) := c66.trans (by
            refine XS.ifNo X66.here hx rfl (hb hby at_123) rfl ((if0 _ _).trans (teq hc67).2) ?_
            refine XS.iload X66.here hx rfl (hb hby at_126) rfl ?_
            refine XS.iconst X66.here hx rfl (hb hby at_128) ?_
            refine XS.icmpYes X66.here hx rfl (pc0 := 129) (pc' := 140) rfl (hb hby at_129) rfl (flt (by decide : ¬ ((2 : Int32) < (2 : Int32)))).2.2.2 (by decide) (by decide) ?_
            refine XS.iload X66.here hx rfl (hb hby at_140) rfl ?_
            refine XS.iconst X66.here hx rfl (hb hby at_142) ?_
            refine XS.icmpYes X66.here hx rfl (pc0 := 143) (pc' := 158) rfl (hb hby at_143) rfl (flt (by decide : ¬ ((3 : Int32) < (2 : Int32)))).2.2.2 (by decide) (by decide) ?_
            refine XS.iconst X66.here hx rfl (hb hby at_158) ?_
            refine XS.istore X66.here hx rfl (hb hby at_159) rfl (l' := #[.val (.int p0), .val (.int p1), .val (.int p2), .val (.int p3), .val (.int p4), .val (.int 2), .val (.int x5), .val (.int x7), .val (.int x9), .val (.int x11), .val (.ref b55), .val (.ref b59), .val (.int 0)]) rfl ?_
            show Steps p.tables e below (T66.setTop (mkF m 161 #[.val (.int p0), .val (.int p1), .val (.int p2), .val (.int p3), .val (.int p4), .val (.int 2), .val (.int x5), .val (.int x7), .val (.int x9), .val (.int x11), .val (.ref b55), .val (.ref b59), .val (.int 0)] [])) _
            refine XS.aload X66.here hx rfl (hb hby at_161) rfl rfl ?_
            exact .refl _)
          obtain ⟨v69, T69, L69, X69, ⟨N69', rfl, e69⟩, c69'⟩ := own_stat X66 hx hml hZ hown (gw hw 30 rfl) (gw hw 31 rfl) (gw hw 32 rfl) (gw hw 33 rfl) (by decide) (kc := 0) (ks := 0) (h := T61.heap) (W := 0) (argsL := [(.ref b59)]) (rest := []) (own_pay (W := 0) (rmFitL2 l Z a0 hw b59 t61 kb61 x5 x7 z fm T61.heap (((((O0.ext E55).wr W56 ge55).wr W57 ge55).ext E59).keep K61 (allS ge59 all0)) E61 V61 Cd61 Kb61 hBx5 hBx7 hs) hZ (gw hw 33 rfl) (gw hw 32 rfl) (by decide) (by decide)) c68 (lenOf pd_20 rfl) rfl (hb hby at_163) e66
          have N69 := Fr.app N66 N69'
          have c69 : Go p e below S0 T69 (mkF m 166 #[.val (.int p0), .val (.int p1), .val (.int p2), .val (.int p3), .val (.int p4), .val (.int 2), .val (.int x5), .val (.int x7), .val (.int x9), .val (.int x11), .val (.ref b55), .val (.ref b59), .val (.int 0)] [(.int (own_i (!own_has [x5, x7] (44 : Int32) && !own_has [x5, x7] (10 : Int32) && !own_has [x5, x7] (13 : Int32))))]) := c69'
          have c70 : Go p e below S0 T69 (mkF m 184 #[.val (.int p0), .val (.int p1), .val (.int p2), .val (.int p3), .val (.int p4), .val (.int 2), .val (.int x5), .val (.int x7), .val (.int x9), .val (.int x11), .val (.ref b55), .val (.ref b59), .val (.int 0)] [(.int 1)]) := c69.trans (by
            refine XS.iload X69.here hx rfl (hb hby at_166) rfl ?_
            refine XS.ifNo X69.here hx rfl (hb hby at_168) rfl ((if0 _ _).trans (teq (by decide : (0 : Int32) = (0 : Int32))).2) ?_
            refine XS.iconst X69.here hx rfl (hb hby at_171) ?_
            refine XS.goto X69.here hx rfl (pc0 := 172) (pc' := 176) rfl (hb hby at_172) (by decide) (by decide) ?_
            refine XS.icmpNo X69.here hx rfl (hb hby at_176) rfl (teq (by rw [own_fin]; simp [own_anyb, own_i, ((own_i0 _).mp hc64), ((own_i0 _).mp hc67)] : (own_i (!own_has [x5, x7] (44 : Int32) && !own_has [x5, x7] (10 : Int32) && !own_has [x5, x7] (13 : Int32))) = (1 : Int32))).2 ?_
            refine XS.iconst X69.here hx rfl (hb hby at_179) ?_
            refine XS.goto X69.here hx rfl (pc0 := 180) (pc' := 184) rfl (hb hby at_180) (by decide) (by decide) ?_
            exact .refl _)
          refine ⟨T69, s.vm, _, (some (.int (1 : Int32))), _, _, _, X69, by decide, by decide, (fun q => by cases q), N69, hS0, by rw [e69]; exact hk61, hZ, by rw [e69]; exact CR61, ?_, fun fs hr => ?_⟩
          · skip
            exact rfl
          · exact c70.trans (retN X69 hx (t := .boolean) hret (by simp) (hb hby at_184) hr)
        · skip
          have c72 : Go p e below S0 T66 (mkF m 163 #[.val (.int p0), .val (.int p1), .val (.int p2), .val (.int p3), .val (.int p4), .val (.int 2), .val (.int x5), .val (.int x7), .val (.int x9), .val (.int x11), .val (.ref b55), .val (.ref b59), .val (.int 1)] [(.ref b59)]) := c66.trans (by
            refine XS.ifYes X66.here hx rfl (pc0 := 123) (pc' := 154) rfl (hb hby at_123) rfl ((if0 _ _).trans (feq hc67).2) (by decide) (by decide) ?_
            refine XS.iconst X66.here hx rfl (hb hby at_154) ?_
            refine XS.goto X66.here hx rfl (pc0 := 155) (pc' := 159) rfl (hb hby at_155) (by decide) (by decide) ?_
            refine XS.istore X66.here hx rfl (hb hby at_159) rfl (l' := #[.val (.int p0), .val (.int p1), .val (.int p2), .val (.int p3), .val (.int p4), .val (.int 2), .val (.int x5), .val (.int x7), .val (.int x9), .val (.int x11), .val (.ref b55), .val (.ref b59), .val (.int 1)]) rfl ?_
            refine XS.aload X66.here hx rfl (hb hby at_161) rfl rfl ?_
            exact .refl _)
          obtain ⟨v73, T73, L73, X73, ⟨N73', rfl, e73⟩, c73'⟩ := own_stat X66 hx hml hZ hown (gw hw 30 rfl) (gw hw 31 rfl) (gw hw 32 rfl) (gw hw 33 rfl) (by decide) (kc := 0) (ks := 0) (h := T61.heap) (W := 0) (argsL := [(.ref b59)]) (rest := []) (own_pay (W := 0) (rmFitL2 l Z a0 hw b59 t61 kb61 x5 x7 z fm T61.heap (((((O0.ext E55).wr W56 ge55).wr W57 ge55).ext E59).keep K61 (allS ge59 all0)) E61 V61 Cd61 Kb61 hBx5 hBx7 hs) hZ (gw hw 33 rfl) (gw hw 32 rfl) (by decide) (by decide)) c72 (lenOf pd_20 rfl) rfl (hb hby at_163) e66
          have N73 := Fr.app N66 N73'
          have c73 : Go p e below S0 T73 (mkF m 166 #[.val (.int p0), .val (.int p1), .val (.int p2), .val (.int p3), .val (.int p4), .val (.int 2), .val (.int x5), .val (.int x7), .val (.int x9), .val (.int x11), .val (.ref b55), .val (.ref b59), .val (.int 1)] [(.int (own_i (!own_has [x5, x7] (44 : Int32) && !own_has [x5, x7] (10 : Int32) && !own_has [x5, x7] (13 : Int32))))]) := c73'
          have c74 : Go p e below S0 T73 (mkF m 184 #[.val (.int p0), .val (.int p1), .val (.int p2), .val (.int p3), .val (.int p4), .val (.int 2), .val (.int x5), .val (.int x7), .val (.int x9), .val (.int x11), .val (.ref b55), .val (.ref b59), .val (.int 1)] [(.int 1)]) := c73.trans (by
            refine XS.iload X73.here hx rfl (hb hby at_166) rfl ?_
            refine XS.ifYes X73.here hx rfl (pc0 := 168) (pc' := 175) rfl (hb hby at_168) rfl ((if0 _ _).trans (feq (by decide : ¬ ((1 : Int32) = (0 : Int32)))).2) (by decide) (by decide) ?_
            refine XS.iconst X73.here hx rfl (hb hby at_175) ?_
            refine XS.icmpNo X73.here hx rfl (hb hby at_176) rfl (teq (by rw [own_fin]; simp [own_anyb, own_i, ((own_i0 _).mp hc64), (own_nz hc67)] : (own_i (!own_has [x5, x7] (44 : Int32) && !own_has [x5, x7] (10 : Int32) && !own_has [x5, x7] (13 : Int32))) = (0 : Int32))).2 ?_
            refine XS.iconst X73.here hx rfl (hb hby at_179) ?_
            refine XS.goto X73.here hx rfl (pc0 := 180) (pc' := 184) rfl (hb hby at_180) (by decide) (by decide) ?_
            exact .refl _)
          refine ⟨T73, s.vm, _, (some (.int (1 : Int32))), _, _, _, X73, by decide, by decide, (fun q => by cases q), N73, hS0, by rw [e73]; exact hk61, hZ, by rw [e73]; exact CR61, ?_, fun fs hr => ?_⟩
          · skip
            exact rfl
          · exact c74.trans (retN X73 hx (t := .boolean) hret (by simp) (hb hby at_184) hr)
      · skip
        have c76 : Go p e below S0 T63 (mkF m 163 #[.val (.int p0), .val (.int p1), .val (.int p2), .val (.int p3), .val (.int p4), .val (.int 2), .val (.int x5), .val (.int x7), .val (.int x9), .val (.int x11), .val (.ref b55), .val (.ref b59), .val (.int 1)] [(.ref b59)]) := c63.trans (by
          refine XS.ifYes X63.here hx rfl (pc0 := 109) (pc' := 154) rfl (hb hby at_109) rfl ((if0 _ _).trans (feq hc64).2) (by decide) (by decide) ?_
          refine XS.iconst X63.here hx rfl (hb hby at_154) ?_
          refine XS.goto X63.here hx rfl (pc0 := 155) (pc' := 159) rfl (hb hby at_155) (by decide) (by decide) ?_
          refine XS.istore X63.here hx rfl (hb hby at_159) rfl (l' := #[.val (.int p0), .val (.int p1), .val (.int p2), .val (.int p3), .val (.int p4), .val (.int 2), .val (.int x5), .val (.int x7), .val (.int x9), .val (.int x11), .val (.ref b55), .val (.ref b59), .val (.int 1)]) rfl ?_
          refine XS.aload X63.here hx rfl (hb hby at_161) rfl rfl ?_
          exact .refl _)
        obtain ⟨v77, T77, L77, X77, ⟨N77', rfl, e77⟩, c77'⟩ := own_stat X63 hx hml hZ hown (gw hw 30 rfl) (gw hw 31 rfl) (gw hw 32 rfl) (gw hw 33 rfl) (by decide) (kc := 0) (ks := 0) (h := T61.heap) (W := 0) (argsL := [(.ref b59)]) (rest := []) (own_pay (W := 0) (rmFitL2 l Z a0 hw b59 t61 kb61 x5 x7 z fm T61.heap (((((O0.ext E55).wr W56 ge55).wr W57 ge55).ext E59).keep K61 (allS ge59 all0)) E61 V61 Cd61 Kb61 hBx5 hBx7 hs) hZ (gw hw 33 rfl) (gw hw 32 rfl) (by decide) (by decide)) c76 (lenOf pd_20 rfl) rfl (hb hby at_163) e63
        have N77 := Fr.app N63 N77'
        have c77 : Go p e below S0 T77 (mkF m 166 #[.val (.int p0), .val (.int p1), .val (.int p2), .val (.int p3), .val (.int p4), .val (.int 2), .val (.int x5), .val (.int x7), .val (.int x9), .val (.int x11), .val (.ref b55), .val (.ref b59), .val (.int 1)] [(.int (own_i (!own_has [x5, x7] (44 : Int32) && !own_has [x5, x7] (10 : Int32) && !own_has [x5, x7] (13 : Int32))))]) := c77'
        have c78 : Go p e below S0 T77 (mkF m 184 #[.val (.int p0), .val (.int p1), .val (.int p2), .val (.int p3), .val (.int p4), .val (.int 2), .val (.int x5), .val (.int x7), .val (.int x9), .val (.int x11), .val (.ref b55), .val (.ref b59), .val (.int 1)] [(.int 1)]) := c77.trans (by
          refine XS.iload X77.here hx rfl (hb hby at_166) rfl ?_
          refine XS.ifYes X77.here hx rfl (pc0 := 168) (pc' := 175) rfl (hb hby at_168) rfl ((if0 _ _).trans (feq (by decide : ¬ ((1 : Int32) = (0 : Int32)))).2) (by decide) (by decide) ?_
          refine XS.iconst X77.here hx rfl (hb hby at_175) ?_
          refine XS.icmpNo X77.here hx rfl (hb hby at_176) rfl (teq (by rw [own_fin]; simp [own_anyb, own_i, (own_nz hc64)] : (own_i (!own_has [x5, x7] (44 : Int32) && !own_has [x5, x7] (10 : Int32) && !own_has [x5, x7] (13 : Int32))) = (0 : Int32))).2 ?_
          refine XS.iconst X77.here hx rfl (hb hby at_179) ?_
          refine XS.goto X77.here hx rfl (pc0 := 180) (pc' := 184) rfl (hb hby at_180) (by decide) (by decide) ?_
          exact .refl _)
        refine ⟨T77, s.vm, _, (some (.int (1 : Int32))), _, _, _, X77, by decide, by decide, (fun q => by cases q), N77, hS0, by rw [e77]; exact hk61, hZ, by rw [e77]; exact CR61, ?_, fun fs hr => ?_⟩
        · skip
          exact rfl
        · exact c78.trans (retN X77 hx (t := .boolean) hret (by simp) (hb hby at_184) hr)
    · skip
      obtain ⟨T80, h80, X80, e80, E80, A80, D80, -, st80⟩ := newO X57 hx hZ hown (gw hw 9 rfl) (gw hw 10 rfl) (gw hw 11 rfl) e57 (g := (mkF m 88 #[.val (.int p0), .val (.int p1), .val (.int p2), .val (.int p3), .val (.int p4), .val (.int 2), .val (.int x5), .val (.int x7), .val (.int x9), .val (.int x11), .val (.ref b55), .unset, .unset] [])) rfl (hb hby at_88) (by decide) (by decide)
      obtain ⟨b80, g80⟩ : ∃ z, z = h57.size := ⟨_, rfl⟩
      rw [← g80] at A80 D80 st80
      have lo80 : h57.size ≤ b80 := Nat.le_of_eq g80.symm
      have ge80 : Z.heap.size ≤ b80 := Nat.le_trans (((O0.ext E55).wr W56 ge55).wr W57 ge55).2.1 lo80
      have R80 := CHr.ext (EL := EL) E80 CR57.1
      have sf80 := Safe.ext E80 CR57.1 (Safe.new lo80)
      have CR80 := CR57.trans R80
      have hk80 := Nat.le_trans hk57 R80.2.1
      have F80_value : Fld Z h80 b80 "java/lang/String" "value" "[B" .null := D80 (Or.inr (gw hw 24 rfl)) (ty := (.array .byte)) (by decide)
      have F80_coder : Fld Z h80 b80 "java/lang/String" "coder" "B" (.int 0) := D80 (Or.inr (gw hw 25 rfl)) (ty := .byte) (by decide)
      have c81 : Go p e below S0 T80 (mkF m 94 #[.val (.int p0), .val (.int p1), .val (.int p2), .val (.int p3), .val (.int p4), .val (.int 2), .val (.int x5), .val (.int x7), .val (.int x9), .val (.int x11), .val (.ref b55), .unset, .unset] [(.ref b55), (.ref b80), (.ref b80)]) := c58.trans (by
        refine st80 _ ?_
        refine XS.dup X80.here hx rfl (hb hby at_91) rfl rfl ?_
        refine XS.aload X80.here hx rfl (hb hby at_92) rfl rfl ?_
        exact .refl _)
      obtain ⟨v82, T82, L82, X82, ⟨N82', rfl, K82, E82, Cd82, t82, kt82, lo82, V82, Kt82⟩, c82'⟩ := own_spec X80 hx hml hZ hown rfl (gw hw 12 rfl) (gw hw 13 rfl) (gw hw 14 rfl) (by decide) (kc := 2) (ks := 6) (h := h80) (W := 1) (b := b80) (argsL := [(.ref b55)]) (rest := [(.ref b80)]) (own_pay (W := 1) (rmUI1_2 l Z a0 hw b80 b55 k55 _ _ x5 x7 z fm h80 ((((O0.ext E55).wr W56 ge55).wr W57 ge55).ext E80) A80 F80_value F80_coder ge80 (V57a.ext E80) hC5 hC7 hall hs) hZ (gw hw 14 rfl) (gw hw 11 rfl) (by decide) (by decide)) c81 (lenOf pd_19 rfl) rfl (hb hby at_94) e80
      have N82 := Fr.app N57 N82'
      have R82 := CHr.keep K82 (sfS sf80 sf0) CR80.1
      have CR82 := CR80.trans R82
      have hk82 := Nat.le_trans hk80 R82.2.1
      have c82 : Go p e below S0 T82 (mkF m 97 #[.val (.int p0), .val (.int p1), .val (.int p2), .val (.int p3), .val (.int p4), .val (.int 2), .val (.int x5), .val (.int x7), .val (.int x9), .val (.int x11), .val (.ref b55), .unset, .unset] [(.ref b80)]) := c82'
      have c83 : Go p e below S0 T82 (mkF m 106 #[.val (.int p0), .val (.int p1), .val (.int p2), .val (.int p3), .val (.int p4), .val (.int 2), .val (.int x5), .val (.int x7), .val (.int x9), .val (.int x11), .val (.ref b55), .val (.ref b80), .unset] [(.int x5)]) := c82.trans (by
        refine XS.astore X82.here hx rfl (hb hby at_97) rfl rfl (l' := #[.val (.int p0), .val (.int p1), .val (.int p2), .val (.int p3), .val (.int p4), .val (.int 2), .val (.int x5), .val (.int x7), .val (.int x9), .val (.int x11), .val (.ref b55), .val (.ref b80), .unset]) rfl ?_
        refine XS.iload X82.here hx rfl (hb hby at_99) rfl ?_
        refine XS.ifNo X82.here hx rfl (hb hby at_101) rfl ((if0 _ _).trans (tlt (by decide : (0 : Int32) < (2 : Int32))).2.2.2) ?_
        refine XS.iload X82.here hx rfl (hb hby at_104) rfl ?_
        exact .refl _)
      obtain ⟨v84, T84, L84, X84, ⟨N84', rfl, e84⟩, c84'⟩ := own_stat X82 hx hml hZ hown (gw hw 81 rfl) (gw hw 82 rfl) (gw hw 6 rfl) (gw hw 83 rfl) (by decide) (kc := 0) (ks := 0) (h := T82.heap) (W := 0) (argsL := [(.int x5)]) (rest := []) (own_pay (W := 0) (rmBad l Z a0 hw x5 T82.heap (((((O0.ext E55).wr W56 ge55).wr W57 ge55).ext E80).keep K82 (allS ge80 all0))) hZ (gw hw 83 rfl) (gw hw 6 rfl) (by decide) (by decide)) c83 (lenOf pd_21 rfl) rfl (hb hby at_106) rfl
      have N84 := Fr.app N82 N84'
      have c84 : Go p e below S0 T84 (mkF m 109 #[.val (.int p0), .val (.int p1), .val (.int p2), .val (.int p3), .val (.int p4), .val (.int 2), .val (.int x5), .val (.int x7), .val (.int x9), .val (.int x11), .val (.ref b55), .val (.ref b80), .unset] [(.int (own_i (own_bad x5)))]) := c84'
      by_cases hc85 : (own_i (own_bad x5)) = (0 : Int32)
      · skip
        have c86 : Go p e below S0 T84 (mkF m 120 #[.val (.int p0), .val (.int p1), .val (.int p2), .val (.int p3), .val (.int p4), .val (.int 2), .val (.int x5), .val (.int x7), .val (.int x9), .val (.int x11), .val (.ref b55), .val (.ref b80), .unset] [(.int x7)]) := c84.trans (by
          refine XS.ifNo X84.here hx rfl (hb hby at_109) rfl ((if0 _ _).trans (teq hc85).2) ?_
          refine XS.iload X84.here hx rfl (hb hby at_112) rfl ?_
          refine XS.iconst X84.here hx rfl (hb hby at_114) ?_
          refine XS.icmpNo X84.here hx rfl (hb hby at_115) rfl (tlt (by decide : (1 : Int32) < (2 : Int32))).2.2.2 ?_
          refine XS.iload X84.here hx rfl (hb hby at_118) rfl ?_
          exact .refl _)
        obtain ⟨v87, T87, L87, X87, ⟨N87', rfl, e87⟩, c87'⟩ := own_stat X84 hx hml hZ hown (gw hw 81 rfl) (gw hw 82 rfl) (gw hw 6 rfl) (gw hw 83 rfl) (by decide) (kc := 0) (ks := 0) (h := T82.heap) (W := 0) (argsL := [(.int x7)]) (rest := []) (own_pay (W := 0) (rmBad l Z a0 hw x7 T82.heap (((((O0.ext E55).wr W56 ge55).wr W57 ge55).ext E80).keep K82 (allS ge80 all0))) hZ (gw hw 83 rfl) (gw hw 6 rfl) (by decide) (by decide)) c86 (lenOf pd_21 rfl) rfl (hb hby at_120) e84
        have N87 := Fr.app N84 N87'
        have c87 : Go p e below S0 T87 (mkF m 123 #[.val (.int p0), .val (.int p1), .val (.int p2), .val (.int p3), .val (.int p4), .val (.int 2), .val (.int x5), .val (.int x7), .val (.int x9), .val (.int x11), .val (.ref b55), .val (.ref b80), .unset] [(.int (own_i (own_bad x7)))]) := c87'
        by_cases hc88 : (own_i (own_bad x7)) = (0 : Int32)
        · skip
          have c89 : Go p e below S0 T87 (mkF m 163 #[.val (.int p0), .val (.int p1), .val (.int p2), .val (.int p3), .val (.int p4), .val (.int 2), .val (.int x5), .val (.int x7), .val (.int x9), .val (.int x11), .val (.ref b55), .val (.ref b80), .val (.int 0)] [(.ref b80)]) := c87.trans (by
            refine XS.ifNo X87.here hx rfl (hb hby at_123) rfl ((if0 _ _).trans (teq hc88).2) ?_
            refine XS.iload X87.here hx rfl (hb hby at_126) rfl ?_
            refine XS.iconst X87.here hx rfl (hb hby at_128) ?_
            refine XS.icmpYes X87.here hx rfl (pc0 := 129) (pc' := 140) rfl (hb hby at_129) rfl (flt (by decide : ¬ ((2 : Int32) < (2 : Int32)))).2.2.2 (by decide) (by decide) ?_
            refine XS.iload X87.here hx rfl (hb hby at_140) rfl ?_
            refine XS.iconst X87.here hx rfl (hb hby at_142) ?_
            refine XS.icmpYes X87.here hx rfl (pc0 := 143) (pc' := 158) rfl (hb hby at_143) rfl (flt (by decide : ¬ ((3 : Int32) < (2 : Int32)))).2.2.2 (by decide) (by decide) ?_
            refine XS.iconst X87.here hx rfl (hb hby at_158) ?_
            refine XS.istore X87.here hx rfl (hb hby at_159) rfl (l' := #[.val (.int p0), .val (.int p1), .val (.int p2), .val (.int p3), .val (.int p4), .val (.int 2), .val (.int x5), .val (.int x7), .val (.int x9), .val (.int x11), .val (.ref b55), .val (.ref b80), .val (.int 0)]) rfl ?_
            show Steps p.tables e below (T87.setTop (mkF m 161 #[.val (.int p0), .val (.int p1), .val (.int p2), .val (.int p3), .val (.int p4), .val (.int 2), .val (.int x5), .val (.int x7), .val (.int x9), .val (.int x11), .val (.ref b55), .val (.ref b80), .val (.int 0)] [])) _
            refine XS.aload X87.here hx rfl (hb hby at_161) rfl rfl ?_
            exact .refl _)
          obtain ⟨v90, T90, L90, X90, ⟨N90', rfl, e90⟩, c90'⟩ := own_stat X87 hx hml hZ hown (gw hw 30 rfl) (gw hw 31 rfl) (gw hw 32 rfl) (gw hw 33 rfl) (by decide) (kc := 0) (ks := 0) (h := T82.heap) (W := 0) (argsL := [(.ref b80)]) (rest := []) (own_pay (W := 0) (rmFitU2 l Z a0 hw b80 t82 kt82 x5 x7 z fm T82.heap (((((O0.ext E55).wr W56 ge55).wr W57 ge55).ext E80).keep K82 (allS ge80 all0)) E82 V82 Cd82 Kt82 hC5 hC7 hs) hZ (gw hw 33 rfl) (gw hw 32 rfl) (by decide) (by decide)) c89 (lenOf pd_20 rfl) rfl (hb hby at_163) e87
          have N90 := Fr.app N87 N90'
          have c90 : Go p e below S0 T90 (mkF m 166 #[.val (.int p0), .val (.int p1), .val (.int p2), .val (.int p3), .val (.int p4), .val (.int 2), .val (.int x5), .val (.int x7), .val (.int x9), .val (.int x11), .val (.ref b55), .val (.ref b80), .val (.int 0)] [(.int (own_i (!own_has [x5, x7] (44 : Int32) && !own_has [x5, x7] (10 : Int32) && !own_has [x5, x7] (13 : Int32))))]) := c90'
          have c91 : Go p e below S0 T90 (mkF m 184 #[.val (.int p0), .val (.int p1), .val (.int p2), .val (.int p3), .val (.int p4), .val (.int 2), .val (.int x5), .val (.int x7), .val (.int x9), .val (.int x11), .val (.ref b55), .val (.ref b80), .val (.int 0)] [(.int 1)]) := c90.trans (by
            refine XS.iload X90.here hx rfl (hb hby at_166) rfl ?_
            refine XS.ifNo X90.here hx rfl (hb hby at_168) rfl ((if0 _ _).trans (teq (by decide : (0 : Int32) = (0 : Int32))).2) ?_
            refine XS.iconst X90.here hx rfl (hb hby at_171) ?_
            refine XS.goto X90.here hx rfl (pc0 := 172) (pc' := 176) rfl (hb hby at_172) (by decide) (by decide) ?_
            refine XS.icmpNo X90.here hx rfl (hb hby at_176) rfl (teq (by rw [own_fin]; simp [own_anyb, own_i, ((own_i0 _).mp hc85), ((own_i0 _).mp hc88)] : (own_i (!own_has [x5, x7] (44 : Int32) && !own_has [x5, x7] (10 : Int32) && !own_has [x5, x7] (13 : Int32))) = (1 : Int32))).2 ?_
            refine XS.iconst X90.here hx rfl (hb hby at_179) ?_
            refine XS.goto X90.here hx rfl (pc0 := 180) (pc' := 184) rfl (hb hby at_180) (by decide) (by decide) ?_
            exact .refl _)
          refine ⟨T90, s.vm, _, (some (.int (1 : Int32))), _, _, _, X90, by decide, by decide, (fun q => by cases q), N90, hS0, by rw [e90]; exact hk82, hZ, by rw [e90]; exact CR82, ?_, fun fs hr => ?_⟩
          · skip
            exact rfl
          · exact c91.trans (retN X90 hx (t := .boolean) hret (by simp) (hb hby at_184) hr)
        · skip
          have c93 : Go p e below S0 T87 (mkF m 163 #[.val (.int p0), .val (.int p1), .val (.int p2), .val (.int p3), .val (.int p4), .val (.int 2), .val (.int x5), .val (.int x7), .val (.int x9), .val (.int x11), .val (.ref b55), .val (.ref b80), .val (.int 1)] [(.ref b80)]) := c87.trans (by
            refine XS.ifYes X87.here hx rfl (pc0 := 123) (pc' := 154) rfl (hb hby at_123) rfl ((if0 _ _).trans (feq hc88).2) (by decide) (by decide) ?_
            refine XS.iconst X87.here hx rfl (hb hby at_154) ?_
            refine XS.goto X87.here hx rfl (pc0 := 155) (pc' := 159) rfl (hb hby at_155) (by decide) (by decide) ?_
            refine XS.istore X87.here hx rfl (hb hby at_159) rfl (l' := #[.val (.int p0), .val (.int p1), .val (.int p2), .val (.int p3), .val (.int p4), .val (.int 2), .val (.int x5), .val (.int x7), .val (.int x9), .val (.int x11), .val (.ref b55), .val (.ref b80), .val (.int 1)]) rfl ?_
            refine XS.aload X87.here hx rfl (hb hby at_161) rfl rfl ?_
            exact .refl _)
          obtain ⟨v94, T94, L94, X94, ⟨N94', rfl, e94⟩, c94'⟩ := own_stat X87 hx hml hZ hown (gw hw 30 rfl) (gw hw 31 rfl) (gw hw 32 rfl) (gw hw 33 rfl) (by decide) (kc := 0) (ks := 0) (h := T82.heap) (W := 0) (argsL := [(.ref b80)]) (rest := []) (own_pay (W := 0) (rmFitU2 l Z a0 hw b80 t82 kt82 x5 x7 z fm T82.heap (((((O0.ext E55).wr W56 ge55).wr W57 ge55).ext E80).keep K82 (allS ge80 all0)) E82 V82 Cd82 Kt82 hC5 hC7 hs) hZ (gw hw 33 rfl) (gw hw 32 rfl) (by decide) (by decide)) c93 (lenOf pd_20 rfl) rfl (hb hby at_163) e87
          have N94 := Fr.app N87 N94'
          have c94 : Go p e below S0 T94 (mkF m 166 #[.val (.int p0), .val (.int p1), .val (.int p2), .val (.int p3), .val (.int p4), .val (.int 2), .val (.int x5), .val (.int x7), .val (.int x9), .val (.int x11), .val (.ref b55), .val (.ref b80), .val (.int 1)] [(.int (own_i (!own_has [x5, x7] (44 : Int32) && !own_has [x5, x7] (10 : Int32) && !own_has [x5, x7] (13 : Int32))))]) := c94'
          have c95 : Go p e below S0 T94 (mkF m 184 #[.val (.int p0), .val (.int p1), .val (.int p2), .val (.int p3), .val (.int p4), .val (.int 2), .val (.int x5), .val (.int x7), .val (.int x9), .val (.int x11), .val (.ref b55), .val (.ref b80), .val (.int 1)] [(.int 1)]) := c94.trans (by
            refine XS.iload X94.here hx rfl (hb hby at_166) rfl ?_
            refine XS.ifYes X94.here hx rfl (pc0 := 168) (pc' := 175) rfl (hb hby at_168) rfl ((if0 _ _).trans (feq (by decide : ¬ ((1 : Int32) = (0 : Int32)))).2) (by decide) (by decide) ?_
            refine XS.iconst X94.here hx rfl (hb hby at_175) ?_
            refine XS.icmpNo X94.here hx rfl (hb hby at_176) rfl (teq (by rw [own_fin]; simp [own_anyb, own_i, ((own_i0 _).mp hc85), (own_nz hc88)] : (own_i (!own_has [x5, x7] (44 : Int32) && !own_has [x5, x7] (10 : Int32) && !own_has [x5, x7] (13 : Int32))) = (0 : Int32))).2 ?_
            refine XS.iconst X94.here hx rfl (hb hby at_179) ?_
            refine XS.goto X94.here hx rfl (pc0 := 180) (pc' := 184) rfl (hb hby at_180) (by decide) (by decide) ?_
            exact .refl _)
          refine ⟨T94, s.vm, _, (some (.int (1 : Int32))), _, _, _, X94, by decide, by decide, (fun q => by cases q), N94, hS0, by rw [e94]; exact hk82, hZ, by rw [e94]; exact CR82, ?_, fun fs hr => ?_⟩
          · skip
            exact rfl
          · exact c95.trans (retN X94 hx (t := .boolean) hret (by simp) (hb hby at_184) hr)
      · skip
        have c97 : Go p e below S0 T84 (mkF m 163 #[.val (.int p0), .val (.int p1), .val (.int p2), .val (.int p3), .val (.int p4), .val (.int 2), .val (.int x5), .val (.int x7), .val (.int x9), .val (.int x11), .val (.ref b55), .val (.ref b80), .val (.int 1)] [(.ref b80)]) := c84.trans (by
          refine XS.ifYes X84.here hx rfl (pc0 := 109) (pc' := 154) rfl (hb hby at_109) rfl ((if0 _ _).trans (feq hc85).2) (by decide) (by decide) ?_
          refine XS.iconst X84.here hx rfl (hb hby at_154) ?_
          refine XS.goto X84.here hx rfl (pc0 := 155) (pc' := 159) rfl (hb hby at_155) (by decide) (by decide) ?_
          refine XS.istore X84.here hx rfl (hb hby at_159) rfl (l' := #[.val (.int p0), .val (.int p1), .val (.int p2), .val (.int p3), .val (.int p4), .val (.int 2), .val (.int x5), .val (.int x7), .val (.int x9), .val (.int x11), .val (.ref b55), .val (.ref b80), .val (.int 1)]) rfl ?_
          refine XS.aload X84.here hx rfl (hb hby at_161) rfl rfl ?_
          exact .refl _)
        obtain ⟨v98, T98, L98, X98, ⟨N98', rfl, e98⟩, c98'⟩ := own_stat X84 hx hml hZ hown (gw hw 30 rfl) (gw hw 31 rfl) (gw hw 32 rfl) (gw hw 33 rfl) (by decide) (kc := 0) (ks := 0) (h := T82.heap) (W := 0) (argsL := [(.ref b80)]) (rest := []) (own_pay (W := 0) (rmFitU2 l Z a0 hw b80 t82 kt82 x5 x7 z fm T82.heap (((((O0.ext E55).wr W56 ge55).wr W57 ge55).ext E80).keep K82 (allS ge80 all0)) E82 V82 Cd82 Kt82 hC5 hC7 hs) hZ (gw hw 33 rfl) (gw hw 32 rfl) (by decide) (by decide)) c97 (lenOf pd_20 rfl) rfl (hb hby at_163) e84
        have N98 := Fr.app N84 N98'
        have c98 : Go p e below S0 T98 (mkF m 166 #[.val (.int p0), .val (.int p1), .val (.int p2), .val (.int p3), .val (.int p4), .val (.int 2), .val (.int x5), .val (.int x7), .val (.int x9), .val (.int x11), .val (.ref b55), .val (.ref b80), .val (.int 1)] [(.int (own_i (!own_has [x5, x7] (44 : Int32) && !own_has [x5, x7] (10 : Int32) && !own_has [x5, x7] (13 : Int32))))]) := c98'
        have c99 : Go p e below S0 T98 (mkF m 184 #[.val (.int p0), .val (.int p1), .val (.int p2), .val (.int p3), .val (.int p4), .val (.int 2), .val (.int x5), .val (.int x7), .val (.int x9), .val (.int x11), .val (.ref b55), .val (.ref b80), .val (.int 1)] [(.int 1)]) := c98.trans (by
          refine XS.iload X98.here hx rfl (hb hby at_166) rfl ?_
          refine XS.ifYes X98.here hx rfl (pc0 := 168) (pc' := 175) rfl (hb hby at_168) rfl ((if0 _ _).trans (feq (by decide : ¬ ((1 : Int32) = (0 : Int32)))).2) (by decide) (by decide) ?_
          refine XS.iconst X98.here hx rfl (hb hby at_175) ?_
          refine XS.icmpNo X98.here hx rfl (hb hby at_176) rfl (teq (by rw [own_fin]; simp [own_anyb, own_i, (own_nz hc85)] : (own_i (!own_has [x5, x7] (44 : Int32) && !own_has [x5, x7] (10 : Int32) && !own_has [x5, x7] (13 : Int32))) = (0 : Int32))).2 ?_
          refine XS.iconst X98.here hx rfl (hb hby at_179) ?_
          refine XS.goto X98.here hx rfl (pc0 := 180) (pc' := 184) rfl (hb hby at_180) (by decide) (by decide) ?_
          exact .refl _)
        refine ⟨T98, s.vm, _, (some (.int (1 : Int32))), _, _, _, X98, by decide, by decide, (fun q => by cases q), N98, hS0, by rw [e98]; exact hk82, hZ, by rw [e98]; exact CR82, ?_, fun fs hr => ?_⟩
        · skip
          exact rfl
        · exact c99.trans (retN X98 hx (t := .boolean) hret (by simp) (hb hby at_184) hr)
  · skip
    have c101 : Go p e below S0 T11 (mkF m 37 #[.val (.int p0), .val (.int p1), .val (.int p2), .val (.int p3), .val (.int p4), .val (.int 3), .val (.int x5), .val (.int x7), .val (.int x9), .val (.int x11), .unset, .unset, .unset] [(.int 3)]) := by rw [← hn]; exact c12
    obtain ⟨T102, h102, k102, X102, e102, E102, A102, st102⟩ := newP X11 hx hZ (hw _ (List.mem_of_getElem? (i := 8) rfl)) e11 (g := (mkF m 37 #[.val (.int p0), .val (.int p1), .val (.int p2), .val (.int p3), .val (.int p4), .val (.int 3), .val (.int x5), .val (.int x7), .val (.int x9), .val (.int x11), .unset, .unset, .unset] [(.int 3)])) rfl (hb hby at_37) rfl (by decide) (cap := 3) (by decide) (by decide) (by decide) (by decide)
    obtain ⟨b102, g102⟩ : ∃ z, z = h0.size := ⟨_, rfl⟩
    rw [← g102] at A102 st102
    have lo102 : h0.size ≤ b102 := Nat.le_of_eq g102.symm
    have ge102 : Z.heap.size ≤ b102 := Nat.le_trans O0.2.1 lo102
    have R102 := CHr.ext (EL := EL) E102 CR0.1
    have sf102 := Safe.ext E102 CR0.1 (Safe.new lo102)
    have CR102 := CR0.trans R102
    have hk102 := Nat.le_trans hk0 R102.2.1
    have V102 := Arv.new A102 (by decide)
    have V102a : Arv Z h102 b102 k102 .char (3 : Int32) [(.int 0), (.int 0), (.int 0)] (.int (0 : Int32)) := V102.pad (pad_rep [] (.int (0 : Int32)) 3)
    obtain ⟨cl103, Ar103, q103, S103, M103, H103, G103⟩ := id V102a
    have hin103 : ¬ ((0 : Int32) < 0 ∨ cl103.slots.size ≤ ((0 : Int32)).toNatClampNeg) := inb_of S103 ⟨by decide, by decide⟩
    obtain ⟨T103, h103, X103, e103, W103, st103⟩ := stC X102 hx hZ e102 Ar103 (j := (0 : Int32)) hin103 (g := (mkF m 51 #[.val (.int p0), .val (.int p1), .val (.int p2), .val (.int p3), .val (.int p4), .val (.int 3), .val (.int x5), .val (.int x7), .val (.int x9), .val (.int x11), .val (.ref b102), .unset, .unset] [(.int x5), (.int 0), (.ref b102)])) rfl rfl (hb hby at_51)
    have V103 := Arv.set Ar103 q103 S103 M103 H103 G103 (fits_nar_char _) W103 0 rfl (Nat.le_of_ble_eq_true rfl)
    have N103 := Fr.snoc X103 N11 ge102
    have R103 := CHr.wr W103 sf102 CR102.1
    have CR103 := CR102.trans R103
    have hk103 := Nat.le_trans hk102 R103.2.1
    rw [hC5.nar] at V103
    have V103a : Arv Z h103 b102 k102 .char (3 : Int32) [(.int x5), (.int 0), (.int 0)] (.int (0 : Int32)) := V103
    obtain ⟨cl104, Ar104, q104, S104, M104, H104, G104⟩ := id V103a
    have hin104 : ¬ ((1 : Int32) < 0 ∨ cl104.slots.size ≤ ((1 : Int32)).toNatClampNeg) := inb_of S104 ⟨by decide, by decide⟩
    obtain ⟨T104, h104, X104, e104, W104, st104⟩ := stC X103 hx hZ e103 Ar104 (j := (1 : Int32)) hin104 (g := (mkF m 63 #[.val (.int p0), .val (.int p1), .val (.int p2), .val (.int p3), .val (.int p4), .val (.int 3), .val (.int x5), .val (.int x7), .val (.int x9), .val (.int x11), .val (.ref b102), .unset, .unset] [(.int x7), (.int 1), (.ref b102)])) rfl rfl (hb hby at_63)
    have V104 := Arv.set Ar104 q104 S104 M104 H104 G104 (fits_nar_char _) W104 1 rfl (Nat.le_of_ble_eq_true rfl)
    have N104 := Fr.snoc X104 N103 ge102
    have R104 := CHr.wr W104 (R103.safe V102.lt sf102) CR103.1
    have CR104 := CR103.trans R104
    have hk104 := Nat.le_trans hk103 R104.2.1
    rw [hC7.nar] at V104
    have V104a : Arv Z h104 b102 k102 .char (3 : Int32) [(.int x5), (.int x7), (.int 0)] (.int (0 : Int32)) := V104
    obtain ⟨cl105, Ar105, q105, S105, M105, H105, G105⟩ := id V104a
    have hin105 : ¬ ((2 : Int32) < 0 ∨ cl105.slots.size ≤ ((2 : Int32)).toNatClampNeg) := inb_of S105 ⟨by decide, by decide⟩
    obtain ⟨T105, h105, X105, e105, W105, st105⟩ := stC X104 hx hZ e104 Ar105 (j := (2 : Int32)) hin105 (g := (mkF m 75 #[.val (.int p0), .val (.int p1), .val (.int p2), .val (.int p3), .val (.int p4), .val (.int 3), .val (.int x5), .val (.int x7), .val (.int x9), .val (.int x11), .val (.ref b102), .unset, .unset] [(.int x9), (.int 2), (.ref b102)])) rfl rfl (hb hby at_75)
    have V105 := Arv.set Ar105 q105 S105 M105 H105 G105 (fits_nar_char _) W105 2 rfl (Nat.le_of_ble_eq_true rfl)
    have N105 := Fr.snoc X105 N104 ge102
    have R105 := CHr.wr W105 ((R103.trans R104).safe V102.lt sf102) CR104.1
    have CR105 := CR104.trans R105
    have hk105 := Nat.le_trans hk104 R105.2.1
    rw [hC9.nar] at V105
    have V105a : Arv Z h105 b102 k102 .char (3 : Int32) [(.int x5), (.int x7), (.int x9)] (.int (0 : Int32)) := V105
    have c106 : Go p e below S0 T105 (mkF m 88 #[.val (.int p0), .val (.int p1), .val (.int p2), .val (.int p3), .val (.int p4), .val (.int 3), .val (.int x5), .val (.int x7), .val (.int x9), .val (.int x11), .val (.ref b102), .unset, .unset] []) := c101.trans (by
      refine st102 _ ?_
      refine XS.astore X102.here hx rfl (hb hby at_39) rfl rfl (l' := #[.val (.int p0), .val (.int p1), .val (.int p2), .val (.int p3), .val (.int p4), .val (.int 3), .val (.int x5), .val (.int x7), .val (.int x9), .val (.int x11), .val (.ref b102), .unset, .unset]) rfl ?_
      refine XS.iload X102.here hx rfl (hb hby at_41) rfl ?_
      refine XS.ifNo X102.here hx rfl (hb hby at_43) rfl ((if0 _ _).trans (tlt (by decide : (0 : Int32) < (3 : Int32))).2.2.2) ?_
      refine XS.aload X102.here hx rfl (hb hby at_46) rfl rfl ?_
      refine XS.iconst X102.here hx rfl (hb hby at_48) ?_
      refine XS.iload X102.here hx rfl (hb hby at_49) rfl ?_
      refine st103 _ ?_
      show Steps p.tables e below (T103.setTop (mkF m 52 #[.val (.int p0), .val (.int p1), .val (.int p2), .val (.int p3), .val (.int p4), .val (.int 3), .val (.int x5), .val (.int x7), .val (.int x9), .val (.int x11), .val (.ref b102), .unset, .unset] [])) _
      refine XS.iload X103.here hx rfl (hb hby at_52) rfl ?_
      refine XS.iconst X103.here hx rfl (hb hby at_54) ?_
      refine XS.icmpNo X103.here hx rfl (hb hby at_55) rfl (tlt (by decide : (1 : Int32) < (3 : Int32))).2.2.2 ?_
      refine XS.aload X103.here hx rfl (hb hby at_58) rfl rfl ?_
      refine XS.iconst X103.here hx rfl (hb hby at_60) ?_
      refine XS.iload X103.here hx rfl (hb hby at_61) rfl ?_
      refine st104 _ ?_
      show Steps p.tables e below (T104.setTop (mkF m 64 #[.val (.int p0), .val (.int p1), .val (.int p2), .val (.int p3), .val (.int p4), .val (.int 3), .val (.int x5), .val (.int x7), .val (.int x9), .val (.int x11), .val (.ref b102), .unset, .unset] [])) _
      refine XS.iload X104.here hx rfl (hb hby at_64) rfl ?_
      refine XS.iconst X104.here hx rfl (hb hby at_66) ?_
      refine XS.icmpNo X104.here hx rfl (hb hby at_67) rfl (tlt (by decide : (2 : Int32) < (3 : Int32))).2.2.2 ?_
      refine XS.aload X104.here hx rfl (hb hby at_70) rfl rfl ?_
      refine XS.iconst X104.here hx rfl (hb hby at_72) ?_
      refine XS.iload X104.here hx rfl (hb hby at_73) rfl ?_
      refine st105 _ ?_
      show Steps p.tables e below (T105.setTop (mkF m 76 #[.val (.int p0), .val (.int p1), .val (.int p2), .val (.int p3), .val (.int p4), .val (.int 3), .val (.int x5), .val (.int x7), .val (.int x9), .val (.int x11), .val (.ref b102), .unset, .unset] [])) _
      refine XS.iload X105.here hx rfl (hb hby at_76) rfl ?_
      refine XS.iconst X105.here hx rfl (hb hby at_78) ?_
      refine XS.icmpYes X105.here hx rfl (pc0 := 79) (pc' := 88) rfl (hb hby at_79) rfl (flt (by decide : ¬ ((3 : Int32) < (3 : Int32)))).2.2.2 (by decide) (by decide) ?_
      exact .refl _)
    by_cases hall : ¬ (255 : Int32) < x5 ∧ ¬ (255 : Int32) < x7 ∧ ¬ (255 : Int32) < x9
    · skip
      obtain ⟨lx5, lx7, lx9⟩ := hall
      have hBx5 := (hC5).toB lx5
      have hBx7 := (hC7).toB lx7
      have hBx9 := (hC9).toB lx9
      obtain ⟨T107, h107, X107, e107, E107, A107, D107, -, st107⟩ := newO X105 hx hZ hown (gw hw 9 rfl) (gw hw 10 rfl) (gw hw 11 rfl) e105 (g := (mkF m 88 #[.val (.int p0), .val (.int p1), .val (.int p2), .val (.int p3), .val (.int p4), .val (.int 3), .val (.int x5), .val (.int x7), .val (.int x9), .val (.int x11), .val (.ref b102), .unset, .unset] [])) rfl (hb hby at_88) (by decide) (by decide)
      obtain ⟨b107, g107⟩ : ∃ z, z = h105.size := ⟨_, rfl⟩
      rw [← g107] at A107 D107 st107
      have lo107 : h105.size ≤ b107 := Nat.le_of_eq g107.symm
      have ge107 : Z.heap.size ≤ b107 := Nat.le_trans ((((O0.ext E102).wr W103 ge102).wr W104 ge102).wr W105 ge102).2.1 lo107
      have R107 := CHr.ext (EL := EL) E107 CR105.1
      have sf107 := Safe.ext E107 CR105.1 (Safe.new lo107)
      have CR107 := CR105.trans R107
      have hk107 := Nat.le_trans hk105 R107.2.1
      have F107_value : Fld Z h107 b107 "java/lang/String" "value" "[B" .null := D107 (Or.inr (gw hw 24 rfl)) (ty := (.array .byte)) (by decide)
      have F107_coder : Fld Z h107 b107 "java/lang/String" "coder" "B" (.int 0) := D107 (Or.inr (gw hw 25 rfl)) (ty := .byte) (by decide)
      have c108 : Go p e below S0 T107 (mkF m 94 #[.val (.int p0), .val (.int p1), .val (.int p2), .val (.int p3), .val (.int p4), .val (.int 3), .val (.int x5), .val (.int x7), .val (.int x9), .val (.int x11), .val (.ref b102), .unset, .unset] [(.ref b102), (.ref b107), (.ref b107)]) := c106.trans (by
        refine st107 _ ?_
        refine XS.dup X107.here hx rfl (hb hby at_91) rfl rfl ?_
        refine XS.aload X107.here hx rfl (hb hby at_92) rfl rfl ?_
        exact .refl _)
      obtain ⟨v109, T109, L109, X109, ⟨rfl, N109', K109, E109, Cd109, t109, kb109, gt109, lo109, ne109, V109, Kb109⟩, c109'⟩ := own_spec X107 hx hml hZ hown rfl (gw hw 12 rfl) (gw hw 13 rfl) (gw hw 14 rfl) (by decide) (Q := StrChars.Road.QV Z b107 (3 : Int32) (([x5, x7, x9] : List Int32).map (fun c : Int32 => c.toInt8.toInt32)) h107 Z.heap.size) (kc := 1) (ks := 3) (h := h107) (W := 1) (b := b107) (argsL := [(.ref b102)]) (rest := [(.ref b107)]) (StrChars.Road.backV (s := (s.setVm s.vm)) (R := room_1) (W := 1) hZ (own_wi hw) (kI := 4) (gw hw 10 rfl) (cs := [x5, x7, x9]) (bs := ([x5, x7, x9] : List Int32).map (fun c : Int32 => c.toInt8.toInt32)) (n := 3) ge107 (((((O0.ext E102).wr W103 ge102).wr W104 ge102).wr W105 ge102).ext E107).2.1 A107 F107_value F107_coder (V105a.ext E107) (SC.ext (((((O0.ext E102).wr W103 ge102).wr W104 ge102).wr W105 ge102).ext E107).2) hz rfl rfl (by decide) (by decide) (fun c hc => ((own_cons hBx5 (own_cons hBx7 (own_cons hBx9 own_nil))) c hc).rng) rfl (by decide) (by decide)) c108 (lenOf pd_19 rfl) rfl (hb hby at_94) e107
      have N109 := Fr.app N105 N109'
      have R109 := CHr.keep K109 (sfS sf107 sf0) CR107.1
      have CR109 := CR107.trans R109
      have hk109 := Nat.le_trans hk107 R109.2.1
      have c109 : Go p e below S0 T109 (mkF m 97 #[.val (.int p0), .val (.int p1), .val (.int p2), .val (.int p3), .val (.int p4), .val (.int 3), .val (.int x5), .val (.int x7), .val (.int x9), .val (.int x11), .val (.ref b102), .unset, .unset] [(.ref b107)]) := c109'
      have c110 : Go p e below S0 T109 (mkF m 106 #[.val (.int p0), .val (.int p1), .val (.int p2), .val (.int p3), .val (.int p4), .val (.int 3), .val (.int x5), .val (.int x7), .val (.int x9), .val (.int x11), .val (.ref b102), .val (.ref b107), .unset] [(.int x5)]) := c109.trans (by
        refine XS.astore X109.here hx rfl (hb hby at_97) rfl rfl (l' := #[.val (.int p0), .val (.int p1), .val (.int p2), .val (.int p3), .val (.int p4), .val (.int 3), .val (.int x5), .val (.int x7), .val (.int x9), .val (.int x11), .val (.ref b102), .val (.ref b107), .unset]) rfl ?_
        refine XS.iload X109.here hx rfl (hb hby at_99) rfl ?_
        refine XS.ifNo X109.here hx rfl (hb hby at_101) rfl ((if0 _ _).trans (tlt (by decide : (0 : Int32) < (3 : Int32))).2.2.2) ?_
        refine XS.iload X109.here hx rfl (hb hby at_104) rfl ?_
        exact .refl _)
      obtain ⟨v111, T111, L111, X111, ⟨N111', rfl, e111⟩, c111'⟩ := own_stat X109 hx hml hZ hown (gw hw 81 rfl) (gw hw 82 rfl) (gw hw 6 rfl) (gw hw 83 rfl) (by decide) (kc := 0) (ks := 0) (h := T109.heap) (W := 0) (argsL := [(.int x5)]) (rest := []) (own_pay (W := 0) (rmBad l Z a0 hw x5 T109.heap ((((((O0.ext E102).wr W103 ge102).wr W104 ge102).wr W105 ge102).ext E107).keep K109 (allS ge107 all0))) hZ (gw hw 83 rfl) (gw hw 6 rfl) (by decide) (by decide)) c110 (lenOf pd_21 rfl) rfl (hb hby at_106) rfl
      have N111 := Fr.app N109 N111'
      have c111 : Go p e below S0 T111 (mkF m 109 #[.val (.int p0), .val (.int p1), .val (.int p2), .val (.int p3), .val (.int p4), .val (.int 3), .val (.int x5), .val (.int x7), .val (.int x9), .val (.int x11), .val (.ref b102), .val (.ref b107), .unset] [(.int (own_i (own_bad x5)))]) := c111'
      by_cases hc112 : (own_i (own_bad x5)) = (0 : Int32)
      · skip
        have c113 : Go p e below S0 T111 (mkF m 120 #[.val (.int p0), .val (.int p1), .val (.int p2), .val (.int p3), .val (.int p4), .val (.int 3), .val (.int x5), .val (.int x7), .val (.int x9), .val (.int x11), .val (.ref b102), .val (.ref b107), .unset] [(.int x7)]) := c111.trans (by
          refine XS.ifNo X111.here hx rfl (hb hby at_109) rfl ((if0 _ _).trans (teq hc112).2) ?_
          refine XS.iload X111.here hx rfl (hb hby at_112) rfl ?_
          refine XS.iconst X111.here hx rfl (hb hby at_114) ?_
          refine XS.icmpNo X111.here hx rfl (hb hby at_115) rfl (tlt (by decide : (1 : Int32) < (3 : Int32))).2.2.2 ?_
          refine XS.iload X111.here hx rfl (hb hby at_118) rfl ?_
          exact .refl _)
        obtain ⟨v114, T114, L114, X114, ⟨N114', rfl, e114⟩, c114'⟩ := own_stat X111 hx hml hZ hown (gw hw 81 rfl) (gw hw 82 rfl) (gw hw 6 rfl) (gw hw 83 rfl) (by decide) (kc := 0) (ks := 0) (h := T109.heap) (W := 0) (argsL := [(.int x7)]) (rest := []) (own_pay (W := 0) (rmBad l Z a0 hw x7 T109.heap ((((((O0.ext E102).wr W103 ge102).wr W104 ge102).wr W105 ge102).ext E107).keep K109 (allS ge107 all0))) hZ (gw hw 83 rfl) (gw hw 6 rfl) (by decide) (by decide)) c113 (lenOf pd_21 rfl) rfl (hb hby at_120) e111
        have N114 := Fr.app N111 N114'
        have c114 : Go p e below S0 T114 (mkF m 123 #[.val (.int p0), .val (.int p1), .val (.int p2), .val (.int p3), .val (.int p4), .val (.int 3), .val (.int x5), .val (.int x7), .val (.int x9), .val (.int x11), .val (.ref b102), .val (.ref b107), .unset] [(.int (own_i (own_bad x7)))]) := c114'
        by_cases hc115 : (own_i (own_bad x7)) = (0 : Int32)
        · skip
          have c116 : Go p e below S0 T114 (mkF m 134 #[.val (.int p0), .val (.int p1), .val (.int p2), .val (.int p3), .val (.int p4), .val (.int 3), .val (.int x5), .val (.int x7), .val (.int x9), .val (.int x11), .val (.ref b102), .val (.ref b107), .unset] [(.int x9)]) := c114.trans (by
            refine XS.ifNo X114.here hx rfl (hb hby at_123) rfl ((if0 _ _).trans (teq hc115).2) ?_
            refine XS.iload X114.here hx rfl (hb hby at_126) rfl ?_
            refine XS.iconst X114.here hx rfl (hb hby at_128) ?_
            refine XS.icmpNo X114.here hx rfl (hb hby at_129) rfl (tlt (by decide : (2 : Int32) < (3 : Int32))).2.2.2 ?_
            refine XS.iload X114.here hx rfl (hb hby at_132) rfl ?_
            exact .refl _)
          obtain ⟨v117, T117, L117, X117, ⟨N117', rfl, e117⟩, c117'⟩ := own_stat X114 hx hml hZ hown (gw hw 81 rfl) (gw hw 82 rfl) (gw hw 6 rfl) (gw hw 83 rfl) (by decide) (kc := 0) (ks := 0) (h := T109.heap) (W := 0) (argsL := [(.int x9)]) (rest := []) (own_pay (W := 0) (rmBad l Z a0 hw x9 T109.heap ((((((O0.ext E102).wr W103 ge102).wr W104 ge102).wr W105 ge102).ext E107).keep K109 (allS ge107 all0))) hZ (gw hw 83 rfl) (gw hw 6 rfl) (by decide) (by decide)) c116 (lenOf pd_21 rfl) rfl (hb hby at_134) e114
          have N117 := Fr.app N114 N117'
          have c117 : Go p e below S0 T117 (mkF m 137 #[.val (.int p0), .val (.int p1), .val (.int p2), .val (.int p3), .val (.int p4), .val (.int 3), .val (.int x5), .val (.int x7), .val (.int x9), .val (.int x11), .val (.ref b102), .val (.ref b107), .unset] [(.int (own_i (own_bad x9)))]) := c117'
          by_cases hc118 : (own_i (own_bad x9)) = (0 : Int32)
          · skip
            have c119 : Go p e below S0 T117 (mkF m 163 #[.val (.int p0), .val (.int p1), .val (.int p2), .val (.int p3), .val (.int p4), .val (.int 3), .val (.int x5), .val (.int x7), .val (.int x9), .val (.int x11), .val (.ref b102), .val (.ref b107), .val (.int 0)] [(.ref b107)]) := c117.trans (by
              refine XS.ifNo X117.here hx rfl (hb hby at_137) rfl ((if0 _ _).trans (teq hc118).2) ?_
              refine XS.iload X117.here hx rfl (hb hby at_140) rfl ?_
              refine XS.iconst X117.here hx rfl (hb hby at_142) ?_
              refine XS.icmpYes X117.here hx rfl (pc0 := 143) (pc' := 158) rfl (hb hby at_143) rfl (flt (by decide : ¬ ((3 : Int32) < (3 : Int32)))).2.2.2 (by decide) (by decide) ?_
              refine XS.iconst X117.here hx rfl (hb hby at_158) ?_
              refine XS.istore X117.here hx rfl (hb hby at_159) rfl (l' := #[.val (.int p0), .val (.int p1), .val (.int p2), .val (.int p3), .val (.int p4), .val (.int 3), .val (.int x5), .val (.int x7), .val (.int x9), .val (.int x11), .val (.ref b102), .val (.ref b107), .val (.int 0)]) rfl ?_
              refine XS.aload X117.here hx rfl (hb hby at_161) rfl rfl ?_
              exact .refl _)
            obtain ⟨v120, T120, L120, X120, ⟨N120', rfl, e120⟩, c120'⟩ := own_stat X117 hx hml hZ hown (gw hw 30 rfl) (gw hw 31 rfl) (gw hw 32 rfl) (gw hw 33 rfl) (by decide) (kc := 0) (ks := 0) (h := T109.heap) (W := 0) (argsL := [(.ref b107)]) (rest := []) (own_pay (W := 0) (rmFitL3 l Z a0 hw b107 t109 kb109 x5 x7 x9 z fm T109.heap ((((((O0.ext E102).wr W103 ge102).wr W104 ge102).wr W105 ge102).ext E107).keep K109 (allS ge107 all0)) E109 V109 Cd109 Kb109 hBx5 hBx7 hBx9 hs) hZ (gw hw 33 rfl) (gw hw 32 rfl) (by decide) (by decide)) c119 (lenOf pd_20 rfl) rfl (hb hby at_163) e117
            have N120 := Fr.app N117 N120'
            have c120 : Go p e below S0 T120 (mkF m 166 #[.val (.int p0), .val (.int p1), .val (.int p2), .val (.int p3), .val (.int p4), .val (.int 3), .val (.int x5), .val (.int x7), .val (.int x9), .val (.int x11), .val (.ref b102), .val (.ref b107), .val (.int 0)] [(.int (own_i (!own_has [x5, x7, x9] (44 : Int32) && !own_has [x5, x7, x9] (10 : Int32) && !own_has [x5, x7, x9] (13 : Int32))))]) := c120'
            have c121 : Go p e below S0 T120 (mkF m 184 #[.val (.int p0), .val (.int p1), .val (.int p2), .val (.int p3), .val (.int p4), .val (.int 3), .val (.int x5), .val (.int x7), .val (.int x9), .val (.int x11), .val (.ref b102), .val (.ref b107), .val (.int 0)] [(.int 1)]) := c120.trans (by
              refine XS.iload X120.here hx rfl (hb hby at_166) rfl ?_
              refine XS.ifNo X120.here hx rfl (hb hby at_168) rfl ((if0 _ _).trans (teq (by decide : (0 : Int32) = (0 : Int32))).2) ?_
              refine XS.iconst X120.here hx rfl (hb hby at_171) ?_
              refine XS.goto X120.here hx rfl (pc0 := 172) (pc' := 176) rfl (hb hby at_172) (by decide) (by decide) ?_
              refine XS.icmpNo X120.here hx rfl (hb hby at_176) rfl (teq (by rw [own_fin]; simp [own_anyb, own_i, ((own_i0 _).mp hc112), ((own_i0 _).mp hc115), ((own_i0 _).mp hc118)] : (own_i (!own_has [x5, x7, x9] (44 : Int32) && !own_has [x5, x7, x9] (10 : Int32) && !own_has [x5, x7, x9] (13 : Int32))) = (1 : Int32))).2 ?_
              refine XS.iconst X120.here hx rfl (hb hby at_179) ?_
              refine XS.goto X120.here hx rfl (pc0 := 180) (pc' := 184) rfl (hb hby at_180) (by decide) (by decide) ?_
              exact .refl _)
            refine ⟨T120, s.vm, _, (some (.int (1 : Int32))), _, _, _, X120, by decide, by decide, (fun q => by cases q), N120, hS0, by rw [e120]; exact hk109, hZ, by rw [e120]; exact CR109, ?_, fun fs hr => ?_⟩
            · skip
              exact rfl
            · exact c121.trans (retN X120 hx (t := .boolean) hret (by simp) (hb hby at_184) hr)
          · skip
            have c123 : Go p e below S0 T117 (mkF m 163 #[.val (.int p0), .val (.int p1), .val (.int p2), .val (.int p3), .val (.int p4), .val (.int 3), .val (.int x5), .val (.int x7), .val (.int x9), .val (.int x11), .val (.ref b102), .val (.ref b107), .val (.int 1)] [(.ref b107)]) := c117.trans (by
              refine XS.ifYes X117.here hx rfl (pc0 := 137) (pc' := 154) rfl (hb hby at_137) rfl ((if0 _ _).trans (feq hc118).2) (by decide) (by decide) ?_
              refine XS.iconst X117.here hx rfl (hb hby at_154) ?_
              refine XS.goto X117.here hx rfl (pc0 := 155) (pc' := 159) rfl (hb hby at_155) (by decide) (by decide) ?_
              refine XS.istore X117.here hx rfl (hb hby at_159) rfl (l' := #[.val (.int p0), .val (.int p1), .val (.int p2), .val (.int p3), .val (.int p4), .val (.int 3), .val (.int x5), .val (.int x7), .val (.int x9), .val (.int x11), .val (.ref b102), .val (.ref b107), .val (.int 1)]) rfl ?_
              refine XS.aload X117.here hx rfl (hb hby at_161) rfl rfl ?_
              exact .refl _)
            obtain ⟨v124, T124, L124, X124, ⟨N124', rfl, e124⟩, c124'⟩ := own_stat X117 hx hml hZ hown (gw hw 30 rfl) (gw hw 31 rfl) (gw hw 32 rfl) (gw hw 33 rfl) (by decide) (kc := 0) (ks := 0) (h := T109.heap) (W := 0) (argsL := [(.ref b107)]) (rest := []) (own_pay (W := 0) (rmFitL3 l Z a0 hw b107 t109 kb109 x5 x7 x9 z fm T109.heap ((((((O0.ext E102).wr W103 ge102).wr W104 ge102).wr W105 ge102).ext E107).keep K109 (allS ge107 all0)) E109 V109 Cd109 Kb109 hBx5 hBx7 hBx9 hs) hZ (gw hw 33 rfl) (gw hw 32 rfl) (by decide) (by decide)) c123 (lenOf pd_20 rfl) rfl (hb hby at_163) e117
            have N124 := Fr.app N117 N124'
            have c124 : Go p e below S0 T124 (mkF m 166 #[.val (.int p0), .val (.int p1), .val (.int p2), .val (.int p3), .val (.int p4), .val (.int 3), .val (.int x5), .val (.int x7), .val (.int x9), .val (.int x11), .val (.ref b102), .val (.ref b107), .val (.int 1)] [(.int (own_i (!own_has [x5, x7, x9] (44 : Int32) && !own_has [x5, x7, x9] (10 : Int32) && !own_has [x5, x7, x9] (13 : Int32))))]) := c124'
            have c125 : Go p e below S0 T124 (mkF m 184 #[.val (.int p0), .val (.int p1), .val (.int p2), .val (.int p3), .val (.int p4), .val (.int 3), .val (.int x5), .val (.int x7), .val (.int x9), .val (.int x11), .val (.ref b102), .val (.ref b107), .val (.int 1)] [(.int 1)]) := c124.trans (by
              refine XS.iload X124.here hx rfl (hb hby at_166) rfl ?_
              refine XS.ifYes X124.here hx rfl (pc0 := 168) (pc' := 175) rfl (hb hby at_168) rfl ((if0 _ _).trans (feq (by decide : ¬ ((1 : Int32) = (0 : Int32)))).2) (by decide) (by decide) ?_
              refine XS.iconst X124.here hx rfl (hb hby at_175) ?_
              refine XS.icmpNo X124.here hx rfl (hb hby at_176) rfl (teq (by rw [own_fin]; simp [own_anyb, own_i, ((own_i0 _).mp hc112), ((own_i0 _).mp hc115), (own_nz hc118)] : (own_i (!own_has [x5, x7, x9] (44 : Int32) && !own_has [x5, x7, x9] (10 : Int32) && !own_has [x5, x7, x9] (13 : Int32))) = (0 : Int32))).2 ?_
              refine XS.iconst X124.here hx rfl (hb hby at_179) ?_
              refine XS.goto X124.here hx rfl (pc0 := 180) (pc' := 184) rfl (hb hby at_180) (by decide) (by decide) ?_
              exact .refl _)
            refine ⟨T124, s.vm, _, (some (.int (1 : Int32))), _, _, _, X124, by decide, by decide, (fun q => by cases q), N124, hS0, by rw [e124]; exact hk109, hZ, by rw [e124]; exact CR109, ?_, fun fs hr => ?_⟩
            · skip
              exact rfl
            · exact c125.trans (retN X124 hx (t := .boolean) hret (by simp) (hb hby at_184) hr)
        · skip
          have c127 : Go p e below S0 T114 (mkF m 163 #[.val (.int p0), .val (.int p1), .val (.int p2), .val (.int p3), .val (.int p4), .val (.int 3), .val (.int x5), .val (.int x7), .val (.int x9), .val (.int x11), .val (.ref b102), .val (.ref b107), .val (.int 1)] [(.ref b107)]) := c114.trans (by
            refine XS.ifYes X114.here hx rfl (pc0 := 123) (pc' := 154) rfl (hb hby at_123) rfl ((if0 _ _).trans (feq hc115).2) (by decide) (by decide) ?_
            refine XS.iconst X114.here hx rfl (hb hby at_154) ?_
            refine XS.goto X114.here hx rfl (pc0 := 155) (pc' := 159) rfl (hb hby at_155) (by decide) (by decide) ?_
            refine XS.istore X114.here hx rfl (hb hby at_159) rfl (l' := #[.val (.int p0), .val (.int p1), .val (.int p2), .val (.int p3), .val (.int p4), .val (.int 3), .val (.int x5), .val (.int x7), .val (.int x9), .val (.int x11), .val (.ref b102), .val (.ref b107), .val (.int 1)]) rfl ?_
            refine XS.aload X114.here hx rfl (hb hby at_161) rfl rfl ?_
            exact .refl _)
          obtain ⟨v128, T128, L128, X128, ⟨N128', rfl, e128⟩, c128'⟩ := own_stat X114 hx hml hZ hown (gw hw 30 rfl) (gw hw 31 rfl) (gw hw 32 rfl) (gw hw 33 rfl) (by decide) (kc := 0) (ks := 0) (h := T109.heap) (W := 0) (argsL := [(.ref b107)]) (rest := []) (own_pay (W := 0) (rmFitL3 l Z a0 hw b107 t109 kb109 x5 x7 x9 z fm T109.heap ((((((O0.ext E102).wr W103 ge102).wr W104 ge102).wr W105 ge102).ext E107).keep K109 (allS ge107 all0)) E109 V109 Cd109 Kb109 hBx5 hBx7 hBx9 hs) hZ (gw hw 33 rfl) (gw hw 32 rfl) (by decide) (by decide)) c127 (lenOf pd_20 rfl) rfl (hb hby at_163) e114
          have N128 := Fr.app N114 N128'
          have c128 : Go p e below S0 T128 (mkF m 166 #[.val (.int p0), .val (.int p1), .val (.int p2), .val (.int p3), .val (.int p4), .val (.int 3), .val (.int x5), .val (.int x7), .val (.int x9), .val (.int x11), .val (.ref b102), .val (.ref b107), .val (.int 1)] [(.int (own_i (!own_has [x5, x7, x9] (44 : Int32) && !own_has [x5, x7, x9] (10 : Int32) && !own_has [x5, x7, x9] (13 : Int32))))]) := c128'
          have c129 : Go p e below S0 T128 (mkF m 184 #[.val (.int p0), .val (.int p1), .val (.int p2), .val (.int p3), .val (.int p4), .val (.int 3), .val (.int x5), .val (.int x7), .val (.int x9), .val (.int x11), .val (.ref b102), .val (.ref b107), .val (.int 1)] [(.int 1)]) := c128.trans (by
            refine XS.iload X128.here hx rfl (hb hby at_166) rfl ?_
            refine XS.ifYes X128.here hx rfl (pc0 := 168) (pc' := 175) rfl (hb hby at_168) rfl ((if0 _ _).trans (feq (by decide : ¬ ((1 : Int32) = (0 : Int32)))).2) (by decide) (by decide) ?_
            refine XS.iconst X128.here hx rfl (hb hby at_175) ?_
            refine XS.icmpNo X128.here hx rfl (hb hby at_176) rfl (teq (by rw [own_fin]; simp [own_anyb, own_i, ((own_i0 _).mp hc112), (own_nz hc115)] : (own_i (!own_has [x5, x7, x9] (44 : Int32) && !own_has [x5, x7, x9] (10 : Int32) && !own_has [x5, x7, x9] (13 : Int32))) = (0 : Int32))).2 ?_
            refine XS.iconst X128.here hx rfl (hb hby at_179) ?_
            refine XS.goto X128.here hx rfl (pc0 := 180) (pc' := 184) rfl (hb hby at_180) (by decide) (by decide) ?_
            exact .refl _)
          refine ⟨T128, s.vm, _, (some (.int (1 : Int32))), _, _, _, X128, by decide, by decide, (fun q => by cases q), N128, hS0, by rw [e128]; exact hk109, hZ, by rw [e128]; exact CR109, ?_, fun fs hr => ?_⟩
          · skip
            exact rfl
          · exact c129.trans (retN X128 hx (t := .boolean) hret (by simp) (hb hby at_184) hr)
      · skip
        have c131 : Go p e below S0 T111 (mkF m 163 #[.val (.int p0), .val (.int p1), .val (.int p2), .val (.int p3), .val (.int p4), .val (.int 3), .val (.int x5), .val (.int x7), .val (.int x9), .val (.int x11), .val (.ref b102), .val (.ref b107), .val (.int 1)] [(.ref b107)]) := c111.trans (by
          refine XS.ifYes X111.here hx rfl (pc0 := 109) (pc' := 154) rfl (hb hby at_109) rfl ((if0 _ _).trans (feq hc112).2) (by decide) (by decide) ?_
          refine XS.iconst X111.here hx rfl (hb hby at_154) ?_
          refine XS.goto X111.here hx rfl (pc0 := 155) (pc' := 159) rfl (hb hby at_155) (by decide) (by decide) ?_
          refine XS.istore X111.here hx rfl (hb hby at_159) rfl (l' := #[.val (.int p0), .val (.int p1), .val (.int p2), .val (.int p3), .val (.int p4), .val (.int 3), .val (.int x5), .val (.int x7), .val (.int x9), .val (.int x11), .val (.ref b102), .val (.ref b107), .val (.int 1)]) rfl ?_
          refine XS.aload X111.here hx rfl (hb hby at_161) rfl rfl ?_
          exact .refl _)
        obtain ⟨v132, T132, L132, X132, ⟨N132', rfl, e132⟩, c132'⟩ := own_stat X111 hx hml hZ hown (gw hw 30 rfl) (gw hw 31 rfl) (gw hw 32 rfl) (gw hw 33 rfl) (by decide) (kc := 0) (ks := 0) (h := T109.heap) (W := 0) (argsL := [(.ref b107)]) (rest := []) (own_pay (W := 0) (rmFitL3 l Z a0 hw b107 t109 kb109 x5 x7 x9 z fm T109.heap ((((((O0.ext E102).wr W103 ge102).wr W104 ge102).wr W105 ge102).ext E107).keep K109 (allS ge107 all0)) E109 V109 Cd109 Kb109 hBx5 hBx7 hBx9 hs) hZ (gw hw 33 rfl) (gw hw 32 rfl) (by decide) (by decide)) c131 (lenOf pd_20 rfl) rfl (hb hby at_163) e111
        have N132 := Fr.app N111 N132'
        have c132 : Go p e below S0 T132 (mkF m 166 #[.val (.int p0), .val (.int p1), .val (.int p2), .val (.int p3), .val (.int p4), .val (.int 3), .val (.int x5), .val (.int x7), .val (.int x9), .val (.int x11), .val (.ref b102), .val (.ref b107), .val (.int 1)] [(.int (own_i (!own_has [x5, x7, x9] (44 : Int32) && !own_has [x5, x7, x9] (10 : Int32) && !own_has [x5, x7, x9] (13 : Int32))))]) := c132'
        have c133 : Go p e below S0 T132 (mkF m 184 #[.val (.int p0), .val (.int p1), .val (.int p2), .val (.int p3), .val (.int p4), .val (.int 3), .val (.int x5), .val (.int x7), .val (.int x9), .val (.int x11), .val (.ref b102), .val (.ref b107), .val (.int 1)] [(.int 1)]) := c132.trans (by
          refine XS.iload X132.here hx rfl (hb hby at_166) rfl ?_
          refine XS.ifYes X132.here hx rfl (pc0 := 168) (pc' := 175) rfl (hb hby at_168) rfl ((if0 _ _).trans (feq (by decide : ¬ ((1 : Int32) = (0 : Int32)))).2) (by decide) (by decide) ?_
          refine XS.iconst X132.here hx rfl (hb hby at_175) ?_
          refine XS.icmpNo X132.here hx rfl (hb hby at_176) rfl (teq (by rw [own_fin]; simp [own_anyb, own_i, (own_nz hc112)] : (own_i (!own_has [x5, x7, x9] (44 : Int32) && !own_has [x5, x7, x9] (10 : Int32) && !own_has [x5, x7, x9] (13 : Int32))) = (0 : Int32))).2 ?_
          refine XS.iconst X132.here hx rfl (hb hby at_179) ?_
          refine XS.goto X132.here hx rfl (pc0 := 180) (pc' := 184) rfl (hb hby at_180) (by decide) (by decide) ?_
          exact .refl _)
        refine ⟨T132, s.vm, _, (some (.int (1 : Int32))), _, _, _, X132, by decide, by decide, (fun q => by cases q), N132, hS0, by rw [e132]; exact hk109, hZ, by rw [e132]; exact CR109, ?_, fun fs hr => ?_⟩
        · skip
          exact rfl
        · exact c133.trans (retN X132 hx (t := .boolean) hret (by simp) (hb hby at_184) hr)
    · skip
      obtain ⟨T135, h135, X135, e135, E135, A135, D135, -, st135⟩ := newO X105 hx hZ hown (gw hw 9 rfl) (gw hw 10 rfl) (gw hw 11 rfl) e105 (g := (mkF m 88 #[.val (.int p0), .val (.int p1), .val (.int p2), .val (.int p3), .val (.int p4), .val (.int 3), .val (.int x5), .val (.int x7), .val (.int x9), .val (.int x11), .val (.ref b102), .unset, .unset] [])) rfl (hb hby at_88) (by decide) (by decide)
      obtain ⟨b135, g135⟩ : ∃ z, z = h105.size := ⟨_, rfl⟩
      rw [← g135] at A135 D135 st135
      have lo135 : h105.size ≤ b135 := Nat.le_of_eq g135.symm
      have ge135 : Z.heap.size ≤ b135 := Nat.le_trans ((((O0.ext E102).wr W103 ge102).wr W104 ge102).wr W105 ge102).2.1 lo135
      have R135 := CHr.ext (EL := EL) E135 CR105.1
      have sf135 := Safe.ext E135 CR105.1 (Safe.new lo135)
      have CR135 := CR105.trans R135
      have hk135 := Nat.le_trans hk105 R135.2.1
      have F135_value : Fld Z h135 b135 "java/lang/String" "value" "[B" .null := D135 (Or.inr (gw hw 24 rfl)) (ty := (.array .byte)) (by decide)
      have F135_coder : Fld Z h135 b135 "java/lang/String" "coder" "B" (.int 0) := D135 (Or.inr (gw hw 25 rfl)) (ty := .byte) (by decide)
      have c136 : Go p e below S0 T135 (mkF m 94 #[.val (.int p0), .val (.int p1), .val (.int p2), .val (.int p3), .val (.int p4), .val (.int 3), .val (.int x5), .val (.int x7), .val (.int x9), .val (.int x11), .val (.ref b102), .unset, .unset] [(.ref b102), (.ref b135), (.ref b135)]) := c106.trans (by
        refine st135 _ ?_
        refine XS.dup X135.here hx rfl (hb hby at_91) rfl rfl ?_
        refine XS.aload X135.here hx rfl (hb hby at_92) rfl rfl ?_
        exact .refl _)
      obtain ⟨v137, T137, L137, X137, ⟨N137', rfl, K137, E137, Cd137, t137, kt137, lo137, V137, Kt137⟩, c137'⟩ := own_spec X135 hx hml hZ hown rfl (gw hw 12 rfl) (gw hw 13 rfl) (gw hw 14 rfl) (by decide) (kc := 2) (ks := 9) (h := h135) (W := 1) (b := b135) (argsL := [(.ref b102)]) (rest := [(.ref b135)]) (own_pay (W := 1) (rmUI1_3 l Z a0 hw b135 b102 k102 _ _ x5 x7 x9 z fm h135 (((((O0.ext E102).wr W103 ge102).wr W104 ge102).wr W105 ge102).ext E135) A135 F135_value F135_coder ge135 (V105a.ext E135) hC5 hC7 hC9 hall hs) hZ (gw hw 14 rfl) (gw hw 11 rfl) (by decide) (by decide)) c136 (lenOf pd_19 rfl) rfl (hb hby at_94) e135
      have N137 := Fr.app N105 N137'
      have R137 := CHr.keep K137 (sfS sf135 sf0) CR135.1
      have CR137 := CR135.trans R137
      have hk137 := Nat.le_trans hk135 R137.2.1
      have c137 : Go p e below S0 T137 (mkF m 97 #[.val (.int p0), .val (.int p1), .val (.int p2), .val (.int p3), .val (.int p4), .val (.int 3), .val (.int x5), .val (.int x7), .val (.int x9), .val (.int x11), .val (.ref b102), .unset, .unset] [(.ref b135)]) := c137'
      have c138 : Go p e below S0 T137 (mkF m 106 #[.val (.int p0), .val (.int p1), .val (.int p2), .val (.int p3), .val (.int p4), .val (.int 3), .val (.int x5), .val (.int x7), .val (.int x9), .val (.int x11), .val (.ref b102), .val (.ref b135), .unset] [(.int x5)]) := c137.trans (by
        refine XS.astore X137.here hx rfl (hb hby at_97) rfl rfl (l' := #[.val (.int p0), .val (.int p1), .val (.int p2), .val (.int p3), .val (.int p4), .val (.int 3), .val (.int x5), .val (.int x7), .val (.int x9), .val (.int x11), .val (.ref b102), .val (.ref b135), .unset]) rfl ?_
        refine XS.iload X137.here hx rfl (hb hby at_99) rfl ?_
        refine XS.ifNo X137.here hx rfl (hb hby at_101) rfl ((if0 _ _).trans (tlt (by decide : (0 : Int32) < (3 : Int32))).2.2.2) ?_
        refine XS.iload X137.here hx rfl (hb hby at_104) rfl ?_
        exact .refl _)
      obtain ⟨v139, T139, L139, X139, ⟨N139', rfl, e139⟩, c139'⟩ := own_stat X137 hx hml hZ hown (gw hw 81 rfl) (gw hw 82 rfl) (gw hw 6 rfl) (gw hw 83 rfl) (by decide) (kc := 0) (ks := 0) (h := T137.heap) (W := 0) (argsL := [(.int x5)]) (rest := []) (own_pay (W := 0) (rmBad l Z a0 hw x5 T137.heap ((((((O0.ext E102).wr W103 ge102).wr W104 ge102).wr W105 ge102).ext E135).keep K137 (allS ge135 all0))) hZ (gw hw 83 rfl) (gw hw 6 rfl) (by decide) (by decide)) c138 (lenOf pd_21 rfl) rfl (hb hby at_106) rfl
      have N139 := Fr.app N137 N139'
      have c139 : Go p e below S0 T139 (mkF m 109 #[.val (.int p0), .val (.int p1), .val (.int p2), .val (.int p3), .val (.int p4), .val (.int 3), .val (.int x5), .val (.int x7), .val (.int x9), .val (.int x11), .val (.ref b102), .val (.ref b135), .unset] [(.int (own_i (own_bad x5)))]) := c139'
      by_cases hc140 : (own_i (own_bad x5)) = (0 : Int32)
      · skip
        have c141 : Go p e below S0 T139 (mkF m 120 #[.val (.int p0), .val (.int p1), .val (.int p2), .val (.int p3), .val (.int p4), .val (.int 3), .val (.int x5), .val (.int x7), .val (.int x9), .val (.int x11), .val (.ref b102), .val (.ref b135), .unset] [(.int x7)]) := c139.trans (by
          refine XS.ifNo X139.here hx rfl (hb hby at_109) rfl ((if0 _ _).trans (teq hc140).2) ?_
          refine XS.iload X139.here hx rfl (hb hby at_112) rfl ?_
          refine XS.iconst X139.here hx rfl (hb hby at_114) ?_
          refine XS.icmpNo X139.here hx rfl (hb hby at_115) rfl (tlt (by decide : (1 : Int32) < (3 : Int32))).2.2.2 ?_
          refine XS.iload X139.here hx rfl (hb hby at_118) rfl ?_
          exact .refl _)
        obtain ⟨v142, T142, L142, X142, ⟨N142', rfl, e142⟩, c142'⟩ := own_stat X139 hx hml hZ hown (gw hw 81 rfl) (gw hw 82 rfl) (gw hw 6 rfl) (gw hw 83 rfl) (by decide) (kc := 0) (ks := 0) (h := T137.heap) (W := 0) (argsL := [(.int x7)]) (rest := []) (own_pay (W := 0) (rmBad l Z a0 hw x7 T137.heap ((((((O0.ext E102).wr W103 ge102).wr W104 ge102).wr W105 ge102).ext E135).keep K137 (allS ge135 all0))) hZ (gw hw 83 rfl) (gw hw 6 rfl) (by decide) (by decide)) c141 (lenOf pd_21 rfl) rfl (hb hby at_120) e139
        have N142 := Fr.app N139 N142'
        have c142 : Go p e below S0 T142 (mkF m 123 #[.val (.int p0), .val (.int p1), .val (.int p2), .val (.int p3), .val (.int p4), .val (.int 3), .val (.int x5), .val (.int x7), .val (.int x9), .val (.int x11), .val (.ref b102), .val (.ref b135), .unset] [(.int (own_i (own_bad x7)))]) := c142'
        by_cases hc143 : (own_i (own_bad x7)) = (0 : Int32)
        · skip
          have c144 : Go p e below S0 T142 (mkF m 134 #[.val (.int p0), .val (.int p1), .val (.int p2), .val (.int p3), .val (.int p4), .val (.int 3), .val (.int x5), .val (.int x7), .val (.int x9), .val (.int x11), .val (.ref b102), .val (.ref b135), .unset] [(.int x9)]) := c142.trans (by
            refine XS.ifNo X142.here hx rfl (hb hby at_123) rfl ((if0 _ _).trans (teq hc143).2) ?_
            refine XS.iload X142.here hx rfl (hb hby at_126) rfl ?_
            refine XS.iconst X142.here hx rfl (hb hby at_128) ?_
            refine XS.icmpNo X142.here hx rfl (hb hby at_129) rfl (tlt (by decide : (2 : Int32) < (3 : Int32))).2.2.2 ?_
            refine XS.iload X142.here hx rfl (hb hby at_132) rfl ?_
            exact .refl _)
          obtain ⟨v145, T145, L145, X145, ⟨N145', rfl, e145⟩, c145'⟩ := own_stat X142 hx hml hZ hown (gw hw 81 rfl) (gw hw 82 rfl) (gw hw 6 rfl) (gw hw 83 rfl) (by decide) (kc := 0) (ks := 0) (h := T137.heap) (W := 0) (argsL := [(.int x9)]) (rest := []) (own_pay (W := 0) (rmBad l Z a0 hw x9 T137.heap ((((((O0.ext E102).wr W103 ge102).wr W104 ge102).wr W105 ge102).ext E135).keep K137 (allS ge135 all0))) hZ (gw hw 83 rfl) (gw hw 6 rfl) (by decide) (by decide)) c144 (lenOf pd_21 rfl) rfl (hb hby at_134) e142
          have N145 := Fr.app N142 N145'
          have c145 : Go p e below S0 T145 (mkF m 137 #[.val (.int p0), .val (.int p1), .val (.int p2), .val (.int p3), .val (.int p4), .val (.int 3), .val (.int x5), .val (.int x7), .val (.int x9), .val (.int x11), .val (.ref b102), .val (.ref b135), .unset] [(.int (own_i (own_bad x9)))]) := c145'
          by_cases hc146 : (own_i (own_bad x9)) = (0 : Int32)
          · skip
            have c147 : Go p e below S0 T145 (mkF m 163 #[.val (.int p0), .val (.int p1), .val (.int p2), .val (.int p3), .val (.int p4), .val (.int 3), .val (.int x5), .val (.int x7), .val (.int x9), .val (.int x11), .val (.ref b102), .val (.ref b135), .val (.int 0)] [(.ref b135)]) := c145.trans (by
              refine XS.ifNo X145.here hx rfl (hb hby at_137) rfl ((if0 _ _).trans (teq hc146).2) ?_
              refine XS.iload X145.here hx rfl (hb hby at_140) rfl ?_
              refine XS.iconst X145.here hx rfl (hb hby at_142) ?_
              refine XS.icmpYes X145.here hx rfl (pc0 := 143) (pc' := 158) rfl (hb hby at_143) rfl (flt (by decide : ¬ ((3 : Int32) < (3 : Int32)))).2.2.2 (by decide) (by decide) ?_
              refine XS.iconst X145.here hx rfl (hb hby at_158) ?_
              refine XS.istore X145.here hx rfl (hb hby at_159) rfl (l' := #[.val (.int p0), .val (.int p1), .val (.int p2), .val (.int p3), .val (.int p4), .val (.int 3), .val (.int x5), .val (.int x7), .val (.int x9), .val (.int x11), .val (.ref b102), .val (.ref b135), .val (.int 0)]) rfl ?_
              refine XS.aload X145.here hx rfl (hb hby at_161) rfl rfl ?_
              exact .refl _)
            obtain ⟨v148, T148, L148, X148, ⟨N148', rfl, e148⟩, c148'⟩ := own_stat X145 hx hml hZ hown (gw hw 30 rfl) (gw hw 31 rfl) (gw hw 32 rfl) (gw hw 33 rfl) (by decide) (kc := 0) (ks := 0) (h := T137.heap) (W := 0) (argsL := [(.ref b135)]) (rest := []) (own_pay (W := 0) (rmFitU3 l Z a0 hw b135 t137 kt137 x5 x7 x9 z fm T137.heap ((((((O0.ext E102).wr W103 ge102).wr W104 ge102).wr W105 ge102).ext E135).keep K137 (allS ge135 all0)) E137 V137 Cd137 Kt137 hC5 hC7 hC9 hs) hZ (gw hw 33 rfl) (gw hw 32 rfl) (by decide) (by decide)) c147 (lenOf pd_20 rfl) rfl (hb hby at_163) e145
            have N148 := Fr.app N145 N148'
            have c148 : Go p e below S0 T148 (mkF m 166 #[.val (.int p0), .val (.int p1), .val (.int p2), .val (.int p3), .val (.int p4), .val (.int 3), .val (.int x5), .val (.int x7), .val (.int x9), .val (.int x11), .val (.ref b102), .val (.ref b135), .val (.int 0)] [(.int (own_i (!own_has [x5, x7, x9] (44 : Int32) && !own_has [x5, x7, x9] (10 : Int32) && !own_has [x5, x7, x9] (13 : Int32))))]) := c148'
            have c149 : Go p e below S0 T148 (mkF m 184 #[.val (.int p0), .val (.int p1), .val (.int p2), .val (.int p3), .val (.int p4), .val (.int 3), .val (.int x5), .val (.int x7), .val (.int x9), .val (.int x11), .val (.ref b102), .val (.ref b135), .val (.int 0)] [(.int 1)]) := c148.trans (by
              refine XS.iload X148.here hx rfl (hb hby at_166) rfl ?_
              refine XS.ifNo X148.here hx rfl (hb hby at_168) rfl ((if0 _ _).trans (teq (by decide : (0 : Int32) = (0 : Int32))).2) ?_
              refine XS.iconst X148.here hx rfl (hb hby at_171) ?_
              refine XS.goto X148.here hx rfl (pc0 := 172) (pc' := 176) rfl (hb hby at_172) (by decide) (by decide) ?_
              refine XS.icmpNo X148.here hx rfl (hb hby at_176) rfl (teq (by rw [own_fin]; simp [own_anyb, own_i, ((own_i0 _).mp hc140), ((own_i0 _).mp hc143), ((own_i0 _).mp hc146)] : (own_i (!own_has [x5, x7, x9] (44 : Int32) && !own_has [x5, x7, x9] (10 : Int32) && !own_has [x5, x7, x9] (13 : Int32))) = (1 : Int32))).2 ?_
              refine XS.iconst X148.here hx rfl (hb hby at_179) ?_
              refine XS.goto X148.here hx rfl (pc0 := 180) (pc' := 184) rfl (hb hby at_180) (by decide) (by decide) ?_
              exact .refl _)
            refine ⟨T148, s.vm, _, (some (.int (1 : Int32))), _, _, _, X148, by decide, by decide, (fun q => by cases q), N148, hS0, by rw [e148]; exact hk137, hZ, by rw [e148]; exact CR137, ?_, fun fs hr => ?_⟩
            · skip
              exact rfl
            · exact c149.trans (retN X148 hx (t := .boolean) hret (by simp) (hb hby at_184) hr)
          · skip
            have c151 : Go p e below S0 T145 (mkF m 163 #[.val (.int p0), .val (.int p1), .val (.int p2), .val (.int p3), .val (.int p4), .val (.int 3), .val (.int x5), .val (.int x7), .val (.int x9), .val (.int x11), .val (.ref b102), .val (.ref b135), .val (.int 1)] [(.ref b135)]) := c145.trans (by
              refine XS.ifYes X145.here hx rfl (pc0 := 137) (pc' := 154) rfl (hb hby at_137) rfl ((if0 _ _).trans (feq hc146).2) (by decide) (by decide) ?_
              refine XS.iconst X145.here hx rfl (hb hby at_154) ?_
              refine XS.goto X145.here hx rfl (pc0 := 155) (pc' := 159) rfl (hb hby at_155) (by decide) (by decide) ?_
              refine XS.istore X145.here hx rfl (hb hby at_159) rfl (l' := #[.val (.int p0), .val (.int p1), .val (.int p2), .val (.int p3), .val (.int p4), .val (.int 3), .val (.int x5), .val (.int x7), .val (.int x9), .val (.int x11), .val (.ref b102), .val (.ref b135), .val (.int 1)]) rfl ?_
              refine XS.aload X145.here hx rfl (hb hby at_161) rfl rfl ?_
              exact .refl _)
            obtain ⟨v152, T152, L152, X152, ⟨N152', rfl, e152⟩, c152'⟩ := own_stat X145 hx hml hZ hown (gw hw 30 rfl) (gw hw 31 rfl) (gw hw 32 rfl) (gw hw 33 rfl) (by decide) (kc := 0) (ks := 0) (h := T137.heap) (W := 0) (argsL := [(.ref b135)]) (rest := []) (own_pay (W := 0) (rmFitU3 l Z a0 hw b135 t137 kt137 x5 x7 x9 z fm T137.heap ((((((O0.ext E102).wr W103 ge102).wr W104 ge102).wr W105 ge102).ext E135).keep K137 (allS ge135 all0)) E137 V137 Cd137 Kt137 hC5 hC7 hC9 hs) hZ (gw hw 33 rfl) (gw hw 32 rfl) (by decide) (by decide)) c151 (lenOf pd_20 rfl) rfl (hb hby at_163) e145
            have N152 := Fr.app N145 N152'
            have c152 : Go p e below S0 T152 (mkF m 166 #[.val (.int p0), .val (.int p1), .val (.int p2), .val (.int p3), .val (.int p4), .val (.int 3), .val (.int x5), .val (.int x7), .val (.int x9), .val (.int x11), .val (.ref b102), .val (.ref b135), .val (.int 1)] [(.int (own_i (!own_has [x5, x7, x9] (44 : Int32) && !own_has [x5, x7, x9] (10 : Int32) && !own_has [x5, x7, x9] (13 : Int32))))]) := c152'
            have c153 : Go p e below S0 T152 (mkF m 184 #[.val (.int p0), .val (.int p1), .val (.int p2), .val (.int p3), .val (.int p4), .val (.int 3), .val (.int x5), .val (.int x7), .val (.int x9), .val (.int x11), .val (.ref b102), .val (.ref b135), .val (.int 1)] [(.int 1)]) := c152.trans (by
              refine XS.iload X152.here hx rfl (hb hby at_166) rfl ?_
              refine XS.ifYes X152.here hx rfl (pc0 := 168) (pc' := 175) rfl (hb hby at_168) rfl ((if0 _ _).trans (feq (by decide : ¬ ((1 : Int32) = (0 : Int32)))).2) (by decide) (by decide) ?_
              refine XS.iconst X152.here hx rfl (hb hby at_175) ?_
              refine XS.icmpNo X152.here hx rfl (hb hby at_176) rfl (teq (by rw [own_fin]; simp [own_anyb, own_i, ((own_i0 _).mp hc140), ((own_i0 _).mp hc143), (own_nz hc146)] : (own_i (!own_has [x5, x7, x9] (44 : Int32) && !own_has [x5, x7, x9] (10 : Int32) && !own_has [x5, x7, x9] (13 : Int32))) = (0 : Int32))).2 ?_
              refine XS.iconst X152.here hx rfl (hb hby at_179) ?_
              refine XS.goto X152.here hx rfl (pc0 := 180) (pc' := 184) rfl (hb hby at_180) (by decide) (by decide) ?_
              exact .refl _)
            refine ⟨T152, s.vm, _, (some (.int (1 : Int32))), _, _, _, X152, by decide, by decide, (fun q => by cases q), N152, hS0, by rw [e152]; exact hk137, hZ, by rw [e152]; exact CR137, ?_, fun fs hr => ?_⟩
            · skip
              exact rfl
            · exact c153.trans (retN X152 hx (t := .boolean) hret (by simp) (hb hby at_184) hr)
        · skip
          have c155 : Go p e below S0 T142 (mkF m 163 #[.val (.int p0), .val (.int p1), .val (.int p2), .val (.int p3), .val (.int p4), .val (.int 3), .val (.int x5), .val (.int x7), .val (.int x9), .val (.int x11), .val (.ref b102), .val (.ref b135), .val (.int 1)] [(.ref b135)]) := c142.trans (by
            refine XS.ifYes X142.here hx rfl (pc0 := 123) (pc' := 154) rfl (hb hby at_123) rfl ((if0 _ _).trans (feq hc143).2) (by decide) (by decide) ?_
            refine XS.iconst X142.here hx rfl (hb hby at_154) ?_
            refine XS.goto X142.here hx rfl (pc0 := 155) (pc' := 159) rfl (hb hby at_155) (by decide) (by decide) ?_
            refine XS.istore X142.here hx rfl (hb hby at_159) rfl (l' := #[.val (.int p0), .val (.int p1), .val (.int p2), .val (.int p3), .val (.int p4), .val (.int 3), .val (.int x5), .val (.int x7), .val (.int x9), .val (.int x11), .val (.ref b102), .val (.ref b135), .val (.int 1)]) rfl ?_
            refine XS.aload X142.here hx rfl (hb hby at_161) rfl rfl ?_
            exact .refl _)
          obtain ⟨v156, T156, L156, X156, ⟨N156', rfl, e156⟩, c156'⟩ := own_stat X142 hx hml hZ hown (gw hw 30 rfl) (gw hw 31 rfl) (gw hw 32 rfl) (gw hw 33 rfl) (by decide) (kc := 0) (ks := 0) (h := T137.heap) (W := 0) (argsL := [(.ref b135)]) (rest := []) (own_pay (W := 0) (rmFitU3 l Z a0 hw b135 t137 kt137 x5 x7 x9 z fm T137.heap ((((((O0.ext E102).wr W103 ge102).wr W104 ge102).wr W105 ge102).ext E135).keep K137 (allS ge135 all0)) E137 V137 Cd137 Kt137 hC5 hC7 hC9 hs) hZ (gw hw 33 rfl) (gw hw 32 rfl) (by decide) (by decide)) c155 (lenOf pd_20 rfl) rfl (hb hby at_163) e142
          have N156 := Fr.app N142 N156'
          have c156 : Go p e below S0 T156 (mkF m 166 #[.val (.int p0), .val (.int p1), .val (.int p2), .val (.int p3), .val (.int p4), .val (.int 3), .val (.int x5), .val (.int x7), .val (.int x9), .val (.int x11), .val (.ref b102), .val (.ref b135), .val (.int 1)] [(.int (own_i (!own_has [x5, x7, x9] (44 : Int32) && !own_has [x5, x7, x9] (10 : Int32) && !own_has [x5, x7, x9] (13 : Int32))))]) := c156'
          have c157 : Go p e below S0 T156 (mkF m 184 #[.val (.int p0), .val (.int p1), .val (.int p2), .val (.int p3), .val (.int p4), .val (.int 3), .val (.int x5), .val (.int x7), .val (.int x9), .val (.int x11), .val (.ref b102), .val (.ref b135), .val (.int 1)] [(.int 1)]) := c156.trans (by
            refine XS.iload X156.here hx rfl (hb hby at_166) rfl ?_
            refine XS.ifYes X156.here hx rfl (pc0 := 168) (pc' := 175) rfl (hb hby at_168) rfl ((if0 _ _).trans (feq (by decide : ¬ ((1 : Int32) = (0 : Int32)))).2) (by decide) (by decide) ?_
            refine XS.iconst X156.here hx rfl (hb hby at_175) ?_
            refine XS.icmpNo X156.here hx rfl (hb hby at_176) rfl (teq (by rw [own_fin]; simp [own_anyb, own_i, ((own_i0 _).mp hc140), (own_nz hc143)] : (own_i (!own_has [x5, x7, x9] (44 : Int32) && !own_has [x5, x7, x9] (10 : Int32) && !own_has [x5, x7, x9] (13 : Int32))) = (0 : Int32))).2 ?_
            refine XS.iconst X156.here hx rfl (hb hby at_179) ?_
            refine XS.goto X156.here hx rfl (pc0 := 180) (pc' := 184) rfl (hb hby at_180) (by decide) (by decide) ?_
            exact .refl _)
          refine ⟨T156, s.vm, _, (some (.int (1 : Int32))), _, _, _, X156, by decide, by decide, (fun q => by cases q), N156, hS0, by rw [e156]; exact hk137, hZ, by rw [e156]; exact CR137, ?_, fun fs hr => ?_⟩
          · skip
            exact rfl
          · exact c157.trans (retN X156 hx (t := .boolean) hret (by simp) (hb hby at_184) hr)
      · skip
        have c159 : Go p e below S0 T139 (mkF m 163 #[.val (.int p0), .val (.int p1), .val (.int p2), .val (.int p3), .val (.int p4), .val (.int 3), .val (.int x5), .val (.int x7), .val (.int x9), .val (.int x11), .val (.ref b102), .val (.ref b135), .val (.int 1)] [(.ref b135)]) := c139.trans (by
          refine XS.ifYes X139.here hx rfl (pc0 := 109) (pc' := 154) rfl (hb hby at_109) rfl ((if0 _ _).trans (feq hc140).2) (by decide) (by decide) ?_
          refine XS.iconst X139.here hx rfl (hb hby at_154) ?_
          refine XS.goto X139.here hx rfl (pc0 := 155) (pc' := 159) rfl (hb hby at_155) (by decide) (by decide) ?_
          refine XS.istore X139.here hx rfl (hb hby at_159) rfl (l' := #[.val (.int p0), .val (.int p1), .val (.int p2), .val (.int p3), .val (.int p4), .val (.int 3), .val (.int x5), .val (.int x7), .val (.int x9), .val (.int x11), .val (.ref b102), .val (.ref b135), .val (.int 1)]) rfl ?_
          refine XS.aload X139.here hx rfl (hb hby at_161) rfl rfl ?_
          exact .refl _)
        obtain ⟨v160, T160, L160, X160, ⟨N160', rfl, e160⟩, c160'⟩ := own_stat X139 hx hml hZ hown (gw hw 30 rfl) (gw hw 31 rfl) (gw hw 32 rfl) (gw hw 33 rfl) (by decide) (kc := 0) (ks := 0) (h := T137.heap) (W := 0) (argsL := [(.ref b135)]) (rest := []) (own_pay (W := 0) (rmFitU3 l Z a0 hw b135 t137 kt137 x5 x7 x9 z fm T137.heap ((((((O0.ext E102).wr W103 ge102).wr W104 ge102).wr W105 ge102).ext E135).keep K137 (allS ge135 all0)) E137 V137 Cd137 Kt137 hC5 hC7 hC9 hs) hZ (gw hw 33 rfl) (gw hw 32 rfl) (by decide) (by decide)) c159 (lenOf pd_20 rfl) rfl (hb hby at_163) e139
        have N160 := Fr.app N139 N160'
        have c160 : Go p e below S0 T160 (mkF m 166 #[.val (.int p0), .val (.int p1), .val (.int p2), .val (.int p3), .val (.int p4), .val (.int 3), .val (.int x5), .val (.int x7), .val (.int x9), .val (.int x11), .val (.ref b102), .val (.ref b135), .val (.int 1)] [(.int (own_i (!own_has [x5, x7, x9] (44 : Int32) && !own_has [x5, x7, x9] (10 : Int32) && !own_has [x5, x7, x9] (13 : Int32))))]) := c160'
        have c161 : Go p e below S0 T160 (mkF m 184 #[.val (.int p0), .val (.int p1), .val (.int p2), .val (.int p3), .val (.int p4), .val (.int 3), .val (.int x5), .val (.int x7), .val (.int x9), .val (.int x11), .val (.ref b102), .val (.ref b135), .val (.int 1)] [(.int 1)]) := c160.trans (by
          refine XS.iload X160.here hx rfl (hb hby at_166) rfl ?_
          refine XS.ifYes X160.here hx rfl (pc0 := 168) (pc' := 175) rfl (hb hby at_168) rfl ((if0 _ _).trans (feq (by decide : ¬ ((1 : Int32) = (0 : Int32)))).2) (by decide) (by decide) ?_
          refine XS.iconst X160.here hx rfl (hb hby at_175) ?_
          refine XS.icmpNo X160.here hx rfl (hb hby at_176) rfl (teq (by rw [own_fin]; simp [own_anyb, own_i, (own_nz hc140)] : (own_i (!own_has [x5, x7, x9] (44 : Int32) && !own_has [x5, x7, x9] (10 : Int32) && !own_has [x5, x7, x9] (13 : Int32))) = (0 : Int32))).2 ?_
          refine XS.iconst X160.here hx rfl (hb hby at_179) ?_
          refine XS.goto X160.here hx rfl (pc0 := 180) (pc' := 184) rfl (hb hby at_180) (by decide) (by decide) ?_
          exact .refl _)
        refine ⟨T160, s.vm, _, (some (.int (1 : Int32))), _, _, _, X160, by decide, by decide, (fun q => by cases q), N160, hS0, by rw [e160]; exact hk137, hZ, by rw [e160]; exact CR137, ?_, fun fs hr => ?_⟩
        · skip
          exact rfl
        · exact c161.trans (retN X160 hx (t := .boolean) hret (by simp) (hb hby at_184) hr)
  · skip
    have c163 : Go p e below S0 T11 (mkF m 37 #[.val (.int p0), .val (.int p1), .val (.int p2), .val (.int p3), .val (.int p4), .val (.int 4), .val (.int x5), .val (.int x7), .val (.int x9), .val (.int x11), .unset, .unset, .unset] [(.int 4)]) := by rw [← hn]; exact c12
    obtain ⟨T164, h164, k164, X164, e164, E164, A164, st164⟩ := newP X11 hx hZ (hw _ (List.mem_of_getElem? (i := 8) rfl)) e11 (g := (mkF m 37 #[.val (.int p0), .val (.int p1), .val (.int p2), .val (.int p3), .val (.int p4), .val (.int 4), .val (.int x5), .val (.int x7), .val (.int x9), .val (.int x11), .unset, .unset, .unset] [(.int 4)])) rfl (hb hby at_37) rfl (by decide) (cap := 4) (by decide) (by decide) (by decide) (by decide)
    obtain ⟨b164, g164⟩ : ∃ z, z = h0.size := ⟨_, rfl⟩
    rw [← g164] at A164 st164
    have lo164 : h0.size ≤ b164 := Nat.le_of_eq g164.symm
    have ge164 : Z.heap.size ≤ b164 := Nat.le_trans O0.2.1 lo164
    have R164 := CHr.ext (EL := EL) E164 CR0.1
    have sf164 := Safe.ext E164 CR0.1 (Safe.new lo164)
    have CR164 := CR0.trans R164
    have hk164 := Nat.le_trans hk0 R164.2.1
    have V164 := Arv.new A164 (by decide)
    have V164a : Arv Z h164 b164 k164 .char (4 : Int32) [(.int 0), (.int 0), (.int 0), (.int 0)] (.int (0 : Int32)) := V164.pad (pad_rep [] (.int (0 : Int32)) 4)
    obtain ⟨cl165, Ar165, q165, S165, M165, H165, G165⟩ := id V164a
    have hin165 : ¬ ((0 : Int32) < 0 ∨ cl165.slots.size ≤ ((0 : Int32)).toNatClampNeg) := inb_of S165 ⟨by decide, by decide⟩
    obtain ⟨T165, h165, X165, e165, W165, st165⟩ := stC X164 hx hZ e164 Ar165 (j := (0 : Int32)) hin165 (g := (mkF m 51 #[.val (.int p0), .val (.int p1), .val (.int p2), .val (.int p3), .val (.int p4), .val (.int 4), .val (.int x5), .val (.int x7), .val (.int x9), .val (.int x11), .val (.ref b164), .unset, .unset] [(.int x5), (.int 0), (.ref b164)])) rfl rfl (hb hby at_51)
    have V165 := Arv.set Ar165 q165 S165 M165 H165 G165 (fits_nar_char _) W165 0 rfl (Nat.le_of_ble_eq_true rfl)
    have N165 := Fr.snoc X165 N11 ge164
    have R165 := CHr.wr W165 sf164 CR164.1
    have CR165 := CR164.trans R165
    have hk165 := Nat.le_trans hk164 R165.2.1
    rw [hC5.nar] at V165
    have V165a : Arv Z h165 b164 k164 .char (4 : Int32) [(.int x5), (.int 0), (.int 0), (.int 0)] (.int (0 : Int32)) := V165
    obtain ⟨cl166, Ar166, q166, S166, M166, H166, G166⟩ := id V165a
    have hin166 : ¬ ((1 : Int32) < 0 ∨ cl166.slots.size ≤ ((1 : Int32)).toNatClampNeg) := inb_of S166 ⟨by decide, by decide⟩
    obtain ⟨T166, h166, X166, e166, W166, st166⟩ := stC X165 hx hZ e165 Ar166 (j := (1 : Int32)) hin166 (g := (mkF m 63 #[.val (.int p0), .val (.int p1), .val (.int p2), .val (.int p3), .val (.int p4), .val (.int 4), .val (.int x5), .val (.int x7), .val (.int x9), .val (.int x11), .val (.ref b164), .unset, .unset] [(.int x7), (.int 1), (.ref b164)])) rfl rfl (hb hby at_63)
    have V166 := Arv.set Ar166 q166 S166 M166 H166 G166 (fits_nar_char _) W166 1 rfl (Nat.le_of_ble_eq_true rfl)
    have N166 := Fr.snoc X166 N165 ge164
    have R166 := CHr.wr W166 (R165.safe V164.lt sf164) CR165.1
    have CR166 := CR165.trans R166
    have hk166 := Nat.le_trans hk165 R166.2.1
    rw [hC7.nar] at V166
    have V166a : Arv Z h166 b164 k164 .char (4 : Int32) [(.int x5), (.int x7), (.int 0), (.int 0)] (.int (0 : Int32)) := V166
    obtain ⟨cl167, Ar167, q167, S167, M167, H167, G167⟩ := id V166a
    have hin167 : ¬ ((2 : Int32) < 0 ∨ cl167.slots.size ≤ ((2 : Int32)).toNatClampNeg) := inb_of S167 ⟨by decide, by decide⟩
    obtain ⟨T167, h167, X167, e167, W167, st167⟩ := stC X166 hx hZ e166 Ar167 (j := (2 : Int32)) hin167 (g := (mkF m 75 #[.val (.int p0), .val (.int p1), .val (.int p2), .val (.int p3), .val (.int p4), .val (.int 4), .val (.int x5), .val (.int x7), .val (.int x9), .val (.int x11), .val (.ref b164), .unset, .unset] [(.int x9), (.int 2), (.ref b164)])) rfl rfl (hb hby at_75)
    have V167 := Arv.set Ar167 q167 S167 M167 H167 G167 (fits_nar_char _) W167 2 rfl (Nat.le_of_ble_eq_true rfl)
    have N167 := Fr.snoc X167 N166 ge164
    have R167 := CHr.wr W167 ((R165.trans R166).safe V164.lt sf164) CR166.1
    have CR167 := CR166.trans R167
    have hk167 := Nat.le_trans hk166 R167.2.1
    rw [hC9.nar] at V167
    have V167a : Arv Z h167 b164 k164 .char (4 : Int32) [(.int x5), (.int x7), (.int x9), (.int 0)] (.int (0 : Int32)) := V167
    obtain ⟨cl168, Ar168, q168, S168, M168, H168, G168⟩ := id V167a
    have hin168 : ¬ ((3 : Int32) < 0 ∨ cl168.slots.size ≤ ((3 : Int32)).toNatClampNeg) := inb_of S168 ⟨by decide, by decide⟩
    obtain ⟨T168, h168, X168, e168, W168, st168⟩ := stC X167 hx hZ e167 Ar168 (j := (3 : Int32)) hin168 (g := (mkF m 87 #[.val (.int p0), .val (.int p1), .val (.int p2), .val (.int p3), .val (.int p4), .val (.int 4), .val (.int x5), .val (.int x7), .val (.int x9), .val (.int x11), .val (.ref b164), .unset, .unset] [(.int x11), (.int 3), (.ref b164)])) rfl rfl (hb hby at_87)
    have V168 := Arv.set Ar168 q168 S168 M168 H168 G168 (fits_nar_char _) W168 3 rfl (Nat.le_of_ble_eq_true rfl)
    have N168 := Fr.snoc X168 N167 ge164
    have R168 := CHr.wr W168 (((R165.trans R166).trans R167).safe V164.lt sf164) CR167.1
    have CR168 := CR167.trans R168
    have hk168 := Nat.le_trans hk167 R168.2.1
    rw [hC11.nar] at V168
    have V168a : Arv Z h168 b164 k164 .char (4 : Int32) [(.int x5), (.int x7), (.int x9), (.int x11)] (.int (0 : Int32)) := V168
    have c169 : Go p e below S0 T168 (mkF m 88 #[.val (.int p0), .val (.int p1), .val (.int p2), .val (.int p3), .val (.int p4), .val (.int 4), .val (.int x5), .val (.int x7), .val (.int x9), .val (.int x11), .val (.ref b164), .unset, .unset] []) := c163.trans (by
      refine st164 _ ?_
      refine XS.astore X164.here hx rfl (hb hby at_39) rfl rfl (l' := #[.val (.int p0), .val (.int p1), .val (.int p2), .val (.int p3), .val (.int p4), .val (.int 4), .val (.int x5), .val (.int x7), .val (.int x9), .val (.int x11), .val (.ref b164), .unset, .unset]) rfl ?_
      refine XS.iload X164.here hx rfl (hb hby at_41) rfl ?_
      refine XS.ifNo X164.here hx rfl (hb hby at_43) rfl ((if0 _ _).trans (tlt (by decide : (0 : Int32) < (4 : Int32))).2.2.2) ?_
      refine XS.aload X164.here hx rfl (hb hby at_46) rfl rfl ?_
      refine XS.iconst X164.here hx rfl (hb hby at_48) ?_
      refine XS.iload X164.here hx rfl (hb hby at_49) rfl ?_
      refine st165 _ ?_
      show Steps p.tables e below (T165.setTop (mkF m 52 #[.val (.int p0), .val (.int p1), .val (.int p2), .val (.int p3), .val (.int p4), .val (.int 4), .val (.int x5), .val (.int x7), .val (.int x9), .val (.int x11), .val (.ref b164), .unset, .unset] [])) _
      refine XS.iload X165.here hx rfl (hb hby at_52) rfl ?_
      refine XS.iconst X165.here hx rfl (hb hby at_54) ?_
      refine XS.icmpNo X165.here hx rfl (hb hby at_55) rfl (tlt (by decide : (1 : Int32) < (4 : Int32))).2.2.2 ?_
      refine XS.aload X165.here hx rfl (hb hby at_58) rfl rfl ?_
      refine XS.iconst X165.here hx rfl (hb hby at_60) ?_
      refine XS.iload X165.here hx rfl (hb hby at_61) rfl ?_
      refine st166 _ ?_
      show Steps p.tables e below (T166.setTop (mkF m 64 #[.val (.int p0), .val (.int p1), .val (.int p2), .val (.int p3), .val (.int p4), .val (.int 4), .val (.int x5), .val (.int x7), .val (.int x9), .val (.int x11), .val (.ref b164), .unset, .unset] [])) _
      refine XS.iload X166.here hx rfl (hb hby at_64) rfl ?_
      refine XS.iconst X166.here hx rfl (hb hby at_66) ?_
      refine XS.icmpNo X166.here hx rfl (hb hby at_67) rfl (tlt (by decide : (2 : Int32) < (4 : Int32))).2.2.2 ?_
      refine XS.aload X166.here hx rfl (hb hby at_70) rfl rfl ?_
      refine XS.iconst X166.here hx rfl (hb hby at_72) ?_
      refine XS.iload X166.here hx rfl (hb hby at_73) rfl ?_
      refine st167 _ ?_
      show Steps p.tables e below (T167.setTop (mkF m 76 #[.val (.int p0), .val (.int p1), .val (.int p2), .val (.int p3), .val (.int p4), .val (.int 4), .val (.int x5), .val (.int x7), .val (.int x9), .val (.int x11), .val (.ref b164), .unset, .unset] [])) _
      refine XS.iload X167.here hx rfl (hb hby at_76) rfl ?_
      refine XS.iconst X167.here hx rfl (hb hby at_78) ?_
      refine XS.icmpNo X167.here hx rfl (hb hby at_79) rfl (tlt (by decide : (3 : Int32) < (4 : Int32))).2.2.2 ?_
      refine XS.aload X167.here hx rfl (hb hby at_82) rfl rfl ?_
      refine XS.iconst X167.here hx rfl (hb hby at_84) ?_
      refine XS.iload X167.here hx rfl (hb hby at_85) rfl ?_
      refine st168 _ ?_
      show Steps p.tables e below (T168.setTop (mkF m 88 #[.val (.int p0), .val (.int p1), .val (.int p2), .val (.int p3), .val (.int p4), .val (.int 4), .val (.int x5), .val (.int x7), .val (.int x9), .val (.int x11), .val (.ref b164), .unset, .unset] [])) _
      exact .refl _)
    by_cases hall : ¬ (255 : Int32) < x5 ∧ ¬ (255 : Int32) < x7 ∧ ¬ (255 : Int32) < x9 ∧ ¬ (255 : Int32) < x11
    · skip
      obtain ⟨lx5, lx7, lx9, lx11⟩ := hall
      have hBx5 := (hC5).toB lx5
      have hBx7 := (hC7).toB lx7
      have hBx9 := (hC9).toB lx9
      have hBx11 := (hC11).toB lx11
      obtain ⟨T170, h170, X170, e170, E170, A170, D170, -, st170⟩ := newO X168 hx hZ hown (gw hw 9 rfl) (gw hw 10 rfl) (gw hw 11 rfl) e168 (g := (mkF m 88 #[.val (.int p0), .val (.int p1), .val (.int p2), .val (.int p3), .val (.int p4), .val (.int 4), .val (.int x5), .val (.int x7), .val (.int x9), .val (.int x11), .val (.ref b164), .unset, .unset] [])) rfl (hb hby at_88) (by decide) (by decide)
      obtain ⟨b170, g170⟩ : ∃ z, z = h168.size := ⟨_, rfl⟩
      rw [← g170] at A170 D170 st170
      have lo170 : h168.size ≤ b170 := Nat.le_of_eq g170.symm
      have ge170 : Z.heap.size ≤ b170 := Nat.le_trans (((((O0.ext E164).wr W165 ge164).wr W166 ge164).wr W167 ge164).wr W168 ge164).2.1 lo170
      have R170 := CHr.ext (EL := EL) E170 CR168.1
      have sf170 := Safe.ext E170 CR168.1 (Safe.new lo170)
      have CR170 := CR168.trans R170
      have hk170 := Nat.le_trans hk168 R170.2.1
      have F170_value : Fld Z h170 b170 "java/lang/String" "value" "[B" .null := D170 (Or.inr (gw hw 24 rfl)) (ty := (.array .byte)) (by decide)
      have F170_coder : Fld Z h170 b170 "java/lang/String" "coder" "B" (.int 0) := D170 (Or.inr (gw hw 25 rfl)) (ty := .byte) (by decide)
      have c171 : Go p e below S0 T170 (mkF m 94 #[.val (.int p0), .val (.int p1), .val (.int p2), .val (.int p3), .val (.int p4), .val (.int 4), .val (.int x5), .val (.int x7), .val (.int x9), .val (.int x11), .val (.ref b164), .unset, .unset] [(.ref b164), (.ref b170), (.ref b170)]) := c169.trans (by
        refine st170 _ ?_
        refine XS.dup X170.here hx rfl (hb hby at_91) rfl rfl ?_
        refine XS.aload X170.here hx rfl (hb hby at_92) rfl rfl ?_
        exact .refl _)
      obtain ⟨v172, T172, L172, X172, ⟨rfl, N172', K172, E172, Cd172, t172, kb172, gt172, lo172, ne172, V172, Kb172⟩, c172'⟩ := own_spec X170 hx hml hZ hown rfl (gw hw 12 rfl) (gw hw 13 rfl) (gw hw 14 rfl) (by decide) (Q := StrChars.Road.QV Z b170 (4 : Int32) (([x5, x7, x9, x11] : List Int32).map (fun c : Int32 => c.toInt8.toInt32)) h170 Z.heap.size) (kc := 1) (ks := 4) (h := h170) (W := 1) (b := b170) (argsL := [(.ref b164)]) (rest := [(.ref b170)]) (StrChars.Road.backV (s := (s.setVm s.vm)) (R := room_1) (W := 1) hZ (own_wi hw) (kI := 4) (gw hw 10 rfl) (cs := [x5, x7, x9, x11]) (bs := ([x5, x7, x9, x11] : List Int32).map (fun c : Int32 => c.toInt8.toInt32)) (n := 4) ge170 ((((((O0.ext E164).wr W165 ge164).wr W166 ge164).wr W167 ge164).wr W168 ge164).ext E170).2.1 A170 F170_value F170_coder (V168a.ext E170) (SC.ext ((((((O0.ext E164).wr W165 ge164).wr W166 ge164).wr W167 ge164).wr W168 ge164).ext E170).2) hz rfl rfl (by decide) (by decide) (fun c hc => ((own_cons hBx5 (own_cons hBx7 (own_cons hBx9 (own_cons hBx11 own_nil)))) c hc).rng) rfl (by decide) (by decide)) c171 (lenOf pd_19 rfl) rfl (hb hby at_94) e170
      have N172 := Fr.app N168 N172'
      have R172 := CHr.keep K172 (sfS sf170 sf0) CR170.1
      have CR172 := CR170.trans R172
      have hk172 := Nat.le_trans hk170 R172.2.1
      have c172 : Go p e below S0 T172 (mkF m 97 #[.val (.int p0), .val (.int p1), .val (.int p2), .val (.int p3), .val (.int p4), .val (.int 4), .val (.int x5), .val (.int x7), .val (.int x9), .val (.int x11), .val (.ref b164), .unset, .unset] [(.ref b170)]) := c172'
      have c173 : Go p e below S0 T172 (mkF m 106 #[.val (.int p0), .val (.int p1), .val (.int p2), .val (.int p3), .val (.int p4), .val (.int 4), .val (.int x5), .val (.int x7), .val (.int x9), .val (.int x11), .val (.ref b164), .val (.ref b170), .unset] [(.int x5)]) := c172.trans (by
        refine XS.astore X172.here hx rfl (hb hby at_97) rfl rfl (l' := #[.val (.int p0), .val (.int p1), .val (.int p2), .val (.int p3), .val (.int p4), .val (.int 4), .val (.int x5), .val (.int x7), .val (.int x9), .val (.int x11), .val (.ref b164), .val (.ref b170), .unset]) rfl ?_
        refine XS.iload X172.here hx rfl (hb hby at_99) rfl ?_
        refine XS.ifNo X172.here hx rfl (hb hby at_101) rfl ((if0 _ _).trans (tlt (by decide : (0 : Int32) < (4 : Int32))).2.2.2) ?_
        refine XS.iload X172.here hx rfl (hb hby at_104) rfl ?_
        exact .refl _)
      obtain ⟨v174, T174, L174, X174, ⟨N174', rfl, e174⟩, c174'⟩ := own_stat X172 hx hml hZ hown (gw hw 81 rfl) (gw hw 82 rfl) (gw hw 6 rfl) (gw hw 83 rfl) (by decide) (kc := 0) (ks := 0) (h := T172.heap) (W := 0) (argsL := [(.int x5)]) (rest := []) (own_pay (W := 0) (rmBad l Z a0 hw x5 T172.heap (((((((O0.ext E164).wr W165 ge164).wr W166 ge164).wr W167 ge164).wr W168 ge164).ext E170).keep K172 (allS ge170 all0))) hZ (gw hw 83 rfl) (gw hw 6 rfl) (by decide) (by decide)) c173 (lenOf pd_21 rfl) rfl (hb hby at_106) rfl
      have N174 := Fr.app N172 N174'
      have c174 : Go p e below S0 T174 (mkF m 109 #[.val (.int p0), .val (.int p1), .val (.int p2), .val (.int p3), .val (.int p4), .val (.int 4), .val (.int x5), .val (.int x7), .val (.int x9), .val (.int x11), .val (.ref b164), .val (.ref b170), .unset] [(.int (own_i (own_bad x5)))]) := c174'
      by_cases hc175 : (own_i (own_bad x5)) = (0 : Int32)
      · skip
        have c176 : Go p e below S0 T174 (mkF m 120 #[.val (.int p0), .val (.int p1), .val (.int p2), .val (.int p3), .val (.int p4), .val (.int 4), .val (.int x5), .val (.int x7), .val (.int x9), .val (.int x11), .val (.ref b164), .val (.ref b170), .unset] [(.int x7)]) := c174.trans (by
          refine XS.ifNo X174.here hx rfl (hb hby at_109) rfl ((if0 _ _).trans (teq hc175).2) ?_
          refine XS.iload X174.here hx rfl (hb hby at_112) rfl ?_
          refine XS.iconst X174.here hx rfl (hb hby at_114) ?_
          refine XS.icmpNo X174.here hx rfl (hb hby at_115) rfl (tlt (by decide : (1 : Int32) < (4 : Int32))).2.2.2 ?_
          refine XS.iload X174.here hx rfl (hb hby at_118) rfl ?_
          exact .refl _)
        obtain ⟨v177, T177, L177, X177, ⟨N177', rfl, e177⟩, c177'⟩ := own_stat X174 hx hml hZ hown (gw hw 81 rfl) (gw hw 82 rfl) (gw hw 6 rfl) (gw hw 83 rfl) (by decide) (kc := 0) (ks := 0) (h := T172.heap) (W := 0) (argsL := [(.int x7)]) (rest := []) (own_pay (W := 0) (rmBad l Z a0 hw x7 T172.heap (((((((O0.ext E164).wr W165 ge164).wr W166 ge164).wr W167 ge164).wr W168 ge164).ext E170).keep K172 (allS ge170 all0))) hZ (gw hw 83 rfl) (gw hw 6 rfl) (by decide) (by decide)) c176 (lenOf pd_21 rfl) rfl (hb hby at_120) e174
        have N177 := Fr.app N174 N177'
        have c177 : Go p e below S0 T177 (mkF m 123 #[.val (.int p0), .val (.int p1), .val (.int p2), .val (.int p3), .val (.int p4), .val (.int 4), .val (.int x5), .val (.int x7), .val (.int x9), .val (.int x11), .val (.ref b164), .val (.ref b170), .unset] [(.int (own_i (own_bad x7)))]) := c177'
        by_cases hc178 : (own_i (own_bad x7)) = (0 : Int32)
        · skip
          have c179 : Go p e below S0 T177 (mkF m 134 #[.val (.int p0), .val (.int p1), .val (.int p2), .val (.int p3), .val (.int p4), .val (.int 4), .val (.int x5), .val (.int x7), .val (.int x9), .val (.int x11), .val (.ref b164), .val (.ref b170), .unset] [(.int x9)]) := c177.trans (by
            refine XS.ifNo X177.here hx rfl (hb hby at_123) rfl ((if0 _ _).trans (teq hc178).2) ?_
            refine XS.iload X177.here hx rfl (hb hby at_126) rfl ?_
            refine XS.iconst X177.here hx rfl (hb hby at_128) ?_
            refine XS.icmpNo X177.here hx rfl (hb hby at_129) rfl (tlt (by decide : (2 : Int32) < (4 : Int32))).2.2.2 ?_
            refine XS.iload X177.here hx rfl (hb hby at_132) rfl ?_
            exact .refl _)
          obtain ⟨v180, T180, L180, X180, ⟨N180', rfl, e180⟩, c180'⟩ := own_stat X177 hx hml hZ hown (gw hw 81 rfl) (gw hw 82 rfl) (gw hw 6 rfl) (gw hw 83 rfl) (by decide) (kc := 0) (ks := 0) (h := T172.heap) (W := 0) (argsL := [(.int x9)]) (rest := []) (own_pay (W := 0) (rmBad l Z a0 hw x9 T172.heap (((((((O0.ext E164).wr W165 ge164).wr W166 ge164).wr W167 ge164).wr W168 ge164).ext E170).keep K172 (allS ge170 all0))) hZ (gw hw 83 rfl) (gw hw 6 rfl) (by decide) (by decide)) c179 (lenOf pd_21 rfl) rfl (hb hby at_134) e177
          have N180 := Fr.app N177 N180'
          have c180 : Go p e below S0 T180 (mkF m 137 #[.val (.int p0), .val (.int p1), .val (.int p2), .val (.int p3), .val (.int p4), .val (.int 4), .val (.int x5), .val (.int x7), .val (.int x9), .val (.int x11), .val (.ref b164), .val (.ref b170), .unset] [(.int (own_i (own_bad x9)))]) := c180'
          by_cases hc181 : (own_i (own_bad x9)) = (0 : Int32)
          · skip
            have c182 : Go p e below S0 T180 (mkF m 148 #[.val (.int p0), .val (.int p1), .val (.int p2), .val (.int p3), .val (.int p4), .val (.int 4), .val (.int x5), .val (.int x7), .val (.int x9), .val (.int x11), .val (.ref b164), .val (.ref b170), .unset] [(.int x11)]) := c180.trans (by
              refine XS.ifNo X180.here hx rfl (hb hby at_137) rfl ((if0 _ _).trans (teq hc181).2) ?_
              refine XS.iload X180.here hx rfl (hb hby at_140) rfl ?_
              refine XS.iconst X180.here hx rfl (hb hby at_142) ?_
              refine XS.icmpNo X180.here hx rfl (hb hby at_143) rfl (tlt (by decide : (3 : Int32) < (4 : Int32))).2.2.2 ?_
              refine XS.iload X180.here hx rfl (hb hby at_146) rfl ?_
              exact .refl _)
            obtain ⟨v183, T183, L183, X183, ⟨N183', rfl, e183⟩, c183'⟩ := own_stat X180 hx hml hZ hown (gw hw 81 rfl) (gw hw 82 rfl) (gw hw 6 rfl) (gw hw 83 rfl) (by decide) (kc := 0) (ks := 0) (h := T172.heap) (W := 0) (argsL := [(.int x11)]) (rest := []) (own_pay (W := 0) (rmBad l Z a0 hw x11 T172.heap (((((((O0.ext E164).wr W165 ge164).wr W166 ge164).wr W167 ge164).wr W168 ge164).ext E170).keep K172 (allS ge170 all0))) hZ (gw hw 83 rfl) (gw hw 6 rfl) (by decide) (by decide)) c182 (lenOf pd_21 rfl) rfl (hb hby at_148) e180
            have N183 := Fr.app N180 N183'
            have c183 : Go p e below S0 T183 (mkF m 151 #[.val (.int p0), .val (.int p1), .val (.int p2), .val (.int p3), .val (.int p4), .val (.int 4), .val (.int x5), .val (.int x7), .val (.int x9), .val (.int x11), .val (.ref b164), .val (.ref b170), .unset] [(.int (own_i (own_bad x11)))]) := c183'
            by_cases hc184 : (own_i (own_bad x11)) = (0 : Int32)
            · skip
              have c185 : Go p e below S0 T183 (mkF m 163 #[.val (.int p0), .val (.int p1), .val (.int p2), .val (.int p3), .val (.int p4), .val (.int 4), .val (.int x5), .val (.int x7), .val (.int x9), .val (.int x11), .val (.ref b164), .val (.ref b170), .val (.int 0)] [(.ref b170)]) := c183.trans (by
                refine XS.ifYes X183.here hx rfl (pc0 := 151) (pc' := 158) rfl (hb hby at_151) rfl ((if0 _ _).trans (teq hc184).1) (by decide) (by decide) ?_
                refine XS.iconst X183.here hx rfl (hb hby at_158) ?_
                refine XS.istore X183.here hx rfl (hb hby at_159) rfl (l' := #[.val (.int p0), .val (.int p1), .val (.int p2), .val (.int p3), .val (.int p4), .val (.int 4), .val (.int x5), .val (.int x7), .val (.int x9), .val (.int x11), .val (.ref b164), .val (.ref b170), .val (.int 0)]) rfl ?_
                refine XS.aload X183.here hx rfl (hb hby at_161) rfl rfl ?_
                exact .refl _)
              obtain ⟨v186, T186, L186, X186, ⟨N186', rfl, e186⟩, c186'⟩ := own_stat X183 hx hml hZ hown (gw hw 30 rfl) (gw hw 31 rfl) (gw hw 32 rfl) (gw hw 33 rfl) (by decide) (kc := 0) (ks := 0) (h := T172.heap) (W := 0) (argsL := [(.ref b170)]) (rest := []) (own_pay (W := 0) (rmFitL4 l Z a0 hw b170 t172 kb172 x5 x7 x9 x11 z fm T172.heap (((((((O0.ext E164).wr W165 ge164).wr W166 ge164).wr W167 ge164).wr W168 ge164).ext E170).keep K172 (allS ge170 all0)) E172 V172 Cd172 Kb172 hBx5 hBx7 hBx9 hBx11 hs) hZ (gw hw 33 rfl) (gw hw 32 rfl) (by decide) (by decide)) c185 (lenOf pd_20 rfl) rfl (hb hby at_163) e183
              have N186 := Fr.app N183 N186'
              have c186 : Go p e below S0 T186 (mkF m 166 #[.val (.int p0), .val (.int p1), .val (.int p2), .val (.int p3), .val (.int p4), .val (.int 4), .val (.int x5), .val (.int x7), .val (.int x9), .val (.int x11), .val (.ref b164), .val (.ref b170), .val (.int 0)] [(.int (own_i (!own_has [x5, x7, x9, x11] (44 : Int32) && !own_has [x5, x7, x9, x11] (10 : Int32) && !own_has [x5, x7, x9, x11] (13 : Int32))))]) := c186'
              have c187 : Go p e below S0 T186 (mkF m 184 #[.val (.int p0), .val (.int p1), .val (.int p2), .val (.int p3), .val (.int p4), .val (.int 4), .val (.int x5), .val (.int x7), .val (.int x9), .val (.int x11), .val (.ref b164), .val (.ref b170), .val (.int 0)] [(.int 1)]) := c186.trans (by
                refine XS.iload X186.here hx rfl (hb hby at_166) rfl ?_
                refine XS.ifNo X186.here hx rfl (hb hby at_168) rfl ((if0 _ _).trans (teq (by decide : (0 : Int32) = (0 : Int32))).2) ?_
                refine XS.iconst X186.here hx rfl (hb hby at_171) ?_
                refine XS.goto X186.here hx rfl (pc0 := 172) (pc' := 176) rfl (hb hby at_172) (by decide) (by decide) ?_
                refine XS.icmpNo X186.here hx rfl (hb hby at_176) rfl (teq (by rw [own_fin]; simp [own_anyb, own_i, ((own_i0 _).mp hc175), ((own_i0 _).mp hc178), ((own_i0 _).mp hc181), ((own_i0 _).mp hc184)] : (own_i (!own_has [x5, x7, x9, x11] (44 : Int32) && !own_has [x5, x7, x9, x11] (10 : Int32) && !own_has [x5, x7, x9, x11] (13 : Int32))) = (1 : Int32))).2 ?_
                refine XS.iconst X186.here hx rfl (hb hby at_179) ?_
                refine XS.goto X186.here hx rfl (pc0 := 180) (pc' := 184) rfl (hb hby at_180) (by decide) (by decide) ?_
                exact .refl _)
              refine ⟨T186, s.vm, _, (some (.int (1 : Int32))), _, _, _, X186, by decide, by decide, (fun q => by cases q), N186, hS0, by rw [e186]; exact hk172, hZ, by rw [e186]; exact CR172, ?_, fun fs hr => ?_⟩
              · skip
                exact rfl
              · exact c187.trans (retN X186 hx (t := .boolean) hret (by simp) (hb hby at_184) hr)
            · skip
              have c189 : Go p e below S0 T183 (mkF m 163 #[.val (.int p0), .val (.int p1), .val (.int p2), .val (.int p3), .val (.int p4), .val (.int 4), .val (.int x5), .val (.int x7), .val (.int x9), .val (.int x11), .val (.ref b164), .val (.ref b170), .val (.int 1)] [(.ref b170)]) := c183.trans (by
                refine XS.ifNo X183.here hx rfl (hb hby at_151) rfl ((if0 _ _).trans (feq hc184).1) ?_
                refine XS.iconst X183.here hx rfl (hb hby at_154) ?_
                refine XS.goto X183.here hx rfl (pc0 := 155) (pc' := 159) rfl (hb hby at_155) (by decide) (by decide) ?_
                refine XS.istore X183.here hx rfl (hb hby at_159) rfl (l' := #[.val (.int p0), .val (.int p1), .val (.int p2), .val (.int p3), .val (.int p4), .val (.int 4), .val (.int x5), .val (.int x7), .val (.int x9), .val (.int x11), .val (.ref b164), .val (.ref b170), .val (.int 1)]) rfl ?_
                refine XS.aload X183.here hx rfl (hb hby at_161) rfl rfl ?_
                exact .refl _)
              obtain ⟨v190, T190, L190, X190, ⟨N190', rfl, e190⟩, c190'⟩ := own_stat X183 hx hml hZ hown (gw hw 30 rfl) (gw hw 31 rfl) (gw hw 32 rfl) (gw hw 33 rfl) (by decide) (kc := 0) (ks := 0) (h := T172.heap) (W := 0) (argsL := [(.ref b170)]) (rest := []) (own_pay (W := 0) (rmFitL4 l Z a0 hw b170 t172 kb172 x5 x7 x9 x11 z fm T172.heap (((((((O0.ext E164).wr W165 ge164).wr W166 ge164).wr W167 ge164).wr W168 ge164).ext E170).keep K172 (allS ge170 all0)) E172 V172 Cd172 Kb172 hBx5 hBx7 hBx9 hBx11 hs) hZ (gw hw 33 rfl) (gw hw 32 rfl) (by decide) (by decide)) c189 (lenOf pd_20 rfl) rfl (hb hby at_163) e183
              have N190 := Fr.app N183 N190'
              have c190 : Go p e below S0 T190 (mkF m 166 #[.val (.int p0), .val (.int p1), .val (.int p2), .val (.int p3), .val (.int p4), .val (.int 4), .val (.int x5), .val (.int x7), .val (.int x9), .val (.int x11), .val (.ref b164), .val (.ref b170), .val (.int 1)] [(.int (own_i (!own_has [x5, x7, x9, x11] (44 : Int32) && !own_has [x5, x7, x9, x11] (10 : Int32) && !own_has [x5, x7, x9, x11] (13 : Int32))))]) := c190'
              have c191 : Go p e below S0 T190 (mkF m 184 #[.val (.int p0), .val (.int p1), .val (.int p2), .val (.int p3), .val (.int p4), .val (.int 4), .val (.int x5), .val (.int x7), .val (.int x9), .val (.int x11), .val (.ref b164), .val (.ref b170), .val (.int 1)] [(.int 1)]) := c190.trans (by
                refine XS.iload X190.here hx rfl (hb hby at_166) rfl ?_
                refine XS.ifYes X190.here hx rfl (pc0 := 168) (pc' := 175) rfl (hb hby at_168) rfl ((if0 _ _).trans (feq (by decide : ¬ ((1 : Int32) = (0 : Int32)))).2) (by decide) (by decide) ?_
                refine XS.iconst X190.here hx rfl (hb hby at_175) ?_
                refine XS.icmpNo X190.here hx rfl (hb hby at_176) rfl (teq (by rw [own_fin]; simp [own_anyb, own_i, ((own_i0 _).mp hc175), ((own_i0 _).mp hc178), ((own_i0 _).mp hc181), (own_nz hc184)] : (own_i (!own_has [x5, x7, x9, x11] (44 : Int32) && !own_has [x5, x7, x9, x11] (10 : Int32) && !own_has [x5, x7, x9, x11] (13 : Int32))) = (0 : Int32))).2 ?_
                refine XS.iconst X190.here hx rfl (hb hby at_179) ?_
                refine XS.goto X190.here hx rfl (pc0 := 180) (pc' := 184) rfl (hb hby at_180) (by decide) (by decide) ?_
                exact .refl _)
              refine ⟨T190, s.vm, _, (some (.int (1 : Int32))), _, _, _, X190, by decide, by decide, (fun q => by cases q), N190, hS0, by rw [e190]; exact hk172, hZ, by rw [e190]; exact CR172, ?_, fun fs hr => ?_⟩
              · skip
                exact rfl
              · exact c191.trans (retN X190 hx (t := .boolean) hret (by simp) (hb hby at_184) hr)
          · skip
            have c193 : Go p e below S0 T180 (mkF m 163 #[.val (.int p0), .val (.int p1), .val (.int p2), .val (.int p3), .val (.int p4), .val (.int 4), .val (.int x5), .val (.int x7), .val (.int x9), .val (.int x11), .val (.ref b164), .val (.ref b170), .val (.int 1)] [(.ref b170)]) := c180.trans (by
              refine XS.ifYes X180.here hx rfl (pc0 := 137) (pc' := 154) rfl (hb hby at_137) rfl ((if0 _ _).trans (feq hc181).2) (by decide) (by decide) ?_
              refine XS.iconst X180.here hx rfl (hb hby at_154) ?_
              refine XS.goto X180.here hx rfl (pc0 := 155) (pc' := 159) rfl (hb hby at_155) (by decide) (by decide) ?_
              refine XS.istore X180.here hx rfl (hb hby at_159) rfl (l' := #[.val (.int p0), .val (.int p1), .val (.int p2), .val (.int p3), .val (.int p4), .val (.int 4), .val (.int x5), .val (.int x7), .val (.int x9), .val (.int x11), .val (.ref b164), .val (.ref b170), .val (.int 1)]) rfl ?_
              refine XS.aload X180.here hx rfl (hb hby at_161) rfl rfl ?_
              exact .refl _)
            obtain ⟨v194, T194, L194, X194, ⟨N194', rfl, e194⟩, c194'⟩ := own_stat X180 hx hml hZ hown (gw hw 30 rfl) (gw hw 31 rfl) (gw hw 32 rfl) (gw hw 33 rfl) (by decide) (kc := 0) (ks := 0) (h := T172.heap) (W := 0) (argsL := [(.ref b170)]) (rest := []) (own_pay (W := 0) (rmFitL4 l Z a0 hw b170 t172 kb172 x5 x7 x9 x11 z fm T172.heap (((((((O0.ext E164).wr W165 ge164).wr W166 ge164).wr W167 ge164).wr W168 ge164).ext E170).keep K172 (allS ge170 all0)) E172 V172 Cd172 Kb172 hBx5 hBx7 hBx9 hBx11 hs) hZ (gw hw 33 rfl) (gw hw 32 rfl) (by decide) (by decide)) c193 (lenOf pd_20 rfl) rfl (hb hby at_163) e180
            have N194 := Fr.app N180 N194'
            have c194 : Go p e below S0 T194 (mkF m 166 #[.val (.int p0), .val (.int p1), .val (.int p2), .val (.int p3), .val (.int p4), .val (.int 4), .val (.int x5), .val (.int x7), .val (.int x9), .val (.int x11), .val (.ref b164), .val (.ref b170), .val (.int 1)] [(.int (own_i (!own_has [x5, x7, x9, x11] (44 : Int32) && !own_has [x5, x7, x9, x11] (10 : Int32) && !own_has [x5, x7, x9, x11] (13 : Int32))))]) := c194'
            have c195 : Go p e below S0 T194 (mkF m 184 #[.val (.int p0), .val (.int p1), .val (.int p2), .val (.int p3), .val (.int p4), .val (.int 4), .val (.int x5), .val (.int x7), .val (.int x9), .val (.int x11), .val (.ref b164), .val (.ref b170), .val (.int 1)] [(.int 1)]) := c194.trans (by
              refine XS.iload X194.here hx rfl (hb hby at_166) rfl ?_
              refine XS.ifYes X194.here hx rfl (pc0 := 168) (pc' := 175) rfl (hb hby at_168) rfl ((if0 _ _).trans (feq (by decide : ¬ ((1 : Int32) = (0 : Int32)))).2) (by decide) (by decide) ?_
              refine XS.iconst X194.here hx rfl (hb hby at_175) ?_
              refine XS.icmpNo X194.here hx rfl (hb hby at_176) rfl (teq (by rw [own_fin]; simp [own_anyb, own_i, ((own_i0 _).mp hc175), ((own_i0 _).mp hc178), (own_nz hc181)] : (own_i (!own_has [x5, x7, x9, x11] (44 : Int32) && !own_has [x5, x7, x9, x11] (10 : Int32) && !own_has [x5, x7, x9, x11] (13 : Int32))) = (0 : Int32))).2 ?_
              refine XS.iconst X194.here hx rfl (hb hby at_179) ?_
              refine XS.goto X194.here hx rfl (pc0 := 180) (pc' := 184) rfl (hb hby at_180) (by decide) (by decide) ?_
              exact .refl _)
            refine ⟨T194, s.vm, _, (some (.int (1 : Int32))), _, _, _, X194, by decide, by decide, (fun q => by cases q), N194, hS0, by rw [e194]; exact hk172, hZ, by rw [e194]; exact CR172, ?_, fun fs hr => ?_⟩
            · skip
              exact rfl
            · exact c195.trans (retN X194 hx (t := .boolean) hret (by simp) (hb hby at_184) hr)
        · skip
          have c197 : Go p e below S0 T177 (mkF m 163 #[.val (.int p0), .val (.int p1), .val (.int p2), .val (.int p3), .val (.int p4), .val (.int 4), .val (.int x5), .val (.int x7), .val (.int x9), .val (.int x11), .val (.ref b164), .val (.ref b170), .val (.int 1)] [(.ref b170)]) := c177.trans (by
            refine XS.ifYes X177.here hx rfl (pc0 := 123) (pc' := 154) rfl (hb hby at_123) rfl ((if0 _ _).trans (feq hc178).2) (by decide) (by decide) ?_
            refine XS.iconst X177.here hx rfl (hb hby at_154) ?_
            refine XS.goto X177.here hx rfl (pc0 := 155) (pc' := 159) rfl (hb hby at_155) (by decide) (by decide) ?_
            refine XS.istore X177.here hx rfl (hb hby at_159) rfl (l' := #[.val (.int p0), .val (.int p1), .val (.int p2), .val (.int p3), .val (.int p4), .val (.int 4), .val (.int x5), .val (.int x7), .val (.int x9), .val (.int x11), .val (.ref b164), .val (.ref b170), .val (.int 1)]) rfl ?_
            refine XS.aload X177.here hx rfl (hb hby at_161) rfl rfl ?_
            exact .refl _)
          obtain ⟨v198, T198, L198, X198, ⟨N198', rfl, e198⟩, c198'⟩ := own_stat X177 hx hml hZ hown (gw hw 30 rfl) (gw hw 31 rfl) (gw hw 32 rfl) (gw hw 33 rfl) (by decide) (kc := 0) (ks := 0) (h := T172.heap) (W := 0) (argsL := [(.ref b170)]) (rest := []) (own_pay (W := 0) (rmFitL4 l Z a0 hw b170 t172 kb172 x5 x7 x9 x11 z fm T172.heap (((((((O0.ext E164).wr W165 ge164).wr W166 ge164).wr W167 ge164).wr W168 ge164).ext E170).keep K172 (allS ge170 all0)) E172 V172 Cd172 Kb172 hBx5 hBx7 hBx9 hBx11 hs) hZ (gw hw 33 rfl) (gw hw 32 rfl) (by decide) (by decide)) c197 (lenOf pd_20 rfl) rfl (hb hby at_163) e177
          have N198 := Fr.app N177 N198'
          have c198 : Go p e below S0 T198 (mkF m 166 #[.val (.int p0), .val (.int p1), .val (.int p2), .val (.int p3), .val (.int p4), .val (.int 4), .val (.int x5), .val (.int x7), .val (.int x9), .val (.int x11), .val (.ref b164), .val (.ref b170), .val (.int 1)] [(.int (own_i (!own_has [x5, x7, x9, x11] (44 : Int32) && !own_has [x5, x7, x9, x11] (10 : Int32) && !own_has [x5, x7, x9, x11] (13 : Int32))))]) := c198'
          have c199 : Go p e below S0 T198 (mkF m 184 #[.val (.int p0), .val (.int p1), .val (.int p2), .val (.int p3), .val (.int p4), .val (.int 4), .val (.int x5), .val (.int x7), .val (.int x9), .val (.int x11), .val (.ref b164), .val (.ref b170), .val (.int 1)] [(.int 1)]) := c198.trans (by
            refine XS.iload X198.here hx rfl (hb hby at_166) rfl ?_
            refine XS.ifYes X198.here hx rfl (pc0 := 168) (pc' := 175) rfl (hb hby at_168) rfl ((if0 _ _).trans (feq (by decide : ¬ ((1 : Int32) = (0 : Int32)))).2) (by decide) (by decide) ?_
            refine XS.iconst X198.here hx rfl (hb hby at_175) ?_
            refine XS.icmpNo X198.here hx rfl (hb hby at_176) rfl (teq (by rw [own_fin]; simp [own_anyb, own_i, ((own_i0 _).mp hc175), (own_nz hc178)] : (own_i (!own_has [x5, x7, x9, x11] (44 : Int32) && !own_has [x5, x7, x9, x11] (10 : Int32) && !own_has [x5, x7, x9, x11] (13 : Int32))) = (0 : Int32))).2 ?_
            refine XS.iconst X198.here hx rfl (hb hby at_179) ?_
            refine XS.goto X198.here hx rfl (pc0 := 180) (pc' := 184) rfl (hb hby at_180) (by decide) (by decide) ?_
            exact .refl _)
          refine ⟨T198, s.vm, _, (some (.int (1 : Int32))), _, _, _, X198, by decide, by decide, (fun q => by cases q), N198, hS0, by rw [e198]; exact hk172, hZ, by rw [e198]; exact CR172, ?_, fun fs hr => ?_⟩
          · skip
            exact rfl
          · exact c199.trans (retN X198 hx (t := .boolean) hret (by simp) (hb hby at_184) hr)
      · skip
        have c201 : Go p e below S0 T174 (mkF m 163 #[.val (.int p0), .val (.int p1), .val (.int p2), .val (.int p3), .val (.int p4), .val (.int 4), .val (.int x5), .val (.int x7), .val (.int x9), .val (.int x11), .val (.ref b164), .val (.ref b170), .val (.int 1)] [(.ref b170)]) := c174.trans (by
          refine XS.ifYes X174.here hx rfl (pc0 := 109) (pc' := 154) rfl (hb hby at_109) rfl ((if0 _ _).trans (feq hc175).2) (by decide) (by decide) ?_
          refine XS.iconst X174.here hx rfl (hb hby at_154) ?_
          refine XS.goto X174.here hx rfl (pc0 := 155) (pc' := 159) rfl (hb hby at_155) (by decide) (by decide) ?_
          refine XS.istore X174.here hx rfl (hb hby at_159) rfl (l' := #[.val (.int p0), .val (.int p1), .val (.int p2), .val (.int p3), .val (.int p4), .val (.int 4), .val (.int x5), .val (.int x7), .val (.int x9), .val (.int x11), .val (.ref b164), .val (.ref b170), .val (.int 1)]) rfl ?_
          refine XS.aload X174.here hx rfl (hb hby at_161) rfl rfl ?_
          exact .refl _)
        obtain ⟨v202, T202, L202, X202, ⟨N202', rfl, e202⟩, c202'⟩ := own_stat X174 hx hml hZ hown (gw hw 30 rfl) (gw hw 31 rfl) (gw hw 32 rfl) (gw hw 33 rfl) (by decide) (kc := 0) (ks := 0) (h := T172.heap) (W := 0) (argsL := [(.ref b170)]) (rest := []) (own_pay (W := 0) (rmFitL4 l Z a0 hw b170 t172 kb172 x5 x7 x9 x11 z fm T172.heap (((((((O0.ext E164).wr W165 ge164).wr W166 ge164).wr W167 ge164).wr W168 ge164).ext E170).keep K172 (allS ge170 all0)) E172 V172 Cd172 Kb172 hBx5 hBx7 hBx9 hBx11 hs) hZ (gw hw 33 rfl) (gw hw 32 rfl) (by decide) (by decide)) c201 (lenOf pd_20 rfl) rfl (hb hby at_163) e174
        have N202 := Fr.app N174 N202'
        have c202 : Go p e below S0 T202 (mkF m 166 #[.val (.int p0), .val (.int p1), .val (.int p2), .val (.int p3), .val (.int p4), .val (.int 4), .val (.int x5), .val (.int x7), .val (.int x9), .val (.int x11), .val (.ref b164), .val (.ref b170), .val (.int 1)] [(.int (own_i (!own_has [x5, x7, x9, x11] (44 : Int32) && !own_has [x5, x7, x9, x11] (10 : Int32) && !own_has [x5, x7, x9, x11] (13 : Int32))))]) := c202'
        have c203 : Go p e below S0 T202 (mkF m 184 #[.val (.int p0), .val (.int p1), .val (.int p2), .val (.int p3), .val (.int p4), .val (.int 4), .val (.int x5), .val (.int x7), .val (.int x9), .val (.int x11), .val (.ref b164), .val (.ref b170), .val (.int 1)] [(.int 1)]) := c202.trans (by
          refine XS.iload X202.here hx rfl (hb hby at_166) rfl ?_
          refine XS.ifYes X202.here hx rfl (pc0 := 168) (pc' := 175) rfl (hb hby at_168) rfl ((if0 _ _).trans (feq (by decide : ¬ ((1 : Int32) = (0 : Int32)))).2) (by decide) (by decide) ?_
          refine XS.iconst X202.here hx rfl (hb hby at_175) ?_
          refine XS.icmpNo X202.here hx rfl (hb hby at_176) rfl (teq (by rw [own_fin]; simp [own_anyb, own_i, (own_nz hc175)] : (own_i (!own_has [x5, x7, x9, x11] (44 : Int32) && !own_has [x5, x7, x9, x11] (10 : Int32) && !own_has [x5, x7, x9, x11] (13 : Int32))) = (0 : Int32))).2 ?_
          refine XS.iconst X202.here hx rfl (hb hby at_179) ?_
          refine XS.goto X202.here hx rfl (pc0 := 180) (pc' := 184) rfl (hb hby at_180) (by decide) (by decide) ?_
          exact .refl _)
        refine ⟨T202, s.vm, _, (some (.int (1 : Int32))), _, _, _, X202, by decide, by decide, (fun q => by cases q), N202, hS0, by rw [e202]; exact hk172, hZ, by rw [e202]; exact CR172, ?_, fun fs hr => ?_⟩
        · skip
          exact rfl
        · exact c203.trans (retN X202 hx (t := .boolean) hret (by simp) (hb hby at_184) hr)
    · skip
      obtain ⟨T205, h205, X205, e205, E205, A205, D205, -, st205⟩ := newO X168 hx hZ hown (gw hw 9 rfl) (gw hw 10 rfl) (gw hw 11 rfl) e168 (g := (mkF m 88 #[.val (.int p0), .val (.int p1), .val (.int p2), .val (.int p3), .val (.int p4), .val (.int 4), .val (.int x5), .val (.int x7), .val (.int x9), .val (.int x11), .val (.ref b164), .unset, .unset] [])) rfl (hb hby at_88) (by decide) (by decide)
      obtain ⟨b205, g205⟩ : ∃ z, z = h168.size := ⟨_, rfl⟩
      rw [← g205] at A205 D205 st205
      have lo205 : h168.size ≤ b205 := Nat.le_of_eq g205.symm
      have ge205 : Z.heap.size ≤ b205 := Nat.le_trans (((((O0.ext E164).wr W165 ge164).wr W166 ge164).wr W167 ge164).wr W168 ge164).2.1 lo205
      have R205 := CHr.ext (EL := EL) E205 CR168.1
      have sf205 := Safe.ext E205 CR168.1 (Safe.new lo205)
      have CR205 := CR168.trans R205
      have hk205 := Nat.le_trans hk168 R205.2.1
      have F205_value : Fld Z h205 b205 "java/lang/String" "value" "[B" .null := D205 (Or.inr (gw hw 24 rfl)) (ty := (.array .byte)) (by decide)
      have F205_coder : Fld Z h205 b205 "java/lang/String" "coder" "B" (.int 0) := D205 (Or.inr (gw hw 25 rfl)) (ty := .byte) (by decide)
      have c206 : Go p e below S0 T205 (mkF m 94 #[.val (.int p0), .val (.int p1), .val (.int p2), .val (.int p3), .val (.int p4), .val (.int 4), .val (.int x5), .val (.int x7), .val (.int x9), .val (.int x11), .val (.ref b164), .unset, .unset] [(.ref b164), (.ref b205), (.ref b205)]) := c169.trans (by
        refine st205 _ ?_
        refine XS.dup X205.here hx rfl (hb hby at_91) rfl rfl ?_
        refine XS.aload X205.here hx rfl (hb hby at_92) rfl rfl ?_
        exact .refl _)
      obtain ⟨v207, T207, L207, X207, ⟨N207', rfl, K207, E207, Cd207, t207, kt207, lo207, V207, Kt207⟩, c207'⟩ := own_spec X205 hx hml hZ hown rfl (gw hw 12 rfl) (gw hw 13 rfl) (gw hw 14 rfl) (by decide) (kc := 2) (ks := 12) (h := h205) (W := 1) (b := b205) (argsL := [(.ref b164)]) (rest := [(.ref b205)]) (own_pay (W := 1) (rmUI1_4 l Z a0 hw b205 b164 k164 _ _ x5 x7 x9 x11 z fm h205 ((((((O0.ext E164).wr W165 ge164).wr W166 ge164).wr W167 ge164).wr W168 ge164).ext E205) A205 F205_value F205_coder ge205 (V168a.ext E205) hC5 hC7 hC9 hC11 hall hs) hZ (gw hw 14 rfl) (gw hw 11 rfl) (by decide) (by decide)) c206 (lenOf pd_19 rfl) rfl (hb hby at_94) e205
      have N207 := Fr.app N168 N207'
      have R207 := CHr.keep K207 (sfS sf205 sf0) CR205.1
      have CR207 := CR205.trans R207
      have hk207 := Nat.le_trans hk205 R207.2.1
      have c207 : Go p e below S0 T207 (mkF m 97 #[.val (.int p0), .val (.int p1), .val (.int p2), .val (.int p3), .val (.int p4), .val (.int 4), .val (.int x5), .val (.int x7), .val (.int x9), .val (.int x11), .val (.ref b164), .unset, .unset] [(.ref b205)]) := c207'
      have c208 : Go p e below S0 T207 (mkF m 106 #[.val (.int p0), .val (.int p1), .val (.int p2), .val (.int p3), .val (.int p4), .val (.int 4), .val (.int x5), .val (.int x7), .val (.int x9), .val (.int x11), .val (.ref b164), .val (.ref b205), .unset] [(.int x5)]) := c207.trans (by
        refine XS.astore X207.here hx rfl (hb hby at_97) rfl rfl (l' := #[.val (.int p0), .val (.int p1), .val (.int p2), .val (.int p3), .val (.int p4), .val (.int 4), .val (.int x5), .val (.int x7), .val (.int x9), .val (.int x11), .val (.ref b164), .val (.ref b205), .unset]) rfl ?_
        refine XS.iload X207.here hx rfl (hb hby at_99) rfl ?_
        refine XS.ifNo X207.here hx rfl (hb hby at_101) rfl ((if0 _ _).trans (tlt (by decide : (0 : Int32) < (4 : Int32))).2.2.2) ?_
        refine XS.iload X207.here hx rfl (hb hby at_104) rfl ?_
        exact .refl _)
      obtain ⟨v209, T209, L209, X209, ⟨N209', rfl, e209⟩, c209'⟩ := own_stat X207 hx hml hZ hown (gw hw 81 rfl) (gw hw 82 rfl) (gw hw 6 rfl) (gw hw 83 rfl) (by decide) (kc := 0) (ks := 0) (h := T207.heap) (W := 0) (argsL := [(.int x5)]) (rest := []) (own_pay (W := 0) (rmBad l Z a0 hw x5 T207.heap (((((((O0.ext E164).wr W165 ge164).wr W166 ge164).wr W167 ge164).wr W168 ge164).ext E205).keep K207 (allS ge205 all0))) hZ (gw hw 83 rfl) (gw hw 6 rfl) (by decide) (by decide)) c208 (lenOf pd_21 rfl) rfl (hb hby at_106) rfl
      have N209 := Fr.app N207 N209'
      have c209 : Go p e below S0 T209 (mkF m 109 #[.val (.int p0), .val (.int p1), .val (.int p2), .val (.int p3), .val (.int p4), .val (.int 4), .val (.int x5), .val (.int x7), .val (.int x9), .val (.int x11), .val (.ref b164), .val (.ref b205), .unset] [(.int (own_i (own_bad x5)))]) := c209'
      by_cases hc210 : (own_i (own_bad x5)) = (0 : Int32)
      · skip
        have c211 : Go p e below S0 T209 (mkF m 120 #[.val (.int p0), .val (.int p1), .val (.int p2), .val (.int p3), .val (.int p4), .val (.int 4), .val (.int x5), .val (.int x7), .val (.int x9), .val (.int x11), .val (.ref b164), .val (.ref b205), .unset] [(.int x7)]) := c209.trans (by
          refine XS.ifNo X209.here hx rfl (hb hby at_109) rfl ((if0 _ _).trans (teq hc210).2) ?_
          refine XS.iload X209.here hx rfl (hb hby at_112) rfl ?_
          refine XS.iconst X209.here hx rfl (hb hby at_114) ?_
          refine XS.icmpNo X209.here hx rfl (hb hby at_115) rfl (tlt (by decide : (1 : Int32) < (4 : Int32))).2.2.2 ?_
          refine XS.iload X209.here hx rfl (hb hby at_118) rfl ?_
          exact .refl _)
        obtain ⟨v212, T212, L212, X212, ⟨N212', rfl, e212⟩, c212'⟩ := own_stat X209 hx hml hZ hown (gw hw 81 rfl) (gw hw 82 rfl) (gw hw 6 rfl) (gw hw 83 rfl) (by decide) (kc := 0) (ks := 0) (h := T207.heap) (W := 0) (argsL := [(.int x7)]) (rest := []) (own_pay (W := 0) (rmBad l Z a0 hw x7 T207.heap (((((((O0.ext E164).wr W165 ge164).wr W166 ge164).wr W167 ge164).wr W168 ge164).ext E205).keep K207 (allS ge205 all0))) hZ (gw hw 83 rfl) (gw hw 6 rfl) (by decide) (by decide)) c211 (lenOf pd_21 rfl) rfl (hb hby at_120) e209
        have N212 := Fr.app N209 N212'
        have c212 : Go p e below S0 T212 (mkF m 123 #[.val (.int p0), .val (.int p1), .val (.int p2), .val (.int p3), .val (.int p4), .val (.int 4), .val (.int x5), .val (.int x7), .val (.int x9), .val (.int x11), .val (.ref b164), .val (.ref b205), .unset] [(.int (own_i (own_bad x7)))]) := c212'
        by_cases hc213 : (own_i (own_bad x7)) = (0 : Int32)
        · skip
          have c214 : Go p e below S0 T212 (mkF m 134 #[.val (.int p0), .val (.int p1), .val (.int p2), .val (.int p3), .val (.int p4), .val (.int 4), .val (.int x5), .val (.int x7), .val (.int x9), .val (.int x11), .val (.ref b164), .val (.ref b205), .unset] [(.int x9)]) := c212.trans (by
            refine XS.ifNo X212.here hx rfl (hb hby at_123) rfl ((if0 _ _).trans (teq hc213).2) ?_
            refine XS.iload X212.here hx rfl (hb hby at_126) rfl ?_
            refine XS.iconst X212.here hx rfl (hb hby at_128) ?_
            refine XS.icmpNo X212.here hx rfl (hb hby at_129) rfl (tlt (by decide : (2 : Int32) < (4 : Int32))).2.2.2 ?_
            refine XS.iload X212.here hx rfl (hb hby at_132) rfl ?_
            exact .refl _)
          obtain ⟨v215, T215, L215, X215, ⟨N215', rfl, e215⟩, c215'⟩ := own_stat X212 hx hml hZ hown (gw hw 81 rfl) (gw hw 82 rfl) (gw hw 6 rfl) (gw hw 83 rfl) (by decide) (kc := 0) (ks := 0) (h := T207.heap) (W := 0) (argsL := [(.int x9)]) (rest := []) (own_pay (W := 0) (rmBad l Z a0 hw x9 T207.heap (((((((O0.ext E164).wr W165 ge164).wr W166 ge164).wr W167 ge164).wr W168 ge164).ext E205).keep K207 (allS ge205 all0))) hZ (gw hw 83 rfl) (gw hw 6 rfl) (by decide) (by decide)) c214 (lenOf pd_21 rfl) rfl (hb hby at_134) e212
          have N215 := Fr.app N212 N215'
          have c215 : Go p e below S0 T215 (mkF m 137 #[.val (.int p0), .val (.int p1), .val (.int p2), .val (.int p3), .val (.int p4), .val (.int 4), .val (.int x5), .val (.int x7), .val (.int x9), .val (.int x11), .val (.ref b164), .val (.ref b205), .unset] [(.int (own_i (own_bad x9)))]) := c215'
          by_cases hc216 : (own_i (own_bad x9)) = (0 : Int32)
          · skip
            have c217 : Go p e below S0 T215 (mkF m 148 #[.val (.int p0), .val (.int p1), .val (.int p2), .val (.int p3), .val (.int p4), .val (.int 4), .val (.int x5), .val (.int x7), .val (.int x9), .val (.int x11), .val (.ref b164), .val (.ref b205), .unset] [(.int x11)]) := c215.trans (by
              refine XS.ifNo X215.here hx rfl (hb hby at_137) rfl ((if0 _ _).trans (teq hc216).2) ?_
              refine XS.iload X215.here hx rfl (hb hby at_140) rfl ?_
              refine XS.iconst X215.here hx rfl (hb hby at_142) ?_
              refine XS.icmpNo X215.here hx rfl (hb hby at_143) rfl (tlt (by decide : (3 : Int32) < (4 : Int32))).2.2.2 ?_
              refine XS.iload X215.here hx rfl (hb hby at_146) rfl ?_
              exact .refl _)
            obtain ⟨v218, T218, L218, X218, ⟨N218', rfl, e218⟩, c218'⟩ := own_stat X215 hx hml hZ hown (gw hw 81 rfl) (gw hw 82 rfl) (gw hw 6 rfl) (gw hw 83 rfl) (by decide) (kc := 0) (ks := 0) (h := T207.heap) (W := 0) (argsL := [(.int x11)]) (rest := []) (own_pay (W := 0) (rmBad l Z a0 hw x11 T207.heap (((((((O0.ext E164).wr W165 ge164).wr W166 ge164).wr W167 ge164).wr W168 ge164).ext E205).keep K207 (allS ge205 all0))) hZ (gw hw 83 rfl) (gw hw 6 rfl) (by decide) (by decide)) c217 (lenOf pd_21 rfl) rfl (hb hby at_148) e215
            have N218 := Fr.app N215 N218'
            have c218 : Go p e below S0 T218 (mkF m 151 #[.val (.int p0), .val (.int p1), .val (.int p2), .val (.int p3), .val (.int p4), .val (.int 4), .val (.int x5), .val (.int x7), .val (.int x9), .val (.int x11), .val (.ref b164), .val (.ref b205), .unset] [(.int (own_i (own_bad x11)))]) := c218'
            by_cases hc219 : (own_i (own_bad x11)) = (0 : Int32)
            · skip
              have c220 : Go p e below S0 T218 (mkF m 163 #[.val (.int p0), .val (.int p1), .val (.int p2), .val (.int p3), .val (.int p4), .val (.int 4), .val (.int x5), .val (.int x7), .val (.int x9), .val (.int x11), .val (.ref b164), .val (.ref b205), .val (.int 0)] [(.ref b205)]) := c218.trans (by
                refine XS.ifYes X218.here hx rfl (pc0 := 151) (pc' := 158) rfl (hb hby at_151) rfl ((if0 _ _).trans (teq hc219).1) (by decide) (by decide) ?_
                refine XS.iconst X218.here hx rfl (hb hby at_158) ?_
                refine XS.istore X218.here hx rfl (hb hby at_159) rfl (l' := #[.val (.int p0), .val (.int p1), .val (.int p2), .val (.int p3), .val (.int p4), .val (.int 4), .val (.int x5), .val (.int x7), .val (.int x9), .val (.int x11), .val (.ref b164), .val (.ref b205), .val (.int 0)]) rfl ?_
                refine XS.aload X218.here hx rfl (hb hby at_161) rfl rfl ?_
                exact .refl _)
              obtain ⟨v221, T221, L221, X221, ⟨N221', rfl, e221⟩, c221'⟩ := own_stat X218 hx hml hZ hown (gw hw 30 rfl) (gw hw 31 rfl) (gw hw 32 rfl) (gw hw 33 rfl) (by decide) (kc := 0) (ks := 0) (h := T207.heap) (W := 0) (argsL := [(.ref b205)]) (rest := []) (own_pay (W := 0) (rmFitU4 l Z a0 hw b205 t207 kt207 x5 x7 x9 x11 z fm T207.heap (((((((O0.ext E164).wr W165 ge164).wr W166 ge164).wr W167 ge164).wr W168 ge164).ext E205).keep K207 (allS ge205 all0)) E207 V207 Cd207 Kt207 hC5 hC7 hC9 hC11 hs) hZ (gw hw 33 rfl) (gw hw 32 rfl) (by decide) (by decide)) c220 (lenOf pd_20 rfl) rfl (hb hby at_163) e218
              have N221 := Fr.app N218 N221'
              have c221 : Go p e below S0 T221 (mkF m 166 #[.val (.int p0), .val (.int p1), .val (.int p2), .val (.int p3), .val (.int p4), .val (.int 4), .val (.int x5), .val (.int x7), .val (.int x9), .val (.int x11), .val (.ref b164), .val (.ref b205), .val (.int 0)] [(.int (own_i (!own_has [x5, x7, x9, x11] (44 : Int32) && !own_has [x5, x7, x9, x11] (10 : Int32) && !own_has [x5, x7, x9, x11] (13 : Int32))))]) := c221'
              have c222 : Go p e below S0 T221 (mkF m 184 #[.val (.int p0), .val (.int p1), .val (.int p2), .val (.int p3), .val (.int p4), .val (.int 4), .val (.int x5), .val (.int x7), .val (.int x9), .val (.int x11), .val (.ref b164), .val (.ref b205), .val (.int 0)] [(.int 1)]) := c221.trans (by
                refine XS.iload X221.here hx rfl (hb hby at_166) rfl ?_
                refine XS.ifNo X221.here hx rfl (hb hby at_168) rfl ((if0 _ _).trans (teq (by decide : (0 : Int32) = (0 : Int32))).2) ?_
                refine XS.iconst X221.here hx rfl (hb hby at_171) ?_
                refine XS.goto X221.here hx rfl (pc0 := 172) (pc' := 176) rfl (hb hby at_172) (by decide) (by decide) ?_
                refine XS.icmpNo X221.here hx rfl (hb hby at_176) rfl (teq (by rw [own_fin]; simp [own_anyb, own_i, ((own_i0 _).mp hc210), ((own_i0 _).mp hc213), ((own_i0 _).mp hc216), ((own_i0 _).mp hc219)] : (own_i (!own_has [x5, x7, x9, x11] (44 : Int32) && !own_has [x5, x7, x9, x11] (10 : Int32) && !own_has [x5, x7, x9, x11] (13 : Int32))) = (1 : Int32))).2 ?_
                refine XS.iconst X221.here hx rfl (hb hby at_179) ?_
                refine XS.goto X221.here hx rfl (pc0 := 180) (pc' := 184) rfl (hb hby at_180) (by decide) (by decide) ?_
                exact .refl _)
              refine ⟨T221, s.vm, _, (some (.int (1 : Int32))), _, _, _, X221, by decide, by decide, (fun q => by cases q), N221, hS0, by rw [e221]; exact hk207, hZ, by rw [e221]; exact CR207, ?_, fun fs hr => ?_⟩
              · skip
                exact rfl
              · exact c222.trans (retN X221 hx (t := .boolean) hret (by simp) (hb hby at_184) hr)
            · skip
              have c224 : Go p e below S0 T218 (mkF m 163 #[.val (.int p0), .val (.int p1), .val (.int p2), .val (.int p3), .val (.int p4), .val (.int 4), .val (.int x5), .val (.int x7), .val (.int x9), .val (.int x11), .val (.ref b164), .val (.ref b205), .val (.int 1)] [(.ref b205)]) := c218.trans (by
                refine XS.ifNo X218.here hx rfl (hb hby at_151) rfl ((if0 _ _).trans (feq hc219).1) ?_
                refine XS.iconst X218.here hx rfl (hb hby at_154) ?_
                refine XS.goto X218.here hx rfl (pc0 := 155) (pc' := 159) rfl (hb hby at_155) (by decide) (by decide) ?_
                refine XS.istore X218.here hx rfl (hb hby at_159) rfl (l' := #[.val (.int p0), .val (.int p1), .val (.int p2), .val (.int p3), .val (.int p4), .val (.int 4), .val (.int x5), .val (.int x7), .val (.int x9), .val (.int x11), .val (.ref b164), .val (.ref b205), .val (.int 1)]) rfl ?_
                refine XS.aload X218.here hx rfl (hb hby at_161) rfl rfl ?_
                exact .refl _)
              obtain ⟨v225, T225, L225, X225, ⟨N225', rfl, e225⟩, c225'⟩ := own_stat X218 hx hml hZ hown (gw hw 30 rfl) (gw hw 31 rfl) (gw hw 32 rfl) (gw hw 33 rfl) (by decide) (kc := 0) (ks := 0) (h := T207.heap) (W := 0) (argsL := [(.ref b205)]) (rest := []) (own_pay (W := 0) (rmFitU4 l Z a0 hw b205 t207 kt207 x5 x7 x9 x11 z fm T207.heap (((((((O0.ext E164).wr W165 ge164).wr W166 ge164).wr W167 ge164).wr W168 ge164).ext E205).keep K207 (allS ge205 all0)) E207 V207 Cd207 Kt207 hC5 hC7 hC9 hC11 hs) hZ (gw hw 33 rfl) (gw hw 32 rfl) (by decide) (by decide)) c224 (lenOf pd_20 rfl) rfl (hb hby at_163) e218
              have N225 := Fr.app N218 N225'
              have c225 : Go p e below S0 T225 (mkF m 166 #[.val (.int p0), .val (.int p1), .val (.int p2), .val (.int p3), .val (.int p4), .val (.int 4), .val (.int x5), .val (.int x7), .val (.int x9), .val (.int x11), .val (.ref b164), .val (.ref b205), .val (.int 1)] [(.int (own_i (!own_has [x5, x7, x9, x11] (44 : Int32) && !own_has [x5, x7, x9, x11] (10 : Int32) && !own_has [x5, x7, x9, x11] (13 : Int32))))]) := c225'
              have c226 : Go p e below S0 T225 (mkF m 184 #[.val (.int p0), .val (.int p1), .val (.int p2), .val (.int p3), .val (.int p4), .val (.int 4), .val (.int x5), .val (.int x7), .val (.int x9), .val (.int x11), .val (.ref b164), .val (.ref b205), .val (.int 1)] [(.int 1)]) := c225.trans (by
                refine XS.iload X225.here hx rfl (hb hby at_166) rfl ?_
                refine XS.ifYes X225.here hx rfl (pc0 := 168) (pc' := 175) rfl (hb hby at_168) rfl ((if0 _ _).trans (feq (by decide : ¬ ((1 : Int32) = (0 : Int32)))).2) (by decide) (by decide) ?_
                refine XS.iconst X225.here hx rfl (hb hby at_175) ?_
                refine XS.icmpNo X225.here hx rfl (hb hby at_176) rfl (teq (by rw [own_fin]; simp [own_anyb, own_i, ((own_i0 _).mp hc210), ((own_i0 _).mp hc213), ((own_i0 _).mp hc216), (own_nz hc219)] : (own_i (!own_has [x5, x7, x9, x11] (44 : Int32) && !own_has [x5, x7, x9, x11] (10 : Int32) && !own_has [x5, x7, x9, x11] (13 : Int32))) = (0 : Int32))).2 ?_
                refine XS.iconst X225.here hx rfl (hb hby at_179) ?_
                refine XS.goto X225.here hx rfl (pc0 := 180) (pc' := 184) rfl (hb hby at_180) (by decide) (by decide) ?_
                exact .refl _)
              refine ⟨T225, s.vm, _, (some (.int (1 : Int32))), _, _, _, X225, by decide, by decide, (fun q => by cases q), N225, hS0, by rw [e225]; exact hk207, hZ, by rw [e225]; exact CR207, ?_, fun fs hr => ?_⟩
              · skip
                exact rfl
              · exact c226.trans (retN X225 hx (t := .boolean) hret (by simp) (hb hby at_184) hr)
          · skip
            have c228 : Go p e below S0 T215 (mkF m 163 #[.val (.int p0), .val (.int p1), .val (.int p2), .val (.int p3), .val (.int p4), .val (.int 4), .val (.int x5), .val (.int x7), .val (.int x9), .val (.int x11), .val (.ref b164), .val (.ref b205), .val (.int 1)] [(.ref b205)]) := c215.trans (by
              refine XS.ifYes X215.here hx rfl (pc0 := 137) (pc' := 154) rfl (hb hby at_137) rfl ((if0 _ _).trans (feq hc216).2) (by decide) (by decide) ?_
              refine XS.iconst X215.here hx rfl (hb hby at_154) ?_
              refine XS.goto X215.here hx rfl (pc0 := 155) (pc' := 159) rfl (hb hby at_155) (by decide) (by decide) ?_
              refine XS.istore X215.here hx rfl (hb hby at_159) rfl (l' := #[.val (.int p0), .val (.int p1), .val (.int p2), .val (.int p3), .val (.int p4), .val (.int 4), .val (.int x5), .val (.int x7), .val (.int x9), .val (.int x11), .val (.ref b164), .val (.ref b205), .val (.int 1)]) rfl ?_
              refine XS.aload X215.here hx rfl (hb hby at_161) rfl rfl ?_
              exact .refl _)
            obtain ⟨v229, T229, L229, X229, ⟨N229', rfl, e229⟩, c229'⟩ := own_stat X215 hx hml hZ hown (gw hw 30 rfl) (gw hw 31 rfl) (gw hw 32 rfl) (gw hw 33 rfl) (by decide) (kc := 0) (ks := 0) (h := T207.heap) (W := 0) (argsL := [(.ref b205)]) (rest := []) (own_pay (W := 0) (rmFitU4 l Z a0 hw b205 t207 kt207 x5 x7 x9 x11 z fm T207.heap (((((((O0.ext E164).wr W165 ge164).wr W166 ge164).wr W167 ge164).wr W168 ge164).ext E205).keep K207 (allS ge205 all0)) E207 V207 Cd207 Kt207 hC5 hC7 hC9 hC11 hs) hZ (gw hw 33 rfl) (gw hw 32 rfl) (by decide) (by decide)) c228 (lenOf pd_20 rfl) rfl (hb hby at_163) e215
            have N229 := Fr.app N215 N229'
            have c229 : Go p e below S0 T229 (mkF m 166 #[.val (.int p0), .val (.int p1), .val (.int p2), .val (.int p3), .val (.int p4), .val (.int 4), .val (.int x5), .val (.int x7), .val (.int x9), .val (.int x11), .val (.ref b164), .val (.ref b205), .val (.int 1)] [(.int (own_i (!own_has [x5, x7, x9, x11] (44 : Int32) && !own_has [x5, x7, x9, x11] (10 : Int32) && !own_has [x5, x7, x9, x11] (13 : Int32))))]) := c229'
            have c230 : Go p e below S0 T229 (mkF m 184 #[.val (.int p0), .val (.int p1), .val (.int p2), .val (.int p3), .val (.int p4), .val (.int 4), .val (.int x5), .val (.int x7), .val (.int x9), .val (.int x11), .val (.ref b164), .val (.ref b205), .val (.int 1)] [(.int 1)]) := c229.trans (by
              refine XS.iload X229.here hx rfl (hb hby at_166) rfl ?_
              refine XS.ifYes X229.here hx rfl (pc0 := 168) (pc' := 175) rfl (hb hby at_168) rfl ((if0 _ _).trans (feq (by decide : ¬ ((1 : Int32) = (0 : Int32)))).2) (by decide) (by decide) ?_
              refine XS.iconst X229.here hx rfl (hb hby at_175) ?_
              refine XS.icmpNo X229.here hx rfl (hb hby at_176) rfl (teq (by rw [own_fin]; simp [own_anyb, own_i, ((own_i0 _).mp hc210), ((own_i0 _).mp hc213), (own_nz hc216)] : (own_i (!own_has [x5, x7, x9, x11] (44 : Int32) && !own_has [x5, x7, x9, x11] (10 : Int32) && !own_has [x5, x7, x9, x11] (13 : Int32))) = (0 : Int32))).2 ?_
              refine XS.iconst X229.here hx rfl (hb hby at_179) ?_
              refine XS.goto X229.here hx rfl (pc0 := 180) (pc' := 184) rfl (hb hby at_180) (by decide) (by decide) ?_
              exact .refl _)
            refine ⟨T229, s.vm, _, (some (.int (1 : Int32))), _, _, _, X229, by decide, by decide, (fun q => by cases q), N229, hS0, by rw [e229]; exact hk207, hZ, by rw [e229]; exact CR207, ?_, fun fs hr => ?_⟩
            · skip
              exact rfl
            · exact c230.trans (retN X229 hx (t := .boolean) hret (by simp) (hb hby at_184) hr)
        · skip
          have c232 : Go p e below S0 T212 (mkF m 163 #[.val (.int p0), .val (.int p1), .val (.int p2), .val (.int p3), .val (.int p4), .val (.int 4), .val (.int x5), .val (.int x7), .val (.int x9), .val (.int x11), .val (.ref b164), .val (.ref b205), .val (.int 1)] [(.ref b205)]) := c212.trans (by
            refine XS.ifYes X212.here hx rfl (pc0 := 123) (pc' := 154) rfl (hb hby at_123) rfl ((if0 _ _).trans (feq hc213).2) (by decide) (by decide) ?_
            refine XS.iconst X212.here hx rfl (hb hby at_154) ?_
            refine XS.goto X212.here hx rfl (pc0 := 155) (pc' := 159) rfl (hb hby at_155) (by decide) (by decide) ?_
            refine XS.istore X212.here hx rfl (hb hby at_159) rfl (l' := #[.val (.int p0), .val (.int p1), .val (.int p2), .val (.int p3), .val (.int p4), .val (.int 4), .val (.int x5), .val (.int x7), .val (.int x9), .val (.int x11), .val (.ref b164), .val (.ref b205), .val (.int 1)]) rfl ?_
            refine XS.aload X212.here hx rfl (hb hby at_161) rfl rfl ?_
            exact .refl _)
          obtain ⟨v233, T233, L233, X233, ⟨N233', rfl, e233⟩, c233'⟩ := own_stat X212 hx hml hZ hown (gw hw 30 rfl) (gw hw 31 rfl) (gw hw 32 rfl) (gw hw 33 rfl) (by decide) (kc := 0) (ks := 0) (h := T207.heap) (W := 0) (argsL := [(.ref b205)]) (rest := []) (own_pay (W := 0) (rmFitU4 l Z a0 hw b205 t207 kt207 x5 x7 x9 x11 z fm T207.heap (((((((O0.ext E164).wr W165 ge164).wr W166 ge164).wr W167 ge164).wr W168 ge164).ext E205).keep K207 (allS ge205 all0)) E207 V207 Cd207 Kt207 hC5 hC7 hC9 hC11 hs) hZ (gw hw 33 rfl) (gw hw 32 rfl) (by decide) (by decide)) c232 (lenOf pd_20 rfl) rfl (hb hby at_163) e212
          have N233 := Fr.app N212 N233'
          have c233 : Go p e below S0 T233 (mkF m 166 #[.val (.int p0), .val (.int p1), .val (.int p2), .val (.int p3), .val (.int p4), .val (.int 4), .val (.int x5), .val (.int x7), .val (.int x9), .val (.int x11), .val (.ref b164), .val (.ref b205), .val (.int 1)] [(.int (own_i (!own_has [x5, x7, x9, x11] (44 : Int32) && !own_has [x5, x7, x9, x11] (10 : Int32) && !own_has [x5, x7, x9, x11] (13 : Int32))))]) := c233'
          have c234 : Go p e below S0 T233 (mkF m 184 #[.val (.int p0), .val (.int p1), .val (.int p2), .val (.int p3), .val (.int p4), .val (.int 4), .val (.int x5), .val (.int x7), .val (.int x9), .val (.int x11), .val (.ref b164), .val (.ref b205), .val (.int 1)] [(.int 1)]) := c233.trans (by
            refine XS.iload X233.here hx rfl (hb hby at_166) rfl ?_
            refine XS.ifYes X233.here hx rfl (pc0 := 168) (pc' := 175) rfl (hb hby at_168) rfl ((if0 _ _).trans (feq (by decide : ¬ ((1 : Int32) = (0 : Int32)))).2) (by decide) (by decide) ?_
            refine XS.iconst X233.here hx rfl (hb hby at_175) ?_
            refine XS.icmpNo X233.here hx rfl (hb hby at_176) rfl (teq (by rw [own_fin]; simp [own_anyb, own_i, ((own_i0 _).mp hc210), (own_nz hc213)] : (own_i (!own_has [x5, x7, x9, x11] (44 : Int32) && !own_has [x5, x7, x9, x11] (10 : Int32) && !own_has [x5, x7, x9, x11] (13 : Int32))) = (0 : Int32))).2 ?_
            refine XS.iconst X233.here hx rfl (hb hby at_179) ?_
            refine XS.goto X233.here hx rfl (pc0 := 180) (pc' := 184) rfl (hb hby at_180) (by decide) (by decide) ?_
            exact .refl _)
          refine ⟨T233, s.vm, _, (some (.int (1 : Int32))), _, _, _, X233, by decide, by decide, (fun q => by cases q), N233, hS0, by rw [e233]; exact hk207, hZ, by rw [e233]; exact CR207, ?_, fun fs hr => ?_⟩
          · skip
            exact rfl
          · exact c234.trans (retN X233 hx (t := .boolean) hret (by simp) (hb hby at_184) hr)
      · skip
        have c236 : Go p e below S0 T209 (mkF m 163 #[.val (.int p0), .val (.int p1), .val (.int p2), .val (.int p3), .val (.int p4), .val (.int 4), .val (.int x5), .val (.int x7), .val (.int x9), .val (.int x11), .val (.ref b164), .val (.ref b205), .val (.int 1)] [(.ref b205)]) := c209.trans (by
          refine XS.ifYes X209.here hx rfl (pc0 := 109) (pc' := 154) rfl (hb hby at_109) rfl ((if0 _ _).trans (feq hc210).2) (by decide) (by decide) ?_
          refine XS.iconst X209.here hx rfl (hb hby at_154) ?_
          refine XS.goto X209.here hx rfl (pc0 := 155) (pc' := 159) rfl (hb hby at_155) (by decide) (by decide) ?_
          refine XS.istore X209.here hx rfl (hb hby at_159) rfl (l' := #[.val (.int p0), .val (.int p1), .val (.int p2), .val (.int p3), .val (.int p4), .val (.int 4), .val (.int x5), .val (.int x7), .val (.int x9), .val (.int x11), .val (.ref b164), .val (.ref b205), .val (.int 1)]) rfl ?_
          refine XS.aload X209.here hx rfl (hb hby at_161) rfl rfl ?_
          exact .refl _)
        obtain ⟨v237, T237, L237, X237, ⟨N237', rfl, e237⟩, c237'⟩ := own_stat X209 hx hml hZ hown (gw hw 30 rfl) (gw hw 31 rfl) (gw hw 32 rfl) (gw hw 33 rfl) (by decide) (kc := 0) (ks := 0) (h := T207.heap) (W := 0) (argsL := [(.ref b205)]) (rest := []) (own_pay (W := 0) (rmFitU4 l Z a0 hw b205 t207 kt207 x5 x7 x9 x11 z fm T207.heap (((((((O0.ext E164).wr W165 ge164).wr W166 ge164).wr W167 ge164).wr W168 ge164).ext E205).keep K207 (allS ge205 all0)) E207 V207 Cd207 Kt207 hC5 hC7 hC9 hC11 hs) hZ (gw hw 33 rfl) (gw hw 32 rfl) (by decide) (by decide)) c236 (lenOf pd_20 rfl) rfl (hb hby at_163) e209
        have N237 := Fr.app N209 N237'
        have c237 : Go p e below S0 T237 (mkF m 166 #[.val (.int p0), .val (.int p1), .val (.int p2), .val (.int p3), .val (.int p4), .val (.int 4), .val (.int x5), .val (.int x7), .val (.int x9), .val (.int x11), .val (.ref b164), .val (.ref b205), .val (.int 1)] [(.int (own_i (!own_has [x5, x7, x9, x11] (44 : Int32) && !own_has [x5, x7, x9, x11] (10 : Int32) && !own_has [x5, x7, x9, x11] (13 : Int32))))]) := c237'
        have c238 : Go p e below S0 T237 (mkF m 184 #[.val (.int p0), .val (.int p1), .val (.int p2), .val (.int p3), .val (.int p4), .val (.int 4), .val (.int x5), .val (.int x7), .val (.int x9), .val (.int x11), .val (.ref b164), .val (.ref b205), .val (.int 1)] [(.int 1)]) := c237.trans (by
          refine XS.iload X237.here hx rfl (hb hby at_166) rfl ?_
          refine XS.ifYes X237.here hx rfl (pc0 := 168) (pc' := 175) rfl (hb hby at_168) rfl ((if0 _ _).trans (feq (by decide : ¬ ((1 : Int32) = (0 : Int32)))).2) (by decide) (by decide) ?_
          refine XS.iconst X237.here hx rfl (hb hby at_175) ?_
          refine XS.icmpNo X237.here hx rfl (hb hby at_176) rfl (teq (by rw [own_fin]; simp [own_anyb, own_i, (own_nz hc210)] : (own_i (!own_has [x5, x7, x9, x11] (44 : Int32) && !own_has [x5, x7, x9, x11] (10 : Int32) && !own_has [x5, x7, x9, x11] (13 : Int32))) = (0 : Int32))).2 ?_
          refine XS.iconst X237.here hx rfl (hb hby at_179) ?_
          refine XS.goto X237.here hx rfl (pc0 := 180) (pc' := 184) rfl (hb hby at_180) (by decide) (by decide) ?_
          exact .refl _)
        refine ⟨T237, s.vm, _, (some (.int (1 : Int32))), _, _, _, X237, by decide, by decide, (fun q => by cases q), N237, hS0, by rw [e237]; exact hk207, hZ, by rw [e237]; exact CR207, ?_, fun fs hr => ?_⟩
        · skip
          exact rfl
        · exact c238.trans (retN X237 hx (t := .boolean) hret (by simp) (hb hby at_184) hr)
set_option maxRecDepth 65536 in
set_option maxHeartbeats 40000000 in
theorem comes_1 {Post : Tables → Env → Array Value → State → Outcome → State → Prop} (hpost : ∀ tb e args s v u, (limb_1_1.after args s (.returned v) u = true ∧ limb_1_2.after args s (.returned v) u = true ∧ True) → ReturnedEndW s (.returned v) u (Jvm.fieldLocs frame_1_writes args s ++ Jvm.arrayLocs frame_1_arrays args s ++ Jvm.staticLocs frame_1_statics s) 24 1152 → Post tb e args s (.returned v) u) :
    ArmFor flags0 classFile x code maxLocals ret World_1 tables_1 room_1 Calls_1 rest_1 Pre_1 Post := by
  intro l hfl _ _ p e ha hc hk s m args below hf hA hF happ hP
  obtain ⟨hcalls, hrest, hpre⟩ := hP
  obtain ⟨-, -, -, hnamed, -, -, -, hat⟩ := (Spec.applies_iff hf).mp happ
  obtain ⟨hg, hn⟩ := and_e (Cond.before_iff.mp (show (Jvm.Cond.and given_1 narrow_1).before args s = true from hpre))
  obtain ⟨g10, hg⟩ := and_e hg
  obtain ⟨ga0, hg⟩ := and_e hg
  obtain ⟨ga1, hg⟩ := and_e hg
  obtain ⟨ga2, hg⟩ := and_e hg
  obtain ⟨ga3, hg⟩ := and_e hg
  have ga4 := hg
  obtain ⟨w0, w1, w2, w3, w4, rfl⟩ : ∃ w0 w1 w2 w3 w4 : Value, args = #[w0, w1, w2, w3, w4] := by
    have hs : args.size = 5 := by simpa [Cond.value, given_1] using g10
    obtain ⟨L⟩ := args
    match L, hs with
    | [w0, w1, w2, w3, w4], _ => exact ⟨w0, w1, w2, w3, w4, rfl⟩
  have hw := fun d (hd : d ∈ tables_1) => atoms_spec (ws := Jvm.Cond.code x code maxLocals ret :: tables_1) hat d (List.mem_cons_of_mem _ hd)
  have hfit : Fit s := fun {y c} hc i hi => by
    obtain ⟨ha, rfl⟩ := Array.getElem?_eq_some_iff.mp hc
    have q := List.all_eq_true.mp ((Array.all_eq_true_iff_forall_mem.mp hF) _ (Array.getElem_mem ha)) i (List.mem_range.mpr hi)
    simpa [Array.getElem?_eq_getElem hi] using q
  obtain ⟨i0, ei0⟩ := is_v ga0
  obtain rfl : w0 = (.int i0) := Option.some.inj ei0
  obtain ⟨i1, ei1⟩ := is_v ga1
  obtain rfl : w1 = (.int i1) := Option.some.inj ei1
  obtain ⟨i2, ei2⟩ := is_v ga2
  obtain rfl : w2 = (.int i2) := Option.some.inj ei2
  obtain ⟨i3, ei3⟩ := is_v ga3
  obtain rfl : w3 = (.int i3) := Option.some.inj ei3
  obtain ⟨i4, ei4⟩ := is_v ga4
  obtain rfl : w4 = (.int i4) := Option.some.inj ei4
  obtain ⟨hsets, hown0⟩ := atoms_of _ (rest_1_c_eq ▸ (show rest_1_c.before _ s = true from hrest))
  obtain ⟨z, ez⟩ := is_v (Cond.before_iff.mp (hsets _ (List.mem_of_getElem? (i := 1) rfl)))
  have hz : ¬ z = 0 := by
    have q := not_v (Cond.before_iff.mp (hsets _ (List.mem_of_getElem? (i := 2) rfl)))
    intro hz
    subst hz
    rw [eq_i ez (Term.int_eval (0)) rfl] at q
    cases q
  have SC := Sta.start ez (Or.inl (hsets _ (List.mem_of_getElem? (i := 0) rfl)))
  obtain ⟨fm, efm, hfm⟩ := isR_v (Cond.before_iff.mp (hsets _ (List.mem_of_getElem? (i := 8) rfl)))
  have SF := Sta.start efm (Or.inl (hsets _ (List.mem_of_getElem? (i := 7) rfl)))
  have SA := Sta.start (own_eqI (Cond.before_iff.mp (hsets _ (List.mem_of_getElem? (i := 12) rfl)))) (Or.inl (hsets _ (List.mem_of_getElem? (i := 11) rfl)))
  have SH := Sta.start (own_eqI (Cond.before_iff.mp (hsets _ (List.mem_of_getElem? (i := 15) rfl)))) (Or.inl (hsets _ (List.mem_of_getElem? (i := 14) rfl)))
  have SL := Sta.start (own_eqI (Cond.before_iff.mp (hsets _ (List.mem_of_getElem? (i := 18) rfl)))) (Or.inl (hsets _ (List.mem_of_getElem? (i := 17) rfl)))
  have hEL : EW s #[.int i0, .int i1, .int i2, .int i3, .int i4] EL := (EW.cons (hw _ (List.mem_of_getElem? (i := 22) rfl)) (by decide) EW.nil)
  have hCH : CHv s EL s.vm s.heap := CHv.start hEL (fun q hq => hcalls.1 q hq) (hsets _ (List.mem_of_getElem? (i := 2) rfl)) (hw _ (List.mem_of_getElem? (i := 23) rfl)) (hw _ (List.mem_of_getElem? (i := 10) rfl))
  have M := rm0 l s _ hw hEL i0 i1 i2 i3 i4 z fm s.heap (Old.start s) ⟨SC, hz, SF, hfm, SA, SH, SL⟩
  obtain ⟨n, o, h1, h2, h3, _, L, rfl, ⟨N, rfl⟩, -, hq⟩ := own_wmet (ws := tables_1) (plainFor_of_name (by first | (simp [plainName, overriddenIn]; done) | decide +kernel)) hEL M p e ha hc hk s m _ below hf ((Spec.applies_iff_loose hf).mp happ).1 ⟨rfl, State.Warmed39.refl s, rfl, hCH, fun _ q => nomatch q⟩ trivial
  refine ⟨n, _, h1, h2, h3, hpost _ _ _ _ _ _ ⟨Cond.after_iff.mpr rfl, Cond.after_iff.mpr (eq_i res_at (Term.int_eval (1)) rfl), trivial⟩ ⟨hq.1, hq.2.1, hq.2.2.1, (hq.2.2.2.sift fun y hy => Or.inr (N y hy)).mono (by decide) (by decide)⟩⟩
theorem main_1_1 : Claimed_1_1 := comes_1 fun _ _ _ _ _ _ h hF => ⟨h.1, hF⟩
theorem main_1_2 : Claimed_1_2 := comes_1 fun _ _ _ _ _ _ h hF => ⟨h.2.1, hF⟩
end Jvm.Pilot.@@N@@
namespace Jvm.Pilot.@@N@@
open Jvm Jvm.ClassFile Sem Op Lib Jvm.Free Jvm.Stand Jvm.Pilot.@@N@@.Jvm.D
/-! MADE BY PROGRAM (witnessworld.py) out of the Statement's table words and the real class files: 22 classes; the members and pool entries that the words name. The judged class is class 1, her method 1. -/
namespace start1
open Jvm.ClassFile
def u (s : String) : CpInfo := .utf8 (stringToUtf16 s)
/-- a pool by its gaps: so many unusable entries, then the entry; so many at the end -/
def gap : Nat → List CpInfo → List CpInfo
  | 0, r => r
  | n + 1, r => .unusable :: gap n r
def poolList (es : List (Nat × CpInfo)) (last : Nat) : List CpInfo := es.foldr (fun e r => gap e.1 (e.2 :: r)) (gap last [])
def pool (es : List (Nat × CpInfo)) (last : Nat) : Array CpInfo := ⟨poolList es last⟩
def fileOf (pool : Array CpInfo) (this : Nat) (attrs : Array Attribute := #[]) (ms : Array MethodInfo := #[]) (fl : Nat := 33) (sup : Nat := 0) (ifs : Array Nat := #[]) (fds : Array FieldInfo := #[]) : ClassFile where
  minorVersion := 0
  majorVersion := 65
  constantPool := pool
  accessFlags := fl
  thisClass := this
  superClass := sup
  interfaces := ifs
  fields := fds
  methods := ms
  attributes := attrs
def plain (name : String) (sup : Option ClassId) : Class where
  name := name
  kind := .ordinary
  loader := none
  accessFlags := 33
  super := sup
  interfaces := #[]
  cf := none
  fields := #[]
  methods := #[]
  instanceTypes := #[]
  staticTypes := #[]
  resolved := #[]
  callSites := []
  init := .initialized
  statics := none
  mirror := none

def pool0 : Array CpInfo := pool [(5, u "<init>"), (0, u "()V"), (1, .class_ 10), (1, u "java/lang/Object")] 113

def k0c0 : Code := { maxStack := 0, maxLocals := 1, code := object_method_1_code, exceptionTable := #[], attributes := #[] }
def k0m0 : Method := { name := "<init>", desc := "()V", sig := { parameters := [], returnType := none }, accessFlags := 1, code := some k0c0 }
/-- java/lang/Object -/
def k0 : Class := { plain "java/lang/Object" none with
  accessFlags := 33
  interfaces := #[]
  cf := some (fileOf pool0 8 #[] #[{ accessFlags := 1, nameIndex := 5, descriptorIndex := 6, attributes := #[] }] 33 0 #[] #[])
  fields := #[]
  methods := #[k0m0]
  instanceTypes := #[]
  staticTypes := #[]
  resolved := Array.replicate 124 none
  statics := none }

def pool1 : Array CpInfo := pool [(2, .class_ 4), (1, u "java/lang/Object"), (0, u "<init>"), (0, u "()V"), (0, .methodref 8 9), (0, .class_ 10), (0, .nameAndType 11 12), (0, u "java/lang/Math"), (0, u "min"), (0, u "(II)I"), (0, .methodref 14 15), (0, .class_ 16), (0, .nameAndType 17 18), (0, u "com/example/caseward/caseward/core/RightFitsFieldPinLaw"), (0, u "draw"), (0, u "(I)C"), (0, .class_ 20), (0, u "java/lang/String"), (0, .methodref 19 22), (0, .nameAndType 5 23), (0, u "([C)V"), (0, .methodref 14 25), (0, .nameAndType 26 27), (0, u "bad"), (0, u "(C)Z"), (0, .methodref 29 30), (0, .class_ 31), (0, .nameAndType 32 33), (0, u "com/example/caseward/caseward/core/Right"), (0, u "fitsField"), (0, u "(Ljava/lang/String;)Z"), (0, .integer 65535), (2, u "law"), (0, u "(IIIII)Z")] 5

def k1m0 : Method := { name := "<init>", desc := "()V", sig := { parameters := [], returnType := none }, accessFlags := 1, code := none }
def k1c1 : Code := { maxStack := 3, maxLocals := 13, code := code, exceptionTable := #[], attributes := #[] }
def k1m1 : Method := { name := "law", desc := "(IIIII)Z", sig := { parameters := [.int, .int, .int, .int, .int], returnType := some .boolean }, accessFlags := 9, code := some k1c1 }
def k1c2 : Code := { maxStack := 2, maxLocals := 2, code := method_3_code, exceptionTable := #[], attributes := #[] }
def k1m2 : Method := { name := "draw", desc := "(I)C", sig := { parameters := [.int], returnType := some .char }, accessFlags := 10, code := some k1c2 }
def k1c3 : Code := { maxStack := 2, maxLocals := 1, code := method_4_code, exceptionTable := #[], attributes := #[] }
def k1m3 : Method := { name := "bad", desc := "(C)Z", sig := { parameters := [.char], returnType := some .boolean }, accessFlags := 10, code := some k1c3 }
/-- com/example/caseward/caseward/core/RightFitsFieldPinLaw -/
def k1 : Class := { plain "com/example/caseward/caseward/core/RightFitsFieldPinLaw" (some 0) with
  accessFlags := 49
  interfaces := #[]
  cf := some (fileOf pool1 14 #[] #[{ accessFlags := 1, nameIndex := 5, descriptorIndex := 6, attributes := #[] }, { accessFlags := 9, nameIndex := 37, descriptorIndex := 38, attributes := #[] }, { accessFlags := 10, nameIndex := 17, descriptorIndex := 18, attributes := #[] }, { accessFlags := 10, nameIndex := 26, descriptorIndex := 27, attributes := #[] }] 49 2 #[] #[])
  fields := #[]
  methods := #[k1m0, k1m1, k1m2, k1m3]
  instanceTypes := #[]
  staticTypes := #[]
  resolved := Array.replicate 44 none
  statics := none }

def pool2 : Array CpInfo := pool [(1, .class_ 2), (0, u "java/lang/Math"), (1, .class_ 6), (1, u "java/lang/Object"), (0, u "<init>"), (0, u "()V"), (89, .class_ 100), (1, u "java/lang/Math$RandomNumberGeneratorHolder"), (71, u "negativeZeroFloatBits"), (0, u "J"), (2, u "negativeZeroDoubleBits"), (21, u "max"), (2, u "min"), (43, u "$assertionsDisabled"), (0, u "Z"), (88, u "(II)I"), (2, u "twoToTheDoubleScaleDown"), (0, u "D"), (4, u "twoToTheDoubleScaleUp"), (9, u "E"), (3, u "PI"), (2, u "TAU"), (2, u "DEGREES_TO_RADIANS"), (0, u "RADIANS_TO_DEGREES")] 94

def k2m0 : Method := { name := "<init>", desc := "()V", sig := { parameters := [], returnType := none }, accessFlags := 2, code := none }
def k2c1 : Code := { maxStack := 2, maxLocals := 2, code := jdk_29_method_65_code, exceptionTable := #[], attributes := #[] }
def k2m1 : Method := { name := "max", desc := "(II)I", sig := { parameters := [.int, .int], returnType := some .int }, accessFlags := 9, code := some k2c1 }
def k2c2 : Code := { maxStack := 2, maxLocals := 2, code := jdk_29_method_69_code, exceptionTable := #[], attributes := #[] }
def k2m2 : Method := { name := "min", desc := "(II)I", sig := { parameters := [.int, .int], returnType := some .int }, accessFlags := 9, code := some k2c2 }
/-- java/lang/Math -/
def k2 : Class := { plain "java/lang/Math" (some 0) with
  accessFlags := 49
  interfaces := #[]
  cf := some (fileOf pool2 1 #[.nestMembers #[98]] #[{ accessFlags := 2, nameIndex := 7, descriptorIndex := 8, attributes := #[] }, { accessFlags := 9, nameIndex := 198, descriptorIndex := 335, attributes := #[] }, { accessFlags := 9, nameIndex := 201, descriptorIndex := 335, attributes := #[] }] 49 4 #[] #[{ accessFlags := 25, nameIndex := 354, descriptorIndex := 339, attributes := #[] }, { accessFlags := 25, nameIndex := 358, descriptorIndex := 339, attributes := #[] }, { accessFlags := 25, nameIndex := 361, descriptorIndex := 339, attributes := #[] }, { accessFlags := 26, nameIndex := 364, descriptorIndex := 339, attributes := #[] }, { accessFlags := 26, nameIndex := 365, descriptorIndex := 339, attributes := #[] }, { accessFlags := 26, nameIndex := 172, descriptorIndex := 173, attributes := #[] }, { accessFlags := 26, nameIndex := 176, descriptorIndex := 173, attributes := #[] }, { accessFlags := 8, nameIndex := 344, descriptorIndex := 339, attributes := #[] }, { accessFlags := 8, nameIndex := 338, descriptorIndex := 339, attributes := #[] }, { accessFlags := 4120, nameIndex := 245, descriptorIndex := 246, attributes := #[] }])
  fields := #[{ name := "E", type := .double, accessFlags := 25, slot := 0, constantValue := 0 }, { name := "PI", type := .double, accessFlags := 25, slot := 1, constantValue := 0 }, { name := "TAU", type := .double, accessFlags := 25, slot := 2, constantValue := 0 }, { name := "DEGREES_TO_RADIANS", type := .double, accessFlags := 26, slot := 3, constantValue := 0 }, { name := "RADIANS_TO_DEGREES", type := .double, accessFlags := 26, slot := 4, constantValue := 0 }, { name := "negativeZeroFloatBits", type := .long, accessFlags := 26, slot := 5, constantValue := 0 }, { name := "negativeZeroDoubleBits", type := .long, accessFlags := 26, slot := 6, constantValue := 0 }, { name := "twoToTheDoubleScaleUp", type := .double, accessFlags := 8, slot := 7, constantValue := 0 }, { name := "twoToTheDoubleScaleDown", type := .double, accessFlags := 8, slot := 8, constantValue := 0 }, { name := "$assertionsDisabled", type := .boolean, accessFlags := 4120, slot := 9, constantValue := 0 }]
  methods := #[k2m0, k2m1, k2m2]
  instanceTypes := #[]
  staticTypes := #[.double, .double, .double, .double, .double, .long, .long, .double, .double, .boolean]
  resolved := Array.replicate 460 none
  statics := none }

def pool3 : Array CpInfo := pool [(1, .class_ 2), (0, u "java/io/Serializable"), (0, .class_ 4), (0, u "java/lang/Object")] 2

/-- java/io/Serializable -/
def k3 : Class := { plain "java/io/Serializable" (some 0) with
  accessFlags := 1537
  interfaces := #[]
  cf := some (fileOf pool3 1 #[] #[] 1537 3 #[] #[])
  fields := #[]
  methods := #[]
  instanceTypes := #[]
  staticTypes := #[]
  resolved := Array.replicate 7 none
  statics := none }

def pool4 : Array CpInfo := pool [(1, .class_ 2), (0, u "java/lang/Comparable"), (0, .class_ 4), (0, u "java/lang/Object")] 7

/-- java/lang/Comparable -/
def k4 : Class := { plain "java/lang/Comparable" (some 0) with
  accessFlags := 1537
  interfaces := #[]
  cf := some (fileOf pool4 1 #[] #[] 1537 3 #[] #[])
  fields := #[]
  methods := #[]
  instanceTypes := #[]
  staticTypes := #[]
  resolved := Array.replicate 12 none
  statics := none }

def pool5 : Array CpInfo := pool [(2, .class_ 4), (1, u "java/lang/CharSequence"), (42, .class_ 48), (0, u "java/lang/CharSequence$1CodePointIterator"), (10, .class_ 60), (0, u "java/lang/CharSequence$1CharIterator"), (5, .class_ 67), (0, u "java/lang/Object")] 63

/-- java/lang/CharSequence -/
def k5 : Class := { plain "java/lang/CharSequence" (some 0) with
  accessFlags := 1537
  interfaces := #[]
  cf := some (fileOf pool5 2 #[.nestMembers #[47, 59]] #[] 1537 66 #[] #[])
  fields := #[]
  methods := #[]
  instanceTypes := #[]
  staticTypes := #[]
  resolved := Array.replicate 131 none
  statics := none }

def pool6 : Array CpInfo := pool [(1, .class_ 2), (0, u "java/lang/constant/Constable"), (0, .class_ 4), (0, u "java/lang/Object")] 6

/-- java/lang/constant/Constable -/
def k6 : Class := { plain "java/lang/constant/Constable" (some 0) with
  accessFlags := 1537
  interfaces := #[]
  cf := some (fileOf pool6 1 #[] #[] 1537 3 #[] #[])
  fields := #[]
  methods := #[]
  instanceTypes := #[]
  staticTypes := #[]
  resolved := Array.replicate 11 none
  statics := none }

def pool7 : Array CpInfo := pool [(1, .class_ 2), (0, u "java/lang/constant/ConstantDesc"), (0, .class_ 4), (0, u "java/lang/Object")] 32

/-- java/lang/constant/ConstantDesc -/
def k7 : Class := { plain "java/lang/constant/ConstantDesc" (some 0) with
  accessFlags := 1537
  interfaces := #[]
  cf := some (fileOf pool7 1 #[] #[] 1537 3 #[] #[])
  fields := #[]
  methods := #[]
  instanceTypes := #[]
  staticTypes := #[]
  resolved := Array.replicate 37 none
  statics := none }

def pool8 : Array CpInfo := pool [(1, .methodref 2 3), (0, .class_ 4), (0, .nameAndType 5 6), (0, u "java/lang/Object"), (0, u "<init>"), (0, u "()V"), (0, .string 8), (0, u ""), (0, .fieldref 10 11), (0, .class_ 12), (0, .nameAndType 13 14), (0, u "java/lang/String"), (0, u "value"), (0, u "[B"), (0, .fieldref 10 16), (0, .nameAndType 17 18), (0, u "coder"), (0, u "B"), (2, u "hash"), (0, u "I"), (2, u "hashIsZero"), (0, u "Z"), (0, .methodref 10 28), (0, .nameAndType 5 29), (0, u "([CIILjava/lang/Void;)V"), (8, .fieldref 10 39), (0, .nameAndType 40 26), (0, u "COMPACT_STRINGS"), (1, .class_ 44), (1, u "java/lang/StringUTF16"), (0, u "compress"), (1, .methodref 42 48), (0, .nameAndType 49 50), (0, u "coderFromArrayLen"), (0, u "([BI)B"), (56, .class_ 109), (1, u "java/lang/StringLatin1"), (32, u "()Z"), (34, .methodref 42 178), (0, .nameAndType 45 179), (0, u "([CII)[B"), (154, u "()I"), (0, .methodref 10 336), (0, .nameAndType 17 337), (0, u "()B"), (154, .methodref 10 493), (0, .nameAndType 494 142), (0, u "isLatin1"), (10, .methodref 10 506), (0, .nameAndType 507 334), (0, u "length"), (5, u "checkFromToIndex"), (9, u "checkBoundsBeginEnd"), (0, u "(III)V"), (50, .class_ 576), (0, u "java/lang/CharSequence"), (22, u "CASE_INSENSITIVE_ORDER"), (0, u "Ljava/util/Comparator;"), (32, .methodref 10 634), (0, .nameAndType 635 636), (0, u "indexOf"), (0, u "(II)I"), (0, .methodref 107 638), (0, .nameAndType 635 639), (0, u "([BIII)I"), (0, .methodref 42 638), (124, u "(I)I"), (244, u "([C)V"), (42, .fieldref 1054 1055), (0, .class_ 1056), (0, .nameAndType 1057 1058), (0, u "jdk/internal/util/Preconditions"), (0, u "SIOOBE_FORMATTER"), (0, u "Ljava/util/function/BiFunction;"), (3, .methodref 1054 1063), (0, .nameAndType 513 1064), (0, u "(IIILjava/util/function/BiFunction;)I"), (36, u "serialPersistentFields"), (0, u "[Ljava/io/ObjectStreamField;"), (0, .class_ 1104), (0, u "java/lang/String$CaseInsensitiveComparator"), (1, .class_ 1107), (0, u "java/io/Serializable"), (0, .class_ 1109), (0, u "java/lang/Comparable"), (0, .class_ 1111), (0, u "java/lang/constant/Constable"), (0, .class_ 1113), (0, u "java/lang/constant/ConstantDesc"), (2, u "serialVersionUID"), (0, u "J"), (3, u "REPL"), (0, u "C"), (2, u "LATIN1"), (1, u "UTF16")] 323

def k8m0 : Method := { name := "<init>", desc := "()V", sig := { parameters := [], returnType := none }, accessFlags := 1, code := none }
def k8c1 : Code := { maxStack := 5, maxLocals := 2, code := jdk_42_method_3_code, exceptionTable := #[], attributes := #[] }
def k8m1 : Method := { name := "<init>", desc := "([C)V", sig := { parameters := [(.array .char)], returnType := none }, accessFlags := 1, code := some k8c1 }
def k8c2 : Code := { maxStack := 2, maxLocals := 1, code := jdk_42_method_54_code, exceptionTable := #[], attributes := #[] }
def k8m2 : Method := { name := "length", desc := "()I", sig := { parameters := [], returnType := some .int }, accessFlags := 1, code := some k8c2 }
def k8c3 : Code := { maxStack := 3, maxLocals := 2, code := jdk_42_method_79_code, exceptionTable := #[], attributes := #[] }
def k8m3 : Method := { name := "indexOf", desc := "(I)I", sig := { parameters := [.int], returnType := some .int }, accessFlags := 1, code := some k8c3 }
def k8c4 : Code := { maxStack := 4, maxLocals := 3, code := jdk_42_method_80_code, exceptionTable := #[], attributes := #[] }
def k8m4 : Method := { name := "indexOf", desc := "(II)I", sig := { parameters := [.int, .int], returnType := some .int }, accessFlags := 1, code := some k8c4 }
def k8c5 : Code := { maxStack := 4, maxLocals := 6, code := jdk_42_method_149_code, exceptionTable := #[], attributes := #[] }
def k8m5 : Method := { name := "<init>", desc := "([CIILjava/lang/Void;)V", sig := { parameters := [(.array .char), .int, .int, (.object "java/lang/Void")], returnType := none }, accessFlags := 2, code := some k8c5 }
def k8c6 : Code := { maxStack := 1, maxLocals := 1, code := jdk_42_method_152_code, exceptionTable := #[], attributes := #[] }
def k8m6 : Method := { name := "coder", desc := "()B", sig := { parameters := [], returnType := some .byte }, accessFlags := 0, code := some k8c6 }
def k8c7 : Code := { maxStack := 1, maxLocals := 1, code := jdk_42_method_154_code, exceptionTable := #[], attributes := #[] }
def k8m7 : Method := { name := "isLatin1", desc := "()Z", sig := { parameters := [], returnType := some .boolean }, accessFlags := 0, code := some k8c7 }
def k8c8 : Code := { maxStack := 4, maxLocals := 3, code := jdk_42_method_158_code, exceptionTable := #[], attributes := #[] }
def k8m8 : Method := { name := "checkBoundsBeginEnd", desc := "(III)V", sig := { parameters := [.int, .int, .int], returnType := none }, accessFlags := 8, code := some k8c8 }
/-- java/lang/String -/
def k8 : Class := { plain "java/lang/String" (some 0) with
  accessFlags := 49
  interfaces := #[3, 4, 5, 6, 7]
  cf := some (fileOf pool8 10 #[.nestMembers #[1103]] #[{ accessFlags := 1, nameIndex := 5, descriptorIndex := 6, attributes := #[] }, { accessFlags := 1, nameIndex := 5, descriptorIndex := 1010, attributes := #[] }, { accessFlags := 1, nameIndex := 507, descriptorIndex := 334, attributes := #[] }, { accessFlags := 1, nameIndex := 635, descriptorIndex := 765, attributes := #[] }, { accessFlags := 1, nameIndex := 635, descriptorIndex := 636, attributes := #[] }, { accessFlags := 2, nameIndex := 5, descriptorIndex := 29, attributes := #[] }, { accessFlags := 0, nameIndex := 17, descriptorIndex := 337, attributes := #[] }, { accessFlags := 0, nameIndex := 494, descriptorIndex := 142, attributes := #[] }, { accessFlags := 8, nameIndex := 523, descriptorIndex := 524, attributes := #[] }] 49 2 #[1106, 1108, 575, 1110, 1112] #[{ accessFlags := 18, nameIndex := 13, descriptorIndex := 14, attributes := #[] }, { accessFlags := 18, nameIndex := 17, descriptorIndex := 18, attributes := #[] }, { accessFlags := 2, nameIndex := 21, descriptorIndex := 22, attributes := #[] }, { accessFlags := 2, nameIndex := 25, descriptorIndex := 26, attributes := #[] }, { accessFlags := 26, nameIndex := 1116, descriptorIndex := 1117, attributes := #[] }, { accessFlags := 24, nameIndex := 40, descriptorIndex := 26, attributes := #[] }, { accessFlags := 26, nameIndex := 1101, descriptorIndex := 1102, attributes := #[] }, { accessFlags := 26, nameIndex := 1121, descriptorIndex := 1122, attributes := #[] }, { accessFlags := 25, nameIndex := 599, descriptorIndex := 600, attributes := #[] }, { accessFlags := 24, nameIndex := 1125, descriptorIndex := 18, attributes := #[] }, { accessFlags := 24, nameIndex := 1127, descriptorIndex := 18, attributes := #[] }])
  fields := #[{ name := "value", type := (.array .byte), accessFlags := 18, slot := 0, constantValue := 0 }, { name := "coder", type := .byte, accessFlags := 18, slot := 1, constantValue := 0 }, { name := "hash", type := .int, accessFlags := 2, slot := 2, constantValue := 0 }, { name := "hashIsZero", type := .boolean, accessFlags := 2, slot := 3, constantValue := 0 }, { name := "serialVersionUID", type := .long, accessFlags := 26, slot := 0, constantValue := 0 }, { name := "COMPACT_STRINGS", type := .boolean, accessFlags := 24, slot := 1, constantValue := 0 }, { name := "serialPersistentFields", type := (.array (.object "java/io/ObjectStreamField")), accessFlags := 26, slot := 2, constantValue := 0 }, { name := "REPL", type := .char, accessFlags := 26, slot := 3, constantValue := 0 }, { name := "CASE_INSENSITIVE_ORDER", type := (.object "java/util/Comparator"), accessFlags := 25, slot := 4, constantValue := 0 }, { name := "LATIN1", type := .byte, accessFlags := 24, slot := 5, constantValue := 0 }, { name := "UTF16", type := .byte, accessFlags := 24, slot := 6, constantValue := 0 }]
  methods := #[k8m0, k8m1, k8m2, k8m3, k8m4, k8m5, k8m6, k8m7, k8m8]
  instanceTypes := #[(.array .byte), .byte, .int, .boolean]
  staticTypes := #[.long, .boolean, (.array (.object "java/io/ObjectStreamField")), .char, (.object "java/util/Comparator"), .byte, .byte]
  resolved := Array.replicate 1451 none
  statics := some 0 }

def pool9 : Array CpInfo := pool [(2, .class_ 4), (1, u "java/lang/Object"), (0, u "<init>"), (0, u "()V"), (0, .class_ 8), (0, u "java/lang/Record")] 13

def k9m0 : Method := { name := "<init>", desc := "()V", sig := { parameters := [], returnType := none }, accessFlags := 4, code := none }
/-- java/lang/Record -/
def k9 : Class := { plain "java/lang/Record" (some 0) with
  accessFlags := 1057
  interfaces := #[]
  cf := some (fileOf pool9 7 #[] #[{ accessFlags := 4, nameIndex := 5, descriptorIndex := 6, attributes := #[] }] 1057 2 #[] #[])
  fields := #[]
  methods := #[k9m0]
  instanceTypes := #[]
  staticTypes := #[]
  resolved := Array.replicate 22 none
  statics := none }

def pool10 : Array CpInfo := pool [(2, .class_ 4), (1, u "java/lang/Record"), (3, u "grantee"), (1, .class_ 12), (1, u "com/example/caseward/caseward/core/Right"), (5, u "operation"), (1, u "predicate"), (1, u "grantor"), (1, u "kind"), (7, u "status"), (2, u "Ljava/lang/String;"), (2, u "informationClass"), (6, u "Lcom/example/caseward/caseward/core/Right$Kind;"), (2, u "grantable"), (0, u "Z"), (4, u "contextRequired"), (2, u "Lcom/example/caseward/caseward/core/Right$Status;"), (20, .class_ 79), (0, u "java/lang/String"), (5, .class_ 87), (1, u "com/example/caseward/caseward/core/Right$Kind"), (7, .class_ 97), (1, u "com/example/caseward/caseward/core/Right$Status"), (14, u "(Ljava/lang/String;)Z"), (45, .methodref 78 159), (0, .nameAndType 160 161), (0, u "indexOf"), (0, u "(I)I"), (21, u "fitsField"), (11, u "OPENS"), (1, u "CLOSES"), (0, u "SEPARATOR"), (0, u "FIELDS"), (0, u "I")] 73

def k10c0 : Code := { maxStack := 2, maxLocals := 1, code := prog_47_method_5_code, exceptionTable := #[], attributes := #[] }
def k10m0 : Method := { name := "fitsField", desc := "(Ljava/lang/String;)Z", sig := { parameters := [(.object "java/lang/String")], returnType := some .boolean }, accessFlags := 9, code := some k10c0 }
/-- com/example/caseward/caseward/core/Right -/
def k10 : Class := { plain "com/example/caseward/caseward/core/Right" (some 9) with
  accessFlags := 49
  interfaces := #[]
  cf := some (fileOf pool10 10 #[.nestMembers #[95, 85]] #[{ accessFlags := 9, nameIndex := 183, descriptorIndex := 112, attributes := #[] }] 49 2 #[] #[{ accessFlags := 18, nameIndex := 8, descriptorIndex := 35, attributes := #[] }, { accessFlags := 18, nameIndex := 38, descriptorIndex := 35, attributes := #[] }, { accessFlags := 18, nameIndex := 18, descriptorIndex := 35, attributes := #[] }, { accessFlags := 18, nameIndex := 20, descriptorIndex := 35, attributes := #[] }, { accessFlags := 18, nameIndex := 24, descriptorIndex := 45, attributes := #[] }, { accessFlags := 18, nameIndex := 48, descriptorIndex := 49, attributes := #[] }, { accessFlags := 18, nameIndex := 22, descriptorIndex := 35, attributes := #[] }, { accessFlags := 18, nameIndex := 54, descriptorIndex := 49, attributes := #[] }, { accessFlags := 18, nameIndex := 32, descriptorIndex := 57, attributes := #[] }, { accessFlags := 26, nameIndex := 195, descriptorIndex := 35, attributes := #[] }, { accessFlags := 26, nameIndex := 197, descriptorIndex := 35, attributes := #[] }, { accessFlags := 26, nameIndex := 198, descriptorIndex := 35, attributes := #[] }, { accessFlags := 26, nameIndex := 199, descriptorIndex := 200, attributes := #[] }])
  fields := #[{ name := "grantee", type := (.object "java/lang/String"), accessFlags := 18, slot := 0, constantValue := 0 }, { name := "informationClass", type := (.object "java/lang/String"), accessFlags := 18, slot := 1, constantValue := 0 }, { name := "operation", type := (.object "java/lang/String"), accessFlags := 18, slot := 2, constantValue := 0 }, { name := "predicate", type := (.object "java/lang/String"), accessFlags := 18, slot := 3, constantValue := 0 }, { name := "kind", type := (.object "com/example/caseward/caseward/core/Right$Kind"), accessFlags := 18, slot := 4, constantValue := 0 }, { name := "grantable", type := .boolean, accessFlags := 18, slot := 5, constantValue := 0 }, { name := "grantor", type := (.object "java/lang/String"), accessFlags := 18, slot := 6, constantValue := 0 }, { name := "contextRequired", type := .boolean, accessFlags := 18, slot := 7, constantValue := 0 }, { name := "status", type := (.object "com/example/caseward/caseward/core/Right$Status"), accessFlags := 18, slot := 8, constantValue := 0 }, { name := "OPENS", type := (.object "java/lang/String"), accessFlags := 26, slot := 0, constantValue := 0 }, { name := "CLOSES", type := (.object "java/lang/String"), accessFlags := 26, slot := 1, constantValue := 0 }, { name := "SEPARATOR", type := (.object "java/lang/String"), accessFlags := 26, slot := 2, constantValue := 0 }, { name := "FIELDS", type := .int, accessFlags := 26, slot := 3, constantValue := 0 }]
  methods := #[k10m0]
  instanceTypes := #[(.object "java/lang/String"), (.object "java/lang/String"), (.object "java/lang/String"), (.object "java/lang/String"), (.object "com/example/caseward/caseward/core/Right$Kind"), .boolean, (.object "java/lang/String"), .boolean, (.object "com/example/caseward/caseward/core/Right$Status")]
  staticTypes := #[(.object "java/lang/String"), (.object "java/lang/String"), (.object "java/lang/String"), .int]
  resolved := Array.replicate 274 none
  statics := none }

def pool11 : Array CpInfo := pool [(4, .class_ 6), (1, u "java/lang/Object"), (0, u "<init>"), (0, u "()V"), (5, .class_ 16), (1, u "java/lang/StringLatin1"), (21, .methodref 39 40), (0, .class_ 41), (0, .nameAndType 42 43), (0, u "java/lang/Math"), (0, u "min"), (0, u "(II)I"), (44, .methodref 14 89), (0, .nameAndType 90 91), (0, u "canEncode"), (0, u "(I)Z"), (0, .methodref 39 93), (0, .nameAndType 94 43), (0, u "max"), (0, .methodref 14 96), (0, .nameAndType 97 98), (0, u "indexOfChar"), (0, u "([BIII)I"), (2, u "indexOf"), (19, u "$assertionsDisabled"), (0, u "Z"), (98, .class_ 223), (1, u "java/lang/StringLatin1$LinesSpliterator"), (166, .class_ 391), (0, u "java/lang/StringLatin1$CharsSpliterator")] 3

def k11m0 : Method := { name := "<init>", desc := "()V", sig := { parameters := [], returnType := none }, accessFlags := 0, code := none }
def k11c1 : Code := { maxStack := 2, maxLocals := 1, code := jdk_43_method_4_code, exceptionTable := #[], attributes := #[] }
def k11m1 : Method := { name := "canEncode", desc := "(I)Z", sig := { parameters := [.int], returnType := some .boolean }, accessFlags := 9, code := some k11c1 }
def k11c2 : Code := { maxStack := 4, maxLocals := 4, code := jdk_43_method_22_code, exceptionTable := #[], attributes := #[] }
def k11m2 : Method := { name := "indexOf", desc := "([BIII)I", sig := { parameters := [(.array .byte), .int, .int, .int], returnType := some .int }, accessFlags := 9, code := some k11c2 }
def k11c3 : Code := { maxStack := 2, maxLocals := 6, code := jdk_43_method_23_code, exceptionTable := #[], attributes := #[] }
def k11m3 : Method := { name := "indexOfChar", desc := "([BIII)I", sig := { parameters := [(.array .byte), .int, .int, .int], returnType := some .int }, accessFlags := 10, code := some k11c3 }
/-- java/lang/StringLatin1 -/
def k11 : Class := { plain "java/lang/StringLatin1" (some 0) with
  accessFlags := 48
  interfaces := #[]
  cf := some (fileOf pool11 14 #[.nestMembers #[390, 221]] #[{ accessFlags := 0, nameIndex := 7, descriptorIndex := 8, attributes := #[] }, { accessFlags := 9, nameIndex := 90, descriptorIndex := 91, attributes := #[] }, { accessFlags := 9, nameIndex := 101, descriptorIndex := 98, attributes := #[] }, { accessFlags := 10, nameIndex := 97, descriptorIndex := 98, attributes := #[] }] 48 4 #[] #[{ accessFlags := 4120, nameIndex := 121, descriptorIndex := 122, attributes := #[] }])
  fields := #[{ name := "$assertionsDisabled", type := .boolean, accessFlags := 4120, slot := 0, constantValue := 0 }]
  methods := #[k11m0, k11m1, k11m2, k11m3]
  instanceTypes := #[]
  staticTypes := #[.boolean]
  resolved := Array.replicate 395 none
  statics := none }

def pool12 : Array CpInfo := pool [(3, .class_ 4), (0, u "java/lang/String"), (1, .class_ 8), (1, u "java/lang/Object"), (0, u "<init>"), (0, u "()V"), (0, .methodref 12 13), (0, .class_ 14), (0, .nameAndType 15 16), (0, u "java/lang/StringUTF16"), (0, u "newBytesLength"), (0, u "(I)I"), (3, .integer 1073741823), (23, .fieldref 12 45), (0, .nameAndType 46 47), (0, u "$assertionsDisabled"), (0, u "Z"), (0, .methodref 12 49), (0, .nameAndType 50 51), (0, u "length"), (0, u "([B)I"), (7, .fieldref 12 60), (0, .nameAndType 61 62), (0, u "HI_BYTE_SHIFT"), (0, u "I"), (0, .fieldref 12 64), (0, .nameAndType 65 62), (0, u "LO_BYTE_SHIFT"), (5, .methodref 12 72), (0, .nameAndType 73 74), (0, u "getChar"), (0, u "([BI)C"), (21, .methodref 12 97), (0, .nameAndType 98 99), (0, u "checkBoundsBeginEnd"), (0, u "(II[B)V"), (7, .methodref 12 108), (0, .nameAndType 109 110), (0, u "newBytesFor"), (0, u "(I)[B"), (0, .methodref 12 112), (0, .nameAndType 113 114), (0, u "putChar"), (0, u "([BII)V"), (0, .methodref 12 116), (0, .nameAndType 117 118), (0, u "compress"), (0, u "([CI[BII)I"), (0, .methodref 12 120), (0, .nameAndType 121 122), (0, u "toBytes"), (0, u "([CII)[B"), (60, .methodref 184 185), (0, .class_ 186), (0, .nameAndType 187 188), (0, u "java/lang/Math"), (0, u "min"), (0, u "(II)I"), (35, .methodref 184 225), (0, .nameAndType 226 188), (0, u "max"), (0, .integer 65536), (0, .methodref 12 229), (0, .nameAndType 230 231), (0, u "indexOfChar"), (0, u "([BIII)I"), (9, .methodref 3 242), (0, .nameAndType 98 243), (0, u "(III)V"), (0, .methodref 12 245), (0, .nameAndType 246 231), (0, u "indexOfCharUnsafe"), (14, u "coderFromArrayLen"), (0, u "([BI)B"), (5, u "indexOf"), (100, .class_ 371), (1, u "java/lang/StringUTF16$LinesSpliterator"), (58, u "MAX_LENGTH"), (196, .class_ 628), (0, u "java/lang/StringUTF16$CodePointsSpliterator"), (0, .class_ 630), (0, u "java/lang/StringUTF16$CharsSpliterator")] 4

def k12m0 : Method := { name := "<init>", desc := "()V", sig := { parameters := [], returnType := none }, accessFlags := 0, code := none }
def k12c1 : Code := { maxStack := 1, maxLocals := 1, code := jdk_52_method_2_code, exceptionTable := #[], attributes := #[] }
def k12m1 : Method := { name := "newBytesFor", desc := "(I)[B", sig := { parameters := [.int], returnType := some (.array .byte) }, accessFlags := 9, code := some k12c1 }
def k12c2 : Code := { maxStack := 4, maxLocals := 1, code := jdk_52_method_3_code, exceptionTable := #[], attributes := #[] }
def k12m2 : Method := { name := "newBytesLength", desc := "(I)I", sig := { parameters := [.int], returnType := some .int }, accessFlags := 9, code := some k12c2 }
def k12c3 : Code := { maxStack := 4, maxLocals := 3, code := jdk_52_method_4_code, exceptionTable := #[], attributes := #[] }
def k12m3 : Method := { name := "putChar", desc := "([BII)V", sig := { parameters := [(.array .byte), .int, .int], returnType := none }, accessFlags := 8, code := some k12c3 }
def k12c4 : Code := { maxStack := 3, maxLocals := 2, code := jdk_52_method_5_code, exceptionTable := #[], attributes := #[] }
def k12m4 : Method := { name := "getChar", desc := "([BI)C", sig := { parameters := [(.array .byte), .int], returnType := some .char }, accessFlags := 8, code := some k12c4 }
def k12c5 : Code := { maxStack := 2, maxLocals := 1, code := jdk_52_method_6_code, exceptionTable := #[], attributes := #[] }
def k12m5 : Method := { name := "length", desc := "([B)I", sig := { parameters := [(.array .byte)], returnType := some .int }, accessFlags := 9, code := some k12c5 }
def k12c6 : Code := { maxStack := 4, maxLocals := 5, code := jdk_52_method_14_code, exceptionTable := #[], attributes := #[] }
def k12m6 : Method := { name := "toBytes", desc := "([CII)[B", sig := { parameters := [(.array .char), .int, .int], returnType := some (.array .byte) }, accessFlags := 9, code := some k12c6 }
def k12c7 : Code := { maxStack := 2, maxLocals := 2, code := jdk_52_method_15_code, exceptionTable := #[], attributes := #[] }
def k12m7 : Method := { name := "coderFromArrayLen", desc := "([BI)B", sig := { parameters := [(.array .byte), .int], returnType := some .byte }, accessFlags := 8, code := some k12c7 }
def k12c8 : Code := { maxStack := 5, maxLocals := 6, code := jdk_52_method_16_code, exceptionTable := #[], attributes := #[] }
def k12m8 : Method := { name := "compress", desc := "([CII)[B", sig := { parameters := [(.array .char), .int, .int], returnType := some (.array .byte) }, accessFlags := 9, code := some k12c8 }
def k12c9 : Code := { maxStack := 3, maxLocals := 7, code := jdk_52_method_21_code, exceptionTable := #[], attributes := #[] }
def k12m9 : Method := { name := "compress", desc := "([CI[BII)I", sig := { parameters := [(.array .char), .int, (.array .byte), .int, .int], returnType := some .int }, accessFlags := 9, code := some k12c9 }
def k12c10 : Code := { maxStack := 4, maxLocals := 4, code := jdk_52_method_40_code, exceptionTable := #[], attributes := #[] }
def k12m10 : Method := { name := "indexOf", desc := "([BIII)I", sig := { parameters := [(.array .byte), .int, .int, .int], returnType := some .int }, accessFlags := 9, code := some k12c10 }
def k12c11 : Code := { maxStack := 4, maxLocals := 4, code := jdk_52_method_47_code, exceptionTable := #[], attributes := #[] }
def k12m11 : Method := { name := "indexOfChar", desc := "([BIII)I", sig := { parameters := [(.array .byte), .int, .int, .int], returnType := some .int }, accessFlags := 10, code := some k12c11 }
def k12c12 : Code := { maxStack := 2, maxLocals := 5, code := jdk_52_method_48_code, exceptionTable := #[], attributes := #[] }
def k12m12 : Method := { name := "indexOfCharUnsafe", desc := "([BIII)I", sig := { parameters := [(.array .byte), .int, .int, .int], returnType := some .int }, accessFlags := 10, code := some k12c12 }
def k12c13 : Code := { maxStack := 3, maxLocals := 3, code := jdk_52_method_93_code, exceptionTable := #[], attributes := #[] }
def k12m13 : Method := { name := "checkBoundsBeginEnd", desc := "(II[B)V", sig := { parameters := [.int, .int, (.array .byte)], returnType := none }, accessFlags := 9, code := some k12c13 }
/-- java/lang/StringUTF16 -/
def k12 : Class := { plain "java/lang/StringUTF16" (some 0) with
  accessFlags := 48
  interfaces := #[]
  cf := some (fileOf pool12 12 #[.nestMembers #[627, 629, 369]] #[{ accessFlags := 0, nameIndex := 9, descriptorIndex := 10, attributes := #[] }, { accessFlags := 9, nameIndex := 109, descriptorIndex := 110, attributes := #[] }, { accessFlags := 9, nameIndex := 15, descriptorIndex := 16, attributes := #[] }, { accessFlags := 8, nameIndex := 113, descriptorIndex := 114, attributes := #[] }, { accessFlags := 8, nameIndex := 73, descriptorIndex := 74, attributes := #[] }, { accessFlags := 9, nameIndex := 50, descriptorIndex := 51, attributes := #[] }, { accessFlags := 9, nameIndex := 121, descriptorIndex := 122, attributes := #[] }, { accessFlags := 8, nameIndex := 261, descriptorIndex := 262, attributes := #[] }, { accessFlags := 9, nameIndex := 117, descriptorIndex := 122, attributes := #[] }, { accessFlags := 9, nameIndex := 117, descriptorIndex := 118, attributes := #[] }, { accessFlags := 9, nameIndex := 268, descriptorIndex := 231, attributes := #[] }, { accessFlags := 10, nameIndex := 230, descriptorIndex := 231, attributes := #[] }, { accessFlags := 10, nameIndex := 246, descriptorIndex := 231, attributes := #[] }, { accessFlags := 9, nameIndex := 98, descriptorIndex := 99, attributes := #[] }] 48 6 #[] #[{ accessFlags := 26, nameIndex := 61, descriptorIndex := 62, attributes := #[] }, { accessFlags := 26, nameIndex := 65, descriptorIndex := 62, attributes := #[] }, { accessFlags := 24, nameIndex := 430, descriptorIndex := 62, attributes := #[] }, { accessFlags := 4120, nameIndex := 46, descriptorIndex := 47, attributes := #[] }])
  fields := #[{ name := "HI_BYTE_SHIFT", type := .int, accessFlags := 26, slot := 0, constantValue := 0 }, { name := "LO_BYTE_SHIFT", type := .int, accessFlags := 26, slot := 1, constantValue := 0 }, { name := "MAX_LENGTH", type := .int, accessFlags := 24, slot := 2, constantValue := 0 }, { name := "$assertionsDisabled", type := .boolean, accessFlags := 4120, slot := 3, constantValue := 0 }]
  methods := #[k12m0, k12m1, k12m2, k12m3, k12m4, k12m5, k12m6, k12m7, k12m8, k12m9, k12m10, k12m11, k12m12, k12m13]
  instanceTypes := #[]
  staticTypes := #[.int, .int, .int, .boolean]
  resolved := Array.replicate 635 none
  statics := some 1 }

def pool13 : Array CpInfo := pool [(2, .class_ 4), (1, u "java/lang/Object"), (0, u "<init>"), (0, u "()V"), (17, .class_ 26), (1, u "jdk/internal/util/Preconditions"), (20, u "checkFromToIndex"), (7, .class_ 56), (0, u "jdk/internal/util/Preconditions$4"), (57, .class_ 115), (0, u "jdk/internal/util/Preconditions$1"), (7, u "SIOOBE_FORMATTER"), (0, u "Ljava/util/function/BiFunction;"), (0, .class_ 126), (0, u "jdk/internal/util/Preconditions$2"), (3, u "AIOOBE_FORMATTER"), (0, .class_ 132), (0, u "jdk/internal/util/Preconditions$3"), (3, u "IOOBE_FORMATTER"), (46, u "(IIILjava/util/function/BiFunction;)I")] 10

def k13m0 : Method := { name := "<init>", desc := "()V", sig := { parameters := [], returnType := none }, accessFlags := 1, code := none }
def k13c1 : Code := { maxStack := 4, maxLocals := 4, code := jdk_41_method_12_code, exceptionTable := #[], attributes := #[] }
def k13m1 : Method := { name := "checkFromToIndex", desc := "(IIILjava/util/function/BiFunction;)I", sig := { parameters := [.int, .int, .int, (.object "java/util/function/BiFunction")], returnType := some .int }, accessFlags := 9, code := some k13c1 }
/-- jdk/internal/util/Preconditions -/
def k13 : Class := { plain "jdk/internal/util/Preconditions" (some 0) with
  accessFlags := 33
  interfaces := #[]
  cf := some (fileOf pool13 24 #[.nestMembers #[55, 131, 125, 114]] #[{ accessFlags := 1, nameIndex := 5, descriptorIndex := 6, attributes := #[] }, { accessFlags := 9, nameIndex := 47, descriptorIndex := 183, attributes := #[] }] 33 2 #[] #[{ accessFlags := 25, nameIndex := 123, descriptorIndex := 124, attributes := #[] }, { accessFlags := 25, nameIndex := 130, descriptorIndex := 124, attributes := #[] }, { accessFlags := 25, nameIndex := 136, descriptorIndex := 124, attributes := #[] }])
  fields := #[{ name := "SIOOBE_FORMATTER", type := (.object "java/util/function/BiFunction"), accessFlags := 25, slot := 0, constantValue := 0 }, { name := "AIOOBE_FORMATTER", type := (.object "java/util/function/BiFunction"), accessFlags := 25, slot := 1, constantValue := 0 }, { name := "IOOBE_FORMATTER", type := (.object "java/util/function/BiFunction"), accessFlags := 25, slot := 2, constantValue := 0 }]
  methods := #[k13m0, k13m1]
  instanceTypes := #[]
  staticTypes := #[(.object "java/util/function/BiFunction"), (.object "java/util/function/BiFunction"), (.object "java/util/function/BiFunction")]
  resolved := Array.replicate 194 none
  statics := some 2 }

def pool14 : Array CpInfo := pool [(9, u "<init>"), (6, .class_ 18), (1, u "java/lang/Object"), (0, u "()V"), (1, .class_ 23), (1, u "jdk/internal/util/ArraysSupport"), (0, u "LOG2_ARRAY_LONG_INDEX_SCALE"), (0, u "I"), (2, u "U"), (0, u "Ljdk/internal/misc/Unsafe;"), (8, u "BIG_ENDIAN"), (0, u "Z"), (8, u "LOG2_BYTE_BIT_SIZE"), (4, u "LOG2_ARRAY_INT_INDEX_SCALE"), (54, u "JLA"), (0, u "Ljdk/internal/access/JavaLangAccess;"), (11, u "LOG2_ARRAY_BOOLEAN_INDEX_SCALE"), (9, u "LOG2_ARRAY_BYTE_INDEX_SCALE"), (5, u "LOG2_ARRAY_CHAR_INDEX_SCALE"), (5, u "LOG2_ARRAY_SHORT_INDEX_SCALE"), (18, u "LOG2_ARRAY_FLOAT_INDEX_SCALE"), (24, u "LOG2_ARRAY_DOUBLE_INDEX_SCALE"), (89, u "T_BOOLEAN"), (2, u "T_CHAR"), (1, u "T_FLOAT"), (1, u "T_DOUBLE"), (1, u "T_BYTE"), (1, u "T_SHORT"), (1, u "T_INT"), (1, u "T_LONG"), (1, u "SOFT_MAX_ARRAY_LENGTH")] 83

def k14m0 : Method := { name := "<init>", desc := "()V", sig := { parameters := [], returnType := none }, accessFlags := 2, code := none }
/-- jdk/internal/util/ArraysSupport -/
def k14 : Class := { plain "jdk/internal/util/ArraysSupport" (some 0) with
  accessFlags := 33
  interfaces := #[]
  cf := some (fileOf pool14 21 #[] #[{ accessFlags := 2, nameIndex := 9, descriptorIndex := 19, attributes := #[] }] 33 16 #[] #[{ accessFlags := 24, nameIndex := 28, descriptorIndex := 29, attributes := #[] }, { accessFlags := 26, nameIndex := 38, descriptorIndex := 39, attributes := #[] }, { accessFlags := 25, nameIndex := 121, descriptorIndex := 25, attributes := #[] }, { accessFlags := 25, nameIndex := 131, descriptorIndex := 25, attributes := #[] }, { accessFlags := 25, nameIndex := 137, descriptorIndex := 25, attributes := #[] }, { accessFlags := 25, nameIndex := 143, descriptorIndex := 25, attributes := #[] }, { accessFlags := 25, nameIndex := 53, descriptorIndex := 25, attributes := #[] }, { accessFlags := 25, nameIndex := 24, descriptorIndex := 25, attributes := #[] }, { accessFlags := 25, nameIndex := 162, descriptorIndex := 25, attributes := #[] }, { accessFlags := 25, nameIndex := 187, descriptorIndex := 25, attributes := #[] }, { accessFlags := 26, nameIndex := 48, descriptorIndex := 25, attributes := #[] }, { accessFlags := 25, nameIndex := 277, descriptorIndex := 25, attributes := #[] }, { accessFlags := 25, nameIndex := 280, descriptorIndex := 25, attributes := #[] }, { accessFlags := 25, nameIndex := 282, descriptorIndex := 25, attributes := #[] }, { accessFlags := 25, nameIndex := 284, descriptorIndex := 25, attributes := #[] }, { accessFlags := 25, nameIndex := 286, descriptorIndex := 25, attributes := #[] }, { accessFlags := 25, nameIndex := 288, descriptorIndex := 25, attributes := #[] }, { accessFlags := 25, nameIndex := 290, descriptorIndex := 25, attributes := #[] }, { accessFlags := 25, nameIndex := 292, descriptorIndex := 25, attributes := #[] }, { accessFlags := 26, nameIndex := 108, descriptorIndex := 109, attributes := #[] }, { accessFlags := 25, nameIndex := 294, descriptorIndex := 25, attributes := #[] }])
  fields := #[{ name := "U", type := (.object "jdk/internal/misc/Unsafe"), accessFlags := 24, slot := 0, constantValue := 0 }, { name := "BIG_ENDIAN", type := .boolean, accessFlags := 26, slot := 1, constantValue := 0 }, { name := "LOG2_ARRAY_BOOLEAN_INDEX_SCALE", type := .int, accessFlags := 25, slot := 2, constantValue := 0 }, { name := "LOG2_ARRAY_BYTE_INDEX_SCALE", type := .int, accessFlags := 25, slot := 3, constantValue := 0 }, { name := "LOG2_ARRAY_CHAR_INDEX_SCALE", type := .int, accessFlags := 25, slot := 4, constantValue := 0 }, { name := "LOG2_ARRAY_SHORT_INDEX_SCALE", type := .int, accessFlags := 25, slot := 5, constantValue := 0 }, { name := "LOG2_ARRAY_INT_INDEX_SCALE", type := .int, accessFlags := 25, slot := 6, constantValue := 0 }, { name := "LOG2_ARRAY_LONG_INDEX_SCALE", type := .int, accessFlags := 25, slot := 7, constantValue := 0 }, { name := "LOG2_ARRAY_FLOAT_INDEX_SCALE", type := .int, accessFlags := 25, slot := 8, constantValue := 0 }, { name := "LOG2_ARRAY_DOUBLE_INDEX_SCALE", type := .int, accessFlags := 25, slot := 9, constantValue := 0 }, { name := "LOG2_BYTE_BIT_SIZE", type := .int, accessFlags := 26, slot := 10, constantValue := 0 }, { name := "T_BOOLEAN", type := .int, accessFlags := 25, slot := 11, constantValue := 0 }, { name := "T_CHAR", type := .int, accessFlags := 25, slot := 12, constantValue := 0 }, { name := "T_FLOAT", type := .int, accessFlags := 25, slot := 13, constantValue := 0 }, { name := "T_DOUBLE", type := .int, accessFlags := 25, slot := 14, constantValue := 0 }, { name := "T_BYTE", type := .int, accessFlags := 25, slot := 15, constantValue := 0 }, { name := "T_SHORT", type := .int, accessFlags := 25, slot := 16, constantValue := 0 }, { name := "T_INT", type := .int, accessFlags := 25, slot := 17, constantValue := 0 }, { name := "T_LONG", type := .int, accessFlags := 25, slot := 18, constantValue := 0 }, { name := "JLA", type := (.object "jdk/internal/access/JavaLangAccess"), accessFlags := 26, slot := 19, constantValue := 0 }, { name := "SOFT_MAX_ARRAY_LENGTH", type := .int, accessFlags := 25, slot := 20, constantValue := 0 }]
  methods := #[k14m0]
  instanceTypes := #[]
  staticTypes := #[(.object "jdk/internal/misc/Unsafe"), .boolean, .int, .int, .int, .int, .int, .int, .int, .int, .int, .int, .int, .int, .int, .int, .int, .int, .int, (.object "jdk/internal/access/JavaLangAccess"), .int]
  resolved := Array.replicate 378 none
  statics := none }

def pool15 : Array CpInfo := pool [(1, u "java/lang/Cloneable"), (0, .class_ 1), (0, u "java/lang/Object"), (0, .class_ 3)] 3

/-- java/lang/Cloneable -/
def k15 : Class := { plain "java/lang/Cloneable" (some 0) with
  accessFlags := 1537
  interfaces := #[]
  cf := some (fileOf pool15 2 #[] #[] 1537 4 #[] #[])
  fields := #[]
  methods := #[]
  instanceTypes := #[]
  staticTypes := #[]
  resolved := Array.replicate 8 none
  statics := none }

/-- the primitive byte -/
def k16 : Class := { plain "byte" none with kind := .primitive 'B', accessFlags := 0x411 }
/-- [B -/
def k17 : Class := { plain "[B" (some 0) with kind := .array 16 .byte, interfaces := #[15, 3], accessFlags := 1041 }

/-- the primitive char -/
def k18 : Class := { plain "char" none with kind := .primitive 'C', accessFlags := 0x411 }
/-- [C -/
def k19 : Class := { plain "[C" (some 0) with kind := .array 18 .char, interfaces := #[15, 3], accessFlags := 1041 }

/-- the primitive int -/
def k20 : Class := { plain "int" none with kind := .primitive 'I', accessFlags := 0x411 }
/-- [I -/
def k21 : Class := { plain "[I" (some 0) with kind := .array 20 .int, interfaces := #[15, 3], accessFlags := 1041 }

def heap : Heap := #[{ cls := 8, slots := #[.long 0, .int 1, .null, .int 0, .null, .int 0, .int 0], vm := .statics 8 },
  { cls := 12, slots := #[.int 0, .int 8, .int 0, .int 1], vm := .statics 12 },
  { cls := 13, slots := #[.null, .null, .null], vm := .statics 13 }]
def classes : Array Class := #[k0, k1, k2, k3, k4, k5, k6, k7, k8, k9, k10, k11, k12, k13, k14, k15, k16, k17, k18, k19, k20, k21]
def interned : List (Array UInt16 × Addr) := []
def slotsUsed : Nat := 14
def theMethod : MethodId := ⟨1, 1⟩
def args0 : Array Value := #[.int 3, .int 7, .int 7, .int 7, .int 7]
def aboutOver (below : List Frame) : State where
  vm := { classes := classes, interned := interned.toArray }
  heap := heap
  slotsUsed := slotsUsed
  threads := #[{ frames := .invoking theMethod args0 :: below }]
def below0 : List Frame := [.native { method := ⟨0, 0⟩, args := #[] }]
def about1 : State := aboutOver below0
def p0 : Program := .bare "" "" ""
def e0 : Env := launch0.env 0 0 0
theorem w_frames : about1.frames = Frame.invoking theMethod args0 :: below0 := rfl
set_option maxRecDepth 65536 in
theorem w_args : argsFit about1.vm theMethod args0 = true := by decide +kernel
set_option maxRecDepth 65536 in
theorem w_heap : heapFits about1 = true := by decide +kernel
set_option maxRecDepth 65536 in
theorem w_runnable : about1.curStatus? = some .runnable := by decide +kernel
set_option maxRecDepth 65536 in
theorem w_alone : about1.alone = true := by decide +kernel
set_option maxRecDepth 65536 in
theorem w_named : about1.methodNamed? x = some theMethod := by decide +kernel
set_option maxRecDepth 65536 in
theorem w_hears : about1.hears theMethod below0 = true := by decide +kernel
set_option maxRecDepth 65536 in
theorem w_ripe : about1.ripe theMethod args0 below0 = true := by decide +kernel
theorem w_running : about1.status = .running := rfl
set_option maxRecDepth 65536 in
theorem w_room : about1.hasRoom e0.platform room_1 = true :=
  launch0.hasRoom_least _ room_1 (by decide +kernel) (by decide +kernel) (by decide +kernel) (by decide +kernel) (by decide +kernel) (by decide +kernel)
theorem allAtoms_all (ts : List Jvm.Cond) (a : Array Jvm.Value) (st : Jvm.State) : (allAtoms ts).before a st = ts.all (fun c => c.before a st) := by
  induction ts with
  | nil => rfl
  | cons c t ih =>
    show (Jvm.Cond.and c (allAtoms t)).before a st = _
    rw [Jvm.Cond.before_and, ih, List.all_cons]
def words1 : List Jvm.Cond := Jvm.Cond.code x code maxLocals ret :: tables_1
/-- a 'code' word, met by the world's own term for the bytes: nothing is compared byte by byte -/
theorem code_word {y : MethodName} {bytes : ByteArray} {mx : Nat} {rt : Option FieldType} {a : Array Value} {s : State} {m : MethodId} {meth : Method} {c : Code} (h1 : s.methodNamed? y = some m) (h2 : s.vm.method? m = some meth) (h3 : meth.code = some c) (h4 : c.code = bytes)
    (h5 : (c.maxLocals == mx && c.exceptionTable.isEmpty && decide (c.maxStack ≤ mostOperands) && decide (meth.sig.returnType = rt) && !meth.locks && decide (parseMethodDescriptor y.desc = some meth.sig)) = true) : (Jvm.Cond.code y bytes mx rt).before a s = true := by
  simp only [Bool.and_eq_true, beq_iff_eq, Bool.not_eq_true', decide_eq_true_eq] at h5
  obtain ⟨⟨⟨⟨⟨g1, g2⟩, g3⟩, g4⟩, g5⟩, g6⟩ := h5
  simp [Cond.before, Cond.holds, Cond.value, h1, h2, h3, h4, g1, g2, g3, g4, g5, g6]
def isCode : Jvm.Cond → Bool
  | .code _ _ _ _ => true
  | _ => false
theorem all_split {L : List Jvm.Cond} {P : Jvm.Cond → Bool} (h1 : L.all (fun c => isCode c || P c) = true) (h2 : ∀ c ∈ L.filter isCode, P c = true) : L.all P = true := by
  refine List.all_eq_true.mpr fun c hc => ?_
  have h := List.all_eq_true.mp h1 c hc
  rcases Bool.eq_false_or_eq_true (isCode c) with hi | hi
  · exact h2 c (List.mem_filter.mpr ⟨hc, hi⟩)
  · simpa [hi] using h
set_option maxRecDepth 65536 in
theorem w_c0 : (Jvm.Cond.code x code maxLocals ret).before args0 about1 = true := code_word (m := ⟨1, 1⟩) (meth := k1m1) (c := k1c1) (by decide +kernel) rfl rfl rfl (by decide +kernel)
set_option maxRecDepth 65536 in
theorem w_c1 : (Jvm.Cond.code ({ cls := "java/lang/Math", name := "min", desc := "(II)I" } : Jvm.MethodName) jdk_29_method_69_code (2 : Nat) (Option.some Jvm.ClassFile.FieldType.int)).before args0 about1 = true := code_word (m := ⟨2, 2⟩) (meth := k2m2) (c := k2c2) (by decide +kernel) rfl rfl rfl (by decide +kernel)
set_option maxRecDepth 65536 in
theorem w_c2 : (Jvm.Cond.code ({ cls := "com/example/caseward/caseward/core/RightFitsFieldPinLaw", name := "draw", desc := "(I)C" } : Jvm.MethodName) method_3_code (2 : Nat) (Option.some Jvm.ClassFile.FieldType.char)).before args0 about1 = true := code_word (m := ⟨1, 2⟩) (meth := k1m2) (c := k1c2) (by decide +kernel) rfl rfl rfl (by decide +kernel)
set_option maxRecDepth 65536 in
theorem w_c3 : (Jvm.Cond.code ({ cls := "java/lang/String", name := "<init>", desc := "([C)V" } : Jvm.MethodName) jdk_42_method_3_code (2 : Nat) (Option.none : Option Jvm.ClassFile.FieldType)).before args0 about1 = true := code_word (m := ⟨8, 1⟩) (meth := k8m1) (c := k8c1) (by decide +kernel) rfl rfl rfl (by decide +kernel)
set_option maxRecDepth 65536 in
theorem w_c4 : (Jvm.Cond.code ({ cls := "java/lang/String", name := "<init>", desc := "([CIILjava/lang/Void;)V" } : Jvm.MethodName) jdk_42_method_149_code (6 : Nat) (Option.none : Option Jvm.ClassFile.FieldType)).before args0 about1 = true := code_word (m := ⟨8, 5⟩) (meth := k8m5) (c := k8c5) (by decide +kernel) rfl rfl rfl (by decide +kernel)
set_option maxRecDepth 65536 in
theorem w_c5 : (Jvm.Cond.code ({ cls := "java/lang/Object", name := "<init>", desc := "()V" } : Jvm.MethodName) object_method_1_code (1 : Nat) (Option.none : Option Jvm.ClassFile.FieldType)).before args0 about1 = true := code_word (m := ⟨0, 0⟩) (meth := k0m0) (c := k0c0) (by decide +kernel) rfl rfl rfl (by decide +kernel)
set_option maxRecDepth 65536 in
theorem w_c6 : (Jvm.Cond.code ({ cls := "com/example/caseward/caseward/core/Right", name := "fitsField", desc := "(Ljava/lang/String;)Z" } : Jvm.MethodName) prog_47_method_5_code (1 : Nat) (Option.some Jvm.ClassFile.FieldType.boolean)).before args0 about1 = true := code_word (m := ⟨10, 0⟩) (meth := k10m0) (c := k10c0) (by decide +kernel) rfl rfl rfl (by decide +kernel)
set_option maxRecDepth 65536 in
theorem w_c7 : (Jvm.Cond.code ({ cls := "java/lang/String", name := "indexOf", desc := "(I)I" } : Jvm.MethodName) jdk_42_method_79_code (2 : Nat) (Option.some Jvm.ClassFile.FieldType.int)).before args0 about1 = true := code_word (m := ⟨8, 3⟩) (meth := k8m3) (c := k8c3) (by decide +kernel) rfl rfl rfl (by decide +kernel)
set_option maxRecDepth 65536 in
theorem w_c8 : (Jvm.Cond.code ({ cls := "java/lang/String", name := "indexOf", desc := "(II)I" } : Jvm.MethodName) jdk_42_method_80_code (3 : Nat) (Option.some Jvm.ClassFile.FieldType.int)).before args0 about1 = true := code_word (m := ⟨8, 4⟩) (meth := k8m4) (c := k8c4) (by decide +kernel) rfl rfl rfl (by decide +kernel)
set_option maxRecDepth 65536 in
theorem w_c9 : (Jvm.Cond.code ({ cls := "java/lang/String", name := "isLatin1", desc := "()Z" } : Jvm.MethodName) jdk_42_method_154_code (1 : Nat) (Option.some Jvm.ClassFile.FieldType.boolean)).before args0 about1 = true := code_word (m := ⟨8, 7⟩) (meth := k8m7) (c := k8c7) (by decide +kernel) rfl rfl rfl (by decide +kernel)
set_option maxRecDepth 65536 in
theorem w_c10 : (Jvm.Cond.code ({ cls := "java/lang/String", name := "length", desc := "()I" } : Jvm.MethodName) jdk_42_method_54_code (1 : Nat) (Option.some Jvm.ClassFile.FieldType.int)).before args0 about1 = true := code_word (m := ⟨8, 2⟩) (meth := k8m2) (c := k8c2) (by decide +kernel) rfl rfl rfl (by decide +kernel)
set_option maxRecDepth 65536 in
theorem w_c11 : (Jvm.Cond.code ({ cls := "java/lang/String", name := "coder", desc := "()B" } : Jvm.MethodName) jdk_42_method_152_code (1 : Nat) (Option.some Jvm.ClassFile.FieldType.byte)).before args0 about1 = true := code_word (m := ⟨8, 6⟩) (meth := k8m6) (c := k8c6) (by decide +kernel) rfl rfl rfl (by decide +kernel)
set_option maxRecDepth 65536 in
theorem w_c12 : (Jvm.Cond.code ({ cls := "java/lang/StringLatin1", name := "indexOf", desc := "([BIII)I" } : Jvm.MethodName) jdk_43_method_22_code (4 : Nat) (Option.some Jvm.ClassFile.FieldType.int)).before args0 about1 = true := code_word (m := ⟨11, 2⟩) (meth := k11m2) (c := k11c2) (by decide +kernel) rfl rfl rfl (by decide +kernel)
set_option maxRecDepth 65536 in
theorem w_c13 : (Jvm.Cond.code ({ cls := "java/lang/StringLatin1", name := "canEncode", desc := "(I)Z" } : Jvm.MethodName) jdk_43_method_4_code (1 : Nat) (Option.some Jvm.ClassFile.FieldType.boolean)).before args0 about1 = true := code_word (m := ⟨11, 1⟩) (meth := k11m1) (c := k11c1) (by decide +kernel) rfl rfl rfl (by decide +kernel)
set_option maxRecDepth 65536 in
theorem w_c14 : (Jvm.Cond.code ({ cls := "java/lang/Math", name := "max", desc := "(II)I" } : Jvm.MethodName) jdk_29_method_65_code (2 : Nat) (Option.some Jvm.ClassFile.FieldType.int)).before args0 about1 = true := code_word (m := ⟨2, 1⟩) (meth := k2m1) (c := k2c1) (by decide +kernel) rfl rfl rfl (by decide +kernel)
set_option maxRecDepth 65536 in
theorem w_c15 : (Jvm.Cond.code ({ cls := "java/lang/StringUTF16", name := "compress", desc := "([CII)[B" } : Jvm.MethodName) jdk_52_method_16_code (6 : Nat) (Option.some (Jvm.ClassFile.FieldType.array Jvm.ClassFile.FieldType.byte))).before args0 about1 = true := code_word (m := ⟨12, 8⟩) (meth := k12m8) (c := k12c8) (by decide +kernel) rfl rfl rfl (by decide +kernel)
set_option maxRecDepth 65536 in
theorem w_c16 : (Jvm.Cond.code ({ cls := "java/lang/StringUTF16", name := "compress", desc := "([CI[BII)I" } : Jvm.MethodName) jdk_52_method_21_code (7 : Nat) (Option.some Jvm.ClassFile.FieldType.int)).before args0 about1 = true := code_word (m := ⟨12, 9⟩) (meth := k12m9) (c := k12c9) (by decide +kernel) rfl rfl rfl (by decide +kernel)
set_option maxRecDepth 65536 in
theorem w_c17 : (Jvm.Cond.code ({ cls := "java/lang/StringUTF16", name := "coderFromArrayLen", desc := "([BI)B" } : Jvm.MethodName) jdk_52_method_15_code (2 : Nat) (Option.some Jvm.ClassFile.FieldType.byte)).before args0 about1 = true := code_word (m := ⟨12, 7⟩) (meth := k12m7) (c := k12c7) (by decide +kernel) rfl rfl rfl (by decide +kernel)
set_option maxRecDepth 65536 in
theorem w_c18 : (Jvm.Cond.code ({ cls := "com/example/caseward/caseward/core/RightFitsFieldPinLaw", name := "bad", desc := "(C)Z" } : Jvm.MethodName) method_4_code (1 : Nat) (Option.some Jvm.ClassFile.FieldType.boolean)).before args0 about1 = true := code_word (m := ⟨1, 3⟩) (meth := k1m3) (c := k1c3) (by decide +kernel) rfl rfl rfl (by decide +kernel)
set_option maxRecDepth 65536 in
theorem w_c19 : (Jvm.Cond.code ({ cls := "java/lang/StringLatin1", name := "indexOfChar", desc := "([BIII)I" } : Jvm.MethodName) jdk_43_method_23_code (6 : Nat) (Option.some Jvm.ClassFile.FieldType.int)).before args0 about1 = true := code_word (m := ⟨11, 3⟩) (meth := k11m3) (c := k11c3) (by decide +kernel) rfl rfl rfl (by decide +kernel)
set_option maxRecDepth 65536 in
theorem w_c20 : (Jvm.Cond.code ({ cls := "java/lang/StringUTF16", name := "toBytes", desc := "([CII)[B" } : Jvm.MethodName) jdk_52_method_14_code (5 : Nat) (Option.some (Jvm.ClassFile.FieldType.array Jvm.ClassFile.FieldType.byte))).before args0 about1 = true := code_word (m := ⟨12, 6⟩) (meth := k12m6) (c := k12c6) (by decide +kernel) rfl rfl rfl (by decide +kernel)
set_option maxRecDepth 65536 in
theorem w_c21 : (Jvm.Cond.code ({ cls := "java/lang/StringUTF16", name := "newBytesFor", desc := "(I)[B" } : Jvm.MethodName) jdk_52_method_2_code (1 : Nat) (Option.some (Jvm.ClassFile.FieldType.array Jvm.ClassFile.FieldType.byte))).before args0 about1 = true := code_word (m := ⟨12, 1⟩) (meth := k12m1) (c := k12c1) (by decide +kernel) rfl rfl rfl (by decide +kernel)
set_option maxRecDepth 65536 in
theorem w_c22 : (Jvm.Cond.code ({ cls := "java/lang/StringUTF16", name := "newBytesLength", desc := "(I)I" } : Jvm.MethodName) jdk_52_method_3_code (1 : Nat) (Option.some Jvm.ClassFile.FieldType.int)).before args0 about1 = true := code_word (m := ⟨12, 2⟩) (meth := k12m2) (c := k12c2) (by decide +kernel) rfl rfl rfl (by decide +kernel)
set_option maxRecDepth 65536 in
theorem w_c23 : (Jvm.Cond.code ({ cls := "java/lang/StringUTF16", name := "putChar", desc := "([BII)V" } : Jvm.MethodName) jdk_52_method_4_code (3 : Nat) (Option.none : Option Jvm.ClassFile.FieldType)).before args0 about1 = true := code_word (m := ⟨12, 3⟩) (meth := k12m3) (c := k12c3) (by decide +kernel) rfl rfl rfl (by decide +kernel)
set_option maxRecDepth 65536 in
theorem w_c24 : (Jvm.Cond.code ({ cls := "java/lang/StringUTF16", name := "getChar", desc := "([BI)C" } : Jvm.MethodName) jdk_52_method_5_code (2 : Nat) (Option.some Jvm.ClassFile.FieldType.char)).before args0 about1 = true := code_word (m := ⟨12, 4⟩) (meth := k12m4) (c := k12c4) (by decide +kernel) rfl rfl rfl (by decide +kernel)
set_option maxRecDepth 65536 in
theorem w_c25 : (Jvm.Cond.code ({ cls := "java/lang/StringUTF16", name := "indexOf", desc := "([BIII)I" } : Jvm.MethodName) jdk_52_method_40_code (4 : Nat) (Option.some Jvm.ClassFile.FieldType.int)).before args0 about1 = true := code_word (m := ⟨12, 10⟩) (meth := k12m10) (c := k12c10) (by decide +kernel) rfl rfl rfl (by decide +kernel)
set_option maxRecDepth 65536 in
theorem w_c26 : (Jvm.Cond.code ({ cls := "java/lang/StringUTF16", name := "indexOfChar", desc := "([BIII)I" } : Jvm.MethodName) jdk_52_method_47_code (4 : Nat) (Option.some Jvm.ClassFile.FieldType.int)).before args0 about1 = true := code_word (m := ⟨12, 11⟩) (meth := k12m11) (c := k12c11) (by decide +kernel) rfl rfl rfl (by decide +kernel)
set_option maxRecDepth 65536 in
theorem w_c27 : (Jvm.Cond.code ({ cls := "java/lang/StringUTF16", name := "checkBoundsBeginEnd", desc := "(II[B)V" } : Jvm.MethodName) jdk_52_method_93_code (3 : Nat) (Option.none : Option Jvm.ClassFile.FieldType)).before args0 about1 = true := code_word (m := ⟨12, 13⟩) (meth := k12m13) (c := k12c13) (by decide +kernel) rfl rfl rfl (by decide +kernel)
set_option maxRecDepth 65536 in
theorem w_c28 : (Jvm.Cond.code ({ cls := "java/lang/StringUTF16", name := "length", desc := "([B)I" } : Jvm.MethodName) jdk_52_method_6_code (1 : Nat) (Option.some Jvm.ClassFile.FieldType.int)).before args0 about1 = true := code_word (m := ⟨12, 5⟩) (meth := k12m5) (c := k12c5) (by decide +kernel) rfl rfl rfl (by decide +kernel)
set_option maxRecDepth 65536 in
theorem w_c29 : (Jvm.Cond.code ({ cls := "java/lang/String", name := "checkBoundsBeginEnd", desc := "(III)V" } : Jvm.MethodName) jdk_42_method_158_code (3 : Nat) (Option.none : Option Jvm.ClassFile.FieldType)).before args0 about1 = true := code_word (m := ⟨8, 8⟩) (meth := k8m8) (c := k8c8) (by decide +kernel) rfl rfl rfl (by decide +kernel)
set_option maxRecDepth 65536 in
theorem w_c30 : (Jvm.Cond.code ({ cls := "jdk/internal/util/Preconditions", name := "checkFromToIndex", desc := "(IIILjava/util/function/BiFunction;)I" } : Jvm.MethodName) jdk_41_method_12_code (4 : Nat) (Option.some Jvm.ClassFile.FieldType.int)).before args0 about1 = true := code_word (m := ⟨13, 1⟩) (meth := k13m1) (c := k13c1) (by decide +kernel) rfl rfl rfl (by decide +kernel)
set_option maxRecDepth 65536 in
theorem w_c31 : (Jvm.Cond.code ({ cls := "java/lang/StringUTF16", name := "indexOfCharUnsafe", desc := "([BIII)I" } : Jvm.MethodName) jdk_52_method_48_code (5 : Nat) (Option.some Jvm.ClassFile.FieldType.int)).before args0 about1 = true := code_word (m := ⟨12, 12⟩) (meth := k12m12) (c := k12c12) (by decide +kernel) rfl rfl rfl (by decide +kernel)
def codes1 : List Jvm.Cond := [Jvm.Cond.code x code maxLocals ret, Jvm.Cond.code ({ cls := "java/lang/Math", name := "min", desc := "(II)I" } : Jvm.MethodName) jdk_29_method_69_code (2 : Nat) (Option.some Jvm.ClassFile.FieldType.int), Jvm.Cond.code ({ cls := "com/example/caseward/caseward/core/RightFitsFieldPinLaw", name := "draw", desc := "(I)C" } : Jvm.MethodName) method_3_code (2 : Nat) (Option.some Jvm.ClassFile.FieldType.char), Jvm.Cond.code ({ cls := "java/lang/String", name := "<init>", desc := "([C)V" } : Jvm.MethodName) jdk_42_method_3_code (2 : Nat) (Option.none : Option Jvm.ClassFile.FieldType), Jvm.Cond.code ({ cls := "java/lang/String", name := "<init>", desc := "([CIILjava/lang/Void;)V" } : Jvm.MethodName) jdk_42_method_149_code (6 : Nat) (Option.none : Option Jvm.ClassFile.FieldType), Jvm.Cond.code ({ cls := "java/lang/Object", name := "<init>", desc := "()V" } : Jvm.MethodName) object_method_1_code (1 : Nat) (Option.none : Option Jvm.ClassFile.FieldType), Jvm.Cond.code ({ cls := "com/example/caseward/caseward/core/Right", name := "fitsField", desc := "(Ljava/lang/String;)Z" } : Jvm.MethodName) prog_47_method_5_code (1 : Nat) (Option.some Jvm.ClassFile.FieldType.boolean), Jvm.Cond.code ({ cls := "java/lang/String", name := "indexOf", desc := "(I)I" } : Jvm.MethodName) jdk_42_method_79_code (2 : Nat) (Option.some Jvm.ClassFile.FieldType.int), Jvm.Cond.code ({ cls := "java/lang/String", name := "indexOf", desc := "(II)I" } : Jvm.MethodName) jdk_42_method_80_code (3 : Nat) (Option.some Jvm.ClassFile.FieldType.int), Jvm.Cond.code ({ cls := "java/lang/String", name := "isLatin1", desc := "()Z" } : Jvm.MethodName) jdk_42_method_154_code (1 : Nat) (Option.some Jvm.ClassFile.FieldType.boolean), Jvm.Cond.code ({ cls := "java/lang/String", name := "length", desc := "()I" } : Jvm.MethodName) jdk_42_method_54_code (1 : Nat) (Option.some Jvm.ClassFile.FieldType.int), Jvm.Cond.code ({ cls := "java/lang/String", name := "coder", desc := "()B" } : Jvm.MethodName) jdk_42_method_152_code (1 : Nat) (Option.some Jvm.ClassFile.FieldType.byte), Jvm.Cond.code ({ cls := "java/lang/StringLatin1", name := "indexOf", desc := "([BIII)I" } : Jvm.MethodName) jdk_43_method_22_code (4 : Nat) (Option.some Jvm.ClassFile.FieldType.int), Jvm.Cond.code ({ cls := "java/lang/StringLatin1", name := "canEncode", desc := "(I)Z" } : Jvm.MethodName) jdk_43_method_4_code (1 : Nat) (Option.some Jvm.ClassFile.FieldType.boolean), Jvm.Cond.code ({ cls := "java/lang/Math", name := "max", desc := "(II)I" } : Jvm.MethodName) jdk_29_method_65_code (2 : Nat) (Option.some Jvm.ClassFile.FieldType.int), Jvm.Cond.code ({ cls := "java/lang/StringUTF16", name := "compress", desc := "([CII)[B" } : Jvm.MethodName) jdk_52_method_16_code (6 : Nat) (Option.some (Jvm.ClassFile.FieldType.array Jvm.ClassFile.FieldType.byte)), Jvm.Cond.code ({ cls := "java/lang/StringUTF16", name := "compress", desc := "([CI[BII)I" } : Jvm.MethodName) jdk_52_method_21_code (7 : Nat) (Option.some Jvm.ClassFile.FieldType.int), Jvm.Cond.code ({ cls := "java/lang/StringUTF16", name := "coderFromArrayLen", desc := "([BI)B" } : Jvm.MethodName) jdk_52_method_15_code (2 : Nat) (Option.some Jvm.ClassFile.FieldType.byte), Jvm.Cond.code ({ cls := "com/example/caseward/caseward/core/RightFitsFieldPinLaw", name := "bad", desc := "(C)Z" } : Jvm.MethodName) method_4_code (1 : Nat) (Option.some Jvm.ClassFile.FieldType.boolean), Jvm.Cond.code ({ cls := "java/lang/StringLatin1", name := "indexOfChar", desc := "([BIII)I" } : Jvm.MethodName) jdk_43_method_23_code (6 : Nat) (Option.some Jvm.ClassFile.FieldType.int), Jvm.Cond.code ({ cls := "java/lang/StringUTF16", name := "toBytes", desc := "([CII)[B" } : Jvm.MethodName) jdk_52_method_14_code (5 : Nat) (Option.some (Jvm.ClassFile.FieldType.array Jvm.ClassFile.FieldType.byte)), Jvm.Cond.code ({ cls := "java/lang/StringUTF16", name := "newBytesFor", desc := "(I)[B" } : Jvm.MethodName) jdk_52_method_2_code (1 : Nat) (Option.some (Jvm.ClassFile.FieldType.array Jvm.ClassFile.FieldType.byte)), Jvm.Cond.code ({ cls := "java/lang/StringUTF16", name := "newBytesLength", desc := "(I)I" } : Jvm.MethodName) jdk_52_method_3_code (1 : Nat) (Option.some Jvm.ClassFile.FieldType.int), Jvm.Cond.code ({ cls := "java/lang/StringUTF16", name := "putChar", desc := "([BII)V" } : Jvm.MethodName) jdk_52_method_4_code (3 : Nat) (Option.none : Option Jvm.ClassFile.FieldType), Jvm.Cond.code ({ cls := "java/lang/StringUTF16", name := "getChar", desc := "([BI)C" } : Jvm.MethodName) jdk_52_method_5_code (2 : Nat) (Option.some Jvm.ClassFile.FieldType.char), Jvm.Cond.code ({ cls := "java/lang/StringUTF16", name := "indexOf", desc := "([BIII)I" } : Jvm.MethodName) jdk_52_method_40_code (4 : Nat) (Option.some Jvm.ClassFile.FieldType.int), Jvm.Cond.code ({ cls := "java/lang/StringUTF16", name := "indexOfChar", desc := "([BIII)I" } : Jvm.MethodName) jdk_52_method_47_code (4 : Nat) (Option.some Jvm.ClassFile.FieldType.int), Jvm.Cond.code ({ cls := "java/lang/StringUTF16", name := "checkBoundsBeginEnd", desc := "(II[B)V" } : Jvm.MethodName) jdk_52_method_93_code (3 : Nat) (Option.none : Option Jvm.ClassFile.FieldType), Jvm.Cond.code ({ cls := "java/lang/StringUTF16", name := "length", desc := "([B)I" } : Jvm.MethodName) jdk_52_method_6_code (1 : Nat) (Option.some Jvm.ClassFile.FieldType.int), Jvm.Cond.code ({ cls := "java/lang/String", name := "checkBoundsBeginEnd", desc := "(III)V" } : Jvm.MethodName) jdk_42_method_158_code (3 : Nat) (Option.none : Option Jvm.ClassFile.FieldType), Jvm.Cond.code ({ cls := "jdk/internal/util/Preconditions", name := "checkFromToIndex", desc := "(IIILjava/util/function/BiFunction;)I" } : Jvm.MethodName) jdk_41_method_12_code (4 : Nat) (Option.some Jvm.ClassFile.FieldType.int), Jvm.Cond.code ({ cls := "java/lang/StringUTF16", name := "indexOfCharUnsafe", desc := "([BIII)I" } : Jvm.MethodName) jdk_52_method_48_code (5 : Nat) (Option.some Jvm.ClassFile.FieldType.int)]
set_option maxRecDepth 65536 in
theorem codes_eq : words1.filter isCode = codes1 := rfl
theorem w_codes : ∀ c ∈ words1.filter isCode, c.before args0 about1 = true := by
  rw [codes_eq]
  intro c hc
  simp only [codes1, List.mem_cons, List.not_mem_nil, or_false] at hc
  rcases hc with rfl | rfl | rfl | rfl | rfl | rfl | rfl | rfl | rfl | rfl | rfl | rfl | rfl | rfl | rfl | rfl | rfl | rfl | rfl | rfl | rfl | rfl | rfl | rfl | rfl | rfl | rfl | rfl | rfl | rfl | rfl | rfl
  · exact w_c0
  · exact w_c1
  · exact w_c2
  · exact w_c3
  · exact w_c4
  · exact w_c5
  · exact w_c6
  · exact w_c7
  · exact w_c8
  · exact w_c9
  · exact w_c10
  · exact w_c11
  · exact w_c12
  · exact w_c13
  · exact w_c14
  · exact w_c15
  · exact w_c16
  · exact w_c17
  · exact w_c18
  · exact w_c19
  · exact w_c20
  · exact w_c21
  · exact w_c22
  · exact w_c23
  · exact w_c24
  · exact w_c25
  · exact w_c26
  · exact w_c27
  · exact w_c28
  · exact w_c29
  · exact w_c30
  · exact w_c31
set_option maxRecDepth 65536 in
theorem w_t1 : (words1.take 24).all (fun c => isCode c || c.before args0 about1) = true := by decide +kernel
set_option maxRecDepth 65536 in
theorem w_t2 : ((words1.drop 24).take 24).all (fun c => isCode c || c.before args0 about1) = true := by decide +kernel
set_option maxRecDepth 65536 in
theorem w_t3 : (((words1.drop 24).drop 24).take 24).all (fun c => isCode c || c.before args0 about1) = true := by decide +kernel
set_option maxRecDepth 65536 in
theorem w_t4 : ((((words1.drop 24).drop 24).drop 24).take 24).all (fun c => isCode c || c.before args0 about1) = true := by decide +kernel
set_option maxRecDepth 65536 in
theorem w_t5 : (((((words1.drop 24).drop 24).drop 24).drop 24).take 24).all (fun c => isCode c || c.before args0 about1) = true := by decide +kernel
set_option maxRecDepth 65536 in
theorem w_t6 : (((((words1.drop 24).drop 24).drop 24).drop 24).drop 24).all (fun c => isCode c || c.before args0 about1) = true := by decide +kernel
theorem w_tables : (allAtoms (Jvm.Cond.code x code maxLocals ret :: tables_1)).before args0 about1 = true := by
  rw [allAtoms_all]
  show words1.all (fun c => c.before args0 about1) = true
  refine all_split ?_ w_codes
  rw [← List.take_append_drop 24 words1, List.all_append, w_t1, ← List.take_append_drop 24 (words1.drop 24), List.all_append, w_t2, ← List.take_append_drop 24 ((words1.drop 24).drop 24), List.all_append, w_t3, ← List.take_append_drop 24 (((words1.drop 24).drop 24).drop 24), List.all_append, w_t4, ← List.take_append_drop 24 ((((words1.drop 24).drop 24).drop 24).drop 24), List.all_append, w_t5, w_t6]
  rfl
set_option maxRecDepth 65536 in
theorem w_rest : rest_1_c.before args0 about1 = true := by decide +kernel
set_option maxRecDepth 65536 in
theorem w_case : (Jvm.Cond.and given_1 narrow_1).before args0 about1 = true := by decide +kernel
set_option maxRecDepth 65536 in
theorem w_consts : constsHeld consts_1 about1 := Jvm.Lit.constsHeldB_iff.mp (by decide +kernel)
theorem w_applies : (headSpec (Jvm.Cond.code x code maxLocals ret :: tables_1) room_1).applies x e0.platform about1 = true :=
  (Spec.applies_iff w_frames).mpr ⟨w_running, w_runnable, w_alone, w_named, w_hears, w_ripe, w_room, w_tables⟩
theorem atStart : AtStart classFile x code maxLocals ret World_1 tables_1 room_1 Calls_1 rest_1 Pre_1 launch0 p0 e0 about1 theMethod args0 below0 :=
  ⟨lists_1, trivial, launch0.admits_env _ _ _, launch0.least_env, fairChoices_fair.cas, fairChoices_fair.clock, w_frames, w_args, w_heap, w_applies, ⟨w_consts, trivial⟩, w_rest, w_case⟩
end start1
theorem witness_1 : WitnessClaimed_1 := ⟨start1.p0, start1.e0, start1.about1, start1.theMethod, start1.args0, start1.below0, start1.atStart⟩
end Jvm.Pilot.@@N@@
