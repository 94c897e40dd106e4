import JvmDerived
import JvmDerived.Pilot.@@N@@Statement
import JvmDerived.Pilot.@@N@@Code
set_option linter.unusedVariables false
set_option linter.unusedSimpArgs false
namespace Jvm.RoadKit
open Sem ClassFile Op Lib Jvm.Stand Jvm.Free Jvm.LawKit
section New
variable {p : Program} {l : Launch} {e : Env} {R : Room} {s : State} {m : MethodId} {args : Array Value} {below : List Frame} {meth : Method} {c : Code} {T : State} {locs : List Loc} {cells slots : Nat}
theorem retI (X : Stand p l e R s m args below meth c T locs cells slots) (hx : p.tables.exec = Jvm.exec) {pc : Nat} {Ls : Array Slot} {z : Int32} {rest : List Value} (hret : meth.sig.returnType = some .int) (hd : decode c.code pc = .ok (.ireturn, 1)) {fs : List Frame}
    (hl : ∀ (f : JFrame) (acts : List Action), f.method = m → f.locked = none → f.entered = [] → (doReturn e (T.setTop f) acts (some (.int z))).1 = T.setFrames fs) : Steps p.tables e below (T.setTop (mkF m pc Ls (.int z :: rest))) (T.setFrames fs) := by
  have hm' : T.vm.method? m = some meth := X.method'
  have hn : narrow .int (.int z) = .int z := rfl
  show Steps p.tables e below (T.setTop { method := m, pc := pc, locals := Ls, stack := _ :: rest, locked := none }) _
  jvm_step X.here [X.here.top, hx, hd, hm', hret, hn]
  first | (intro acts; rw [hl _ acts rfl rfl rfl]) | rw [hl _ _ rfl rfl rfl]
  exact Steps.refl _
end New
end Jvm.RoadKit
namespace Jvm.Pilot.@@N@@
open Jvm Jvm.ClassFile Sem Op Lib Jvm.Free Jvm.Stand Jvm.LawKit Jvm.RoadKit Bundle Jvm.Pilot.@@N@@.Jvm.D
section OwnKit
variable {p : Program} {l : Launch} {e : Env} {R : Room} {s : State} {m : MethodId} {args : Array Value} {below : List Frame} {meth : Method} {c : Code} {T S0 Z : State} {locs : List Loc} {cells slots : Nat} {a0 : Array Value} {h h0 : Heap} {own C : String} {index count : Nat} {y z : MethodName} {bytes : ByteArray} {mx : Nat} {rt : Option FieldType} {rm : Room} {as : Array Value} {Φ : Option Value → Heap → Prop}
/-- what a body leaves: it wrote in new cells alone; Φ of what it returns and of the heap -/
def own_Q (Z : State) (Φ : Option Value → Heap → Prop) (v : Option Value) (h : Heap) (L : List Loc) : Prop := Fr Z.heap.size L ∧ Φ v h
/-- the narrow contract (nothing is interned) -/
def own_NC (l : Launch) (Z : State) (y : MethodName) (bytes : ByteArray) (mx : Nat) (rt : Option FieldType) (rm : Room) (as : Array Value) (h0 : Heap) (Φ : Option Value → Heap → Prop) : Prop :=
  MetFree l y (head1 [Jvm.Cond.code y bytes mx rt] rm) (fun a U => a = as ∧ Z.Warmed39 U.vm ∧ U.heap = h0) (fun _ _ _ _ _ => True) (fun _ U o U' => ∃ v L, o = .returned v ∧ own_Q Z Φ v U'.heap L ∧ FrameEnd U o U' L rm.cells rm.slots)
/-- what a walk of the body has to show -/
def own_NW (l : Launch) (Z : State) (y : MethodName) (bytes : ByteArray) (mx : Nat) (rt : Option FieldType) (rm : Room) (as : Array Value) (h0 : Heap) (Φ : Option Value → Heap → Prop) : Prop :=
  ∀ (p : Program) (e : Env) (s : State) (m : MethodId) (below : List Frame) (meth : Method) (c : Code) (s₁ S0 : State), Stand p l e rm s m as below meth c s₁ [] 0 0 → p.tables.exec = Jvm.exec → c.code = bytes → c.maxLocals = mx → meth.sig.returnType = rt → meth.name = y.name → s.vm.findClass y.cls = some m.cls → Z.Warmed39 s.vm → s₁.heap = h0 →
    Steps p.tables e below S0 (s₁.setTop (entryFrame m as mx)) →
    ∃ (T : State) (v : Option Value) (locs : List Loc) (cells slots : Nat), Stand p l e rm s m as below meth c T locs cells slots ∧ cells ≤ rm.cells ∧ slots ≤ rm.slots ∧ (rt = none → v = none) ∧ Fr Z.heap.size locs ∧ Φ v T.heap ∧
      ∀ fs, (∀ (f : JFrame) (acts : List Action), f.method = m → f.locked = none → f.entered = [] → (doReturn e (T.setTop f) acts v).1 = T.setFrames fs) → Steps p.tables e below S0 (T.setFrames fs)
theorem own_met {ws : List Jvm.Cond} (hx : plainFor y = true) (walk : own_NW l Z y bytes mx rt rm as h0 Φ) :
    MetFree l y (head1 (Jvm.Cond.code y bytes mx rt :: ws) rm) (fun a U => a = as ∧ Z.Warmed39 U.vm ∧ U.heap = h0) (fun _ _ _ _ _ => True) (fun _ U o U' => ∃ v L, o = .returned v ∧ own_Q Z Φ v U'.heap L ∧ FrameEnd U o U' L rm.cells rm.slots) := by
  refine MetFree.of_bodySF hx hisR ?_
  intro p e s m args below meth c s₁ Bd hml0 hP hK
  obtain ⟨rfl, hZ, hh⟩ := hP
  obtain ⟨T, v, locs, cells, slots, X, hc, hs, hv, hN, hΦ, st⟩ := walk p e s m below meth c s₁ _ (Stand.of_body Bd) Bd.exec Bd.bytes hml0 Bd.returns (name_of_methodNamed Bd.named Bd.method).1 (findClass_of_methodNamed Bd.named) hZ (by rw [← hh, Bd.state]; rfl) (Steps.refl _)
  obtain ⟨fs, hr, hrun, hended, hW, hsame⟩ := X.leave (v := v) (fun q => hv (by rw [← Bd.returns]; exact q))
  exact ⟨_, _, st fs hr, hrun, hended, _, _, rfl, ⟨hN, hΦ⟩, ⟨_, rfl⟩, hW, hsame.mono hc hs⟩
theorem own_nc (hx : plainFor y = true) (walk : own_NW l Z y bytes mx rt rm as h0 Φ) : own_NC l Z y bytes mx rt rm as h0 Φ := own_met hx walk
theorem own_NC.imp {Ψ : Option Value → Heap → Prop} (H : own_NC l Z y bytes mx rt rm as h0 Φ) (q : ∀ v h, Φ v h → Ψ v h) : own_NC l Z y bytes mx rt rm as h0 Ψ := by
  intro p e ha hc hk s m args below hf happ hP hK
  obtain ⟨n, o, h1, h2, h3, v, L, rfl, ⟨hN, hΦ⟩, hq⟩ := H p e ha hc hk s m args below hf happ hP hK
  exact ⟨n, _, h1, h2, h3, v, L, rfl, ⟨hN, q _ _ hΦ⟩, hq⟩
/-- a payer of the standing shape -/
def own_Pay (l : Launch) (R : Room) (p : Program) (e : Env) (below : List Frame) (s : State) (args : Array Value) (y : MethodName) (len W : Nat) (as : Array Value) (h : Heap) (kc ks : Nat) (Q : Option Value → Heap → List Loc → Prop) : Prop :=
  Back l R p e below s args y len W (fun P a => a = as ∧ P.U.heap = h ∧ P.cells + kc ≤ R.cells ∧ P.slots + ks ≤ R.slots) (fun P _ v B => ∃ L, Q v B.U.heap L ∧ B.locs = P.locs ++ L ∧ B.cells = P.cells + kc ∧ B.slots = P.slots + ks)
theorem own_pay {len W : Nat} (H : own_NC l Z y bytes mx rt rm as h Φ) (hZ : Z.Warmed39 s.vm) (wc : (Cond.code y bytes mx rt).before a0 Z = true) (wz : (Cond.initialized y.cls).before a0 Z = true) (hf : rm.frames + 1 ≤ R.frames) (hl : W + (mx + 11) + rm.locals ≤ R.locals) :
    own_Pay l R p e below s args y len W as h rm.cells rm.slots (own_Q Z Φ) := backOf H hZ wc wz hf hl
variable {W kc ks : Nat} {Q : Option Value → Heap → List Loc → Prop} {g : JFrame} {argsL rest : List Value} {b : Addr}
theorem own_stat (X : Stand p l e R s m args below meth c T locs cells slots) (hx : p.tables.exec = Jvm.exec) (hml : c.maxLocals = mx) (hZ : Z.Warmed39 s.vm) (hown : s.vm.findClass own = some m.cls) {bytes' : ByteArray} {mx' : Nat} {rt' : Option FieldType}
    (w1 : (Cond.methodLink own index y).before a0 Z = true) (w2 : (Cond.static y).before a0 Z = true) (w3 : (Cond.initialized y.cls).before a0 Z = true) (w4 : (Cond.code y bytes' mx' rt').before a0 Z = true) (hy : y.cls ≠ "java/lang/invoke/MethodHandle" ∧ y.cls ≠ "java/lang/invoke/VarHandle")
    (hK : own_Pay l R p e below s args y 3 W argsL.toArray h kc ks Q) (cm : Steps p.tables e below S0 (T.setTop g)) (hg : g.method = m) (hsz : g.locals.size = mx)
    (hlen : ∀ sig, parseMethodDescriptor y.desc = some sig → argsL.length = sig.parameters.length) (hst : g.stack = argsL.reverse ++ rest) (hW : 2 * g.monitorRoom + (rest.map fun v => v.category).sum ≤ W) (hd : decode c.code g.pc = .ok (.invokestatic index, 3)) (eT : T.heap = h) (hc : cells + kc ≤ R.cells) (hs : slots + ks ≤ R.slots) :
    ∃ (v : Option Value) (T' : State) (L : List Loc), Stand p l e R s m args below meth c T' (locs ++ L) (cells + kc) (slots + ks) ∧ Q v T'.heap L ∧ Steps p.tables e below S0 (T'.setTop { g with pc := g.pc + 3, stack := v.toList ++ rest }) := by
  obtain ⟨v, _, ⟨T', L', k', n'⟩, -, X', ⟨L, hQ, l1, l2, l3⟩, st⟩ := Jvm.LawKit.callS X hx (y := y) hown (mvT hZ w1) (mvT hZ w2) (mvT hZ w3) (mvT hZ w4) hy hK hg (by rw [hml]; exact hsz) (argsL := argsL) (rest := rest) hlen hst hW hd (fun _ _ => ⟨rfl, eT, hc, hs⟩)
  dsimp only [Pt.U, Pt.locs, Pt.cells, Pt.slots] at X' l1 l2 l3 st hQ
  subst l1 l2 l3
  exact ⟨v, T', L, X', hQ, cm.trans (st _ (Steps.refl _))⟩
theorem own_spec (X : Stand p l e R s m args below meth c T locs cells slots) (hx : p.tables.exec = Jvm.exec) (hml : c.maxLocals = mx) (hZ : Z.Warmed39 s.vm) (hown : s.vm.findClass own = some m.cls) {bytes' : ByteArray} {mx' : Nat} (hy1 : y.name = "<init>")
    (w1 : (Cond.methodLink own index y).before a0 Z = true) (w2 : (Cond.instanceMethod y).before a0 Z = true) (w4 : (Cond.code y bytes' mx' none).before a0 Z = true) (hy : y.cls ≠ "java/lang/invoke/MethodHandle" ∧ y.cls ≠ "java/lang/invoke/VarHandle")
    (hK : own_Pay l R p e below s args y 3 W (.ref b :: argsL).toArray h kc ks Q) (cm : Steps p.tables e below S0 (T.setTop g)) (hg : g.method = m) (hsz : g.locals.size = mx)
    (hlen : ∀ sig, parseMethodDescriptor y.desc = some sig → argsL.length = sig.parameters.length) (hst : g.stack = argsL.reverse ++ .ref b :: rest) (hW : 2 * g.monitorRoom + (rest.map fun v => v.category).sum ≤ W) (hd : decode c.code g.pc = .ok (.invokespecial index, 3)) (eT : T.heap = h) (hc : cells + kc ≤ R.cells) (hs : slots + ks ≤ R.slots) :
    ∃ (v : Option Value) (T' : State) (L : List Loc), Stand p l e R s m args below meth c T' (locs ++ L) (cells + kc) (slots + ks) ∧ Q v T'.heap L ∧ Steps p.tables e below S0 (T'.setTop { g with pc := g.pc + 3, stack := v.toList ++ rest }) := by
  obtain ⟨v, _, ⟨T', L', k', n'⟩, -, X', ⟨L, hQ, l1, l2, l3⟩, st⟩ := X.specialBack hx (y := y) hy1 hown (mvT hZ w1) (mvT hZ w2) (mvT hZ w4) hy hK hg (by rw [hml]; exact hsz) cm (a := b) (argsL := argsL) (rest := rest) hlen hst hW hd (fun _ _ => ⟨rfl, eT, hc, hs⟩)
  dsimp only [Pt.U, Pt.locs, Pt.cells, Pt.slots] at X' l1 l2 l3 st hQ
  subst l1 l2 l3
  exact ⟨v, T', L, X', hQ, st⟩
theorem own_virt (X : Stand p l e R s m args below meth c T locs cells slots) (hx : p.tables.exec = Jvm.exec) (hml : c.maxLocals = mx) (hZ : Z.Warmed39 s.vm) (hown : s.vm.findClass own = some m.cls)
    (w1 : (Cond.methodLink own index y).before a0 Z = true) (w2 : (Cond.declares y).before a0 Z = true) (w3 : (Cond.selects C y z).before a0 Z = true) (w4 : (Cond.instanceMethod z).before a0 Z = true) {Dn : String} (w5 : (Cond.selects Dn y y).before a0 Z = true) (hy : y.cls ≠ "java/lang/invoke/MethodHandle" ∧ y.cls ≠ "java/lang/invoke/VarHandle")
    (hK : own_Pay l R p e below s args z 3 W (.ref b :: argsL).toArray h kc ks Q) (E : Exa Z h b C) (cm : Steps p.tables e below S0 (T.setTop g)) (hg : g.method = m) (hsz : g.locals.size = mx)
    (hlen : ∀ sig, parseMethodDescriptor y.desc = some sig → argsL.length = sig.parameters.length) (hst : g.stack = argsL.reverse ++ .ref b :: rest) (hW : 2 * g.monitorRoom + (rest.map fun v => v.category).sum ≤ W) (hd : decode c.code g.pc = .ok (.invokevirtual index, 3)) (eT : T.heap = h) (hc : cells + kc ≤ R.cells) (hs : slots + ks ≤ R.slots) :
    ∃ (v : Option Value) (T' : State) (L : List Loc), Stand p l e R s m args below meth c T' (locs ++ L) (cells + kc) (slots + ks) ∧ Q v T'.heap L ∧ Steps p.tables e below S0 (T'.setTop { g with pc := g.pc + 3, stack := v.toList ++ rest }) := by
  obtain ⟨cq, kq, qa, qb, qc⟩ := isOf hZ eT E
  obtain ⟨v, _, ⟨T', L', k', n'⟩, -, X', ⟨L, hQ, l1, l2, l3⟩, st⟩ := X.virtualBack hx (y := y) (z := z) hown (mvT hZ w1) (mvT hZ w2) (notFace_of_selects (args := #[]) (mvT hZ w5)) (mvT hZ w3) (mvT hZ w4) hy hK qa qc hg (by rw [hml]; exact hsz) cm (argsL := argsL) (rest := rest) hlen hst hW hd (fun _ _ => ⟨rfl, eT, hc, hs⟩)
  dsimp only [Pt.U, Pt.locs, Pt.cells, Pt.slots] at X' l1 l2 l3 st hQ
  subst l1 l2 l3
  exact ⟨v, T', L, X', hQ, st⟩
theorem own_face (X : Stand p l e R s m args below meth c T locs cells slots) (hx : p.tables.exec = Jvm.exec) (hml : c.maxLocals = mx) (hZ : Z.Warmed39 s.vm) (hown : s.vm.findClass own = some m.cls)
    (w1 : (Cond.methodLink own index y).before a0 Z = true) (w2 : (Cond.declares y).before a0 Z = true) (w3 : (Cond.interfaceMethod y.cls y.cls y.name y.desc).before args s = true) (w4 : (Cond.selects C y z).before a0 Z = true) (w5 : (Cond.instanceMethod z).before a0 Z = true) (w6 : (Cond.publicMethod z).before a0 Z = true) (w7 : (Cond.unhidden C y.name y.desc).before a0 Z = true) (w8 : (Cond.castable C y.cls).before a0 Z = true) (hy : y.cls ≠ "java/lang/invoke/MethodHandle" ∧ y.cls ≠ "java/lang/invoke/VarHandle")
    (hK : own_Pay l R p e below s args z 5 W (.ref b :: argsL).toArray h kc ks Q) (E : Exa Z h b C) (cm : Steps p.tables e below S0 (T.setTop g)) (hg : g.method = m) (hsz : g.locals.size = mx)
    (hlen : ∀ sig, parseMethodDescriptor y.desc = some sig → argsL.length = sig.parameters.length) (hst : g.stack = argsL.reverse ++ .ref b :: rest) (hW : 2 * g.monitorRoom + (rest.map fun v => v.category).sum ≤ W) (hd : decode c.code g.pc = .ok (.invokeinterface index count, 5)) (eT : T.heap = h) (hc : cells + kc ≤ R.cells) (hs : slots + ks ≤ R.slots) :
    ∃ (v : Option Value) (T' : State) (L : List Loc), Stand p l e R s m args below meth c T' (locs ++ L) (cells + kc) (slots + ks) ∧ Q v T'.heap L ∧ Steps p.tables e below S0 (T'.setTop { g with pc := g.pc + 5, stack := v.toList ++ rest }) := by
  obtain ⟨cq, kq, qa, qb, qc⟩ := isOf hZ eT E
  obtain ⟨v, _, ⟨T', L', k', n'⟩, -, X', ⟨L, hQ, l1, l2, l3⟩, st⟩ := X.interfaceBack hx (xi := y) (y := z) hown (mvT hZ w1) (mvT hZ w2) w3 (mvT hZ w4) (mvT hZ w5) (mvT hZ w6) (mvT hZ w7) (mvT hZ w8) hy hK qa qb qc hg (by rw [hml]; exact hsz) cm (argsL := argsL) (rest := rest) hlen hst hW hd (fun _ _ => ⟨rfl, eT, hc, hs⟩)
  dsimp only [Pt.U, Pt.locs, Pt.cells, Pt.slots] at X' l1 l2 l3 st hQ
  subst l1 l2 l3
  exact ⟨v, T', L, X', hQ, st⟩
/-- for the sizes alone -/
theorem own_kz {h1 h2 h3 : Heap} {w1 w2 : List Addr} (K : Keep h1 h2 w1) (K' : Keep h2 h3 w2) : Keep h1 h3 (w1 ++ w2) := by
  refine ⟨Nat.le_trans K.1 K'.1, fun x c q r => K'.2.1 x c (K.2.1 x c q fun z => r (List.mem_append_left _ z)) fun z => r (List.mem_append_right _ z), fun x c q => ?_⟩
  obtain ⟨c1, q1, r1, r2, r3⟩ := K.2.2 x c q
  obtain ⟨c2, q2, t1, t2, t3⟩ := K'.2.2 x c1 q1
  exact ⟨c2, q2, t1.trans r1, t2.trans r2, t3.trans r3⟩
/-- what is returned: a reference -/
theorem own_retR (X : Stand p l e R s m args below meth c T locs cells slots) (hx : p.tables.exec = Jvm.exec) {pc : Nat} {Ls : Array Slot} {w : Value} {t : FieldType} {rest : List Value} (cm : Steps p.tables e below S0 (T.setTop (mkF m pc Ls (w :: rest)))) (hret : meth.sig.returnType = some t) (ht : t.isReference = true) (hw : w.isRef = true) (hd : decode c.code pc = .ok (.areturn, 1)) {fs : List Frame} (hl : ∀ (f : JFrame) (acts : List Action), f.method = m → f.locked = none → f.entered = [] → (doReturn e (T.setTop f) acts (some w)).1 = T.setFrames fs) : Steps p.tables e below S0 (T.setFrames fs) :=
  cm.trans (retOut X hx hret (by cases t <;> first | rfl | cases ht) (Or.inr (Or.inr (Or.inr (Or.inr ⟨rfl, ht, hw⟩)))) hd hl)
end OwnKit
end Jvm.Pilot.@@N@@
namespace Jvm.Pilot.@@N@@
open Jvm Jvm.ClassFile Sem Op Lib Jvm.Free Jvm.Stand Jvm.LawKit Jvm.RoadKit Bundle Jvm.Pilot.@@N@@.Jvm.D
theorem d1_0 : decode prog_11_method_8_code 0 = .ok (.iload_n 0, 1) := by decide +kernel
theorem d1_1 : decode prog_11_method_8_code 1 = .ok (.ifCond .eq 9, 3) := by decide +kernel
theorem d1_4 : decode prog_11_method_8_code 4 = .ok (.getstatic 68, 3) := by decide +kernel
theorem d1_7 : decode prog_11_method_8_code 7 = .ok (.goto 6, 3) := by decide +kernel
theorem d1_10 : decode prog_11_method_8_code 10 = .ok (.getstatic 72, 3) := by decide +kernel
theorem d1_13 : decode prog_11_method_8_code 13 = .ok (.areturn, 1) := by decide +kernel
theorem d2_0 : decode prog_11_method_14_code 0 = .ok (.aload_n 0, 1) := by decide +kernel
theorem d2_1 : decode prog_11_method_14_code 1 = .ok (.getfield 23, 3) := by decide +kernel
theorem d2_4 : decode prog_11_method_14_code 4 = .ok (.areturn, 1) := by decide +kernel
theorem d3_0 : decode prog_11_method_15_code 0 = .ok (.aload_n 0, 1) := by decide +kernel
theorem d3_1 : decode prog_11_method_15_code 1 = .ok (.getfield 32, 3) := by decide +kernel
theorem d3_4 : decode prog_11_method_15_code 4 = .ok (.areturn, 1) := by decide +kernel
theorem d4_0 : decode prog_11_method_16_code 0 = .ok (.aload_n 0, 1) := by decide +kernel
theorem d4_1 : decode prog_11_method_16_code 1 = .ok (.getfield 36, 3) := by decide +kernel
theorem d4_4 : decode prog_11_method_16_code 4 = .ok (.ireturn, 1) := by decide +kernel
theorem d5_0 : decode prog_11_method_17_code 0 = .ok (.aload_n 0, 1) := by decide +kernel
theorem d5_1 : decode prog_11_method_17_code 1 = .ok (.getfield 7, 3) := by decide +kernel
theorem d5_4 : decode prog_11_method_17_code 4 = .ok (.invokevirtual 78, 3) := by decide +kernel
theorem d5_7 : decode prog_11_method_17_code 7 = .ok (.ifCond .eq 16, 3) := by decide +kernel
theorem d5_23 : decode prog_11_method_17_code 23 = .ok (.iconst 0, 1) := by decide +kernel
theorem d5_24 : decode prog_11_method_17_code 24 = .ok (.ireturn, 1) := by decide +kernel
theorem d6_0 : decode prog_18_method_7_code 0 = .ok (.aload_n 0, 1) := by decide +kernel
theorem d6_1 : decode prog_18_method_7_code 1 = .ok (.getfield 9, 3) := by decide +kernel
theorem d6_4 : decode prog_18_method_7_code 4 = .ok (.lconst 0, 1) := by decide +kernel
theorem d6_5 : decode prog_18_method_7_code 5 = .ok (.lcmp, 1) := by decide +kernel
theorem d6_6 : decode prog_18_method_7_code 6 = .ok (.ifCond .ne 12, 3) := by decide +kernel
theorem d6_9 : decode prog_18_method_7_code 9 = .ok (.aload_n 0, 1) := by decide +kernel
theorem d6_10 : decode prog_18_method_7_code 10 = .ok (.getfield 15, 3) := by decide +kernel
theorem d6_13 : decode prog_18_method_7_code 13 = .ok (.lconst 0, 1) := by decide +kernel
theorem d6_14 : decode prog_18_method_7_code 14 = .ok (.lcmp, 1) := by decide +kernel
theorem d6_15 : decode prog_18_method_7_code 15 = .ok (.ifCond .eq 7, 3) := by decide +kernel
theorem d6_22 : decode prog_18_method_7_code 22 = .ok (.iconst 0, 1) := by decide +kernel
theorem d6_23 : decode prog_18_method_7_code 23 = .ok (.ireturn, 1) := by decide +kernel
theorem d7_0 : decode prog_11_method_18_code 0 = .ok (.aload_n 0, 1) := by decide +kernel
theorem d7_1 : decode prog_11_method_18_code 1 = .ok (.getfield 40, 3) := by decide +kernel
theorem d7_4 : decode prog_11_method_18_code 4 = .ok (.ireturn, 1) := by decide +kernel
theorem d8_0 : decode prog_17_method_6_code 0 = .ok (.aload_n 0, 1) := by decide +kernel
theorem d8_1 : decode prog_17_method_6_code 1 = .ok (.getfield 7, 3) := by decide +kernel
theorem d8_4 : decode prog_17_method_6_code 4 = .ok (.ireturn, 1) := by decide +kernel
theorem d9_0 : decode prog_19_method_6_code 0 = .ok (.aload_n 0, 1) := by decide +kernel
theorem d9_1 : decode prog_19_method_6_code 1 = .ok (.getfield 7, 3) := by decide +kernel
theorem d9_4 : decode prog_19_method_6_code 4 = .ok (.invokeinterface 90 1, 5) := by decide +kernel
theorem d9_9 : decode prog_19_method_6_code 9 = .ok (.ireturn, 1) := by decide +kernel
theorem d10_0 : decode jdk_45_method_2_code 0 = .ok (.aload_n 0, 1) := by decide +kernel
theorem d10_1 : decode jdk_45_method_2_code 1 = .ok (.getfield 7, 3) := by decide +kernel
theorem d10_4 : decode jdk_45_method_2_code 4 = .ok (.arraylength, 1) := by decide +kernel
theorem d10_5 : decode jdk_45_method_2_code 5 = .ok (.ifCond .ne 7, 3) := by decide +kernel
theorem d10_8 : decode jdk_45_method_2_code 8 = .ok (.iconst 1, 1) := by decide +kernel
theorem d10_9 : decode jdk_45_method_2_code 9 = .ok (.goto 4, 3) := by decide +kernel
theorem d10_13 : decode jdk_45_method_2_code 13 = .ok (.ireturn, 1) := by decide +kernel
theorem pd_0 : parseMethodDescriptor "()Z" = some ⟨[], some .boolean⟩ := by decide +kernel
theorem pd_1 : parseMethodDescriptor "(Z)Lcom/example/spangle/spangle/api/SpanContext;" = some ⟨[.boolean], some (.object "com/example/spangle/spangle/api/SpanContext")⟩ := by decide +kernel
theorem pd_2 : parseMethodDescriptor "()Lcom/example/spangle/spangle/api/TraceFlags;" = some ⟨[], some (.object "com/example/spangle/spangle/api/TraceFlags")⟩ := by decide +kernel
theorem pd_3 : parseMethodDescriptor "()Lcom/example/spangle/spangle/api/TraceState;" = some ⟨[], some (.object "com/example/spangle/spangle/api/TraceState")⟩ := by decide +kernel
theorem pd_4 : parseMethodDescriptor "()I" = some ⟨[], some .int⟩ := by decide +kernel
set_option maxRecDepth 65536 in
set_option maxHeartbeats 40000000 in
theorem rm1t (l : Launch) (Z : State) (a0 : Array Value) (hw : ∀ d ∈ tables_1, d.before a0 Z = true) (p1 : Int32) (w : Addr) (h0 : Heap) (O0 : Old Z Z.heap.size h0) (S1 : Sta Z Z.heap "com/example/spangle/spangle/api/SpanContext" "NOT_SAMPLED_DECISION" "Lcom/example/spangle/spangle/api/SpanContext;" (.ref w)) (hp : p1 = (0 : Int32)) :
    own_NC l Z (⟨"com/example/spangle/spangle/api/SpanContext", "createFromRemoteDecision", "(Z)Lcom/example/spangle/spangle/api/SpanContext;"⟩ : MethodName) prog_11_method_8_code 1 (some (.object "com/example/spangle/spangle/api/SpanContext")) ({ frames := 0, cells := 0, slots := 0, locals := 0 } : Room) #[(.int p1)] h0 (fun v h => v = some (.ref w) ∧ h = h0) := by
  refine own_nc (plainFor_of_name (by first | (simp [plainName, overriddenIn]; done) | decide +kernel)) ?_
  intro p e s m below meth c s₁ S0 X0 hx hby hml hret hnm hown hZ e0 cc
  have N0 := Fr.nil Z.heap.size
  have c0 : Steps p.tables e below S0 (s₁.setTop (mkF m 0 #[.val (.int p1)] [])) := cc.trans (XT.entry rfl)
  have c1 : Steps p.tables e below S0 (s₁.setTop (mkF m 10 #[.val (.int p1)] [])) := c0.trans (by
    refine XS.iloadN X0.here hx rfl (hb hby d1_0) rfl ?_
    refine XS.ifYes X0.here hx rfl (pc0 := 1) (pc' := 10) rfl (hb hby d1_1) rfl ((if0 _ _).trans (teq hp).1) (by decide) (by decide) ?_
    exact Steps.refl _)
  obtain ⟨T2, X2, e2, st2⟩ := getS2 X0 hx hZ hown (host := "") (Or.inl (hw _ (List.mem_of_getElem? (i := 4) rfl))) Via.refl e0 (S1.ext O0.2) (g := (mkF m 10 #[.val (.int p1)] [])) rfl (hb hby d1_10)
  have c2 : Steps p.tables e below S0 (T2.setTop (mkF m 13 #[.val (.int p1)] [(.ref w)])) := c1.trans (st2 _ (Steps.refl _))
  refine ⟨T2, (some (.ref w)), _, _, _, X2, by decide, by decide, (fun q => by cases q), N0, ?_, fun fs hr => ?_⟩
  · rw [e2]
    exact ⟨rfl, rfl⟩
  · exact own_retR X2 hx c2 hret rfl rfl (hb hby d1_13) hr
set_option maxRecDepth 65536 in
set_option maxHeartbeats 40000000 in
theorem rm1f (l : Launch) (Z : State) (a0 : Array Value) (hw : ∀ d ∈ tables_1, d.before a0 Z = true) (p1 : Int32) (w : Addr) (h0 : Heap) (O0 : Old Z Z.heap.size h0) (S1 : Sta Z Z.heap "com/example/spangle/spangle/api/SpanContext" "SAMPLED_DECISION" "Lcom/example/spangle/spangle/api/SpanContext;" (.ref w)) (hp : ¬ (p1 = (0 : Int32))) :
    own_NC l Z (⟨"com/example/spangle/spangle/api/SpanContext", "createFromRemoteDecision", "(Z)Lcom/example/spangle/spangle/api/SpanContext;"⟩ : MethodName) prog_11_method_8_code 1 (some (.object "com/example/spangle/spangle/api/SpanContext")) ({ frames := 0, cells := 0, slots := 0, locals := 0 } : Room) #[(.int p1)] h0 (fun v h => v = some (.ref w) ∧ h = h0) := by
  refine own_nc (plainFor_of_name (by first | (simp [plainName, overriddenIn]; done) | decide +kernel)) ?_
  intro p e s m below meth c s₁ S0 X0 hx hby hml hret hnm hown hZ e0 cc
  have N0 := Fr.nil Z.heap.size
  have c0 : Steps p.tables e below S0 (s₁.setTop (mkF m 0 #[.val (.int p1)] [])) := cc.trans (XT.entry rfl)
  have c1 : Steps p.tables e below S0 (s₁.setTop (mkF m 4 #[.val (.int p1)] [])) := c0.trans (by
    refine XS.iloadN X0.here hx rfl (hb hby d1_0) rfl ?_
    refine XS.ifNo X0.here hx rfl (hb hby d1_1) rfl ((if0 _ _).trans (feq hp).1) ?_
    exact Steps.refl _)
  obtain ⟨T2, X2, e2, st2⟩ := getS2 X0 hx hZ hown (host := "") (Or.inl (hw _ (List.mem_of_getElem? (i := 79) rfl))) Via.refl e0 (S1.ext O0.2) (g := (mkF m 4 #[.val (.int p1)] [])) rfl (hb hby d1_4)
  have c2 : Steps p.tables e below S0 (T2.setTop (mkF m 7 #[.val (.int p1)] [(.ref w)])) := c1.trans (st2 _ (Steps.refl _))
  have c3 : Steps p.tables e below S0 (T2.setTop (mkF m 13 #[.val (.int p1)] [(.ref w)])) := c2.trans (by
    refine XS.goto X2.here hx rfl (pc0 := 7) (pc' := 13) rfl (hb hby d1_7) (by decide) (by decide) ?_
    exact Steps.refl _)
  refine ⟨T2, (some (.ref w)), _, _, _, X2, by decide, by decide, (fun q => by cases q), N0, ?_, fun fs hr => ?_⟩
  · rw [e2]
    exact ⟨rfl, rfl⟩
  · exact own_retR X2 hx c3 hret rfl rfl (hb hby d1_13) hr
set_option maxRecDepth 65536 in
set_option maxHeartbeats 40000000 in
theorem rm2 (l : Launch) (Z : State) (a0 : Array Value) (hw : ∀ d ∈ tables_1, d.before a0 Z = true) (a : Addr) (w : Addr) (h0 : Heap) (O0 : Old Z Z.heap.size h0) (F : Fld Z h0 a "com/example/spangle/spangle/api/SpanContext" "traceFlags" "Lcom/example/spangle/spangle/api/TraceFlags;" (.ref w)) :
    own_NC l Z (⟨"com/example/spangle/spangle/api/SpanContext", "traceFlags", "()Lcom/example/spangle/spangle/api/TraceFlags;"⟩ : MethodName) prog_11_method_14_code 1 (some (.object "com/example/spangle/spangle/api/TraceFlags")) ({ frames := 0, cells := 0, slots := 0, locals := 0 } : Room) #[(.ref a)] h0 (fun v h => v = some (.ref w) ∧ h = h0) := by
  refine own_nc (plainFor_of_name (by first | (simp [plainName, overriddenIn]; done) | decide +kernel)) ?_
  intro p e s m below meth c s₁ S0 X0 hx hby hml hret hnm hown hZ e0 cc
  have N0 := Fr.nil Z.heap.size
  have c0 : Steps p.tables e below S0 (s₁.setTop (mkF m 0 #[.val (.ref a)] [])) := cc.trans (XT.entry rfl)
  have c1 : Steps p.tables e below S0 (s₁.setTop (mkF m 1 #[.val (.ref a)] [(.ref a)])) := c0.trans (by
    refine XS.aloadN X0.here hx rfl (hb hby d2_0) rfl rfl ?_
    exact Steps.refl _)
  obtain ⟨T2, X2, e2, st2⟩ := getF X0 hx hZ hown (host := "") (Or.inl (hw _ (List.mem_of_getElem? (i := 11) rfl))) Via.refl e0 F (g := (mkF m 1 #[.val (.ref a)] [(.ref a)])) rfl rfl (hb hby d2_1)
  have c2 : Steps p.tables e below S0 (T2.setTop (mkF m 4 #[.val (.ref a)] [(.ref w)])) := c1.trans (st2 _ (Steps.refl _))
  refine ⟨T2, (some (.ref w)), _, _, _, X2, by decide, by decide, (fun q => by cases q), N0, ?_, fun fs hr => ?_⟩
  · rw [e2]
    exact ⟨rfl, rfl⟩
  · exact own_retR X2 hx c2 hret rfl rfl (hb hby d2_4) hr
set_option maxRecDepth 65536 in
set_option maxHeartbeats 40000000 in
theorem rm3 (l : Launch) (Z : State) (a0 : Array Value) (hw : ∀ d ∈ tables_1, d.before a0 Z = true) (a : Addr) (w : Addr) (h0 : Heap) (O0 : Old Z Z.heap.size h0) (F : Fld Z h0 a "com/example/spangle/spangle/api/SpanContext" "traceState" "Lcom/example/spangle/spangle/api/TraceState;" (.ref w)) :
    own_NC l Z (⟨"com/example/spangle/spangle/api/SpanContext", "traceState", "()Lcom/example/spangle/spangle/api/TraceState;"⟩ : MethodName) prog_11_method_15_code 1 (some (.object "com/example/spangle/spangle/api/TraceState")) ({ frames := 0, cells := 0, slots := 0, locals := 0 } : Room) #[(.ref a)] h0 (fun v h => v = some (.ref w) ∧ h = h0) := by
  refine own_nc (plainFor_of_name (by first | (simp [plainName, overriddenIn]; done) | decide +kernel)) ?_
  intro p e s m below meth c s₁ S0 X0 hx hby hml hret hnm hown hZ e0 cc
  have N0 := Fr.nil Z.heap.size
  have c0 : Steps p.tables e below S0 (s₁.setTop (mkF m 0 #[.val (.ref a)] [])) := cc.trans (XT.entry rfl)
  have c1 : Steps p.tables e below S0 (s₁.setTop (mkF m 1 #[.val (.ref a)] [(.ref a)])) := c0.trans (by
    refine XS.aloadN X0.here hx rfl (hb hby d3_0) rfl rfl ?_
    exact Steps.refl _)
  obtain ⟨T2, X2, e2, st2⟩ := getF X0 hx hZ hown (host := "") (Or.inl (hw _ (List.mem_of_getElem? (i := 18) rfl))) Via.refl e0 F (g := (mkF m 1 #[.val (.ref a)] [(.ref a)])) rfl rfl (hb hby d3_1)
  have c2 : Steps p.tables e below S0 (T2.setTop (mkF m 4 #[.val (.ref a)] [(.ref w)])) := c1.trans (st2 _ (Steps.refl _))
  refine ⟨T2, (some (.ref w)), _, _, _, X2, by decide, by decide, (fun q => by cases q), N0, ?_, fun fs hr => ?_⟩
  · rw [e2]
    exact ⟨rfl, rfl⟩
  · exact own_retR X2 hx c2 hret rfl rfl (hb hby d3_4) hr
set_option maxRecDepth 65536 in
set_option maxHeartbeats 40000000 in
theorem rm4 (l : Launch) (Z : State) (a0 : Array Value) (hw : ∀ d ∈ tables_1, d.before a0 Z = true) (a : Addr)  (h0 : Heap) (O0 : Old Z Z.heap.size h0) (F : Fld Z h0 a "com/example/spangle/spangle/api/SpanContext" "remote" "Z" (.int (1 : Int32))) :
    own_NC l Z (⟨"com/example/spangle/spangle/api/SpanContext", "isRemote", "()Z"⟩ : MethodName) prog_11_method_16_code 1 (some .boolean) ({ frames := 0, cells := 0, slots := 0, locals := 0 } : Room) #[(.ref a)] h0 (fun v h => v = some (.int (1 : Int32)) ∧ h = h0) := by
  refine own_nc (plainFor_of_name (by first | (simp [plainName, overriddenIn]; done) | decide +kernel)) ?_
  intro p e s m below meth c s₁ S0 X0 hx hby hml hret hnm hown hZ e0 cc
  have N0 := Fr.nil Z.heap.size
  have c0 : Steps p.tables e below S0 (s₁.setTop (mkF m 0 #[.val (.ref a)] [])) := cc.trans (XT.entry rfl)
  have c1 : Steps p.tables e below S0 (s₁.setTop (mkF m 1 #[.val (.ref a)] [(.ref a)])) := c0.trans (by
    refine XS.aloadN X0.here hx rfl (hb hby d4_0) rfl rfl ?_
    exact Steps.refl _)
  obtain ⟨T2, X2, e2, st2⟩ := getF X0 hx hZ hown (host := "") (Or.inl (hw _ (List.mem_of_getElem? (i := 25) rfl))) Via.refl e0 F (g := (mkF m 1 #[.val (.ref a)] [(.ref a)])) rfl rfl (hb hby d4_1)
  have c2 : Steps p.tables e below S0 (T2.setTop (mkF m 4 #[.val (.ref a)] [(.int (1 : Int32))])) := c1.trans (st2 _ (Steps.refl _))
  refine ⟨T2, (some (.int (1 : Int32))), _, _, _, X2, by decide, by decide, (fun q => by cases q), N0, ?_, fun fs hr => ?_⟩
  · rw [e2]
    exact ⟨rfl, rfl⟩
  · exact c2.trans (retN X2 hx (t := .boolean) hret (by simp) (hb hby d4_4) hr)
set_option maxRecDepth 65536 in
set_option maxHeartbeats 40000000 in
theorem rm7 (l : Launch) (Z : State) (a0 : Array Value) (hw : ∀ d ∈ tables_1, d.before a0 Z = true) (a : Addr)  (h0 : Heap) (O0 : Old Z Z.heap.size h0) (F : Fld Z h0 a "com/example/spangle/spangle/api/SpanContext" "samplingDecided" "Z" (.int (1 : Int32))) :
    own_NC l Z (⟨"com/example/spangle/spangle/api/SpanContext", "hasSamplingDecision", "()Z"⟩ : MethodName) prog_11_method_18_code 1 (some .boolean) ({ frames := 0, cells := 0, slots := 0, locals := 0 } : Room) #[(.ref a)] h0 (fun v h => v = some (.int (1 : Int32)) ∧ h = h0) := by
  refine own_nc (plainFor_of_name (by first | (simp [plainName, overriddenIn]; done) | decide +kernel)) ?_
  intro p e s m below meth c s₁ S0 X0 hx hby hml hret hnm hown hZ e0 cc
  have N0 := Fr.nil Z.heap.size
  have c0 : Steps p.tables e below S0 (s₁.setTop (mkF m 0 #[.val (.ref a)] [])) := cc.trans (XT.entry rfl)
  have c1 : Steps p.tables e below S0 (s₁.setTop (mkF m 1 #[.val (.ref a)] [(.ref a)])) := c0.trans (by
    refine XS.aloadN X0.here hx rfl (hb hby d7_0) rfl rfl ?_
    exact Steps.refl _)
  obtain ⟨T2, X2, e2, st2⟩ := getF X0 hx hZ hown (host := "") (Or.inl (hw _ (List.mem_of_getElem? (i := 49) rfl))) Via.refl e0 F (g := (mkF m 1 #[.val (.ref a)] [(.ref a)])) rfl rfl (hb hby d7_1)
  have c2 : Steps p.tables e below S0 (T2.setTop (mkF m 4 #[.val (.ref a)] [(.int (1 : Int32))])) := c1.trans (st2 _ (Steps.refl _))
  refine ⟨T2, (some (.int (1 : Int32))), _, _, _, X2, by decide, by decide, (fun q => by cases q), N0, ?_, fun fs hr => ?_⟩
  · rw [e2]
    exact ⟨rfl, rfl⟩
  · exact c2.trans (retN X2 hx (t := .boolean) hret (by simp) (hb hby d7_4) hr)
set_option maxRecDepth 65536 in
set_option maxHeartbeats 40000000 in
theorem rm8 (l : Launch) (Z : State) (a0 : Array Value) (hw : ∀ d ∈ tables_1, d.before a0 Z = true) (a : Addr) (w : Int32) (h0 : Heap) (O0 : Old Z Z.heap.size h0) (F : Fld Z h0 a "com/example/spangle/spangle/api/TraceFlags" "value" "I" (.int w)) :
    own_NC l Z (⟨"com/example/spangle/spangle/api/TraceFlags", "toByte", "()I"⟩ : MethodName) prog_17_method_6_code 1 (some .int) ({ frames := 0, cells := 0, slots := 0, locals := 0 } : Room) #[(.ref a)] h0 (fun v h => v = some (.int w) ∧ h = h0) := by
  refine own_nc (plainFor_of_name (by first | (simp [plainName, overriddenIn]; done) | decide +kernel)) ?_
  intro p e s m below meth c s₁ S0 X0 hx hby hml hret hnm hown hZ e0 cc
  have N0 := Fr.nil Z.heap.size
  have c0 : Steps p.tables e below S0 (s₁.setTop (mkF m 0 #[.val (.ref a)] [])) := cc.trans (XT.entry rfl)
  have c1 : Steps p.tables e below S0 (s₁.setTop (mkF m 1 #[.val (.ref a)] [(.ref a)])) := c0.trans (by
    refine XS.aloadN X0.here hx rfl (hb hby d8_0) rfl rfl ?_
    exact Steps.refl _)
  obtain ⟨T2, X2, e2, st2⟩ := getF X0 hx hZ hown (host := "") (Or.inl (hw _ (List.mem_of_getElem? (i := 57) rfl))) Via.refl e0 F (g := (mkF m 1 #[.val (.ref a)] [(.ref a)])) rfl rfl (hb hby d8_1)
  have c2 : Steps p.tables e below S0 (T2.setTop (mkF m 4 #[.val (.ref a)] [(.int w)])) := c1.trans (st2 _ (Steps.refl _))
  refine ⟨T2, (some (.int w)), _, _, _, X2, by decide, by decide, (fun q => by cases q), N0, ?_, fun fs hr => ?_⟩
  · rw [e2]
    exact ⟨rfl, rfl⟩
  · exact c2.trans (retI X2 hx hret (hb hby d8_4) hr)
set_option maxRecDepth 65536 in
set_option maxHeartbeats 40000000 in
theorem rm6 (l : Launch) (Z : State) (a0 : Array Value) (hw : ∀ d ∈ tables_1, d.before a0 Z = true) (a : Addr) (h0 : Heap) (O0 : Old Z Z.heap.size h0) (F : Fld Z h0 a "com/example/spangle/spangle/api/TraceId" "high" "J" (.long (0 : Int64))) (G : Fld Z h0 a "com/example/spangle/spangle/api/TraceId" "low" "J" (.long (0 : Int64))) :
    own_NC l Z (⟨"com/example/spangle/spangle/api/TraceId", "isValid", "()Z"⟩ : MethodName) prog_18_method_7_code 1 (some .boolean) ({ frames := 0, cells := 0, slots := 0, locals := 0 } : Room) #[(.ref a)] h0 (fun v h => v = some (.int (0 : Int32)) ∧ h = h0) := by
  refine own_nc (plainFor_of_name (by first | (simp [plainName, overriddenIn]; done) | decide +kernel)) ?_
  intro p e s m below meth c s₁ S0 X0 hx hby hml hret hnm hown hZ e0 cc
  have N0 := Fr.nil Z.heap.size
  have c0 : Steps p.tables e below S0 (s₁.setTop (mkF m 0 #[.val (.ref a)] [])) := cc.trans (XT.entry rfl)
  have c1 : Steps p.tables e below S0 (s₁.setTop (mkF m 1 #[.val (.ref a)] [(.ref a)])) := c0.trans (by
    refine XS.aloadN X0.here hx rfl (hb hby d6_0) rfl rfl ?_
    exact Steps.refl _)
  obtain ⟨T2, X2, e2, st2⟩ := getF X0 hx hZ hown (host := "") (Or.inl (hw _ (List.mem_of_getElem? (i := 40) rfl))) Via.refl e0 F (g := (mkF m 1 #[.val (.ref a)] [(.ref a)])) rfl rfl (hb hby d6_1)
  have c2 : Steps p.tables e below S0 (T2.setTop (mkF m 4 #[.val (.ref a)] [(.long (0 : Int64))])) := c1.trans (st2 _ (Steps.refl _))
  have c3 : Steps p.tables e below S0 (T2.setTop (mkF m 10 #[.val (.ref a)] [(.ref a)])) := c2.trans (by
    refine XS.lconst X2.here hx rfl (hb hby d6_4) ?_
    refine XS.lcmp X2.here hx rfl (hb hby d6_5) rfl ?_
    refine XS.ifNo X2.here hx rfl (hb hby d6_6) rfl ((if0 _ _).trans (teq (by decide : (lcmpW (0 : Int64) (0 : Int64)) = (0 : Int32))).2) ?_
    refine XS.aloadN X2.here hx rfl (hb hby d6_9) rfl rfl ?_
    exact Steps.refl _)
  obtain ⟨T4, X4, e4, st4⟩ := getF X2 hx hZ hown (host := "") (Or.inl (hw _ (List.mem_of_getElem? (i := 42) rfl))) Via.refl e2 G (g := (mkF m 10 #[.val (.ref a)] [(.ref a)])) rfl rfl (hb hby d6_10)
  have c4 : Steps p.tables e below S0 (T4.setTop (mkF m 13 #[.val (.ref a)] [(.long (0 : Int64))])) := c3.trans (st4 _ (Steps.refl _))
  have c5 : Steps p.tables e below S0 (T4.setTop (mkF m 23 #[.val (.ref a)] [(.int (0 : Int32))])) := c4.trans (by
    refine XS.lconst X4.here hx rfl (hb hby d6_13) ?_
    refine XS.lcmp X4.here hx rfl (hb hby d6_14) rfl ?_
    refine XS.ifYes X4.here hx rfl (pc0 := 15) (pc' := 22) rfl (hb hby d6_15) rfl ((if0 _ _).trans (teq (by decide : (lcmpW (0 : Int64) (0 : Int64)) = (0 : Int32))).1) (by decide) (by decide) ?_
    refine XS.iconst X4.here hx rfl (hb hby d6_22) ?_
    exact Steps.refl _)
  refine ⟨T4, (some (.int (0 : Int32))), _, _, _, X4, by decide, by decide, (fun q => by cases q), N0, ?_, fun fs hr => ?_⟩
  · rw [e4]
    exact ⟨rfl, rfl⟩
  · exact c5.trans (retN X4 hx (t := .boolean) hret (by simp) (hb hby d6_23) hr)
set_option maxRecDepth 65536 in
set_option maxHeartbeats 40000000 in
theorem rm5 (l : Launch) (Z : State) (a0 : Array Value) (hw : ∀ d ∈ tables_1, d.before a0 Z = true) (a t : Addr) (h0 : Heap) (O0 : Old Z Z.heap.size h0) (F : Fld Z h0 a "com/example/spangle/spangle/api/SpanContext" "traceId" "Lcom/example/spangle/spangle/api/TraceId;" (.ref t)) (E : Exa Z h0 t "com/example/spangle/spangle/api/TraceId") (F1 : Fld Z h0 t "com/example/spangle/spangle/api/TraceId" "high" "J" (.long (0 : Int64))) (G1 : Fld Z h0 t "com/example/spangle/spangle/api/TraceId" "low" "J" (.long (0 : Int64))) :
    own_NC l Z (⟨"com/example/spangle/spangle/api/SpanContext", "isValid", "()Z"⟩ : MethodName) prog_11_method_17_code 1 (some .boolean) ({ frames := 1, cells := 0, slots := 0, locals := 12 } : Room) #[(.ref a)] h0 (fun v h => v = some (.int (0 : Int32)) ∧ h = h0) := by
  refine own_nc (plainFor_of_name (by first | (simp [plainName, overriddenIn]; done) | decide +kernel)) ?_
  intro p e s m below meth c s₁ S0 X0 hx hby hml hret hnm hown hZ e0 cc
  have N0 := Fr.nil Z.heap.size
  have c0 : Steps p.tables e below S0 (s₁.setTop (mkF m 0 #[.val (.ref a)] [])) := cc.trans (XT.entry rfl)
  have c1 : Steps p.tables e below S0 (s₁.setTop (mkF m 1 #[.val (.ref a)] [(.ref a)])) := c0.trans (by
    refine XS.aloadN X0.here hx rfl (hb hby d5_0) rfl rfl ?_
    exact Steps.refl _)
  obtain ⟨T2, X2, e2, st2⟩ := getF X0 hx hZ hown (host := "") (Or.inl (hw _ (List.mem_of_getElem? (i := 32) rfl))) Via.refl e0 F (g := (mkF m 1 #[.val (.ref a)] [(.ref a)])) rfl rfl (hb hby d5_1)
  have c2 : Steps p.tables e below S0 (T2.setTop (mkF m 4 #[.val (.ref a)] [(.ref t)])) := c1.trans (st2 _ (Steps.refl _))
  obtain ⟨v3, T3, L3, X3, ⟨N3', rfl, e3⟩, c3'⟩ := own_virt X2 hx hml hZ hown (hw _ (List.mem_of_getElem? (i := 34) rfl)) (hw _ (List.mem_of_getElem? (i := 35) rfl)) (hw _ (List.mem_of_getElem? (i := 37) rfl)) (hw _ (List.mem_of_getElem? (i := 36) rfl)) (hw _ (List.mem_of_getElem? (i := 37) rfl)) (by decide) (kc := 0) (ks := 0) (W := 0) (b := t) (argsL := []) (rest := []) (own_pay (W := 0) (rm6 l Z a0 hw t h0 O0 F1 G1) hZ (hw _ (List.mem_of_getElem? (i := 39) rfl)) (hw _ (List.mem_of_getElem? (i := 38) rfl)) (by decide) (by decide)) E c2 rfl rfl (lenOf pd_0 rfl) rfl (by show 2 * 0 + _ ≤ _; exact Nat.le_of_eq rfl) (hb hby d5_4) e2 (by decide) (by decide)
  have N3 := Fr.app N0 N3'
  have c3 : Steps p.tables e below S0 (T3.setTop (mkF m 7 #[.val (.ref a)] [(.int (0 : Int32))])) := c3'
  have c4 : Steps p.tables e below S0 (T3.setTop (mkF m 24 #[.val (.ref a)] [(.int (0 : Int32))])) := c3.trans (by
    refine XS.ifYes X3.here hx rfl (pc0 := 7) (pc' := 23) rfl (hb hby d5_7) rfl ((if0 _ _).trans (teq (by decide : (0 : Int32) = (0 : Int32))).1) (by decide) (by decide) ?_
    refine XS.iconst X3.here hx rfl (hb hby d5_23) ?_
    exact Steps.refl _)
  refine ⟨T3, (some (.int (0 : Int32))), _, _, _, X3, by decide, by decide, (fun q => by cases q), N3, ?_, fun fs hr => ?_⟩
  · rw [e3]
    exact ⟨rfl, rfl⟩
  · exact c4.trans (retN X3 hx (t := .boolean) hret (by simp) (hb hby d5_24) hr)
set_option maxRecDepth 65536 in
set_option maxHeartbeats 40000000 in
theorem rm10 (l : Launch) (Z : State) (a0 : Array Value) (hw : ∀ d ∈ tables_1, d.before a0 Z = true) (a t : Addr) (k : ClassId) (h0 : Heap) (O0 : Old Z Z.heap.size h0) (F : Fld Z h0 a "java/util/ImmutableCollections$ListN" "elements" "[Ljava/lang/Object;" (.ref t)) (K : Arv Z h0 t k (.object "java/lang/Object") (0 : Int32) [] .null) :
    own_NC l Z (⟨"java/util/ImmutableCollections$ListN", "isEmpty", "()Z"⟩ : MethodName) jdk_45_method_2_code 1 (some .boolean) ({ frames := 0, cells := 0, slots := 0, locals := 0 } : Room) #[(.ref a)] h0 (fun v h => v = some (.int (1 : Int32)) ∧ h = h0) := by
  refine own_nc (plainFor_of_name (by first | (simp [plainName, overriddenIn]; done) | decide +kernel)) ?_
  intro p e s m below meth c s₁ S0 X0 hx hby hml hret hnm hown hZ e0 cc
  have N0 := Fr.nil Z.heap.size
  have c0 : Steps p.tables e below S0 (s₁.setTop (mkF m 0 #[.val (.ref a)] [])) := cc.trans (XT.entry rfl)
  have c1 : Steps p.tables e below S0 (s₁.setTop (mkF m 1 #[.val (.ref a)] [(.ref a)])) := c0.trans (by
    refine XS.aloadN X0.here hx rfl (hb hby d10_0) rfl rfl ?_
    exact Steps.refl _)
  obtain ⟨T2, X2, e2, st2⟩ := getF X0 hx hZ hown (host := "") (Or.inl (hw _ (List.mem_of_getElem? (i := 77) rfl))) Via.refl e0 F (g := (mkF m 1 #[.val (.ref a)] [(.ref a)])) rfl rfl (hb hby d10_1)
  have c2 : Steps p.tables e below S0 (T2.setTop (mkF m 4 #[.val (.ref a)] [(.ref t)])) := c1.trans (st2 _ (Steps.refl _))
  obtain ⟨cl3, Ar3, q3, S3, M3, H3, G3⟩ := K
  have c3 : Steps p.tables e below S0 (T2.setTop (mkF m 5 #[.val (.ref a)] [(.int (0 : Int32))])) := c2.trans (by
    refine X2.arraylength hx (by rw [show T2.heap = h0 from e2]; exact Ar3.1) (State.isArrayOf_alike (hZ).alike Ar3.2.1) (g := (mkF m 4 #[.val (.ref a)] [(.ref t)])) rfl rfl (hb hby d10_4) _ ?_
    rw [len_of S3 M3]
    exact Steps.refl _)
  have c4 : Steps p.tables e below S0 (T2.setTop (mkF m 13 #[.val (.ref a)] [(.int (1 : Int32))])) := c3.trans (by
    refine XS.ifNo X2.here hx rfl (hb hby d10_5) rfl ((if0 _ _).trans (teq (by decide : (0 : Int32) = (0 : Int32))).2) ?_
    refine XS.iconst X2.here hx rfl (hb hby d10_8) ?_
    refine XS.goto X2.here hx rfl (pc0 := 9) (pc' := 13) rfl (hb hby d10_9) (by decide) (by decide) ?_
    exact Steps.refl _)
  refine ⟨T2, (some (.int (1 : Int32))), _, _, _, X2, by decide, by decide, (fun q => by cases q), N0, ?_, fun fs hr => ?_⟩
  · rw [e2]
    exact ⟨rfl, rfl⟩
  · exact c4.trans (retN X2 hx (t := .boolean) hret (by simp) (hb hby d10_13) hr)
set_option maxRecDepth 65536 in
set_option maxHeartbeats 40000000 in
theorem rm9 (l : Launch) (Z : State) (a0 : Array Value) (hw : ∀ d ∈ tables_1, d.before a0 Z = true) (a b t : Addr) (k : ClassId) (h0 : Heap) (O0 : Old Z Z.heap.size h0) (F : Fld Z h0 a "com/example/spangle/spangle/api/TraceState" "keys" "Ljava/util/List;" (.ref b)) (E : Exa Z h0 b "java/util/ImmutableCollections$ListN") (F1 : Fld Z h0 b "java/util/ImmutableCollections$ListN" "elements" "[Ljava/lang/Object;" (.ref t)) (K : Arv Z h0 t k (.object "java/lang/Object") (0 : Int32) [] .null) :
    own_NC l Z (⟨"com/example/spangle/spangle/api/TraceState", "isEmpty", "()Z"⟩ : MethodName) prog_19_method_6_code 1 (some .boolean) ({ frames := 1, cells := 0, slots := 0, locals := 12 } : Room) #[(.ref a)] h0 (fun v h => v = some (.int (1 : Int32)) ∧ h = h0) := by
  refine own_nc (plainFor_of_name (by first | (simp [plainName, overriddenIn]; done) | decide +kernel)) ?_
  intro p e s m below meth c s₁ S0 X0 hx hby hml hret hnm hown hZ e0 cc
  have N0 := Fr.nil Z.heap.size
  have c0 : Steps p.tables e below S0 (s₁.setTop (mkF m 0 #[.val (.ref a)] [])) := cc.trans (XT.entry rfl)
  have c1 : Steps p.tables e below S0 (s₁.setTop (mkF m 1 #[.val (.ref a)] [(.ref a)])) := c0.trans (by
    refine XS.aloadN X0.here hx rfl (hb hby d9_0) rfl rfl ?_
    exact Steps.refl _)
  obtain ⟨T2, X2, e2, st2⟩ := getF X0 hx hZ hown (host := "") (Or.inl (hw _ (List.mem_of_getElem? (i := 65) rfl))) Via.refl e0 F (g := (mkF m 1 #[.val (.ref a)] [(.ref a)])) rfl rfl (hb hby d9_1)
  have c2 : Steps p.tables e below S0 (T2.setTop (mkF m 4 #[.val (.ref a)] [(.ref b)])) := c1.trans (st2 _ (Steps.refl _))
  obtain ⟨v3, T3, L3, X3, ⟨N3', rfl, e3⟩, c3'⟩ := own_face X2 hx hml hZ hown (hw _ (List.mem_of_getElem? (i := 67) rfl)) (hw _ (List.mem_of_getElem? (i := 68) rfl)) (mvT hZ (hw _ (List.mem_of_getElem? (i := 69) rfl))) (hw _ (List.mem_of_getElem? (i := 70) rfl)) (hw _ (List.mem_of_getElem? (i := 71) rfl)) (hw _ (List.mem_of_getElem? (i := 72) rfl)) (hw _ (List.mem_of_getElem? (i := 73) rfl)) (hw _ (List.mem_of_getElem? (i := 74) rfl)) (by decide) (kc := 0) (ks := 0) (W := 0) (b := b) (argsL := []) (rest := []) (own_pay (W := 0) (rm10 l Z a0 hw b t k h0 O0 F1 K) hZ (hw _ (List.mem_of_getElem? (i := 76) rfl)) (hw _ (List.mem_of_getElem? (i := 75) rfl)) (by decide) (by decide)) E c2 rfl rfl (lenOf pd_0 rfl) rfl (by show 2 * 0 + _ ≤ _; exact Nat.le_of_eq rfl) (hb hby d9_4) e2 (by decide) (by decide)
  have N3 := Fr.app N0 N3'
  have c3 : Steps p.tables e below S0 (T3.setTop (mkF m 9 #[.val (.ref a)] [(.int (1 : Int32))])) := c3'
  refine ⟨T3, (some (.int (1 : Int32))), _, _, _, X3, by decide, by decide, (fun q => by cases q), N3, ?_, fun fs hr => ?_⟩
  · rw [e3]
    exact ⟨rfl, rfl⟩
  · exact c3.trans (retN X3 hx (t := .boolean) hret (by simp) (hb hby d9_9) hr)
set_option maxRecDepth 65536 in
set_option maxHeartbeats 40000000 in
theorem rm0 (l : Launch) (Z : State) (a0 : Array Value) (hw : ∀ d ∈ tables_1, d.before a0 Z = true) (p1 : Int32) (cN cS fN fS ts ti kl el : Addr) (ke : ClassId) (O0 : Old Z Z.heap.size Z.heap) (SN : Sta Z Z.heap "com/example/spangle/spangle/api/SpanContext" "NOT_SAMPLED_DECISION" "Lcom/example/spangle/spangle/api/SpanContext;" (.ref cN)) (EN : Exa Z Z.heap cN "com/example/spangle/spangle/api/SpanContext") (FtN : Fld Z Z.heap cN "com/example/spangle/spangle/api/SpanContext" "traceFlags" "Lcom/example/spangle/spangle/api/TraceFlags;" (.ref fN)) (EfN : Exa Z Z.heap fN "com/example/spangle/spangle/api/TraceFlags") (FsN : Fld Z Z.heap cN "com/example/spangle/spangle/api/SpanContext" "traceState" "Lcom/example/spangle/spangle/api/TraceState;" (.ref ts)) (FrN : Fld Z Z.heap cN "com/example/spangle/spangle/api/SpanContext" "remote" "Z" (.int (1 : Int32))) (FiN : Fld Z Z.heap cN "com/example/spangle/spangle/api/SpanContext" "traceId" "Lcom/example/spangle/spangle/api/TraceId;" (.ref ti)) (FdN : Fld Z Z.heap cN "com/example/spangle/spangle/api/SpanContext" "samplingDecided" "Z" (.int (1 : Int32))) (FvN : Fld Z Z.heap fN "com/example/spangle/spangle/api/TraceFlags" "value" "I" (.int (0 : Int32))) (SS : Sta Z Z.heap "com/example/spangle/spangle/api/SpanContext" "SAMPLED_DECISION" "Lcom/example/spangle/spangle/api/SpanContext;" (.ref cS)) (ES : Exa Z Z.heap cS "com/example/spangle/spangle/api/SpanContext") (FtS : Fld Z Z.heap cS "com/example/spangle/spangle/api/SpanContext" "traceFlags" "Lcom/example/spangle/spangle/api/TraceFlags;" (.ref fS)) (EfS : Exa Z Z.heap fS "com/example/spangle/spangle/api/TraceFlags") (FsS : Fld Z Z.heap cS "com/example/spangle/spangle/api/SpanContext" "traceState" "Lcom/example/spangle/spangle/api/TraceState;" (.ref ts)) (FrS : Fld Z Z.heap cS "com/example/spangle/spangle/api/SpanContext" "remote" "Z" (.int (1 : Int32))) (FiS : Fld Z Z.heap cS "com/example/spangle/spangle/api/SpanContext" "traceId" "Lcom/example/spangle/spangle/api/TraceId;" (.ref ti)) (FdS : Fld Z Z.heap cS "com/example/spangle/spangle/api/SpanContext" "samplingDecided" "Z" (.int (1 : Int32))) (FvS : Fld Z Z.heap fS "com/example/spangle/spangle/api/TraceFlags" "value" "I" (.int (1 : Int32))) (Es : Exa Z Z.heap ts "com/example/spangle/spangle/api/TraceState") (Ei : Exa Z Z.heap ti "com/example/spangle/spangle/api/TraceId") (Fh : Fld Z Z.heap ti "com/example/spangle/spangle/api/TraceId" "high" "J" (.long (0 : Int64))) (Fl : Fld Z Z.heap ti "com/example/spangle/spangle/api/TraceId" "low" "J" (.long (0 : Int64))) (Fk : Fld Z Z.heap ts "com/example/spangle/spangle/api/TraceState" "keys" "Ljava/util/List;" (.ref kl)) (Ek : Exa Z Z.heap kl "java/util/ImmutableCollections$ListN") (Fe : Fld Z Z.heap kl "java/util/ImmutableCollections$ListN" "elements" "[Ljava/lang/Object;" (.ref el)) (Ke : Arv Z Z.heap el ke (.object "java/lang/Object") (0 : Int32) [] .null) :
    own_NW l Z x code maxLocals ret room_1 #[(.int p1)] Z.heap (fun v h => v = some (.int (1 : Int32))) := by
  intro p e s m below meth c s₁ S0 X0 hx hby hml hret hnm hown hZ e0 cc
  have N0 := Fr.nil Z.heap.size
  have c0 : Steps p.tables e below S0 (s₁.setTop (mkF m 0 #[.val (.int p1), .unset, .unset, .unset, .unset, .unset] [])) := cc.trans (XT.entry rfl)
  have c1 : Steps p.tables e below S0 (s₁.setTop (mkF m 3 #[.val (.int p1), .unset, .unset, .unset, .unset, .unset] [(.int (p1 &&& (1 : Int32)))])) := c0.trans (by
    refine XS.iloadN X0.here hx rfl (hb hby at_0) rfl ?_
    refine XS.iconst X0.here hx rfl (hb hby at_1) ?_
    refine XS.iand X0.here hx rfl (hb hby at_2) rfl ?_
    exact Steps.refl _)
  by_cases hc2 : (p1 &&& (1 : Int32)) = (0 : Int32)
  · skip
    have c3 : Steps p.tables e below S0 (s₁.setTop (mkF m 13 #[.val (.int p1), .val (.int (0 : Int32)), .unset, .unset, .unset, .unset] [(.int (0 : Int32))])) := c1.trans (by
      refine XS.ifYes X0.here hx rfl (pc0 := 3) (pc' := 10) rfl (hb hby at_3) rfl ((if0 _ _).trans (teq hc2).1) (by decide) (by decide) ?_
      refine XS.iconst X0.here hx rfl (hb hby at_10) ?_
      refine XS.istoreN X0.here hx rfl (hb hby at_11) rfl (l' := #[.val (.int p1), .val (.int (0 : Int32)), .unset, .unset, .unset, .unset]) rfl ?_
      refine XS.iloadN X0.here hx rfl (hb hby at_12) rfl ?_
      exact Steps.refl _)
    obtain ⟨v4, T4, L4, X4, ⟨N4', rfl, e4⟩, c4'⟩ := own_stat X0 hx hml hZ hown (hw _ (List.mem_of_getElem? (i := 0) rfl)) (hw _ (List.mem_of_getElem? (i := 1) rfl)) (hw _ (List.mem_of_getElem? (i := 2) rfl)) (hw _ (List.mem_of_getElem? (i := 3) rfl)) (by decide) (kc := 0) (ks := 0) (W := 0) (argsL := [(.int (0 : Int32))]) (rest := []) (own_pay (W := 0) (rm1t l Z a0 hw (0 : Int32) cN Z.heap O0 SN (by decide)) hZ (hw _ (List.mem_of_getElem? (i := 3) rfl)) (hw _ (List.mem_of_getElem? (i := 2) rfl)) (by decide) (by decide)) c3 rfl rfl (lenOf pd_1 rfl) rfl (by show 2 * 0 + _ ≤ _; exact Nat.le_of_eq rfl) (hb hby at_13) e0 (by decide) (by decide)
    have N4 := Fr.app N0 N4'
    have c4 : Steps p.tables e below S0 (T4.setTop (mkF m 16 #[.val (.int p1), .val (.int (0 : Int32)), .unset, .unset, .unset, .unset] [(.ref cN)])) := c4'
    have c5 : Steps p.tables e below S0 (T4.setTop (mkF m 34 #[.val (.int p1), .val (.int (0 : Int32)), .val (.ref cN), .val (.int (0 : Int32)), .unset, .unset] [(.ref cN)])) := c4.trans (by
      refine XS.astoreN X4.here hx rfl (hb hby at_16) rfl rfl (l' := #[.val (.int p1), .val (.int (0 : Int32)), .val (.ref cN), .unset, .unset, .unset]) rfl ?_
      refine XS.aloadN X4.here hx rfl (hb hby at_17) rfl rfl ?_
      refine XS.ifnonnullYes X4.here hx rfl (pc0 := 18) (pc' := 23) rfl (hb hby at_18) rfl (by decide) (by decide) ?_
      refine XS.iloadN X4.here hx rfl (hb hby at_23) rfl ?_
      refine XS.ifYes X4.here hx rfl (pc0 := 24) (pc' := 31) rfl (hb hby at_24) rfl ((if0 _ _).trans (teq (by decide : (0 : Int32) = (0 : Int32))).1) (by decide) (by decide) ?_
      refine XS.iconst X4.here hx rfl (hb hby at_31) ?_
      refine XS.istoreN X4.here hx rfl (hb hby at_32) rfl (l' := #[.val (.int p1), .val (.int (0 : Int32)), .val (.ref cN), .val (.int (0 : Int32)), .unset, .unset]) rfl ?_
      refine XS.aloadN X4.here hx rfl (hb hby at_33) rfl rfl ?_
      exact Steps.refl _)
    obtain ⟨v6, T6, L6, X6, ⟨N6', rfl, e6⟩, c6'⟩ := own_virt X4 hx hml hZ hown (hw _ (List.mem_of_getElem? (i := 6) rfl)) (hw _ (List.mem_of_getElem? (i := 7) rfl)) (hw _ (List.mem_of_getElem? (i := 9) rfl)) (hw _ (List.mem_of_getElem? (i := 8) rfl)) (hw _ (List.mem_of_getElem? (i := 9) rfl)) (by decide) (kc := 0) (ks := 0) (W := 0) (b := cN) (argsL := []) (rest := []) (own_pay (W := 0) (rm2 l Z a0 hw cN fN Z.heap O0 FtN) hZ (hw _ (List.mem_of_getElem? (i := 10) rfl)) (hw _ (List.mem_of_getElem? (i := 2) rfl)) (by decide) (by decide)) EN c5 rfl rfl (lenOf pd_2 rfl) rfl (by show 2 * 0 + _ ≤ _; exact Nat.le_of_eq rfl) (hb hby at_34) e4 (by decide) (by decide)
    have N6 := Fr.app N4 N6'
    have c6 : Steps p.tables e below S0 (T6.setTop (mkF m 37 #[.val (.int p1), .val (.int (0 : Int32)), .val (.ref cN), .val (.int (0 : Int32)), .unset, .unset] [(.ref fN)])) := c6'
    have c7 : Steps p.tables e below S0 (T6.setTop (mkF m 47 #[.val (.int p1), .val (.int (0 : Int32)), .val (.ref cN), .val (.int (0 : Int32)), .val (.ref fN), .unset] [(.ref cN)])) := c6.trans (by
      refine XS.astore X6.here hx rfl (hb hby at_37) rfl rfl (l' := #[.val (.int p1), .val (.int (0 : Int32)), .val (.ref cN), .val (.int (0 : Int32)), .val (.ref fN), .unset]) rfl ?_
      refine XS.aload X6.here hx rfl (hb hby at_39) rfl rfl ?_
      refine XS.ifnonnullYes X6.here hx rfl (pc0 := 41) (pc' := 46) rfl (hb hby at_41) rfl (by decide) (by decide) ?_
      refine XS.aloadN X6.here hx rfl (hb hby at_46) rfl rfl ?_
      exact Steps.refl _)
    obtain ⟨v8, T8, L8, X8, ⟨N8', rfl, e8⟩, c8'⟩ := own_virt X6 hx hml hZ hown (hw _ (List.mem_of_getElem? (i := 13) rfl)) (hw _ (List.mem_of_getElem? (i := 14) rfl)) (hw _ (List.mem_of_getElem? (i := 16) rfl)) (hw _ (List.mem_of_getElem? (i := 15) rfl)) (hw _ (List.mem_of_getElem? (i := 16) rfl)) (by decide) (kc := 0) (ks := 0) (W := 0) (b := cN) (argsL := []) (rest := []) (own_pay (W := 0) (rm3 l Z a0 hw cN ts Z.heap O0 FsN) hZ (hw _ (List.mem_of_getElem? (i := 17) rfl)) (hw _ (List.mem_of_getElem? (i := 2) rfl)) (by decide) (by decide)) EN c7 rfl rfl (lenOf pd_3 rfl) rfl (by show 2 * 0 + _ ≤ _; exact Nat.le_of_eq rfl) (hb hby at_47) e6 (by decide) (by decide)
    have N8 := Fr.app N6 N8'
    have c8 : Steps p.tables e below S0 (T8.setTop (mkF m 50 #[.val (.int p1), .val (.int (0 : Int32)), .val (.ref cN), .val (.int (0 : Int32)), .val (.ref fN), .unset] [(.ref ts)])) := c8'
    have c9 : Steps p.tables e below S0 (T8.setTop (mkF m 60 #[.val (.int p1), .val (.int (0 : Int32)), .val (.ref cN), .val (.int (0 : Int32)), .val (.ref fN), .val (.ref ts)] [(.ref cN)])) := c8.trans (by
      refine XS.astore X8.here hx rfl (hb hby at_50) rfl rfl (l' := #[.val (.int p1), .val (.int (0 : Int32)), .val (.ref cN), .val (.int (0 : Int32)), .val (.ref fN), .val (.ref ts)]) rfl ?_
      refine XS.aload X8.here hx rfl (hb hby at_52) rfl rfl ?_
      refine XS.ifnonnullYes X8.here hx rfl (pc0 := 54) (pc' := 59) rfl (hb hby at_54) rfl (by decide) (by decide) ?_
      refine XS.aloadN X8.here hx rfl (hb hby at_59) rfl rfl ?_
      exact Steps.refl _)
    obtain ⟨v10, T10, L10, X10, ⟨N10', rfl, e10⟩, c10'⟩ := own_virt X8 hx hml hZ hown (hw _ (List.mem_of_getElem? (i := 20) rfl)) (hw _ (List.mem_of_getElem? (i := 21) rfl)) (hw _ (List.mem_of_getElem? (i := 23) rfl)) (hw _ (List.mem_of_getElem? (i := 22) rfl)) (hw _ (List.mem_of_getElem? (i := 23) rfl)) (by decide) (kc := 0) (ks := 0) (W := 0) (b := cN) (argsL := []) (rest := []) (own_pay (W := 0) (rm4 l Z a0 hw cN Z.heap O0 FrN) hZ (hw _ (List.mem_of_getElem? (i := 24) rfl)) (hw _ (List.mem_of_getElem? (i := 2) rfl)) (by decide) (by decide)) EN c9 rfl rfl (lenOf pd_0 rfl) rfl (by show 2 * 0 + _ ≤ _; exact Nat.le_of_eq rfl) (hb hby at_60) e8 (by decide) (by decide)
    have N10 := Fr.app N8 N10'
    have c10 : Steps p.tables e below S0 (T10.setTop (mkF m 63 #[.val (.int p1), .val (.int (0 : Int32)), .val (.ref cN), .val (.int (0 : Int32)), .val (.ref fN), .val (.ref ts)] [(.int (1 : Int32))])) := c10'
    have c11 : Steps p.tables e below S0 (T10.setTop (mkF m 67 #[.val (.int p1), .val (.int (0 : Int32)), .val (.ref cN), .val (.int (0 : Int32)), .val (.ref fN), .val (.ref ts)] [(.ref cN)])) := c10.trans (by
      refine XS.ifNo X10.here hx rfl (hb hby at_63) rfl ((if0 _ _).trans (feq (by decide : ¬ ((1 : Int32) = (0 : Int32)))).1) ?_
      refine XS.aloadN X10.here hx rfl (hb hby at_66) rfl rfl ?_
      exact Steps.refl _)
    obtain ⟨v12, T12, L12, X12, ⟨N12', rfl, e12⟩, c12'⟩ := own_virt X10 hx hml hZ hown (hw _ (List.mem_of_getElem? (i := 27) rfl)) (hw _ (List.mem_of_getElem? (i := 28) rfl)) (hw _ (List.mem_of_getElem? (i := 30) rfl)) (hw _ (List.mem_of_getElem? (i := 29) rfl)) (hw _ (List.mem_of_getElem? (i := 30) rfl)) (by decide) (kc := 0) (ks := 0) (W := 0) (b := cN) (argsL := []) (rest := []) (own_pay (W := 0) (rm5 l Z a0 hw cN ti Z.heap O0 FiN Ei Fh Fl) hZ (hw _ (List.mem_of_getElem? (i := 31) rfl)) (hw _ (List.mem_of_getElem? (i := 2) rfl)) (by decide) (by decide)) EN c11 rfl rfl (lenOf pd_0 rfl) rfl (by show 2 * 0 + _ ≤ _; exact Nat.le_of_eq rfl) (hb hby at_67) e10 (by decide) (by decide)
    have N12 := Fr.app N10 N12'
    have c12 : Steps p.tables e below S0 (T12.setTop (mkF m 70 #[.val (.int p1), .val (.int (0 : Int32)), .val (.ref cN), .val (.int (0 : Int32)), .val (.ref fN), .val (.ref ts)] [(.int (0 : Int32))])) := c12'
    have c13 : Steps p.tables e below S0 (T12.setTop (mkF m 74 #[.val (.int p1), .val (.int (0 : Int32)), .val (.ref cN), .val (.int (0 : Int32)), .val (.ref fN), .val (.ref ts)] [(.ref cN)])) := c12.trans (by
      refine XS.ifNo X12.here hx rfl (hb hby at_70) rfl ((if0 _ _).trans (teq (by decide : (0 : Int32) = (0 : Int32))).2) ?_
      refine XS.aloadN X12.here hx rfl (hb hby at_73) rfl rfl ?_
      exact Steps.refl _)
    obtain ⟨v14, T14, L14, X14, ⟨N14', rfl, e14⟩, c14'⟩ := own_virt X12 hx hml hZ hown (hw _ (List.mem_of_getElem? (i := 44) rfl)) (hw _ (List.mem_of_getElem? (i := 45) rfl)) (hw _ (List.mem_of_getElem? (i := 47) rfl)) (hw _ (List.mem_of_getElem? (i := 46) rfl)) (hw _ (List.mem_of_getElem? (i := 47) rfl)) (by decide) (kc := 0) (ks := 0) (W := 0) (b := cN) (argsL := []) (rest := []) (own_pay (W := 0) (rm7 l Z a0 hw cN Z.heap O0 FdN) hZ (hw _ (List.mem_of_getElem? (i := 48) rfl)) (hw _ (List.mem_of_getElem? (i := 2) rfl)) (by decide) (by decide)) EN c13 rfl rfl (lenOf pd_0 rfl) rfl (by show 2 * 0 + _ ≤ _; exact Nat.le_of_eq rfl) (hb hby at_74) e12 (by decide) (by decide)
    have N14 := Fr.app N12 N14'
    have c14 : Steps p.tables e below S0 (T14.setTop (mkF m 77 #[.val (.int p1), .val (.int (0 : Int32)), .val (.ref cN), .val (.int (0 : Int32)), .val (.ref fN), .val (.ref ts)] [(.int (1 : Int32))])) := c14'
    have c15 : Steps p.tables e below S0 (T14.setTop (mkF m 82 #[.val (.int p1), .val (.int (0 : Int32)), .val (.ref cN), .val (.int (0 : Int32)), .val (.ref fN), .val (.ref ts)] [(.ref fN)])) := c14.trans (by
      refine XS.ifNo X14.here hx rfl (hb hby at_77) rfl ((if0 _ _).trans (feq (by decide : ¬ ((1 : Int32) = (0 : Int32)))).1) ?_
      refine XS.aload X14.here hx rfl (hb hby at_80) rfl rfl ?_
      exact Steps.refl _)
    obtain ⟨v16, T16, L16, X16, ⟨N16', rfl, e16⟩, c16'⟩ := own_virt X14 hx hml hZ hown (hw _ (List.mem_of_getElem? (i := 51) rfl)) (hw _ (List.mem_of_getElem? (i := 52) rfl)) (hw _ (List.mem_of_getElem? (i := 54) rfl)) (hw _ (List.mem_of_getElem? (i := 53) rfl)) (hw _ (List.mem_of_getElem? (i := 54) rfl)) (by decide) (kc := 0) (ks := 0) (W := 0) (b := fN) (argsL := []) (rest := []) (own_pay (W := 0) (rm8 l Z a0 hw fN (0 : Int32) Z.heap O0 FvN) hZ (hw _ (List.mem_of_getElem? (i := 56) rfl)) (hw _ (List.mem_of_getElem? (i := 55) rfl)) (by decide) (by decide)) EfN c15 rfl rfl (lenOf pd_4 rfl) rfl (by show 2 * 0 + _ ≤ _; exact Nat.le_of_eq rfl) (hb hby at_82) e14 (by decide) (by decide)
    have N16 := Fr.app N14 N16'
    have c16 : Steps p.tables e below S0 (T16.setTop (mkF m 85 #[.val (.int p1), .val (.int (0 : Int32)), .val (.ref cN), .val (.int (0 : Int32)), .val (.ref fN), .val (.ref ts)] [(.int (0 : Int32))])) := c16'
    have c17 : Steps p.tables e below S0 (T16.setTop (mkF m 91 #[.val (.int p1), .val (.int (0 : Int32)), .val (.ref cN), .val (.int (0 : Int32)), .val (.ref fN), .val (.ref ts)] [(.ref ts)])) := c16.trans (by
      refine XS.iloadN X16.here hx rfl (hb hby at_85) rfl ?_
      refine XS.icmpNo X16.here hx rfl (hb hby at_86) rfl (teq (by decide : (0 : Int32) = (0 : Int32))).2 ?_
      refine XS.aload X16.here hx rfl (hb hby at_89) rfl rfl ?_
      exact Steps.refl _)
    obtain ⟨v18, T18, L18, X18, ⟨N18', rfl, e18⟩, c18'⟩ := own_virt X16 hx hml hZ hown (hw _ (List.mem_of_getElem? (i := 59) rfl)) (hw _ (List.mem_of_getElem? (i := 60) rfl)) (hw _ (List.mem_of_getElem? (i := 62) rfl)) (hw _ (List.mem_of_getElem? (i := 61) rfl)) (hw _ (List.mem_of_getElem? (i := 62) rfl)) (by decide) (kc := 0) (ks := 0) (W := 0) (b := ts) (argsL := []) (rest := []) (own_pay (W := 0) (rm9 l Z a0 hw ts kl el ke Z.heap O0 Fk Ek Fe Ke) hZ (hw _ (List.mem_of_getElem? (i := 64) rfl)) (hw _ (List.mem_of_getElem? (i := 63) rfl)) (by decide) (by decide)) Es c17 rfl rfl (lenOf pd_0 rfl) rfl (by show 2 * 0 + _ ≤ _; exact Nat.le_of_eq rfl) (hb hby at_91) e16 (by decide) (by decide)
    have N18 := Fr.app N16 N18'
    have c18 : Steps p.tables e below S0 (T18.setTop (mkF m 94 #[.val (.int p1), .val (.int (0 : Int32)), .val (.ref cN), .val (.int (0 : Int32)), .val (.ref fN), .val (.ref ts)] [(.int (1 : Int32))])) := c18'
    have c19 : Steps p.tables e below S0 (T18.setTop (mkF m 102 #[.val (.int p1), .val (.int (0 : Int32)), .val (.ref cN), .val (.int (0 : Int32)), .val (.ref fN), .val (.ref ts)] [(.int (1 : Int32))])) := c18.trans (by
      refine XS.ifNo X18.here hx rfl (hb hby at_94) rfl ((if0 _ _).trans (feq (by decide : ¬ ((1 : Int32) = (0 : Int32)))).1) ?_
      refine XS.iconst X18.here hx rfl (hb hby at_97) ?_
      refine XS.goto X18.here hx rfl (pc0 := 98) (pc' := 102) rfl (hb hby at_98) (by decide) (by decide) ?_
      exact Steps.refl _)
    refine ⟨T18, (some (.int (1 : Int32))), _, _, _, X18, by decide, by decide, (fun q => by cases q), N18, ?_, fun fs hr => ?_⟩
    · skip
      exact rfl
    · exact c19.trans (retN X18 hx (t := .boolean) hret (by simp) (hb hby at_102) hr)
  · skip
    have c21 : Steps p.tables e below S0 (s₁.setTop (mkF m 13 #[.val (.int p1), .val (.int (1 : Int32)), .unset, .unset, .unset, .unset] [(.int (1 : Int32))])) := c1.trans (by
      refine XS.ifNo X0.here hx rfl (hb hby at_3) rfl ((if0 _ _).trans (feq hc2).1) ?_
      refine XS.iconst X0.here hx rfl (hb hby at_6) ?_
      refine XS.goto X0.here hx rfl (pc0 := 7) (pc' := 11) rfl (hb hby at_7) (by decide) (by decide) ?_
      refine XS.istoreN X0.here hx rfl (hb hby at_11) rfl (l' := #[.val (.int p1), .val (.int (1 : Int32)), .unset, .unset, .unset, .unset]) rfl ?_
      refine XS.iloadN X0.here hx rfl (hb hby at_12) rfl ?_
      exact Steps.refl _)
    obtain ⟨v22, T22, L22, X22, ⟨N22', rfl, e22⟩, c22'⟩ := own_stat X0 hx hml hZ hown (hw _ (List.mem_of_getElem? (i := 0) rfl)) (hw _ (List.mem_of_getElem? (i := 1) rfl)) (hw _ (List.mem_of_getElem? (i := 2) rfl)) (hw _ (List.mem_of_getElem? (i := 3) rfl)) (by decide) (kc := 0) (ks := 0) (W := 0) (argsL := [(.int (1 : Int32))]) (rest := []) (own_pay (W := 0) (rm1f l Z a0 hw (1 : Int32) cS Z.heap O0 SS (by decide)) hZ (hw _ (List.mem_of_getElem? (i := 3) rfl)) (hw _ (List.mem_of_getElem? (i := 2) rfl)) (by decide) (by decide)) c21 rfl rfl (lenOf pd_1 rfl) rfl (by show 2 * 0 + _ ≤ _; exact Nat.le_of_eq rfl) (hb hby at_13) e0 (by decide) (by decide)
    have N22 := Fr.app N0 N22'
    have c22 : Steps p.tables e below S0 (T22.setTop (mkF m 16 #[.val (.int p1), .val (.int (1 : Int32)), .unset, .unset, .unset, .unset] [(.ref cS)])) := c22'
    have c23 : Steps p.tables e below S0 (T22.setTop (mkF m 34 #[.val (.int p1), .val (.int (1 : Int32)), .val (.ref cS), .val (.int (1 : Int32)), .unset, .unset] [(.ref cS)])) := c22.trans (by
      refine XS.astoreN X22.here hx rfl (hb hby at_16) rfl rfl (l' := #[.val (.int p1), .val (.int (1 : Int32)), .val (.ref cS), .unset, .unset, .unset]) rfl ?_
      refine XS.aloadN X22.here hx rfl (hb hby at_17) rfl rfl ?_
      refine XS.ifnonnullYes X22.here hx rfl (pc0 := 18) (pc' := 23) rfl (hb hby at_18) rfl (by decide) (by decide) ?_
      refine XS.iloadN X22.here hx rfl (hb hby at_23) rfl ?_
      refine XS.ifNo X22.here hx rfl (hb hby at_24) rfl ((if0 _ _).trans (feq (by decide : ¬ ((1 : Int32) = (0 : Int32)))).1) ?_
      refine XS.iconst X22.here hx rfl (hb hby at_27) ?_
      refine XS.goto X22.here hx rfl (pc0 := 28) (pc' := 32) rfl (hb hby at_28) (by decide) (by decide) ?_
      refine XS.istoreN X22.here hx rfl (hb hby at_32) rfl (l' := #[.val (.int p1), .val (.int (1 : Int32)), .val (.ref cS), .val (.int (1 : Int32)), .unset, .unset]) rfl ?_
      refine XS.aloadN X22.here hx rfl (hb hby at_33) rfl rfl ?_
      exact Steps.refl _)
    obtain ⟨v24, T24, L24, X24, ⟨N24', rfl, e24⟩, c24'⟩ := own_virt X22 hx hml hZ hown (hw _ (List.mem_of_getElem? (i := 6) rfl)) (hw _ (List.mem_of_getElem? (i := 7) rfl)) (hw _ (List.mem_of_getElem? (i := 9) rfl)) (hw _ (List.mem_of_getElem? (i := 8) rfl)) (hw _ (List.mem_of_getElem? (i := 9) rfl)) (by decide) (kc := 0) (ks := 0) (W := 0) (b := cS) (argsL := []) (rest := []) (own_pay (W := 0) (rm2 l Z a0 hw cS fS Z.heap O0 FtS) hZ (hw _ (List.mem_of_getElem? (i := 10) rfl)) (hw _ (List.mem_of_getElem? (i := 2) rfl)) (by decide) (by decide)) ES c23 rfl rfl (lenOf pd_2 rfl) rfl (by show 2 * 0 + _ ≤ _; exact Nat.le_of_eq rfl) (hb hby at_34) e22 (by decide) (by decide)
    have N24 := Fr.app N22 N24'
    have c24 : Steps p.tables e below S0 (T24.setTop (mkF m 37 #[.val (.int p1), .val (.int (1 : Int32)), .val (.ref cS), .val (.int (1 : Int32)), .unset, .unset] [(.ref fS)])) := c24'
    have c25 : Steps p.tables e below S0 (T24.setTop (mkF m 47 #[.val (.int p1), .val (.int (1 : Int32)), .val (.ref cS), .val (.int (1 : Int32)), .val (.ref fS), .unset] [(.ref cS)])) := c24.trans (by
      refine XS.astore X24.here hx rfl (hb hby at_37) rfl rfl (l' := #[.val (.int p1), .val (.int (1 : Int32)), .val (.ref cS), .val (.int (1 : Int32)), .val (.ref fS), .unset]) rfl ?_
      refine XS.aload X24.here hx rfl (hb hby at_39) rfl rfl ?_
      refine XS.ifnonnullYes X24.here hx rfl (pc0 := 41) (pc' := 46) rfl (hb hby at_41) rfl (by decide) (by decide) ?_
      refine XS.aloadN X24.here hx rfl (hb hby at_46) rfl rfl ?_
      exact Steps.refl _)
    obtain ⟨v26, T26, L26, X26, ⟨N26', rfl, e26⟩, c26'⟩ := own_virt X24 hx hml hZ hown (hw _ (List.mem_of_getElem? (i := 13) rfl)) (hw _ (List.mem_of_getElem? (i := 14) rfl)) (hw _ (List.mem_of_getElem? (i := 16) rfl)) (hw _ (List.mem_of_getElem? (i := 15) rfl)) (hw _ (List.mem_of_getElem? (i := 16) rfl)) (by decide) (kc := 0) (ks := 0) (W := 0) (b := cS) (argsL := []) (rest := []) (own_pay (W := 0) (rm3 l Z a0 hw cS ts Z.heap O0 FsS) hZ (hw _ (List.mem_of_getElem? (i := 17) rfl)) (hw _ (List.mem_of_getElem? (i := 2) rfl)) (by decide) (by decide)) ES c25 rfl rfl (lenOf pd_3 rfl) rfl (by show 2 * 0 + _ ≤ _; exact Nat.le_of_eq rfl) (hb hby at_47) e24 (by decide) (by decide)
    have N26 := Fr.app N24 N26'
    have c26 : Steps p.tables e below S0 (T26.setTop (mkF m 50 #[.val (.int p1), .val (.int (1 : Int32)), .val (.ref cS), .val (.int (1 : Int32)), .val (.ref fS), .unset] [(.ref ts)])) := c26'
    have c27 : Steps p.tables e below S0 (T26.setTop (mkF m 60 #[.val (.int p1), .val (.int (1 : Int32)), .val (.ref cS), .val (.int (1 : Int32)), .val (.ref fS), .val (.ref ts)] [(.ref cS)])) := c26.trans (by
      refine XS.astore X26.here hx rfl (hb hby at_50) rfl rfl (l' := #[.val (.int p1), .val (.int (1 : Int32)), .val (.ref cS), .val (.int (1 : Int32)), .val (.ref fS), .val (.ref ts)]) rfl ?_
      refine XS.aload X26.here hx rfl (hb hby at_52) rfl rfl ?_
      refine XS.ifnonnullYes X26.here hx rfl (pc0 := 54) (pc' := 59) rfl (hb hby at_54) rfl (by decide) (by decide) ?_
      refine XS.aloadN X26.here hx rfl (hb hby at_59) rfl rfl ?_
      exact Steps.refl _)
    obtain ⟨v28, T28, L28, X28, ⟨N28', rfl, e28⟩, c28'⟩ := own_virt X26 hx hml hZ hown (hw _ (List.mem_of_getElem? (i := 20) rfl)) (hw _ (List.mem_of_getElem? (i := 21) rfl)) (hw _ (List.mem_of_getElem? (i := 23) rfl)) (hw _ (List.mem_of_getElem? (i := 22) rfl)) (hw _ (List.mem_of_getElem? (i := 23) rfl)) (by decide) (kc := 0) (ks := 0) (W := 0) (b := cS) (argsL := []) (rest := []) (own_pay (W := 0) (rm4 l Z a0 hw cS Z.heap O0 FrS) hZ (hw _ (List.mem_of_getElem? (i := 24) rfl)) (hw _ (List.mem_of_getElem? (i := 2) rfl)) (by decide) (by decide)) ES c27 rfl rfl (lenOf pd_0 rfl) rfl (by show 2 * 0 + _ ≤ _; exact Nat.le_of_eq rfl) (hb hby at_60) e26 (by decide) (by decide)
    have N28 := Fr.app N26 N28'
    have c28 : Steps p.tables e below S0 (T28.setTop (mkF m 63 #[.val (.int p1), .val (.int (1 : Int32)), .val (.ref cS), .val (.int (1 : Int32)), .val (.ref fS), .val (.ref ts)] [(.int (1 : Int32))])) := c28'
    have c29 : Steps p.tables e below S0 (T28.setTop (mkF m 67 #[.val (.int p1), .val (.int (1 : Int32)), .val (.ref cS), .val (.int (1 : Int32)), .val (.ref fS), .val (.ref ts)] [(.ref cS)])) := c28.trans (by
      refine XS.ifNo X28.here hx rfl (hb hby at_63) rfl ((if0 _ _).trans (feq (by decide : ¬ ((1 : Int32) = (0 : Int32)))).1) ?_
      refine XS.aloadN X28.here hx rfl (hb hby at_66) rfl rfl ?_
      exact Steps.refl _)
    obtain ⟨v30, T30, L30, X30, ⟨N30', rfl, e30⟩, c30'⟩ := own_virt X28 hx hml hZ hown (hw _ (List.mem_of_getElem? (i := 27) rfl)) (hw _ (List.mem_of_getElem? (i := 28) rfl)) (hw _ (List.mem_of_getElem? (i := 30) rfl)) (hw _ (List.mem_of_getElem? (i := 29) rfl)) (hw _ (List.mem_of_getElem? (i := 30) rfl)) (by decide) (kc := 0) (ks := 0) (W := 0) (b := cS) (argsL := []) (rest := []) (own_pay (W := 0) (rm5 l Z a0 hw cS ti Z.heap O0 FiS Ei Fh Fl) hZ (hw _ (List.mem_of_getElem? (i := 31) rfl)) (hw _ (List.mem_of_getElem? (i := 2) rfl)) (by decide) (by decide)) ES c29 rfl rfl (lenOf pd_0 rfl) rfl (by show 2 * 0 + _ ≤ _; exact Nat.le_of_eq rfl) (hb hby at_67) e28 (by decide) (by decide)
    have N30 := Fr.app N28 N30'
    have c30 : Steps p.tables e below S0 (T30.setTop (mkF m 70 #[.val (.int p1), .val (.int (1 : Int32)), .val (.ref cS), .val (.int (1 : Int32)), .val (.ref fS), .val (.ref ts)] [(.int (0 : Int32))])) := c30'
    have c31 : Steps p.tables e below S0 (T30.setTop (mkF m 74 #[.val (.int p1), .val (.int (1 : Int32)), .val (.ref cS), .val (.int (1 : Int32)), .val (.ref fS), .val (.ref ts)] [(.ref cS)])) := c30.trans (by
      refine XS.ifNo X30.here hx rfl (hb hby at_70) rfl ((if0 _ _).trans (teq (by decide : (0 : Int32) = (0 : Int32))).2) ?_
      refine XS.aloadN X30.here hx rfl (hb hby at_73) rfl rfl ?_
      exact Steps.refl _)
    obtain ⟨v32, T32, L32, X32, ⟨N32', rfl, e32⟩, c32'⟩ := own_virt X30 hx hml hZ hown (hw _ (List.mem_of_getElem? (i := 44) rfl)) (hw _ (List.mem_of_getElem? (i := 45) rfl)) (hw _ (List.mem_of_getElem? (i := 47) rfl)) (hw _ (List.mem_of_getElem? (i := 46) rfl)) (hw _ (List.mem_of_getElem? (i := 47) rfl)) (by decide) (kc := 0) (ks := 0) (W := 0) (b := cS) (argsL := []) (rest := []) (own_pay (W := 0) (rm7 l Z a0 hw cS Z.heap O0 FdS) hZ (hw _ (List.mem_of_getElem? (i := 48) rfl)) (hw _ (List.mem_of_getElem? (i := 2) rfl)) (by decide) (by decide)) ES c31 rfl rfl (lenOf pd_0 rfl) rfl (by show 2 * 0 + _ ≤ _; exact Nat.le_of_eq rfl) (hb hby at_74) e30 (by decide) (by decide)
    have N32 := Fr.app N30 N32'
    have c32 : Steps p.tables e below S0 (T32.setTop (mkF m 77 #[.val (.int p1), .val (.int (1 : Int32)), .val (.ref cS), .val (.int (1 : Int32)), .val (.ref fS), .val (.ref ts)] [(.int (1 : Int32))])) := c32'
    have c33 : Steps p.tables e below S0 (T32.setTop (mkF m 82 #[.val (.int p1), .val (.int (1 : Int32)), .val (.ref cS), .val (.int (1 : Int32)), .val (.ref fS), .val (.ref ts)] [(.ref fS)])) := c32.trans (by
      refine XS.ifNo X32.here hx rfl (hb hby at_77) rfl ((if0 _ _).trans (feq (by decide : ¬ ((1 : Int32) = (0 : Int32)))).1) ?_
      refine XS.aload X32.here hx rfl (hb hby at_80) rfl rfl ?_
      exact Steps.refl _)
    obtain ⟨v34, T34, L34, X34, ⟨N34', rfl, e34⟩, c34'⟩ := own_virt X32 hx hml hZ hown (hw _ (List.mem_of_getElem? (i := 51) rfl)) (hw _ (List.mem_of_getElem? (i := 52) rfl)) (hw _ (List.mem_of_getElem? (i := 54) rfl)) (hw _ (List.mem_of_getElem? (i := 53) rfl)) (hw _ (List.mem_of_getElem? (i := 54) rfl)) (by decide) (kc := 0) (ks := 0) (W := 0) (b := fS) (argsL := []) (rest := []) (own_pay (W := 0) (rm8 l Z a0 hw fS (1 : Int32) Z.heap O0 FvS) hZ (hw _ (List.mem_of_getElem? (i := 56) rfl)) (hw _ (List.mem_of_getElem? (i := 55) rfl)) (by decide) (by decide)) EfS c33 rfl rfl (lenOf pd_4 rfl) rfl (by show 2 * 0 + _ ≤ _; exact Nat.le_of_eq rfl) (hb hby at_82) e32 (by decide) (by decide)
    have N34 := Fr.app N32 N34'
    have c34 : Steps p.tables e below S0 (T34.setTop (mkF m 85 #[.val (.int p1), .val (.int (1 : Int32)), .val (.ref cS), .val (.int (1 : Int32)), .val (.ref fS), .val (.ref ts)] [(.int (1 : Int32))])) := c34'
    have c35 : Steps p.tables e below S0 (T34.setTop (mkF m 91 #[.val (.int p1), .val (.int (1 : Int32)), .val (.ref cS), .val (.int (1 : Int32)), .val (.ref fS), .val (.ref ts)] [(.ref ts)])) := c34.trans (by
      refine XS.iloadN X34.here hx rfl (hb hby at_85) rfl ?_
      refine XS.icmpNo X34.here hx rfl (hb hby at_86) rfl (teq (by decide : (1 : Int32) = (1 : Int32))).2 ?_
      refine XS.aload X34.here hx rfl (hb hby at_89) rfl rfl ?_
      exact Steps.refl _)
    obtain ⟨v36, T36, L36, X36, ⟨N36', rfl, e36⟩, c36'⟩ := own_virt X34 hx hml hZ hown (hw _ (List.mem_of_getElem? (i := 59) rfl)) (hw _ (List.mem_of_getElem? (i := 60) rfl)) (hw _ (List.mem_of_getElem? (i := 62) rfl)) (hw _ (List.mem_of_getElem? (i := 61) rfl)) (hw _ (List.mem_of_getElem? (i := 62) rfl)) (by decide) (kc := 0) (ks := 0) (W := 0) (b := ts) (argsL := []) (rest := []) (own_pay (W := 0) (rm9 l Z a0 hw ts kl el ke Z.heap O0 Fk Ek Fe Ke) hZ (hw _ (List.mem_of_getElem? (i := 64) rfl)) (hw _ (List.mem_of_getElem? (i := 63) rfl)) (by decide) (by decide)) Es c35 rfl rfl (lenOf pd_0 rfl) rfl (by show 2 * 0 + _ ≤ _; exact Nat.le_of_eq rfl) (hb hby at_91) e34 (by decide) (by decide)
    have N36 := Fr.app N34 N36'
    have c36 : Steps p.tables e below S0 (T36.setTop (mkF m 94 #[.val (.int p1), .val (.int (1 : Int32)), .val (.ref cS), .val (.int (1 : Int32)), .val (.ref fS), .val (.ref ts)] [(.int (1 : Int32))])) := c36'
    have c37 : Steps p.tables e below S0 (T36.setTop (mkF m 102 #[.val (.int p1), .val (.int (1 : Int32)), .val (.ref cS), .val (.int (1 : Int32)), .val (.ref fS), .val (.ref ts)] [(.int (1 : Int32))])) := c36.trans (by
      refine XS.ifNo X36.here hx rfl (hb hby at_94) rfl ((if0 _ _).trans (feq (by decide : ¬ ((1 : Int32) = (0 : Int32)))).1) ?_
      refine XS.iconst X36.here hx rfl (hb hby at_97) ?_
      refine XS.goto X36.here hx rfl (pc0 := 98) (pc' := 102) rfl (hb hby at_98) (by decide) (by decide) ?_
      exact Steps.refl _)
    refine ⟨T36, (some (.int (1 : Int32))), _, _, _, X36, by decide, by decide, (fun q => by cases q), N36, ?_, fun fs hr => ?_⟩
    · skip
      exact rfl
    · exact c37.trans (retN X36 hx (t := .boolean) hret (by simp) (hb hby at_102) hr)
theorem own_eqI {args : Array Value} {s : State} {t : Term} {z : Int32} (h : (Jvm.Cond.eq t (Term.int z)).value args s none s [] = some true) : t.eval args s none [] s = some (.int z) := by
  obtain ⟨x, y, hx, hy, k1, k2⟩ := cmp_v (Or.inl h)
  have e : y = .int z := Option.some.inj (hy.symm.trans rfl)
  subst e
  obtain ⟨w, rfl⟩ := k2
  have : w = z := by simpa [Cond.value, hx, hy] using h
  rw [hx, this]
theorem own_eqJ {args : Array Value} {s : State} {t : Term} {z : Int64} (h : (Jvm.Cond.eq t (Term.long z)).value args s none s [] = some true) : t.eval args s none [] s = some (.long z) := by
  obtain ⟨x, y, hx, hy, k1, k2⟩ := cmp_v (Or.inl h)
  have e : y = .long z := Option.some.inj (hy.symm.trans rfl)
  subst e
  obtain ⟨w, rfl⟩ := k2
  have : w = z := by simpa [Cond.value, hx, hy] using h
  rw [hx, this]
theorem own_eqR {args : Array Value} {s : State} {t u : Term} {a : Addr} (hu : u.eval args s none [] s = some (.ref a)) (h : (Jvm.Cond.eq t u).value args s none s [] = some true) : t.eval args s none [] s = some (.ref a) := by
  obtain ⟨x, y, hx, hy, k1, k2⟩ := cmp_v (Or.inl h)
  have e : y = .ref a := Option.some.inj (hy.symm.trans hu)
  subst e
  obtain ⟨-, k3⟩ := k2
  have : x = .ref a := gotT (eq_R hx hy k3 rfl) h
  rw [hx, this]
theorem own_fld {args : Array Value} {s : State} {t : Term} {a : Addr} {C n d : String} {v : Value} (ht : t.eval args s none [] s = some (.ref a)) (h : (Term.field t C n d).eval args s none [] s = some v) : Fld s s.heap a C n d v := Fld.start ((fld_at ht).symm.trans h)
theorem own_len {args : Array Value} {s : State} {t : Term} {z : Int32} (h : (Term.length t).eval args s none [] s = some (.int z)) : ∃ b cell, t.eval args s none [] s = some (.ref b) ∧ s.arrayAt? b = some cell ∧ cell.slots.size < 2 ^ 31 ∧ cell.slots.size.toInt32 = z := by
  obtain ⟨b, cell, l1, l2, l4⟩ := Term.length_spec h
  refine ⟨b, cell, l1, l2, ?_, (Value.int.inj l4).symm⟩
  by_cases q : cell.slots.size < 2 ^ 31
  · exact q
  · simp [Term.eval, l1, l2, q] at h
set_option maxRecDepth 65536 in
set_option maxHeartbeats 40000000 in
theorem comes_1 {Post : Tables → Env → Array Value → State → Outcome → State → Prop} (hpost : ∀ tb e args s v u, (limb_1_1.after args s (.returned v) u = true ∧ limb_1_2.after args s (.returned v) u = true ∧ True) → FrameEnd s (.returned v) u (Jvm.fieldLocs frame_1_writes args s ++ Jvm.arrayLocs frame_1_arrays args s ++ Jvm.staticLocs frame_1_statics s) 0 0 → Post tb e args s (.returned v) u) :
    ArmFor flags0 classFile x code maxLocals ret World_1 tables_1 room_1 Calls_1 rest_1 Pre_1 Post := by
  intro l hfl _ _ p e ha hc hk s m args below hf hA hF happ hP
  obtain ⟨hcalls, hrest, hpre⟩ := hP
  obtain ⟨-, -, -, hnamed, -, -, -, hat⟩ := (Spec.applies_iff hf).mp happ
  obtain ⟨hg, hn⟩ := and_e (Cond.before_iff.mp (show (Jvm.Cond.and given_1 narrow_1).before args s = true from hpre))
  obtain ⟨g10, g11⟩ := and_e hg
  obtain ⟨w0, rfl⟩ : ∃ w0 : Value, args = #[w0] := by
    have hs : args.size = 1 := by simpa [Cond.value, given_1] using g10
    obtain ⟨L⟩ := args
    match L, hs with
    | [w0], _ => exact ⟨w0, rfl⟩
  have hw := fun d (hd : d ∈ tables_1) => atoms_spec (ws := Jvm.Cond.code x code maxLocals ret :: tables_1) hat d (List.mem_cons_of_mem _ hd)
  have hfit : Fit s := fun {y c} hc i hi => by
    obtain ⟨ha, rfl⟩ := Array.getElem?_eq_some_iff.mp hc
    have q := List.all_eq_true.mp ((Array.all_eq_true_iff_forall_mem.mp hF) _ (Array.getElem_mem ha)) i (List.mem_range.mpr hi)
    simpa [Array.getElem?_eq_getElem hi] using q
  obtain ⟨i0, ei0⟩ := is_v g11
  obtain rfl : w0 = (.int i0) := Option.some.inj ei0
  obtain ⟨n1, hn⟩ := and_e hn
  obtain ⟨n2, hn⟩ := and_e hn
  obtain ⟨n3, hn⟩ := and_e hn
  obtain ⟨n4, hn⟩ := and_e hn
  obtain ⟨n5, hn⟩ := and_e hn
  obtain ⟨n6, hn⟩ := and_e hn
  obtain ⟨n7, hn⟩ := and_e hn
  obtain ⟨n8, hn⟩ := and_e hn
  obtain ⟨n9, hn⟩ := and_e hn
  obtain ⟨n10, hn⟩ := and_e hn
  obtain ⟨n11, hn⟩ := and_e hn
  obtain ⟨n12, hn⟩ := and_e hn
  obtain ⟨n13, hn⟩ := and_e hn
  obtain ⟨n14, hn⟩ := and_e hn
  obtain ⟨n15, hn⟩ := and_e hn
  obtain ⟨n16, hn⟩ := and_e hn
  obtain ⟨n17, hn⟩ := and_e hn
  obtain ⟨n18, n19⟩ := and_e hn
  obtain ⟨cN, ecN⟩ := exa_v n1
  obtain ⟨fN, efN⟩ := exa_v n2
  obtain ⟨ts, ets⟩ := exa_v n3
  obtain ⟨ti, eti⟩ := exa_v n5
  obtain ⟨kl, ekl⟩ := exa_v n10
  obtain ⟨el, eel⟩ := arr_v n11
  obtain ⟨cS, ecS⟩ := exa_v n13
  obtain ⟨fS, efS⟩ := exa_v n14
  obtain ⟨cE, AE⟩ := Arr.start eel n11
  have len := own_eqI n12
  have hlen := own_len len
  obtain ⟨b', cell', l1, l2, l3, l4⟩ := hlen
  cases eel.symm.trans l1
  have hcell : cell' = cE := Option.some.inj (l2.symm.trans (Arr.fin (Vm.Alike.refl _) AE))
  subst hcell
  have l5 : cell'.slots.size.toInt32 = (0 : Int32) := l4
  have KE : Arv s s.heap el cell'.cls (.object "java/lang/Object") (0 : Int32) [] .null := Arv.start hfit AE l3 l5 (by decide) rfl trivial
  have hi : (Jvm.Cond.initialized "com/example/spangle/spangle/api/SpanContext").before #[.int i0] s = true := hw _ (List.mem_of_getElem? (i := 2) rfl)
  have M := rm0 l s _ hw i0 cN cS fN fS ts ti kl el cell'.cls (Old.start s) (Sta.start ecN (Or.inr ⟨hi, hw _ (List.mem_of_getElem? (i := 5) rfl)⟩)) (Exa.start ecN n1) (own_fld ecN efN) (Exa.start efN n2) (own_fld ecN ets) (own_fld ecN (own_eqI n4)) (own_fld ecN eti) (own_fld ecN (own_eqI n8)) (own_fld efN (own_eqI n9))
    (Sta.start ecS (Or.inr ⟨hi, hw _ (List.mem_of_getElem? (i := 80) rfl)⟩)) (Exa.start ecS n13) (own_fld ecS efS) (Exa.start efS n14) (own_fld ecS (own_eqR ets n15)) (own_fld ecS (own_eqI n16)) (own_fld ecS (own_eqR eti n17)) (own_fld ecS (own_eqI n18)) (own_fld efS (own_eqI n19))
    (Exa.start ets n3) (Exa.start eti n5) (own_fld eti (own_eqJ n6)) (own_fld eti (own_eqJ n7)) (own_fld ets ekl) (Exa.start ekl n10) (own_fld ekl eel) KE
  obtain ⟨n, o, h1, h2, h3, _, L, rfl, ⟨N, rfl⟩, hq⟩ := own_met (ws := tables_1) (plainFor_of_name (by first | (simp [plainName, overriddenIn]; done) | decide +kernel)) M p e ha hc hk s m _ below hf ((Spec.applies_iff_loose hf).mp happ).1 ⟨rfl, State.Warmed39.refl s, rfl⟩ trivial
  refine ⟨n, _, h1, h2, h3, hpost _ _ _ _ _ _ ⟨Cond.after_iff.mpr rfl, Cond.after_iff.mpr (eq_i res_at (Term.int_eval (1)) rfl), trivial⟩ ⟨hq.1, hq.2.1, (hq.2.2.sift fun y hy => Or.inr (N y hy)).mono (by decide) (by decide)⟩⟩
theorem main_1_1 : Claimed_1_1 := comes_1 fun _ _ _ _ _ _ h hF => ⟨h.1, hF⟩
theorem main_1_2 : Claimed_1_2 := comes_1 fun _ _ _ _ _ _ h hF => ⟨h.2.1, hF⟩
end Jvm.Pilot.@@N@@
namespace Jvm.Pilot.@@N@@
open Jvm Jvm.ClassFile Sem Op Lib Jvm.Free Jvm.Stand Jvm.Pilot.@@N@@.Jvm.D
/-! MADE BY PROGRAM (witnessworld.py) out of the Statement's table words and the real class files: 22 classes; the members and pool entries that the words name. The judged class is class 1, her method 1. -/
namespace start1
open Jvm.ClassFile
def u (s : String) : CpInfo := .utf8 (stringToUtf16 s)
/-- a pool by its gaps: so many unusable entries, then the entry; so many at the end -/
def gap : Nat → List CpInfo → List CpInfo
  | 0, r => r
  | n + 1, r => .unusable :: gap n r
def poolList (es : List (Nat × CpInfo)) (last : Nat) : List CpInfo := es.foldr (fun e r => gap e.1 (e.2 :: r)) (gap last [])
def pool (es : List (Nat × CpInfo)) (last : Nat) : Array CpInfo := ⟨poolList es last⟩
def fileOf (pool : Array CpInfo) (this : Nat) (attrs : Array Attribute := #[]) (ms : Array MethodInfo := #[]) (fl : Nat := 33) (sup : Nat := 0) (ifs : Array Nat := #[]) (fds : Array FieldInfo := #[]) : ClassFile where
  minorVersion := 0
  majorVersion := 65
  constantPool := pool
  accessFlags := fl
  thisClass := this
  superClass := sup
  interfaces := ifs
  fields := fds
  methods := ms
  attributes := attrs
def plain (name : String) (sup : Option ClassId) : Class where
  name := name
  kind := .ordinary
  loader := none
  accessFlags := 33
  super := sup
  interfaces := #[]
  cf := none
  fields := #[]
  methods := #[]
  instanceTypes := #[]
  staticTypes := #[]
  resolved := #[]
  callSites := []
  init := .initialized
  statics := none
  mirror := none

def pool0 : Array CpInfo := pool [(5, u "<init>"), (0, u "()V"), (1, .class_ 10), (1, u "java/lang/Object")] 113

def k0m0 : Method := { name := "<init>", desc := "()V", sig := { parameters := [], returnType := none }, accessFlags := 1, code := none }
/-- java/lang/Object -/
def k0 : Class := { plain "java/lang/Object" none with
  accessFlags := 33
  interfaces := #[]
  cf := some (fileOf pool0 8 #[] #[{ accessFlags := 1, nameIndex := 5, descriptorIndex := 6, attributes := #[] }] 33 0 #[] #[])
  fields := #[]
  methods := #[k0m0]
  instanceTypes := #[]
  staticTypes := #[]
  resolved := Array.replicate 124 none
  statics := none }

def pool1 : Array CpInfo := pool [(2, .class_ 4), (1, u "java/lang/Object"), (0, u "<init>"), (0, u "()V"), (0, .methodref 8 9), (0, .class_ 10), (0, .nameAndType 11 12), (0, u "com/example/spangle/spangle/api/SpanContext"), (0, u "createFromRemoteDecision"), (0, u "(Z)Lcom/example/spangle/spangle/api/SpanContext;"), (0, .methodref 8 14), (0, .nameAndType 15 16), (0, u "traceFlags"), (0, u "()Lcom/example/spangle/spangle/api/TraceFlags;"), (0, .methodref 8 18), (0, .nameAndType 19 20), (0, u "traceState"), (0, u "()Lcom/example/spangle/spangle/api/TraceState;"), (0, .methodref 8 22), (0, .nameAndType 23 24), (0, u "isRemote"), (0, u "()Z"), (0, .methodref 8 26), (0, .nameAndType 27 24), (0, u "isValid"), (0, .methodref 8 29), (0, .nameAndType 30 24), (0, u "hasSamplingDecision"), (0, .methodref 32 33), (0, .class_ 34), (0, .nameAndType 35 36), (0, u "com/example/spangle/spangle/api/TraceFlags"), (0, u "toByte"), (0, u "()I"), (0, .methodref 38 39), (0, .class_ 40), (0, .nameAndType 41 24), (0, u "com/example/spangle/spangle/api/TraceState"), (0, u "isEmpty"), (0, .class_ 43), (0, u "com/example/spangle/spangle/api/SpanContextCreateFromRemoteDecisionPinLaw"), (2, u "law"), (0, u "(I)Z")] 3

def k1m0 : Method := { name := "<init>", desc := "()V", sig := { parameters := [], returnType := none }, accessFlags := 1, code := none }
def k1c1 : Code := { maxStack := 2, maxLocals := 6, code := code, exceptionTable := #[], attributes := #[] }
def k1m1 : Method := { name := "law", desc := "(I)Z", sig := { parameters := [.int], returnType := some .boolean }, accessFlags := 9, code := some k1c1 }
/-- com/example/spangle/spangle/api/SpanContextCreateFromRemoteDecisionPinLaw -/
def k1 : Class := { plain "com/example/spangle/spangle/api/SpanContextCreateFromRemoteDecisionPinLaw" (some 0) with
  accessFlags := 49
  interfaces := #[]
  cf := some (fileOf pool1 42 #[] #[{ accessFlags := 1, nameIndex := 5, descriptorIndex := 6, attributes := #[] }, { accessFlags := 9, nameIndex := 46, descriptorIndex := 47, attributes := #[] }] 49 2 #[] #[])
  fields := #[]
  methods := #[k1m0, k1m1]
  instanceTypes := #[]
  staticTypes := #[]
  resolved := Array.replicate 51 none
  statics := none }

def pool2 : Array CpInfo := pool [(2, .class_ 4), (1, u "java/lang/Object"), (2, .fieldref 8 9), (0, .class_ 10), (0, .nameAndType 11 12), (0, u "com/example/spangle/spangle/api/SpanContext"), (0, u "traceId"), (0, u "Lcom/example/spangle/spangle/api/TraceId;"), (2, u "spanId"), (0, u "J"), (5, u "Lcom/example/spangle/spangle/api/TraceFlags;"), (0, .fieldref 8 24), (0, .nameAndType 25 22), (0, u "traceFlags"), (5, u "()Lcom/example/spangle/spangle/api/TraceState;"), (0, .fieldref 8 33), (0, .nameAndType 34 35), (0, u "traceState"), (0, u "Lcom/example/spangle/spangle/api/TraceState;"), (0, .fieldref 8 37), (0, .nameAndType 38 39), (0, u "remote"), (0, u "Z"), (0, .fieldref 8 41), (0, .nameAndType 42 39), (0, u "samplingDecided"), (25, .fieldref 8 69), (0, .nameAndType 70 71), (0, u "SAMPLED_DECISION"), (0, u "Lcom/example/spangle/spangle/api/SpanContext;"), (0, .fieldref 8 73), (0, .nameAndType 74 71), (0, u "NOT_SAMPLED_DECISION"), (2, u "INVALID"), (0, .methodref 79 80), (0, .class_ 81), (0, .nameAndType 82 83), (0, u "com/example/spangle/spangle/api/TraceId"), (0, u "isValid"), (0, u "()Z"), (56, u "createFromRemoteDecision"), (0, u "(Z)Lcom/example/spangle/spangle/api/SpanContext;"), (1, u "()Lcom/example/spangle/spangle/api/TraceFlags;"), (0, u "isRemote"), (0, u "hasSamplingDecision")] 20

def k2c0 : Code := { maxStack := 1, maxLocals := 1, code := prog_11_method_8_code, exceptionTable := #[], attributes := #[] }
def k2m0 : Method := { name := "createFromRemoteDecision", desc := "(Z)Lcom/example/spangle/spangle/api/SpanContext;", sig := { parameters := [.boolean], returnType := some (.object "com/example/spangle/spangle/api/SpanContext") }, accessFlags := 9, code := some k2c0 }
def k2c1 : Code := { maxStack := 1, maxLocals := 1, code := prog_11_method_14_code, exceptionTable := #[], attributes := #[] }
def k2m1 : Method := { name := "traceFlags", desc := "()Lcom/example/spangle/spangle/api/TraceFlags;", sig := { parameters := [], returnType := some (.object "com/example/spangle/spangle/api/TraceFlags") }, accessFlags := 1, code := some k2c1 }
def k2c2 : Code := { maxStack := 1, maxLocals := 1, code := prog_11_method_15_code, exceptionTable := #[], attributes := #[] }
def k2m2 : Method := { name := "traceState", desc := "()Lcom/example/spangle/spangle/api/TraceState;", sig := { parameters := [], returnType := some (.object "com/example/spangle/spangle/api/TraceState") }, accessFlags := 1, code := some k2c2 }
def k2c3 : Code := { maxStack := 1, maxLocals := 1, code := prog_11_method_16_code, exceptionTable := #[], attributes := #[] }
def k2m3 : Method := { name := "isRemote", desc := "()Z", sig := { parameters := [], returnType := some .boolean }, accessFlags := 1, code := some k2c3 }
def k2c4 : Code := { maxStack := 4, maxLocals := 1, code := prog_11_method_17_code, exceptionTable := #[], attributes := #[] }
def k2m4 : Method := { name := "isValid", desc := "()Z", sig := { parameters := [], returnType := some .boolean }, accessFlags := 1, code := some k2c4 }
def k2c5 : Code := { maxStack := 1, maxLocals := 1, code := prog_11_method_18_code, exceptionTable := #[], attributes := #[] }
def k2m5 : Method := { name := "hasSamplingDecision", desc := "()Z", sig := { parameters := [], returnType := some .boolean }, accessFlags := 1, code := some k2c5 }
/-- com/example/spangle/spangle/api/SpanContext -/
def k2 : Class := { plain "com/example/spangle/spangle/api/SpanContext" (some 0) with
  accessFlags := 33
  interfaces := #[]
  cf := some (fileOf pool2 8 #[] #[{ accessFlags := 9, nameIndex := 140, descriptorIndex := 141, attributes := #[] }, { accessFlags := 1, nameIndex := 25, descriptorIndex := 143, attributes := #[] }, { accessFlags := 1, nameIndex := 34, descriptorIndex := 31, attributes := #[] }, { accessFlags := 1, nameIndex := 144, descriptorIndex := 83, attributes := #[] }, { accessFlags := 1, nameIndex := 82, descriptorIndex := 83, attributes := #[] }, { accessFlags := 1, nameIndex := 145, descriptorIndex := 83, attributes := #[] }] 33 2 #[] #[{ accessFlags := 25, nameIndex := 77, descriptorIndex := 71, attributes := #[] }, { accessFlags := 26, nameIndex := 70, descriptorIndex := 71, attributes := #[] }, { accessFlags := 26, nameIndex := 74, descriptorIndex := 71, attributes := #[] }, { accessFlags := 18, nameIndex := 11, descriptorIndex := 12, attributes := #[] }, { accessFlags := 18, nameIndex := 15, descriptorIndex := 16, attributes := #[] }, { accessFlags := 18, nameIndex := 25, descriptorIndex := 22, attributes := #[] }, { accessFlags := 18, nameIndex := 34, descriptorIndex := 35, attributes := #[] }, { accessFlags := 18, nameIndex := 38, descriptorIndex := 39, attributes := #[] }, { accessFlags := 18, nameIndex := 42, descriptorIndex := 39, attributes := #[] }])
  fields := #[{ name := "INVALID", type := (.object "com/example/spangle/spangle/api/SpanContext"), accessFlags := 25, slot := 0, constantValue := 0 }, { name := "SAMPLED_DECISION", type := (.object "com/example/spangle/spangle/api/SpanContext"), accessFlags := 26, slot := 1, constantValue := 0 }, { name := "NOT_SAMPLED_DECISION", type := (.object "com/example/spangle/spangle/api/SpanContext"), accessFlags := 26, slot := 2, constantValue := 0 }, { name := "traceId", type := (.object "com/example/spangle/spangle/api/TraceId"), accessFlags := 18, slot := 0, constantValue := 0 }, { name := "spanId", type := .long, accessFlags := 18, slot := 1, constantValue := 0 }, { name := "traceFlags", type := (.object "com/example/spangle/spangle/api/TraceFlags"), accessFlags := 18, slot := 2, constantValue := 0 }, { name := "traceState", type := (.object "com/example/spangle/spangle/api/TraceState"), accessFlags := 18, slot := 3, constantValue := 0 }, { name := "remote", type := .boolean, accessFlags := 18, slot := 4, constantValue := 0 }, { name := "samplingDecided", type := .boolean, accessFlags := 18, slot := 5, constantValue := 0 }]
  methods := #[k2m0, k2m1, k2m2, k2m3, k2m4, k2m5]
  instanceTypes := #[(.object "com/example/spangle/spangle/api/TraceId"), .long, (.object "com/example/spangle/spangle/api/TraceFlags"), (.object "com/example/spangle/spangle/api/TraceState"), .boolean, .boolean]
  staticTypes := #[(.object "com/example/spangle/spangle/api/SpanContext"), (.object "com/example/spangle/spangle/api/SpanContext"), (.object "com/example/spangle/spangle/api/SpanContext")]
  resolved := Array.replicate 166 none
  statics := some 0 }

def pool3 : Array CpInfo := pool [(4, .class_ 6), (1, u "java/lang/Object"), (2, .fieldref 10 11), (0, .class_ 12), (0, .nameAndType 13 14), (0, u "com/example/spangle/spangle/api/TraceId"), (0, u "high"), (0, u "J"), (0, .fieldref 10 16), (0, .nameAndType 17 14), (0, u "low"), (2, u "INVALID"), (0, u "Lcom/example/spangle/spangle/api/TraceId;"), (44, u "HEX_LENGTH"), (0, u "I"), (7, u "isValid"), (0, u "()Z")] 6

def k3c0 : Code := { maxStack := 4, maxLocals := 1, code := prog_18_method_7_code, exceptionTable := #[], attributes := #[] }
def k3m0 : Method := { name := "isValid", desc := "()Z", sig := { parameters := [], returnType := some .boolean }, accessFlags := 1, code := some k3c0 }
/-- com/example/spangle/spangle/api/TraceId -/
def k3 : Class := { plain "com/example/spangle/spangle/api/TraceId" (some 0) with
  accessFlags := 33
  interfaces := #[]
  cf := some (fileOf pool3 10 #[] #[{ accessFlags := 1, nameIndex := 75, descriptorIndex := 76, attributes := #[] }] 33 4 #[] #[{ accessFlags := 25, nameIndex := 20, descriptorIndex := 21, attributes := #[] }, { accessFlags := 26, nameIndex := 66, descriptorIndex := 67, attributes := #[] }, { accessFlags := 18, nameIndex := 13, descriptorIndex := 14, attributes := #[] }, { accessFlags := 18, nameIndex := 17, descriptorIndex := 14, attributes := #[] }])
  fields := #[{ name := "INVALID", type := (.object "com/example/spangle/spangle/api/TraceId"), accessFlags := 25, slot := 0, constantValue := 0 }, { name := "HEX_LENGTH", type := .int, accessFlags := 26, slot := 1, constantValue := 0 }, { name := "high", type := .long, accessFlags := 18, slot := 0, constantValue := 0 }, { name := "low", type := .long, accessFlags := 18, slot := 1, constantValue := 0 }]
  methods := #[k3m0]
  instanceTypes := #[.long, .long]
  staticTypes := #[(.object "com/example/spangle/spangle/api/TraceId"), .int]
  resolved := Array.replicate 83 none
  statics := none }

def pool4 : Array CpInfo := pool [(2, .class_ 4), (1, u "java/lang/Object"), (2, .fieldref 8 9), (0, .class_ 10), (0, .nameAndType 11 12), (0, u "com/example/spangle/spangle/api/TraceFlags"), (0, u "value"), (0, u "I"), (13, u "hex"), (0, u "Ljava/lang/String;"), (2, u "ALL"), (0, u "[Lcom/example/spangle/spangle/api/TraceFlags;"), (5, u "DEFAULT"), (0, u "Lcom/example/spangle/spangle/api/TraceFlags;"), (0, u "SAMPLED"), (2, u "RANDOM_TRACE_ID"), (12, u "toByte"), (0, u "()I")] 6

def k4c0 : Code := { maxStack := 1, maxLocals := 1, code := prog_17_method_6_code, exceptionTable := #[], attributes := #[] }
def k4m0 : Method := { name := "toByte", desc := "()I", sig := { parameters := [], returnType := some .int }, accessFlags := 1, code := some k4c0 }
/-- com/example/spangle/spangle/api/TraceFlags -/
def k4 : Class := { plain "com/example/spangle/spangle/api/TraceFlags" (some 0) with
  accessFlags := 33
  interfaces := #[]
  cf := some (fileOf pool4 8 #[] #[{ accessFlags := 1, nameIndex := 55, descriptorIndex := 56, attributes := #[] }] 33 2 #[] #[{ accessFlags := 26, nameIndex := 39, descriptorIndex := 12, attributes := #[] }, { accessFlags := 26, nameIndex := 42, descriptorIndex := 12, attributes := #[] }, { accessFlags := 26, nameIndex := 30, descriptorIndex := 31, attributes := #[] }, { accessFlags := 25, nameIndex := 37, descriptorIndex := 38, attributes := #[] }, { accessFlags := 18, nameIndex := 11, descriptorIndex := 12, attributes := #[] }, { accessFlags := 18, nameIndex := 26, descriptorIndex := 27, attributes := #[] }])
  fields := #[{ name := "SAMPLED", type := .int, accessFlags := 26, slot := 0, constantValue := 0 }, { name := "RANDOM_TRACE_ID", type := .int, accessFlags := 26, slot := 1, constantValue := 0 }, { name := "ALL", type := (.array (.object "com/example/spangle/spangle/api/TraceFlags")), accessFlags := 26, slot := 2, constantValue := 0 }, { name := "DEFAULT", type := (.object "com/example/spangle/spangle/api/TraceFlags"), accessFlags := 25, slot := 3, constantValue := 0 }, { name := "value", type := .int, accessFlags := 18, slot := 0, constantValue := 0 }, { name := "hex", type := (.object "java/lang/String"), accessFlags := 18, slot := 1, constantValue := 0 }]
  methods := #[k4m0]
  instanceTypes := #[.int, (.object "java/lang/String")]
  staticTypes := #[.int, .int, (.array (.object "com/example/spangle/spangle/api/TraceFlags")), (.object "com/example/spangle/spangle/api/TraceFlags")]
  resolved := Array.replicate 63 none
  statics := none }

def pool5 : Array CpInfo := pool [(2, .class_ 4), (1, u "java/lang/Object"), (2, .fieldref 8 9), (0, .class_ 10), (0, .nameAndType 11 12), (0, u "com/example/spangle/spangle/api/TraceState"), (0, u "keys"), (0, u "Ljava/util/List;"), (2, u "values"), (4, .class_ 22), (1, u "java/util/List"), (21, u "header"), (0, u "Ljava/lang/String;"), (2, u "EMPTY"), (0, u "Lcom/example/spangle/spangle/api/TraceState;"), (40, .interfaceMethodref 20 91), (0, .nameAndType 92 93), (0, u "isEmpty"), (0, u "()Z"), (34, u "MAX_MEMBERS"), (0, u "I"), (2, u "MAX_KEY_LENGTH"), (1, u "MAX_VALUE_LENGTH")] 15

def k5c0 : Code := { maxStack := 1, maxLocals := 1, code := prog_19_method_6_code, exceptionTable := #[], attributes := #[] }
def k5m0 : Method := { name := "isEmpty", desc := "()Z", sig := { parameters := [], returnType := some .boolean }, accessFlags := 1, code := some k5c0 }
/-- com/example/spangle/spangle/api/TraceState -/
def k5 : Class := { plain "com/example/spangle/spangle/api/TraceState" (some 0) with
  accessFlags := 33
  interfaces := #[]
  cf := some (fileOf pool5 8 #[] #[{ accessFlags := 1, nameIndex := 92, descriptorIndex := 93, attributes := #[] }] 33 2 #[] #[{ accessFlags := 26, nameIndex := 128, descriptorIndex := 129, attributes := #[] }, { accessFlags := 26, nameIndex := 132, descriptorIndex := 129, attributes := #[] }, { accessFlags := 26, nameIndex := 134, descriptorIndex := 129, attributes := #[] }, { accessFlags := 26, nameIndex := 48, descriptorIndex := 49, attributes := #[] }, { accessFlags := 18, nameIndex := 11, descriptorIndex := 12, attributes := #[] }, { accessFlags := 18, nameIndex := 15, descriptorIndex := 12, attributes := #[] }, { accessFlags := 18, nameIndex := 44, descriptorIndex := 45, attributes := #[] }])
  fields := #[{ name := "MAX_MEMBERS", type := .int, accessFlags := 26, slot := 0, constantValue := 0 }, { name := "MAX_KEY_LENGTH", type := .int, accessFlags := 26, slot := 1, constantValue := 0 }, { name := "MAX_VALUE_LENGTH", type := .int, accessFlags := 26, slot := 2, constantValue := 0 }, { name := "EMPTY", type := (.object "com/example/spangle/spangle/api/TraceState"), accessFlags := 26, slot := 3, constantValue := 0 }, { name := "keys", type := (.object "java/util/List"), accessFlags := 18, slot := 0, constantValue := 0 }, { name := "values", type := (.object "java/util/List"), accessFlags := 18, slot := 1, constantValue := 0 }, { name := "header", type := (.object "java/lang/String"), accessFlags := 18, slot := 2, constantValue := 0 }]
  methods := #[k5m0]
  instanceTypes := #[(.object "java/util/List"), (.object "java/util/List"), (.object "java/lang/String")]
  staticTypes := #[.int, .int, .int, (.object "com/example/spangle/spangle/api/TraceState")]
  resolved := Array.replicate 150 none
  statics := none }

def pool6 : Array CpInfo := pool [(8, .class_ 10), (1, u "java/lang/Iterable"), (24, .class_ 36), (0, u "java/lang/Object")] 25

/-- java/lang/Iterable -/
def k6 : Class := { plain "java/lang/Iterable" (some 0) with
  accessFlags := 1537
  interfaces := #[]
  cf := some (fileOf pool6 8 #[] #[] 1537 35 #[] #[])
  fields := #[]
  methods := #[]
  instanceTypes := #[]
  staticTypes := #[]
  resolved := Array.replicate 62 none
  statics := none }

def pool7 : Array CpInfo := pool [(10, .class_ 12), (1, u "java/util/Collection"), (47, .class_ 61), (0, u "java/lang/Object"), (0, .class_ 63), (0, u "java/lang/Iterable")] 51

/-- java/util/Collection -/
def k7 : Class := { plain "java/util/Collection" (some 0) with
  accessFlags := 1537
  interfaces := #[6]
  cf := some (fileOf pool7 10 #[] #[] 1537 60 #[62] #[])
  fields := #[]
  methods := #[]
  instanceTypes := #[]
  staticTypes := #[]
  resolved := Array.replicate 115 none
  statics := none }

def pool8 : Array CpInfo := pool [(8, .class_ 10), (1, u "java/util/SequencedCollection"), (15, .class_ 27), (0, u "java/lang/Object"), (0, .class_ 29), (0, u "java/util/Collection")] 27

/-- java/util/SequencedCollection -/
def k8 : Class := { plain "java/util/SequencedCollection" (some 0) with
  accessFlags := 1537
  interfaces := #[7]
  cf := some (fileOf pool8 8 #[] #[] 1537 26 #[28] #[])
  fields := #[]
  methods := #[]
  instanceTypes := #[]
  staticTypes := #[]
  resolved := Array.replicate 57 none
  statics := none }

def pool9 : Array CpInfo := pool [(8, .class_ 10), (1, u "java/util/List"), (7, u "()Z"), (48, u "isEmpty"), (35, .class_ 104), (0, u "java/lang/Object"), (15, .class_ 121), (0, u "java/util/SequencedCollection")] 129

def k9m0 : Method := { name := "isEmpty", desc := "()Z", sig := { parameters := [], returnType := some .boolean }, accessFlags := 1025, code := none }
/-- java/util/List -/
def k9 : Class := { plain "java/util/List" (some 0) with
  accessFlags := 1537
  interfaces := #[8]
  cf := some (fileOf pool9 8 #[] #[{ accessFlags := 1025, nameIndex := 67, descriptorIndex := 18, attributes := #[] }] 1537 103 #[120] #[])
  fields := #[]
  methods := #[k9m0]
  instanceTypes := #[]
  staticTypes := #[]
  resolved := Array.replicate 251 none
  statics := none }

def pool10 : Array CpInfo := pool [(2, .class_ 4), (1, u "java/lang/Object"), (0, u "<init>"), (0, u "()V"), (1, .class_ 10), (1, u "java/util/AbstractCollection"), (66, .class_ 78), (0, u "java/util/Collection")] 81

def k10m0 : Method := { name := "<init>", desc := "()V", sig := { parameters := [], returnType := none }, accessFlags := 4, code := none }
/-- java/util/AbstractCollection -/
def k10 : Class := { plain "java/util/AbstractCollection" (some 0) with
  accessFlags := 1057
  interfaces := #[7]
  cf := some (fileOf pool10 8 #[] #[{ accessFlags := 4, nameIndex := 5, descriptorIndex := 6, attributes := #[] }] 1057 2 #[77] #[])
  fields := #[]
  methods := #[k10m0]
  instanceTypes := #[]
  staticTypes := #[]
  resolved := Array.replicate 160 none
  statics := none }

def pool11 : Array CpInfo := pool [(2, .class_ 4), (1, u "java/util/AbstractCollection"), (0, u "<init>"), (0, u "()V"), (1, .class_ 10), (1, u "java/util/ImmutableCollections"), (2, .class_ 14), (0, u "java/util/ImmutableCollections$AbstractImmutableCollection")] 41

def k11m0 : Method := { name := "<init>", desc := "()V", sig := { parameters := [], returnType := none }, accessFlags := 0, code := none }
/-- java/util/ImmutableCollections$AbstractImmutableCollection -/
def k11 : Class := { plain "java/util/ImmutableCollections$AbstractImmutableCollection" (some 10) with
  accessFlags := 1056
  interfaces := #[]
  cf := some (fileOf pool11 13 #[.nestHost 8] #[{ accessFlags := 0, nameIndex := 5, descriptorIndex := 6, attributes := #[] }] 1056 2 #[] #[])
  fields := #[]
  methods := #[k11m0]
  instanceTypes := #[]
  staticTypes := #[]
  resolved := Array.replicate 56 none
  statics := none }

def pool12 : Array CpInfo := pool [(1, .class_ 2), (0, u "java/util/RandomAccess"), (0, .class_ 4), (0, u "java/lang/Object")] 2

/-- java/util/RandomAccess -/
def k12 : Class := { plain "java/util/RandomAccess" (some 0) with
  accessFlags := 1537
  interfaces := #[]
  cf := some (fileOf pool12 1 #[] #[] 1537 3 #[] #[])
  fields := #[]
  methods := #[]
  instanceTypes := #[]
  staticTypes := #[]
  resolved := Array.replicate 7 none
  statics := none }

def pool13 : Array CpInfo := pool [(2, .class_ 4), (1, u "java/util/ImmutableCollections$AbstractImmutableCollection"), (0, u "<init>"), (0, u "()V"), (1, .class_ 10), (1, u "java/util/ImmutableCollections"), (3, .class_ 16), (1, u "java/util/ImmutableCollections$AbstractImmutableList"), (60, .class_ 78), (0, u "java/util/List"), (45, .class_ 125), (0, u "java/util/RandomAccess")] 70

def k13m0 : Method := { name := "<init>", desc := "()V", sig := { parameters := [], returnType := none }, accessFlags := 0, code := none }
/-- java/util/ImmutableCollections$AbstractImmutableList -/
def k13 : Class := { plain "java/util/ImmutableCollections$AbstractImmutableList" (some 11) with
  accessFlags := 1056
  interfaces := #[9, 12]
  cf := some (fileOf pool13 14 #[.nestHost 8] #[{ accessFlags := 0, nameIndex := 5, descriptorIndex := 6, attributes := #[] }] 1056 2 #[77, 124] #[])
  fields := #[]
  methods := #[k13m0]
  instanceTypes := #[]
  staticTypes := #[]
  resolved := Array.replicate 196 none
  statics := none }

def pool14 : Array CpInfo := pool [(1, .class_ 2), (0, u "java/io/Serializable"), (0, .class_ 4), (0, u "java/lang/Object")] 2

/-- java/io/Serializable -/
def k14 : Class := { plain "java/io/Serializable" (some 0) with
  accessFlags := 1537
  interfaces := #[]
  cf := some (fileOf pool14 1 #[] #[] 1537 3 #[] #[])
  fields := #[]
  methods := #[]
  instanceTypes := #[]
  staticTypes := #[]
  resolved := Array.replicate 7 none
  statics := none }

def pool15 : Array CpInfo := pool [(2, .class_ 4), (1, u "java/util/ImmutableCollections$AbstractImmutableList"), (2, .fieldref 8 9), (0, .class_ 10), (0, .nameAndType 11 12), (0, u "java/util/ImmutableCollections$ListN"), (0, u "elements"), (0, u "[Ljava/lang/Object;"), (2, u "allowNulls"), (0, u "Z"), (42, .class_ 60), (0, u "java/io/Serializable"), (13, u "isEmpty"), (0, u "()Z"), (38, .class_ 115), (0, u "java/util/ImmutableCollections")] 3

def k15c0 : Code := { maxStack := 1, maxLocals := 1, code := jdk_45_method_2_code, exceptionTable := #[], attributes := #[] }
def k15m0 : Method := { name := "isEmpty", desc := "()Z", sig := { parameters := [], returnType := some .boolean }, accessFlags := 1, code := some k15c0 }
/-- java/util/ImmutableCollections$ListN -/
def k15 : Class := { plain "java/util/ImmutableCollections$ListN" (some 13) with
  accessFlags := 48
  interfaces := #[14]
  cf := some (fileOf pool15 8 #[.nestHost 114] #[{ accessFlags := 1, nameIndex := 74, descriptorIndex := 75, attributes := #[] }] 48 2 #[59] #[{ accessFlags := 18, nameIndex := 11, descriptorIndex := 12, attributes := #[] }, { accessFlags := 18, nameIndex := 15, descriptorIndex := 16, attributes := #[] }])
  fields := #[{ name := "elements", type := (.array (.object "java/lang/Object")), accessFlags := 18, slot := 0, constantValue := 0 }, { name := "allowNulls", type := .boolean, accessFlags := 18, slot := 1, constantValue := 0 }]
  methods := #[k15m0]
  instanceTypes := #[(.array (.object "java/lang/Object")), .boolean]
  staticTypes := #[]
  resolved := Array.replicate 119 none
  statics := none }

def pool16 : Array CpInfo := pool [(1, u "java/lang/Cloneable"), (0, .class_ 1), (0, u "java/lang/Object"), (0, .class_ 3)] 3

/-- java/lang/Cloneable -/
def k16 : Class := { plain "java/lang/Cloneable" (some 0) with
  accessFlags := 1537
  interfaces := #[]
  cf := some (fileOf pool16 2 #[] #[] 1537 4 #[] #[])
  fields := #[]
  methods := #[]
  instanceTypes := #[]
  staticTypes := #[]
  resolved := Array.replicate 8 none
  statics := none }

/-- the primitive byte -/
def k17 : Class := { plain "byte" none with kind := .primitive 'B', accessFlags := 0x411 }
/-- [B -/
def k18 : Class := { plain "[B" (some 0) with kind := .array 17 .byte, interfaces := #[16, 14], accessFlags := 1041 }

/-- the primitive int -/
def k19 : Class := { plain "int" none with kind := .primitive 'I', accessFlags := 0x411 }
/-- [I -/
def k20 : Class := { plain "[I" (some 0) with kind := .array 19 .int, interfaces := #[16, 14], accessFlags := 1041 }

/-- [Ljava/lang/Object; -/
def k21 : Class := { plain "[Ljava/lang/Object;" (some 0) with kind := .array 0 (.object "java/lang/Object"), interfaces := #[16, 14], accessFlags := 1041 }

def heap : Heap := #[{ cls := 2, slots := #[.null, .ref 8, .ref 7], vm := .statics 2 },
  { cls := 21, slots := #[], vm := .none },
  { cls := 15, slots := #[.ref 1, .int 0], vm := .none },
  { cls := 5, slots := #[.ref 2, .null, .null], vm := .none },
  { cls := 3, slots := #[.long 0, .long 0], vm := .none },
  { cls := 4, slots := #[.int 0, .null], vm := .none },
  { cls := 4, slots := #[.int 1, .null], vm := .none },
  { cls := 2, slots := #[.ref 4, .long 0, .ref 5, .ref 3, .int 1, .int 1], vm := .none },
  { cls := 2, slots := #[.ref 4, .long 0, .ref 6, .ref 3, .int 1, .int 1], vm := .none }]
def classes : Array Class := #[k0, k1, k2, k3, k4, k5, k6, k7, k8, k9, k10, k11, k12, k13, k14, k15, k16, k17, k18, k19, k20, k21]
def interned : List (Array UInt16 × Addr) := []
def slotsUsed : Nat := 26
def theMethod : MethodId := ⟨1, 1⟩
def args0 : Array Value := #[.int 5]
def aboutOver (below : List Frame) : State where
  vm := { classes := classes, interned := interned.toArray }
  heap := heap
  slotsUsed := slotsUsed
  threads := #[{ frames := .invoking theMethod args0 :: below }]
def below0 : List Frame := [.native { method := ⟨0, 0⟩, args := #[] }]
def about1 : State := aboutOver below0
def p0 : Program := .bare "" "" ""
def e0 : Env := launch0.env 0 0 0
theorem w_frames : about1.frames = Frame.invoking theMethod args0 :: below0 := rfl
set_option maxRecDepth 65536 in
theorem w_args : argsFit about1.vm theMethod args0 = true := by decide +kernel
set_option maxRecDepth 65536 in
theorem w_heap : heapFits about1 = true := by decide +kernel
set_option maxRecDepth 65536 in
theorem w_runnable : about1.curStatus? = some .runnable := by decide +kernel
set_option maxRecDepth 65536 in
theorem w_alone : about1.alone = true := by decide +kernel
set_option maxRecDepth 65536 in
theorem w_named : about1.methodNamed? x = some theMethod := by decide +kernel
set_option maxRecDepth 65536 in
theorem w_hears : about1.hears theMethod below0 = true := by decide +kernel
set_option maxRecDepth 65536 in
theorem w_ripe : about1.ripe theMethod args0 below0 = true := by decide +kernel
theorem w_running : about1.status = .running := rfl
set_option maxRecDepth 65536 in
theorem w_room : about1.hasRoom e0.platform room_1 = true :=
  launch0.hasRoom_least _ room_1 (by decide +kernel) (by decide +kernel) (by decide +kernel) (by decide +kernel) (by decide +kernel) (by decide +kernel)
theorem allAtoms_all (ts : List Jvm.Cond) (a : Array Jvm.Value) (st : Jvm.State) : (allAtoms ts).before a st = ts.all (fun c => c.before a st) := by
  induction ts with
  | nil => rfl
  | cons c t ih =>
    show (Jvm.Cond.and c (allAtoms t)).before a st = _
    rw [Jvm.Cond.before_and, ih, List.all_cons]
def words1 : List Jvm.Cond := Jvm.Cond.code x code maxLocals ret :: tables_1
/-- a 'code' word, met by the world's own term for the bytes: nothing is compared byte by byte -/
theorem code_word {y : MethodName} {bytes : ByteArray} {mx : Nat} {rt : Option FieldType} {a : Array Value} {s : State} {m : MethodId} {meth : Method} {c : Code} (h1 : s.methodNamed? y = some m) (h2 : s.vm.method? m = some meth) (h3 : meth.code = some c) (h4 : c.code = bytes)
    (h5 : (c.maxLocals == mx && c.exceptionTable.isEmpty && decide (c.maxStack ≤ mostOperands) && decide (meth.sig.returnType = rt) && !meth.locks && decide (parseMethodDescriptor y.desc = some meth.sig)) = true) : (Jvm.Cond.code y bytes mx rt).before a s = true := by
  simp only [Bool.and_eq_true, beq_iff_eq, Bool.not_eq_true', decide_eq_true_eq] at h5
  obtain ⟨⟨⟨⟨⟨g1, g2⟩, g3⟩, g4⟩, g5⟩, g6⟩ := h5
  simp [Cond.before, Cond.holds, Cond.value, h1, h2, h3, h4, g1, g2, g3, g4, g5, g6]
def isCode : Jvm.Cond → Bool
  | .code _ _ _ _ => true
  | _ => false
theorem all_split {L : List Jvm.Cond} {P : Jvm.Cond → Bool} (h1 : L.all (fun c => isCode c || P c) = true) (h2 : ∀ c ∈ L.filter isCode, P c = true) : L.all P = true := by
  refine List.all_eq_true.mpr fun c hc => ?_
  have h := List.all_eq_true.mp h1 c hc
  rcases Bool.eq_false_or_eq_true (isCode c) with hi | hi
  · exact h2 c (List.mem_filter.mpr ⟨hc, hi⟩)
  · simpa [hi] using h
set_option maxRecDepth 65536 in
theorem w_c0 : (Jvm.Cond.code x code maxLocals ret).before args0 about1 = true := code_word (m := ⟨1, 1⟩) (meth := k1m1) (c := k1c1) (by decide +kernel) rfl rfl rfl (by decide +kernel)
set_option maxRecDepth 65536 in
theorem w_c1 : (Jvm.Cond.code ({ cls := "com/example/spangle/spangle/api/SpanContext", name := "createFromRemoteDecision", desc := "(Z)Lcom/example/spangle/spangle/api/SpanContext;" } : Jvm.MethodName) prog_11_method_8_code (1 : Nat) (Option.some (Jvm.ClassFile.FieldType.object "com/example/spangle/spangle/api/SpanContext"))).before args0 about1 = true := code_word (m := ⟨2, 0⟩) (meth := k2m0) (c := k2c0) (by decide +kernel) rfl rfl rfl (by decide +kernel)
set_option maxRecDepth 65536 in
theorem w_c2 : (Jvm.Cond.code ({ cls := "com/example/spangle/spangle/api/SpanContext", name := "traceFlags", desc := "()Lcom/example/spangle/spangle/api/TraceFlags;" } : Jvm.MethodName) prog_11_method_14_code (1 : Nat) (Option.some (Jvm.ClassFile.FieldType.object "com/example/spangle/spangle/api/TraceFlags"))).before args0 about1 = true := code_word (m := ⟨2, 1⟩) (meth := k2m1) (c := k2c1) (by decide +kernel) rfl rfl rfl (by decide +kernel)
set_option maxRecDepth 65536 in
theorem w_c3 : (Jvm.Cond.code ({ cls := "com/example/spangle/spangle/api/SpanContext", name := "traceState", desc := "()Lcom/example/spangle/spangle/api/TraceState;" } : Jvm.MethodName) prog_11_method_15_code (1 : Nat) (Option.some (Jvm.ClassFile.FieldType.object "com/example/spangle/spangle/api/TraceState"))).before args0 about1 = true := code_word (m := ⟨2, 2⟩) (meth := k2m2) (c := k2c2) (by decide +kernel) rfl rfl rfl (by decide +kernel)
set_option maxRecDepth 65536 in
theorem w_c4 : (Jvm.Cond.code ({ cls := "com/example/spangle/spangle/api/SpanContext", name := "isRemote", desc := "()Z" } : Jvm.MethodName) prog_11_method_16_code (1 : Nat) (Option.some Jvm.ClassFile.FieldType.boolean)).before args0 about1 = true := code_word (m := ⟨2, 3⟩) (meth := k2m3) (c := k2c3) (by decide +kernel) rfl rfl rfl (by decide +kernel)
set_option maxRecDepth 65536 in
theorem w_c5 : (Jvm.Cond.code ({ cls := "com/example/spangle/spangle/api/SpanContext", name := "isValid", desc := "()Z" } : Jvm.MethodName) prog_11_method_17_code (1 : Nat) (Option.some Jvm.ClassFile.FieldType.boolean)).before args0 about1 = true := code_word (m := ⟨2, 4⟩) (meth := k2m4) (c := k2c4) (by decide +kernel) rfl rfl rfl (by decide +kernel)
set_option maxRecDepth 65536 in
theorem w_c6 : (Jvm.Cond.code ({ cls := "com/example/spangle/spangle/api/TraceId", name := "isValid", desc := "()Z" } : Jvm.MethodName) prog_18_method_7_code (1 : Nat) (Option.some Jvm.ClassFile.FieldType.boolean)).before args0 about1 = true := code_word (m := ⟨3, 0⟩) (meth := k3m0) (c := k3c0) (by decide +kernel) rfl rfl rfl (by decide +kernel)
set_option maxRecDepth 65536 in
theorem w_c7 : (Jvm.Cond.code ({ cls := "com/example/spangle/spangle/api/SpanContext", name := "hasSamplingDecision", desc := "()Z" } : Jvm.MethodName) prog_11_method_18_code (1 : Nat) (Option.some Jvm.ClassFile.FieldType.boolean)).before args0 about1 = true := code_word (m := ⟨2, 5⟩) (meth := k2m5) (c := k2c5) (by decide +kernel) rfl rfl rfl (by decide +kernel)
set_option maxRecDepth 65536 in
theorem w_c8 : (Jvm.Cond.code ({ cls := "com/example/spangle/spangle/api/TraceFlags", name := "toByte", desc := "()I" } : Jvm.MethodName) prog_17_method_6_code (1 : Nat) (Option.some Jvm.ClassFile.FieldType.int)).before args0 about1 = true := code_word (m := ⟨4, 0⟩) (meth := k4m0) (c := k4c0) (by decide +kernel) rfl rfl rfl (by decide +kernel)
set_option maxRecDepth 65536 in
theorem w_c9 : (Jvm.Cond.code ({ cls := "com/example/spangle/spangle/api/TraceState", name := "isEmpty", desc := "()Z" } : Jvm.MethodName) prog_19_method_6_code (1 : Nat) (Option.some Jvm.ClassFile.FieldType.boolean)).before args0 about1 = true := code_word (m := ⟨5, 0⟩) (meth := k5m0) (c := k5c0) (by decide +kernel) rfl rfl rfl (by decide +kernel)
set_option maxRecDepth 65536 in
theorem w_c10 : (Jvm.Cond.code ({ cls := "java/util/ImmutableCollections$ListN", name := "isEmpty", desc := "()Z" } : Jvm.MethodName) jdk_45_method_2_code (1 : Nat) (Option.some Jvm.ClassFile.FieldType.boolean)).before args0 about1 = true := code_word (m := ⟨15, 0⟩) (meth := k15m0) (c := k15c0) (by decide +kernel) rfl rfl rfl (by decide +kernel)
def codes1 : List Jvm.Cond := [Jvm.Cond.code x code maxLocals ret, Jvm.Cond.code ({ cls := "com/example/spangle/spangle/api/SpanContext", name := "createFromRemoteDecision", desc := "(Z)Lcom/example/spangle/spangle/api/SpanContext;" } : Jvm.MethodName) prog_11_method_8_code (1 : Nat) (Option.some (Jvm.ClassFile.FieldType.object "com/example/spangle/spangle/api/SpanContext")), Jvm.Cond.code ({ cls := "com/example/spangle/spangle/api/SpanContext", name := "traceFlags", desc := "()Lcom/example/spangle/spangle/api/TraceFlags;" } : Jvm.MethodName) prog_11_method_14_code (1 : Nat) (Option.some (Jvm.ClassFile.FieldType.object "com/example/spangle/spangle/api/TraceFlags")), Jvm.Cond.code ({ cls := "com/example/spangle/spangle/api/SpanContext", name := "traceState", desc := "()Lcom/example/spangle/spangle/api/TraceState;" } : Jvm.MethodName) prog_11_method_15_code (1 : Nat) (Option.some (Jvm.ClassFile.FieldType.object "com/example/spangle/spangle/api/TraceState")), Jvm.Cond.code ({ cls := "com/example/spangle/spangle/api/SpanContext", name := "isRemote", desc := "()Z" } : Jvm.MethodName) prog_11_method_16_code (1 : Nat) (Option.some Jvm.ClassFile.FieldType.boolean), Jvm.Cond.code ({ cls := "com/example/spangle/spangle/api/SpanContext", name := "isValid", desc := "()Z" } : Jvm.MethodName) prog_11_method_17_code (1 : Nat) (Option.some Jvm.ClassFile.FieldType.boolean), Jvm.Cond.code ({ cls := "com/example/spangle/spangle/api/TraceId", name := "isValid", desc := "()Z" } : Jvm.MethodName) prog_18_method_7_code (1 : Nat) (Option.some Jvm.ClassFile.FieldType.boolean), Jvm.Cond.code ({ cls := "com/example/spangle/spangle/api/SpanContext", name := "hasSamplingDecision", desc := "()Z" } : Jvm.MethodName) prog_11_method_18_code (1 : Nat) (Option.some Jvm.ClassFile.FieldType.boolean), Jvm.Cond.code ({ cls := "com/example/spangle/spangle/api/TraceFlags", name := "toByte", desc := "()I" } : Jvm.MethodName) prog_17_method_6_code (1 : Nat) (Option.some Jvm.ClassFile.FieldType.int), Jvm.Cond.code ({ cls := "com/example/spangle/spangle/api/TraceState", name := "isEmpty", desc := "()Z" } : Jvm.MethodName) prog_19_method_6_code (1 : Nat) (Option.some Jvm.ClassFile.FieldType.boolean), Jvm.Cond.code ({ cls := "java/util/ImmutableCollections$ListN", name := "isEmpty", desc := "()Z" } : Jvm.MethodName) jdk_45_method_2_code (1 : Nat) (Option.some Jvm.ClassFile.FieldType.boolean)]
set_option maxRecDepth 65536 in
theorem codes_eq : words1.filter isCode = codes1 := rfl
theorem w_codes : ∀ c ∈ words1.filter isCode, c.before args0 about1 = true := by
  rw [codes_eq]
  intro c hc
  simp only [codes1, List.mem_cons, List.not_mem_nil, or_false] at hc
  rcases hc with rfl | rfl | rfl | rfl | rfl | rfl | rfl | rfl | rfl | rfl | rfl
  · exact w_c0
  · exact w_c1
  · exact w_c2
  · exact w_c3
  · exact w_c4
  · exact w_c5
  · exact w_c6
  · exact w_c7
  · exact w_c8
  · exact w_c9
  · exact w_c10
set_option maxRecDepth 65536 in
theorem w_t1 : (words1.take 24).all (fun c => isCode c || c.before args0 about1) = true := by decide +kernel
set_option maxRecDepth 65536 in
theorem w_t2 : ((words1.drop 24).take 24).all (fun c => isCode c || c.before args0 about1) = true := by decide +kernel
set_option maxRecDepth 65536 in
theorem w_t3 : (((words1.drop 24).drop 24).take 24).all (fun c => isCode c || c.before args0 about1) = true := by decide +kernel
set_option maxRecDepth 65536 in
theorem w_t4 : (((words1.drop 24).drop 24).drop 24).all (fun c => isCode c || c.before args0 about1) = true := by decide +kernel
theorem w_tables : (allAtoms (Jvm.Cond.code x code maxLocals ret :: tables_1)).before args0 about1 = true := by
  rw [allAtoms_all]
  show words1.all (fun c => c.before args0 about1) = true
  refine all_split ?_ w_codes
  rw [← List.take_append_drop 24 words1, List.all_append, w_t1, ← List.take_append_drop 24 (words1.drop 24), List.all_append, w_t2, ← List.take_append_drop 24 ((words1.drop 24).drop 24), List.all_append, w_t3, w_t4]
  rfl
set_option maxRecDepth 65536 in
theorem w_case : (Jvm.Cond.and given_1 narrow_1).before args0 about1 = true := by decide +kernel
theorem w_applies : (headSpec (Jvm.Cond.code x code maxLocals ret :: tables_1) room_1).applies x e0.platform about1 = true :=
  (Spec.applies_iff w_frames).mpr ⟨w_running, w_runnable, w_alone, w_named, w_hears, w_ripe, w_room, w_tables⟩
theorem atStart : AtStart classFile x code maxLocals ret World_1 tables_1 room_1 Calls_1 rest_1 Pre_1 launch0 p0 e0 about1 theMethod args0 below0 :=
  ⟨lists_1, trivial, launch0.admits_env _ _ _, launch0.least_env, fairChoices_fair.cas, fairChoices_fair.clock, w_frames, w_args, w_heap, w_applies, trivial, trivial, w_case⟩
end start1
theorem witness_1 : WitnessClaimed_1 := ⟨start1.p0, start1.e0, start1.about1, start1.theMethod, start1.args0, start1.below0, start1.atStart⟩
end Jvm.Pilot.@@N@@
