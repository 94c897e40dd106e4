import JvmDerived
import JvmDerived.Pilot.@@N@@Statement
import JvmDerived.Pilot.@@N@@Code
set_option linter.unusedVariables false
set_option linter.unusedSimpArgs false
namespace Jvm.RoadKit
open Sem ClassFile Op Lib Jvm.Stand Jvm.Free Jvm.LawKit
section New
variable {p : Program} {l : Launch} {e : Env} {R : Room} {s : State} {m : MethodId} {args : Array Value} {below : List Frame} {meth : Method} {c : Code} {T : State} {locs : List Loc} {cells slots : Nat}
theorem retI (X : Stand p l e R s m args below meth c T locs cells slots) (hx : p.tables.exec = Jvm.exec) {pc : Nat} {Ls : Array Slot} {z : Int32} {rest : List Value} (hret : meth.sig.returnType = some .int) (hd : decode c.code pc = .ok (.ireturn, 1)) {fs : List Frame}
    (hl : ∀ (f : JFrame) (acts : List Action), f.method = m → f.locked = none → f.entered = [] → (doReturn e (T.setTop f) acts (some (.int z))).1 = T.setFrames fs) : Steps p.tables e below (T.setTop (mkF m pc Ls (.int z :: rest))) (T.setFrames fs) := by
  have hm' : T.vm.method? m = some meth := X.method'
  have hn : narrow .int (.int z) = .int z := rfl
  show Steps p.tables e below (T.setTop { method := m, pc := pc, locals := Ls, stack := _ :: rest, locked := none }) _
  jvm_step X.here [X.here.top, hx, hd, hm', hret, hn]
  first | (intro acts; rw [hl _ acts rfl rfl rfl]) | rw [hl _ _ rfl rfl rfl]
  exact Steps.refl _
end New
end Jvm.RoadKit
namespace Jvm.Pilot.@@N@@
open Jvm Jvm.ClassFile Sem Op Lib Jvm.Free Jvm.Stand Jvm.LawKit Jvm.RoadKit Bundle Jvm.Pilot.@@N@@.Jvm.D
section OwnKit
variable {p : Program} {l : Launch} {e : Env} {R : Room} {s : State} {m : MethodId} {args : Array Value} {below : List Frame} {meth : Method} {c : Code} {T S0 Z : State} {locs : List Loc} {cells slots : Nat} {a0 : Array Value} {h h0 : Heap} {own C : String} {index count : Nat} {y z : MethodName} {bytes : ByteArray} {mx : Nat} {rt : Option FieldType} {rm : Room} {as : Array Value} {Φ : Option Value → Heap → Prop}
/-- what a body leaves: it wrote in new cells alone; Φ of what it returns and of the heap -/
def own_Q (Z : State) (Φ : Option Value → Heap → Prop) (v : Option Value) (h : Heap) (L : List Loc) : Prop := Fr Z.heap.size L ∧ Φ v h
/-- the narrow contract (nothing is interned) -/
def own_NC (l : Launch) (Z : State) (y : MethodName) (bytes : ByteArray) (mx : Nat) (rt : Option FieldType) (rm : Room) (as : Array Value) (h0 : Heap) (Φ : Option Value → Heap → Prop) : Prop :=
  MetFree l y (head1 [Jvm.Cond.code y bytes mx rt] rm) (fun a U => a = as ∧ Z.Warmed39 U.vm ∧ U.heap = h0) (fun _ _ _ _ _ => True) (fun _ U o U' => ∃ v L, o = .returned v ∧ own_Q Z Φ v U'.heap L ∧ FrameEnd U o U' L rm.cells rm.slots)
/-- what a walk of the body has to show -/
def own_NW (l : Launch) (Z : State) (y : MethodName) (bytes : ByteArray) (mx : Nat) (rt : Option FieldType) (rm : Room) (as : Array Value) (h0 : Heap) (Φ : Option Value → Heap → Prop) : Prop :=
  ∀ (p : Program) (e : Env) (s : State) (m : MethodId) (below : List Frame) (meth : Method) (c : Code) (s₁ S0 : State), Stand p l e rm s m as below meth c s₁ [] 0 0 → p.tables.exec = Jvm.exec → c.code = bytes → c.maxLocals = mx → meth.sig.returnType = rt → meth.name = y.name → s.vm.findClass y.cls = some m.cls → Z.Warmed39 s.vm → s₁.heap = h0 →
    Steps p.tables e below S0 (s₁.setTop (entryFrame m as mx)) →
    ∃ (T : State) (v : Option Value) (locs : List Loc) (cells slots : Nat), Stand p l e rm s m as below meth c T locs cells slots ∧ cells ≤ rm.cells ∧ slots ≤ rm.slots ∧ (rt = none → v = none) ∧ Fr Z.heap.size locs ∧ Φ v T.heap ∧
      ∀ fs, (∀ (f : JFrame) (acts : List Action), f.method = m → f.locked = none → f.entered = [] → (doReturn e (T.setTop f) acts v).1 = T.setFrames fs) → Steps p.tables e below S0 (T.setFrames fs)
theorem own_met {ws : List Jvm.Cond} (hx : plainFor y = true) (walk : own_NW l Z y bytes mx rt rm as h0 Φ) :
    MetFree l y (head1 (Jvm.Cond.code y bytes mx rt :: ws) rm) (fun a U => a = as ∧ Z.Warmed39 U.vm ∧ U.heap = h0) (fun _ _ _ _ _ => True) (fun _ U o U' => ∃ v L, o = .returned v ∧ own_Q Z Φ v U'.heap L ∧ FrameEnd U o U' L rm.cells rm.slots) := by
  refine MetFree.of_bodySF hx hisR ?_
  intro p e s m args below meth c s₁ Bd hml0 hP hK
  obtain ⟨rfl, hZ, hh⟩ := hP
  obtain ⟨T, v, locs, cells, slots, X, hc, hs, hv, hN, hΦ, st⟩ := walk p e s m below meth c s₁ _ (Stand.of_body Bd) Bd.exec Bd.bytes hml0 Bd.returns (name_of_methodNamed Bd.named Bd.method).1 (findClass_of_methodNamed Bd.named) hZ (by rw [← hh, Bd.state]; rfl) (Steps.refl _)
  obtain ⟨fs, hr, hrun, hended, hW, hsame⟩ := X.leave (v := v) (fun q => hv (by rw [← Bd.returns]; exact q))
  exact ⟨_, _, st fs hr, hrun, hended, _, _, rfl, ⟨hN, hΦ⟩, ⟨_, rfl⟩, hW, hsame.mono hc hs⟩
theorem own_nc (hx : plainFor y = true) (walk : own_NW l Z y bytes mx rt rm as h0 Φ) : own_NC l Z y bytes mx rt rm as h0 Φ := own_met hx walk
theorem own_NC.imp {Ψ : Option Value → Heap → Prop} (H : own_NC l Z y bytes mx rt rm as h0 Φ) (q : ∀ v h, Φ v h → Ψ v h) : own_NC l Z y bytes mx rt rm as h0 Ψ := by
  intro p e ha hc hk s m args below hf happ hP hK
  obtain ⟨n, o, h1, h2, h3, v, L, rfl, ⟨hN, hΦ⟩, hq⟩ := H p e ha hc hk s m args below hf happ hP hK
  exact ⟨n, _, h1, h2, h3, v, L, rfl, ⟨hN, q _ _ hΦ⟩, hq⟩
/-- a payer of the standing shape -/
abbrev own_Pay (l : Launch) (R : Room) (p : Program) (e : Env) (below : List Frame) (s : State) (args : Array Value) (y : MethodName) (len W : Nat) (as : Array Value) (h : Heap) (kc ks : Nat) (Q : Option Value → Heap → List Loc → Prop) : Prop :=
  Back l R p e below s args y len W (fun P a => a = as ∧ P.U.heap = h ∧ P.cells + kc ≤ R.cells ∧ P.slots + ks ≤ R.slots) (fun P _ v B => ∃ L, Q v B.U.heap L ∧ B.locs = P.locs ++ L ∧ B.cells = P.cells + kc ∧ B.slots = P.slots + ks)
theorem own_pay {len W : Nat} (H : own_NC l Z y bytes mx rt rm as h Φ) (hZ : Z.Warmed39 s.vm) (wc : (Cond.code y bytes mx rt).before a0 Z = true) (wz : (Cond.initialized y.cls).before a0 Z = true) (hf : rm.frames + 1 ≤ R.frames) (hl : W + (mx + 11) + rm.locals ≤ R.locals) :
    own_Pay l R p e below s args y len W as h rm.cells rm.slots (own_Q Z Φ) := backOf H hZ wc wz hf hl
variable {W kc ks : Nat} {Q : Option Value → Heap → List Loc → Prop} {g : JFrame} {argsL rest : List Value} {b : Addr}
theorem own_stat (X : Stand p l e R s m args below meth c T locs cells slots) (hx : p.tables.exec = Jvm.exec) (hml : c.maxLocals = mx) (hZ : Z.Warmed39 s.vm) (hown : s.vm.findClass own = some m.cls) {bytes' : ByteArray} {mx' : Nat} {rt' : Option FieldType}
    (w1 : (Cond.methodLink own index y).before a0 Z = true) (w2 : (Cond.static y).before a0 Z = true) (w3 : (Cond.initialized y.cls).before a0 Z = true) (w4 : (Cond.code y bytes' mx' rt').before a0 Z = true) (hy : y.cls ≠ "java/lang/invoke/MethodHandle" ∧ y.cls ≠ "java/lang/invoke/VarHandle")
    (hK : own_Pay l R p e below s args y 3 W argsL.toArray h kc ks Q) (cm : Steps p.tables e below S0 (T.setTop g)) (hg : g.method = m) (hsz : g.locals.size = mx)
    (hlen : ∀ sig, parseMethodDescriptor y.desc = some sig → argsL.length = sig.parameters.length) (hst : g.stack = argsL.reverse ++ rest) (hW : 2 * g.monitorRoom + (rest.map fun v => v.category).sum ≤ W) (hd : decode c.code g.pc = .ok (.invokestatic index, 3)) (eT : T.heap = h) (hc : cells + kc ≤ R.cells) (hs : slots + ks ≤ R.slots) :
    ∃ (v : Option Value) (T' : State) (L : List Loc), Stand p l e R s m args below meth c T' (locs ++ L) (cells + kc) (slots + ks) ∧ Q v T'.heap L ∧ Steps p.tables e below S0 (T'.setTop { g with pc := g.pc + 3, stack := v.toList ++ rest }) := by
  obtain ⟨v, _, ⟨T', L', k', n'⟩, -, X', ⟨L, hQ, l1, l2, l3⟩, st⟩ := Jvm.LawKit.callS X hx (y := y) hown (mvT hZ w1) (mvT hZ w2) (mvT hZ w3) (mvT hZ w4) hy hK hg (by rw [hml]; exact hsz) (argsL := argsL) (rest := rest) hlen hst hW hd (fun _ _ => ⟨rfl, eT, hc, hs⟩)
  dsimp only [Pt.U, Pt.locs, Pt.cells, Pt.slots] at X' l1 l2 l3 st hQ
  subst l1 l2 l3
  exact ⟨v, T', L, X', hQ, cm.trans (st _ (Steps.refl _))⟩
theorem own_spec (X : Stand p l e R s m args below meth c T locs cells slots) (hx : p.tables.exec = Jvm.exec) (hml : c.maxLocals = mx) (hZ : Z.Warmed39 s.vm) (hown : s.vm.findClass own = some m.cls) {bytes' : ByteArray} {mx' : Nat} (hy1 : y.name = "<init>")
    (w1 : (Cond.methodLink own index y).before a0 Z = true) (w2 : (Cond.instanceMethod y).before a0 Z = true) (w4 : (Cond.code y bytes' mx' none).before a0 Z = true) (hy : y.cls ≠ "java/lang/invoke/MethodHandle" ∧ y.cls ≠ "java/lang/invoke/VarHandle")
    (hK : own_Pay l R p e below s args y 3 W (.ref b :: argsL).toArray h kc ks Q) (cm : Steps p.tables e below S0 (T.setTop g)) (hg : g.method = m) (hsz : g.locals.size = mx)
    (hlen : ∀ sig, parseMethodDescriptor y.desc = some sig → argsL.length = sig.parameters.length) (hst : g.stack = argsL.reverse ++ .ref b :: rest) (hW : 2 * g.monitorRoom + (rest.map fun v => v.category).sum ≤ W) (hd : decode c.code g.pc = .ok (.invokespecial index, 3)) (eT : T.heap = h) (hc : cells + kc ≤ R.cells) (hs : slots + ks ≤ R.slots) :
    ∃ (v : Option Value) (T' : State) (L : List Loc), Stand p l e R s m args below meth c T' (locs ++ L) (cells + kc) (slots + ks) ∧ Q v T'.heap L ∧ Steps p.tables e below S0 (T'.setTop { g with pc := g.pc + 3, stack := v.toList ++ rest }) := by
  obtain ⟨v, _, ⟨T', L', k', n'⟩, -, X', ⟨L, hQ, l1, l2, l3⟩, st⟩ := X.specialBack hx (y := y) hy1 hown (mvT hZ w1) (mvT hZ w2) (mvT hZ w4) hy hK hg (by rw [hml]; exact hsz) cm (a := b) (argsL := argsL) (rest := rest) hlen hst hW hd (fun _ _ => ⟨rfl, eT, hc, hs⟩)
  dsimp only [Pt.U, Pt.locs, Pt.cells, Pt.slots] at X' l1 l2 l3 st hQ
  subst l1 l2 l3
  exact ⟨v, T', L, X', hQ, st⟩
theorem own_virt (X : Stand p l e R s m args below meth c T locs cells slots) (hx : p.tables.exec = Jvm.exec) (hml : c.maxLocals = mx) (hZ : Z.Warmed39 s.vm) (hown : s.vm.findClass own = some m.cls)
    (w1 : (Cond.methodLink own index y).before a0 Z = true) (w2 : (Cond.declares y).before a0 Z = true) (w3 : (Cond.selects C y z).before a0 Z = true) (w4 : (Cond.instanceMethod z).before a0 Z = true) {Dn : String} (w5 : (Cond.selects Dn y y).before a0 Z = true) (hy : y.cls ≠ "java/lang/invoke/MethodHandle" ∧ y.cls ≠ "java/lang/invoke/VarHandle")
    (hK : own_Pay l R p e below s args z 3 W (.ref b :: argsL).toArray h kc ks Q) (E : Exa Z h b C) (cm : Steps p.tables e below S0 (T.setTop g)) (hg : g.method = m) (hsz : g.locals.size = mx)
    (hlen : ∀ sig, parseMethodDescriptor y.desc = some sig → argsL.length = sig.parameters.length) (hst : g.stack = argsL.reverse ++ .ref b :: rest) (hW : 2 * g.monitorRoom + (rest.map fun v => v.category).sum ≤ W) (hd : decode c.code g.pc = .ok (.invokevirtual index, 3)) (eT : T.heap = h) (hc : cells + kc ≤ R.cells) (hs : slots + ks ≤ R.slots) :
    ∃ (v : Option Value) (T' : State) (L : List Loc), Stand p l e R s m args below meth c T' (locs ++ L) (cells + kc) (slots + ks) ∧ Q v T'.heap L ∧ Steps p.tables e below S0 (T'.setTop { g with pc := g.pc + 3, stack := v.toList ++ rest }) := by
  obtain ⟨cq, kq, qa, qb, qc⟩ := isOf hZ eT E
  obtain ⟨v, _, ⟨T', L', k', n'⟩, -, X', ⟨L, hQ, l1, l2, l3⟩, st⟩ := X.virtualBack hx (y := y) (z := z) hown (mvT hZ w1) (mvT hZ w2) (notFace_of_selects (args := #[]) (mvT hZ w5)) (mvT hZ w3) (mvT hZ w4) hy hK qa qc hg (by rw [hml]; exact hsz) cm (argsL := argsL) (rest := rest) hlen hst hW hd (fun _ _ => ⟨rfl, eT, hc, hs⟩)
  dsimp only [Pt.U, Pt.locs, Pt.cells, Pt.slots] at X' l1 l2 l3 st hQ
  subst l1 l2 l3
  exact ⟨v, T', L, X', hQ, st⟩
theorem own_face (X : Stand p l e R s m args below meth c T locs cells slots) (hx : p.tables.exec = Jvm.exec) (hml : c.maxLocals = mx) (hZ : Z.Warmed39 s.vm) (hown : s.vm.findClass own = some m.cls)
    (w1 : (Cond.methodLink own index y).before a0 Z = true) (w2 : (Cond.declares y).before a0 Z = true) (w3 : (Cond.interfaceMethod y.cls y.cls y.name y.desc).before args s = true) (w4 : (Cond.selects C y z).before a0 Z = true) (w5 : (Cond.instanceMethod z).before a0 Z = true) (w6 : (Cond.publicMethod z).before a0 Z = true) (w7 : (Cond.unhidden C y.name y.desc).before a0 Z = true) (w8 : (Cond.castable C y.cls).before a0 Z = true) (hy : y.cls ≠ "java/lang/invoke/MethodHandle" ∧ y.cls ≠ "java/lang/invoke/VarHandle")
    (hK : own_Pay l R p e below s args z 5 W (.ref b :: argsL).toArray h kc ks Q) (E : Exa Z h b C) (cm : Steps p.tables e below S0 (T.setTop g)) (hg : g.method = m) (hsz : g.locals.size = mx)
    (hlen : ∀ sig, parseMethodDescriptor y.desc = some sig → argsL.length = sig.parameters.length) (hst : g.stack = argsL.reverse ++ .ref b :: rest) (hW : 2 * g.monitorRoom + (rest.map fun v => v.category).sum ≤ W) (hd : decode c.code g.pc = .ok (.invokeinterface index count, 5)) (eT : T.heap = h) (hc : cells + kc ≤ R.cells) (hs : slots + ks ≤ R.slots) :
    ∃ (v : Option Value) (T' : State) (L : List Loc), Stand p l e R s m args below meth c T' (locs ++ L) (cells + kc) (slots + ks) ∧ Q v T'.heap L ∧ Steps p.tables e below S0 (T'.setTop { g with pc := g.pc + 5, stack := v.toList ++ rest }) := by
  obtain ⟨cq, kq, qa, qb, qc⟩ := isOf hZ eT E
  obtain ⟨v, _, ⟨T', L', k', n'⟩, -, X', ⟨L, hQ, l1, l2, l3⟩, st⟩ := X.interfaceBack hx (xi := y) (y := z) hown (mvT hZ w1) (mvT hZ w2) w3 (mvT hZ w4) (mvT hZ w5) (mvT hZ w6) (mvT hZ w7) (mvT hZ w8) hy hK qa qb qc hg (by rw [hml]; exact hsz) cm (argsL := argsL) (rest := rest) hlen hst hW hd (fun _ _ => ⟨rfl, eT, hc, hs⟩)
  dsimp only [Pt.U, Pt.locs, Pt.cells, Pt.slots] at X' l1 l2 l3 st hQ
  subst l1 l2 l3
  exact ⟨v, T', L, X', hQ, st⟩
/-- for the sizes alone -/
theorem own_kz {h1 h2 h3 : Heap} {w1 w2 : List Addr} (K : Keep h1 h2 w1) (K' : Keep h2 h3 w2) : Keep h1 h3 (w1 ++ w2) := by
  refine ⟨Nat.le_trans K.1 K'.1, fun x c q r => K'.2.1 x c (K.2.1 x c q fun z => r (List.mem_append_left _ z)) fun z => r (List.mem_append_right _ z), fun x c q => ?_⟩
  obtain ⟨c1, q1, r1, r2, r3⟩ := K.2.2 x c q
  obtain ⟨c2, q2, t1, t2, t3⟩ := K'.2.2 x c1 q1
  exact ⟨c2, q2, t1.trans r1, t2.trans r2, t3.trans r3⟩
/-- what is returned: a reference -/
theorem own_retR (X : Stand p l e R s m args below meth c T locs cells slots) (hx : p.tables.exec = Jvm.exec) {pc : Nat} {Ls : Array Slot} {w : Value} {t : FieldType} {rest : List Value} (cm : Steps p.tables e below S0 (T.setTop (mkF m pc Ls (w :: rest)))) (hret : meth.sig.returnType = some t) (ht : t.isReference = true) (hw : w.isRef = true) (hd : decode c.code pc = .ok (.areturn, 1)) {fs : List Frame} (hl : ∀ (f : JFrame) (acts : List Action), f.method = m → f.locked = none → f.entered = [] → (doReturn e (T.setTop f) acts (some w)).1 = T.setFrames fs) : Steps p.tables e below S0 (T.setFrames fs) :=
  cm.trans (retOut X hx hret (by cases t <;> first | rfl | cases ht) (Or.inr (Or.inr (Or.inr (Or.inr ⟨rfl, ht, hw⟩)))) hd hl)
end OwnKit
end Jvm.Pilot.@@N@@
/- laws to paste: Road.backV, Road.lenW, Road.chN, Road.codOf (cut by pick.py; bodies as the Statement names them) -/
namespace Jvm.Pilot.@@N@@
namespace StrChars
open Jvm Sem ClassFile Op Lib Jvm.Stand Jvm.Free.XT Jvm.Free.ALB Jvm.Free.JM Jvm.Free
open Jvm.Lib.Cold (StaticIs)
/-- a char array whose places are chars -/
def Ch (a : Addr) (A : Cell) (U : State) : Prop := Arr .char a A U ∧ Typed .char A
theorem Ch.mv {a : Addr} {A : Cell} {U U' : State} (h : Ch a A U) (hal : U.vm.Alike U'.vm) (hh : U'.heap = U.heap) : Ch a A U' := ⟨h.1.mv hal hh, h.2⟩
theorem Ch.keep {a : Addr} {A : Cell} {U U' : State} (h : Ch a A U) (hal : U.vm.Alike U'.vm) (hk : U'.heap[a]? = some A) : Ch a A U' := ⟨h.1.keep hal hk, h.2⟩
/-- what place i of a char[]'s cell holds -/
def cv (A : Cell) (i : Nat) : Int32 := match A.slots[i]? with | some (.int x) => x | _ => 0
theorem Ch.get {a : Addr} {A : Cell} {U : State} (h : Ch a A U) {i : Nat} (hi : i < A.slots.size) : A.slots[i]? = some (.int (cv A i)) := by
  have e := Array.getElem?_eq_getElem hi
  have f := h.2 i _ e
  unfold cv; rw [e]
  generalize A.slots[i] = v at f
  cases v <;> simp [fits] at f ⊢
/-- the byte that i2b leaves of a char -/
def lo8 (x : Int32) : Int32 := x.toInt8.toInt32
theorem fits_lo8 (y : Int32) : fits .byte (.int (lo8 y)) = true := by
  have h1 := y.toInt8.le_toInt
  have h2 := y.toInt8.toInt_lt
  simp only [lo8, fits, Bool.and_eq_true, decide_eq_true_eq, Int32.le_iff_toInt_le, Int8.toInt_toInt32, show (-128 : Int32).toInt = -128 from by decide, show (127 : Int32).toInt = 127 from by decide]
  omega
/-- A' is A but that each place j of lo .. hi - 1 holds f j -/
def Laid (A A' : Cell) (lo hi : Nat) (f : Nat → Value) : Prop := A'.cls = A.cls ∧ A'.vm = A.vm ∧ A'.slots.size = A.slots.size ∧ ∀ i, A'.slots[i]? = if lo ≤ i ∧ i < hi then some (f i) else A.slots[i]?
theorem Laid.zero (A : Cell) (lo : Nat) (f : Nat → Value) : Laid A A lo (lo + 0) f := ⟨rfl, rfl, rfl, fun i => by rw [if_neg (by omega)]⟩
theorem Laid.step {A Ak : Cell} {lo k : Nat} {f : Nat → Value} {v : Value} (h : Laid A Ak lo k f) (hlo : lo ≤ k) (hk : k < Ak.slots.size) (hv : v = f k) : Laid A (Ak.setSlot k v) lo (k + 1) f := by
  refine ⟨h.1, h.2.1, by simpa [Cell.setSlot] using h.2.2.1, fun i => ?_⟩
  by_cases e : k = i
  · subst e; rw [Cell.slots_setSlot_self v hk, if_pos (by omega), hv]
  · rw [Cell.slots_setSlot_ne v e, h.2.2.2 i]
    by_cases q : lo ≤ i ∧ i < k
    · rw [if_pos q, if_pos (by omega)]
    · rw [if_neg q, if_neg (by omega)]
def U16 : String := "java/lang/StringUTF16"
namespace Cmp5
def yN : MethodName := ⟨"java/lang/StringUTF16", "compress", "([CI[BII)I"⟩
abbrev yB : ByteArray := jdk_52_method_21_code
theorem d0 : decode yB 0 = .ok (.iconst 0, 1) := by decide +kernel
theorem d1 : decode yB 1 = .ok (.istore 5, 2) := by decide +kernel
theorem d3 : decode yB 3 = .ok (.iload 5, 2) := by decide +kernel
theorem d5 : decode yB 5 = .ok (.iload 4, 2) := by decide +kernel
theorem d7 : decode yB 7 = .ok (.if_icmp (.ge) 37, 3) := by decide +kernel
theorem d10 : decode yB 10 = .ok (.aload_n 0, 1) := by decide +kernel
theorem d11 : decode yB 11 = .ok (.iload_n 1, 1) := by decide +kernel
theorem d12 : decode yB 12 = .ok (.caload, 1) := by decide +kernel
theorem d13 : decode yB 13 = .ok (.istore 6, 2) := by decide +kernel
theorem d15 : decode yB 15 = .ok (.iload 6, 2) := by decide +kernel
theorem d17 : decode yB 17 = .ok (.sipush 255, 3) := by decide +kernel
theorem d20 : decode yB 20 = .ok (.if_icmp (.le) 6, 3) := by decide +kernel
theorem d26 : decode yB 26 = .ok (.aload_n 2, 1) := by decide +kernel
theorem d27 : decode yB 27 = .ok (.iload_n 3, 1) := by decide +kernel
theorem d28 : decode yB 28 = .ok (.iload 6, 2) := by decide +kernel
theorem d30 : decode yB 30 = .ok (.i2b, 1) := by decide +kernel
theorem d31 : decode yB 31 = .ok (.bastore, 1) := by decide +kernel
theorem d32 : decode yB 32 = .ok (.iinc 1 1, 3) := by decide +kernel
theorem d35 : decode yB 35 = .ok (.iinc 3 1, 3) := by decide +kernel
theorem d38 : decode yB 38 = .ok (.iinc 5 1, 3) := by decide +kernel
theorem d41 : decode yB 41 = .ok (.goto (-38), 3) := by decide +kernel
theorem d44 : decode yB 44 = .ok (.iload 4, 2) := by decide +kernel
theorem d46 : decode yB 46 = .ok (.ireturn, 1) := by decide +kernel
def site : List Cond := []
def tab : Cond := tabOf yN yB 7 (some .int) site
def P (b : Addr) (A : Cell) (d : Addr) (B : Cell) (o q len : Nat) (args : Array Value) (s : State) : Prop := args = #[.ref b, .int (Int32.ofNat o), .ref d, .int (Int32.ofNat q), .int (Int32.ofNat len)] ∧ Ch b A s ∧ Arr .byte d B s ∧ b ≠ d ∧ o + len ≤ A.slots.size ∧ q + len ≤ B.slots.size ∧ ∀ i, i < len → ¬ 255 < cv A (o + i)
def E (b : Addr) (A : Cell) (d : Addr) (B : Cell) (o q len : Nat) (r : Option Value) (s u : State) : Prop := r = some (.int (Int32.ofNat len)) ∧ ∃ B', Put d B' s u ∧ Laid B B' q (q + len) (fun j => Value.int (lo8 (cv A (o + (j - q)))))
/-- no char of the range above 255: len; the places written hold each char's low byte -/
theorem law (l : Launch) (b : Addr) (A : Cell) (d : Addr) (B : Cell) (o q len : Nat) : Law l yN 5 5 0 0 yB 7 (some .int) site (P b A d B o q len) (E b A d B o q len) (copyLocs d q len) 0 0 := by
  refine Law.of_walk (plainFor_of_name (by decide +kernel)) (by decide +kernel) (by decide +kernel) (by decide) (fun _ _ h => by rw [h.1]; rfl) (fun _ U U' hal hh h => ⟨h.1, h.2.1.mv hal hh, h.2.2.1.mv hal hh, h.2.2.2⟩) (fun r U U' V V' h1 hal h2 h => ⟨h.1, h.2.elim fun B' q => ⟨B', q.1.mv h1 h2, q.2⟩⟩) ?_
  intro p e s m args below meth c s₁ X0 hexec hbytes hml hret hlk hnm hown hh0 W hP
  obtain ⟨rfl, hA, hB, hne, l1, l2, hp⟩ := hP
  have c1 : Steps p.tables e below (s₁.setTop (entryFrame m #[.ref b, .int (Int32.ofNat o), .ref d, .int (Int32.ofNat q), .int (Int32.ofNat len)] 7)) (s₁.setTop (mkF m 0 #[.val (.ref b), .val (.int (Int32.ofNat o)), .val (.ref d), .val (.int (Int32.ofNat q)), .val (.int (Int32.ofNat len)), .unset, .unset] [])) := entry rfl
  have hA0 := hA.1.mv X0.warmed.alike hh0
  have hB0 := hB.mv X0.warmed.alike hh0
  have a31 := hA.1.2.2.2
  have c2 : Steps p.tables e below (s₁.setTop (entryFrame m #[.ref b, .int (Int32.ofNat o), .ref d, .int (Int32.ofNat q), .int (Int32.ofNat len)] 7)) (s₁.setTop (mkF m 3 #[.val (.ref b), .val (.int (Int32.ofNat o)), .val (.ref d), .val (.int (Int32.ofNat q)), .val (.int (Int32.ofNat len)), .val (.int 0), .unset] [])) := c1.trans (by
    refine iconstV X0.here hexec rfl 0 (hb hbytes d0) (by decide) ?_
    refine XS.istore X0.here hexec rfl (hb hbytes d1) rfl rfl ?_
    exact Steps.refl _)
  have loop : ∀ (r i : Nat), i + r = len → ∀ (z : Slot), (z = .unset ∨ ∃ w, z = .val w ∧ w.category = 1) → ∀ (Tl : State) (Bk : Cell), Stand p l e { frames := 0, locals := 0, cells := 0, slots := 0 } s m #[.ref b, .int (Int32.ofNat o), .ref d, .int (Int32.ofNat q), .int (Int32.ofNat len)] below meth c Tl ([] ++ copyLocs d q i) 0 0 → Put d Bk s₁ Tl → Laid B Bk q (q + i) (fun j => Value.int (lo8 (cv A (o + (j - q))))) →
      Steps p.tables e below (s₁.setTop (entryFrame m #[.ref b, .int (Int32.ofNat o), .ref d, .int (Int32.ofNat q), .int (Int32.ofNat len)] 7)) (Tl.setTop (mkF m 3 #[.val (.ref b), .val (.int (Int32.ofNat (o + i))), .val (.ref d), .val (.int (Int32.ofNat (q + i))), .val (.int (Int32.ofNat len)), .val (.int (Int32.ofNat i)), z] [])) → ∃ (T' : State) (B' : Cell) (z' : Slot), Stand p l e { frames := 0, locals := 0, cells := 0, slots := 0 } s m #[.ref b, .int (Int32.ofNat o), .ref d, .int (Int32.ofNat q), .int (Int32.ofNat len)] below meth c T' ([] ++ copyLocs d q len) 0 0 ∧ Put d B' s₁ T' ∧ Laid B B' q (q + len) (fun j => Value.int (lo8 (cv A (o + (j - q))))) ∧
      Steps p.tables e below (s₁.setTop (entryFrame m #[.ref b, .int (Int32.ofNat o), .ref d, .int (Int32.ofNat q), .int (Int32.ofNat len)] 7)) (T'.setTop (mkF m 3 #[.val (.ref b), .val (.int (Int32.ofNat (o + len))), .val (.ref d), .val (.int (Int32.ofNat (q + len))), .val (.int (Int32.ofNat len)), .val (.int (Int32.ofNat len)), z'] [])) := by
    intro r
    induction r with
    | zero =>
      intro i hi z hz Tl Bk Xl pl fl cl
      have hil : i = len := by omega
      rw [hil] at Xl fl cl
      exact ⟨Tl, Bk, z, Xl, pl, fl, cl⟩
    | succ r ih =>
      intro i hi z hz Tl Bk Xl pl fl cl
      have all := X0.warmed.alike.symm.trans Xl.warmed.alike
      have hAl := hA0.keep all (pl.other hne hA0.1)
      have hBk := hB0.like all pl.1 fl.1 fl.2.1 fl.2.2.1
      have hlt : q + i < Bk.slots.size := by rw [fl.2.2.1]; omega
      have c3 : Steps p.tables e below (s₁.setTop (entryFrame m #[.ref b, .int (Int32.ofNat o), .ref d, .int (Int32.ofNat q), .int (Int32.ofNat len)] 7)) (Tl.setTop (mkF m 12 #[.val (.ref b), .val (.int (Int32.ofNat (o + i))), .val (.ref d), .val (.int (Int32.ofNat (q + i))), .val (.int (Int32.ofNat len)), .val (.int (Int32.ofNat i)), z] [.int (Int32.ofNat (o + i)), .ref b])) := cl.trans (by
        refine XS.iload Xl.here hexec rfl (hb hbytes d3) rfl ?_
        refine XS.iload Xl.here hexec rfl (hb hbytes d5) rfl ?_
        refine XS.icmpNo Xl.here hexec rfl (hb hbytes d7) rfl (ii_ge_f (lt32 (by omega) (by omega))) ?_
        refine XS.aloadN Xl.here hexec rfl (hb hbytes d10) rfl rfl ?_
        refine XS.iloadN Xl.here hexec rfl (hb hbytes d11) rfl ?_
        exact Steps.refl _)
      have c4 : Steps p.tables e below (s₁.setTop (entryFrame m #[.ref b, .int (Int32.ofNat o), .ref d, .int (Int32.ofNat q), .int (Int32.ofNat len)] 7)) (Tl.setTop (mkF m 13 #[.val (.ref b), .val (.int (Int32.ofNat (o + i))), .val (.ref d), .val (.int (Int32.ofNat (q + i))), .val (.int (Int32.ofNat len)), .val (.int (Int32.ofNat i)), z] [.int (cv A (o + i))])) := c3.trans (by
        refine Xl.aget hexec hAl rfl (hA.get (i := o + i) (by omega)) rfl rfl (hb hbytes d12) ?_
        exact Steps.refl _)
      have c5 : Steps p.tables e below (s₁.setTop (entryFrame m #[.ref b, .int (Int32.ofNat o), .ref d, .int (Int32.ofNat q), .int (Int32.ofNat len)] 7)) (Tl.setTop (mkF m 15 #[.val (.ref b), .val (.int (Int32.ofNat (o + i))), .val (.ref d), .val (.int (Int32.ofNat (q + i))), .val (.int (Int32.ofNat len)), .val (.int (Int32.ofNat i)), .val (.int (cv A (o + i)))] [])) := c4.trans (by
        refine XS.istoreS Xl.here hexec rfl (hb hbytes d13) rfl rfl hz ?_
        exact Steps.refl _)
      have c6 : Steps p.tables e below (s₁.setTop (entryFrame m #[.ref b, .int (Int32.ofNat o), .ref d, .int (Int32.ofNat q), .int (Int32.ofNat len)] 7)) (Tl.setTop (mkF m 31 #[.val (.ref b), .val (.int (Int32.ofNat (o + i))), .val (.ref d), .val (.int (Int32.ofNat (q + i))), .val (.int (Int32.ofNat len)), .val (.int (Int32.ofNat i)), .val (.int (cv A (o + i)))] [.int (lo8 (cv A (o + i))), .int (Int32.ofNat (q + i)), .ref d])) := c5.trans (by
        refine XS.iload Xl.here hexec rfl (hb hbytes d15) rfl ?_
        refine sipushV Xl.here hexec rfl 255 (hb hbytes d17) (by decide) ?_
        refine XS.icmpYes Xl.here hexec rfl (pc0 := 20) rfl (hb hbytes d20) rfl (ii_le_t (hp i (by omega))) (by decide) rfl ?_
        refine XS.aloadN Xl.here hexec rfl (hb hbytes d26) rfl rfl ?_
        refine XS.iloadN Xl.here hexec rfl (hb hbytes d27) rfl ?_
        refine XS.iload Xl.here hexec rfl (hb hbytes d28) rfl ?_
        refine i2b Xl.here hexec rfl (hb hbytes d30) rfl ?_
        exact Steps.refl _)
      obtain ⟨T7, X7, p7, st7⟩ := Xl.aput hexec hBk rfl hlt rfl (fits_lo8 (cv A (o + i))) (g := (mkF m 31 #[.val (.ref b), .val (.int (Int32.ofNat (o + i))), .val (.ref d), .val (.int (Int32.ofNat (q + i))), .val (.int (Int32.ofNat len)), .val (.int (Int32.ofNat i)), .val (.int (cv A (o + i)))] [.int (lo8 (cv A (o + i))), .int (Int32.ofNat (q + i)), .ref d])) rfl (rest := []) rfl (hb hbytes d31)
      have c8 : Steps p.tables e below (s₁.setTop (entryFrame m #[.ref b, .int (Int32.ofNat o), .ref d, .int (Int32.ofNat q), .int (Int32.ofNat len)] 7)) (T7.setTop (mkF m 32 #[.val (.ref b), .val (.int (Int32.ofNat (o + i))), .val (.ref d), .val (.int (Int32.ofNat (q + i))), .val (.int (Int32.ofNat len)), .val (.int (Int32.ofNat i)), .val (.int (cv A (o + i)))] [])) := c6.trans (st7 _ (Steps.refl _))
      have c9 : Steps p.tables e below (s₁.setTop (entryFrame m #[.ref b, .int (Int32.ofNat o), .ref d, .int (Int32.ofNat q), .int (Int32.ofNat len)] 7)) (T7.setTop (mkF m 3 #[.val (.ref b), .val (.int (Int32.ofNat (o + i) + 1)), .val (.ref d), .val (.int (Int32.ofNat (q + i) + 1)), .val (.int (Int32.ofNat len)), .val (.int (Int32.ofNat i + 1)), .val (.int (cv A (o + i)))] [])) := c8.trans (by
        refine iincV X7.here hexec rfl 1 (hb hbytes d32) (by decide) rfl rfl ?_
        refine iincV X7.here hexec rfl 1 (hb hbytes d35) (by decide) rfl rfl ?_
        refine iincV X7.here hexec rfl 1 (hb hbytes d38) (by decide) rfl rfl ?_
        refine XS.goto X7.here hexec rfl (pc0 := 41) rfl (hb hbytes d41) (by decide) rfl ?_
        exact Steps.refl _)
      have c10 : Steps p.tables e below (s₁.setTop (entryFrame m #[.ref b, .int (Int32.ofNat o), .ref d, .int (Int32.ofNat q), .int (Int32.ofNat len)] 7)) (T7.setTop (mkF m 3 #[.val (.ref b), .val (.int (Int32.ofNat (o + (i + 1)))), .val (.ref d), .val (.int (Int32.ofNat (q + (i + 1)))), .val (.int (Int32.ofNat len)), .val (.int (Int32.ofNat (i + 1))), .val (.int (cv A (o + i)))] [])) := by
        have := c9
        rw [succ32, succ32, succ32] at this
        exact this
      exact ih (i + 1) (by omega) _ (Or.inr ⟨_, rfl, rfl⟩) T7 _ (by rw [copyLocs_step, ← List.append_assoc]; exact X7) (pl.trans p7) (fl.step (by omega) hlt (by simp)) c10
  obtain ⟨T9, B9, z9, X9, p9, f9, g9⟩ := loop len 0 (by omega) .unset (Or.inl rfl) s₁ B (by simpa [copyLocs] using X0) ⟨hB0.1, fun _ _ => rfl, rfl⟩ (Laid.zero _ _ _) c2
  have c11 : Steps p.tables e below (s₁.setTop (entryFrame m #[.ref b, .int (Int32.ofNat o), .ref d, .int (Int32.ofNat q), .int (Int32.ofNat len)] 7)) (T9.setTop (mkF m 46 #[.val (.ref b), .val (.int (Int32.ofNat (o + len))), .val (.ref d), .val (.int (Int32.ofNat (q + len))), .val (.int (Int32.ofNat len)), .val (.int (Int32.ofNat len)), z9] [.int (Int32.ofNat len)])) := g9.trans (by
    refine XS.iload X9.here hexec rfl (hb hbytes d3) rfl ?_
    refine XS.iload X9.here hexec rfl (hb hbytes d5) rfl ?_
    refine XS.icmpYes X9.here hexec rfl (pc0 := 7) rfl (hb hbytes d7) rfl (ii_ge_t (nlt32 (by omega) (Nat.le_refl _))) (by decide) rfl ?_
    refine XS.iload X9.here hexec rfl (hb hbytes d44) rfl ?_
    exact Steps.refl _)
  exact ⟨T9, some (.int (Int32.ofNat len)), _, _, _, X9, by simp, rfl, rfl, (fun h => by cases h), ⟨rfl, B9, p9.from hh0, f9⟩, fun fs hl => c11.trans (X9.ireturnOut hexec hret rfl (Or.inl rfl) (hb hbytes d46) hl)⟩
end Cmp5
namespace Cmp3
def yN : MethodName := ⟨"java/lang/StringUTF16", "compress", "([CII)[B"⟩
abbrev yB : ByteArray := jdk_52_method_16_code
theorem d0 : decode yB 0 = .ok (.iload_n 2, 1) := by decide +kernel
theorem d1 : decode yB 1 = .ok (.newarray .byte, 2) := by decide +kernel
theorem d3 : decode yB 3 = .ok (.astore_n 3, 1) := by decide +kernel
theorem d4 : decode yB 4 = .ok (.aload_n 0, 1) := by decide +kernel
theorem d5 : decode yB 5 = .ok (.iload_n 1, 1) := by decide +kernel
theorem d6 : decode yB 6 = .ok (.aload_n 3, 1) := by decide +kernel
theorem d7 : decode yB 7 = .ok (.iconst 0, 1) := by decide +kernel
theorem d8 : decode yB 8 = .ok (.iload_n 2, 1) := by decide +kernel
theorem d9 : decode yB 9 = .ok (.invokestatic 115, 3) := by decide +kernel
theorem d12 : decode yB 12 = .ok (.istore 4, 2) := by decide +kernel
theorem d14 : decode yB 14 = .ok (.iload 4, 2) := by decide +kernel
theorem d16 : decode yB 16 = .ok (.iload_n 2, 1) := by decide +kernel
theorem d17 : decode yB 17 = .ok (.if_icmp (.eq) 40, 3) := by decide +kernel
theorem d57 : decode yB 57 = .ok (.aload_n 3, 1) := by decide +kernel
theorem d58 : decode yB 58 = .ok (.areturn, 1) := by decide +kernel
def site : List Cond := [.arrayClass .byte, Cmp5.tab] ++ staticW U16 115 Cmp5.yN
def tab : Cond := tabOf yN yB 6 (some (.array .byte)) site
def P (b : Addr) (A : Cell) (o len : Nat) (args : Array Value) (s : State) : Prop := args = #[.ref b, .int (Int32.ofNat o), .int (Int32.ofNat len)] ∧ Ch b A s ∧ o + len ≤ A.slots.size ∧ len ≤ 536870912 ∧ ∀ i, i < len → ¬ 255 < cv A (o + i)
def E (b : Addr) (A : Cell) (o len : Nat) (r : Option Value) (s u : State) : Prop := NewArr .byte "[B" len (fun j => .int (lo8 (cv A (o + j)))) r s u ∧ u.heap.size = s.heap.size + 1
/-- no char of the range above 255: a new byte[] of their low bytes -/
theorem law (l : Launch) (b : Addr) (A : Cell) (o len : Nat) : Law l yN 3 3 1 18 yB 6 (some (.array .byte)) site (P b A o len) (E b A o len) [] 1 len := by
  refine Law.of_walk (plainFor_of_name (by decide +kernel)) (by decide +kernel) (by decide +kernel) (by decide) (fun _ _ h => by rw [h.1]; rfl) (fun _ U U' hal hh h => ⟨h.1, h.2.1.mv hal hh, h.2.2⟩) (fun r U U' V V' h1 hal h2 h => ⟨NewArr.mv r U U' V V' h1 hal h2 h.1, by rw [h1, h2]; exact h.2⟩) ?_
  intro p e s m args below meth c s₁ X0 hexec hbytes hml hret hlk hnm hown hh0 W hP
  obtain ⟨rfl, hA, l1, l2, hp⟩ := hP
  have a31 := hA.1.2.2.2
  have c1 : Steps p.tables e below (s₁.setTop (entryFrame m #[.ref b, .int (Int32.ofNat o), .int (Int32.ofNat len)] 6)) (s₁.setTop (mkF m 0 #[.val (.ref b), .val (.int (Int32.ofNat o)), .val (.int (Int32.ofNat len)), .unset, .unset, .unset] [])) := entry rfl
  have c2 : Steps p.tables e below (s₁.setTop (entryFrame m #[.ref b, .int (Int32.ofNat o), .int (Int32.ofNat len)] 6)) (s₁.setTop (mkF m 1 #[.val (.ref b), .val (.int (Int32.ofNat o)), .val (.int (Int32.ofNat len)), .unset, .unset, .unset] [.int (Int32.ofNat len)])) := c1.trans (by
    refine XS.iloadN X0.here hexec rfl (hb hbytes d0) rfl ?_
    exact Steps.refl _)
  obtain ⟨T3, B3, X3, ba3, bs3, bv3, bh3, bf3, st3⟩ := X0.anew hexec (atype := .byte) (wk W (.arrayClass .byte)) rfl (by show len * 1 ≤ _; omega) (by omega) (g := (mkF m 1 #[.val (.ref b), .val (.int (Int32.ofNat o)), .val (.int (Int32.ofNat len)), .unset, .unset, .unset] [.int (Int32.ofNat len)])) rfl (hb hbytes d1) (rest := []) rfl (Nat.le_refl _) (by show 0 + len ≤ len; omega)
  rw [hh0] at ba3 st3
  have kp3 : XT.Kept s T3 := (XT.Kept.of_eq hh0).push bh3
  have hA3 := hA.keep X3.warmed.alike (kp3 _ _ hA.1.1)
  have hne : b ≠ s.heap.size := hA.1.ne
  have c4 : Steps p.tables e below (s₁.setTop (entryFrame m #[.ref b, .int (Int32.ofNat o), .int (Int32.ofNat len)] 6)) (T3.setTop (mkF m 3 #[.val (.ref b), .val (.int (Int32.ofNat o)), .val (.int (Int32.ofNat len)), .unset, .unset, .unset] [.ref s.heap.size])) := c2.trans (st3 _ (Steps.refl _))
  have c5 : Steps p.tables e below (s₁.setTop (entryFrame m #[.ref b, .int (Int32.ofNat o), .int (Int32.ofNat len)] 6)) (T3.setTop (mkF m 9 #[.val (.ref b), .val (.int (Int32.ofNat o)), .val (.int (Int32.ofNat len)), .val (.ref s.heap.size), .unset, .unset] [.int (Int32.ofNat len), .int 0, .ref s.heap.size, .int (Int32.ofNat o), .ref b])) := c4.trans (by
    refine XS.astoreN X3.here hexec rfl (hb hbytes d3) rfl rfl rfl ?_
    refine XS.aloadN X3.here hexec rfl (hb hbytes d4) rfl rfl ?_
    refine XS.iloadN X3.here hexec rfl (hb hbytes d5) rfl ?_
    refine XS.aloadN X3.here hexec rfl (hb hbytes d6) rfl rfl ?_
    refine iconstV X3.here hexec rfl 0 (hb hbytes d7) (by decide) ?_
    refine XS.iloadN X3.here hexec rfl (hb hbytes d8) rfl ?_
    exact Steps.refl _)
  obtain ⟨v6, T6, X6, E6, g6⟩ := X3.callS hexec (Cmp5.law l b A s.heap.size B3 o 0 len) hown (wks W (staticW U16 115 Cmp5.yN)) (wk W Cmp5.tab) (W := 0) (Nat.le_of_ble_eq_true rfl) (Nat.le_of_ble_eq_true rfl) (Nat.le_refl _) (by show 0 + len + 0 ≤ len; omega) (g := (mkF m 9 #[.val (.ref b), .val (.int (Int32.ofNat o)), .val (.int (Int32.ofNat len)), .val (.ref s.heap.size), .unset, .unset] [.int (Int32.ofNat len), .int (Int32.ofNat 0), .ref s.heap.size, .int (Int32.ofNat o), .ref b])) rfl (by rw [hml]; rfl) c5 (argsL := [.ref b, .int (Int32.ofNat o), .ref s.heap.size, .int (Int32.ofNat 0), .int (Int32.ofNat len)]) (rest := []) rfl rfl (by show 2 * 0 + 0 ≤ _; decide) (hb hbytes d9) (⟨rfl, hA3, ba3, hne, l1, by rw [bs3]; simp, hp⟩)
  obtain ⟨rfl, B6, p6, f6⟩ := E6
  have c7 : Steps p.tables e below (s₁.setTop (entryFrame m #[.ref b, .int (Int32.ofNat o), .int (Int32.ofNat len)] 6)) (T6.setTop (mkF m 12 #[.val (.ref b), .val (.int (Int32.ofNat o)), .val (.int (Int32.ofNat len)), .val (.ref s.heap.size), .unset, .unset] [.int (Int32.ofNat len)])) := g6
  have c8 : Steps p.tables e below (s₁.setTop (entryFrame m #[.ref b, .int (Int32.ofNat o), .int (Int32.ofNat len)] 6)) (T6.setTop (mkF m 58 #[.val (.ref b), .val (.int (Int32.ofNat o)), .val (.int (Int32.ofNat len)), .val (.ref s.heap.size), .val (.int (Int32.ofNat len)), .unset] [.ref s.heap.size])) := c7.trans (by
    refine XS.istore X6.here hexec rfl (hb hbytes d12) rfl rfl ?_
    refine XS.iload X6.here hexec rfl (hb hbytes d14) rfl ?_
    refine XS.iloadN X6.here hexec rfl (hb hbytes d16) rfl ?_
    refine XS.icmpYes X6.here hexec rfl (pc0 := 17) rfl (hb hbytes d17) rfl (ii_eq_t rfl) (by decide) rfl ?_
    refine XS.aloadN X6.here hexec rfl (hb hbytes d57) rfl rfl ?_
    exact Steps.refl _)
  have X8 := X6.wide (L' := []) (cells' := 1) (slots' := len) (fun x hx hlt => by
    simp only [List.nil_append, copyLocs, List.mem_map, List.mem_range] at hx
    obtain ⟨i, -, rfl⟩ := hx
    exact absurd hlt (Nat.lt_irrefl _)) (Nat.le_refl _) (by omega)
  exact ⟨T6, some (.ref s.heap.size), _, _, _, X8, rfl, rfl, rfl, (fun h => by cases h), ⟨⟨rfl, B6, ba3.like (X3.warmed.alike.symm.trans X6.warmed.alike) p6.1 f6.1 f6.2.1 f6.2.2.1, f6.2.1.trans bv3, by rw [X6.warmed.alike.findClass, f6.1]; exact bf3, by rw [f6.2.2.1, bs3]; simp, fun j hj => by rw [f6.2.2.2 j, if_pos (by omega)]; rfl, kp3.put p6 (Nat.le_refl _)⟩, by rw [p6.2.2, bh3, hh0]; simp⟩, fun fs hl => c8.trans (X8.areturnOut hexec rfl hret rfl (hb hbytes d58) hl)⟩
end Cmp3
namespace CodL
def yN : MethodName := ⟨"java/lang/StringUTF16", "coderFromArrayLen", "([BI)B"⟩
abbrev yB : ByteArray := jdk_52_method_15_code
theorem d0 : decode yB 0 = .ok (.iload_n 1, 1) := by decide +kernel
theorem d1 : decode yB 1 = .ok (.aload_n 0, 1) := by decide +kernel
theorem d2 : decode yB 2 = .ok (.arraylength, 1) := by decide +kernel
theorem d3 : decode yB 3 = .ok (.isub, 1) := by decide +kernel
theorem d4 : decode yB 4 = .ok (.bipush 31, 2) := by decide +kernel
theorem d6 : decode yB 6 = .ok (.iushr, 1) := by decide +kernel
theorem d7 : decode yB 7 = .ok (.i2b, 1) := by decide +kernel
theorem d8 : decode yB 8 = .ok (.ireturn, 1) := by decide +kernel
def site : List Cond := []
def tab : Cond := tabOf yN yB 2 (some .byte) site
def P (d : Addr) (B : Cell) (args : Array Value) (s : State) : Prop := args = #[.ref d, .int (Int32.ofNat B.slots.size)] ∧ Arr .byte d B s
def E (r : Option Value) (s u : State) : Prop := XT.PureE (some (.int 0)) r s u
/-- an array as long as the number of chars: LATIN1 -/
theorem law (l : Launch) (d : Addr) (B : Cell) : Law l yN 2 2 0 0 yB 2 (some .byte) site (P d B) E [] 0 0 := by
  refine Law.of_walk (plainFor_of_name (by decide +kernel)) (by decide +kernel) (by decide +kernel) (by decide) (fun _ _ h => by rw [h.1]; rfl) (fun _ U U' hal hh h => ⟨h.1, h.2.mv hal hh⟩) (fun r U U' V V' h1 hal h2 h => XT.PureE.mv r U U' V V' h1 hal h2 h) ?_
  intro p e s m args below meth c s₁ X0 hexec hbytes hml hret hlk hnm hown hh0 W hP
  obtain ⟨rfl, hB⟩ := hP
  have hB0 := hB.mv X0.warmed.alike hh0
  have c1 : Steps p.tables e below (s₁.setTop (entryFrame m #[.ref d, .int (Int32.ofNat B.slots.size)] 2)) (s₁.setTop (mkF m 0 #[.val (.ref d), .val (.int (Int32.ofNat B.slots.size))] [])) := entry rfl
  have c2 : Steps p.tables e below (s₁.setTop (entryFrame m #[.ref d, .int (Int32.ofNat B.slots.size)] 2)) (s₁.setTop (mkF m 2 #[.val (.ref d), .val (.int (Int32.ofNat B.slots.size))] [.ref d, .int (Int32.ofNat B.slots.size)])) := c1.trans (by
    refine XS.iloadN X0.here hexec rfl (hb hbytes d0) rfl ?_
    refine XS.aloadN X0.here hexec rfl (hb hbytes d1) rfl rfl ?_
    exact Steps.refl _)
  have c3 : Steps p.tables e below (s₁.setTop (entryFrame m #[.ref d, .int (Int32.ofNat B.slots.size)] 2)) (s₁.setTop (mkF m 8 #[.val (.ref d), .val (.int (Int32.ofNat B.slots.size))] [.int (lo8 (ushr (Int32.ofNat B.slots.size - Int32.ofNat B.slots.size) 31))])) := c2.trans (by
    refine X0.alen hexec hB0 rfl rfl (hb hbytes d2) ?_
    refine XS.isub X0.here hexec rfl (hb hbytes d3) rfl ?_
    refine bipushV X0.here hexec rfl 31 (hb hbytes d4) (by decide) ?_
    refine iushr X0.here hexec rfl (hb hbytes d6) rfl ?_
    refine i2b X0.here hexec rfl (hb hbytes d7) rfl ?_
    exact Steps.refl _)
  have e0 : lo8 (ushr (Int32.ofNat B.slots.size - Int32.ofNat B.slots.size) 31) = 0 := by rw [Int32.sub_self]; decide
  rw [e0] at c3
  exact ⟨s₁, some (.int 0), _, _, _, X0, rfl, rfl, rfl, (fun h => by cases h), ⟨rfl, hh0⟩, fun fs hl => c3.trans (X0.ireturnOut hexec hret rfl (Or.inr (Or.inr (Or.inl rfl))) (hb hbytes d8) hl)⟩
end CodL
/-- the String at a is Latin-1 over a new byte[] (the heap's one new cell): the low bytes of the len chars of A from o on; every cell but a is kept -/
def Got (a : Addr) (D : Cell) (fV fC : Field) (A : Cell) (o len : Nat) (r : Option Value) (s u : State) : Prop := r = none ∧ ∃ D' V : Cell, Blank "java/lang/String" a D' u ∧ Same D D' [fV.slot, fC.slot] ∧ D'.slots[fV.slot]? = some (.ref s.heap.size) ∧ D'.slots[fC.slot]? = some (.int 0) ∧ Arr .byte s.heap.size V u ∧ V.vm = .none ∧ u.vm.findClass "[B" = some V.cls ∧ V.slots.size = len ∧ (∀ j, j < len → V.slots[j]? = some (.int (lo8 (cv A (o + j))))) ∧ (∀ (y : Addr) (c : Cell), y ≠ a → s.heap[y]? = some c → u.heap[y]? = some c) ∧ u.heap.size = s.heap.size + 1
theorem Got.mv {a : Addr} {D A : Cell} {fV fC : Field} {o len : Nat} : ∀ r (U U' V V' : State), U'.heap = U.heap → V.vm.Alike V'.vm → V'.heap = V.heap → Got a D fV fC A o len r U V → Got a D fV fC A o len r U' V' :=
  fun r U U' V V' h1 hal h2 ⟨e0, D', X, a1, a2, a3, a4, a5, a6, a7, a8, a9, a10, a11⟩ => ⟨e0, D', X, a1.mv hal h2, a2, by rw [h1]; exact a3, a4, by rw [h1]; exact a5.mv hal h2, a6, by rw [hal.findClass]; exact a7, a8, a9, by rw [h1, h2]; exact a10, by rw [h1, h2]; exact a11⟩
namespace New4
def yN : MethodName := ⟨"java/lang/String", "<init>", "([CIILjava/lang/Void;)V"⟩
abbrev yB : ByteArray := jdk_42_method_149_code
theorem d0 : decode yB 0 = .ok (.aload_n 0, 1) := by decide +kernel
theorem d1 : decode yB 1 = .ok (.invokespecial 1, 3) := by decide +kernel
theorem d4 : decode yB 4 = .ok (.iload_n 3, 1) := by decide +kernel
theorem d5 : decode yB 5 = .ok (.ifCond (.ne) 22, 3) := by decide +kernel
theorem d27 : decode yB 27 = .ok (.getstatic 38, 3) := by decide +kernel
theorem d30 : decode yB 30 = .ok (.ifCond (.eq) 28, 3) := by decide +kernel
theorem d33 : decode yB 33 = .ok (.aload_n 1, 1) := by decide +kernel
theorem d34 : decode yB 34 = .ok (.iload_n 2, 1) := by decide +kernel
theorem d35 : decode yB 35 = .ok (.iload_n 3, 1) := by decide +kernel
theorem d36 : decode yB 36 = .ok (.invokestatic 177, 3) := by decide +kernel
theorem d39 : decode yB 39 = .ok (.astore 5, 2) := by decide +kernel
theorem d41 : decode yB 41 = .ok (.aload_n 0, 1) := by decide +kernel
theorem d42 : decode yB 42 = .ok (.aload 5, 2) := by decide +kernel
theorem d44 : decode yB 44 = .ok (.iload_n 3, 1) := by decide +kernel
theorem d45 : decode yB 45 = .ok (.invokestatic 47, 3) := by decide +kernel
theorem d48 : decode yB 48 = .ok (.putfield 15, 3) := by decide +kernel
theorem d51 : decode yB 51 = .ok (.aload_n 0, 1) := by decide +kernel
theorem d52 : decode yB 52 = .ok (.aload 5, 2) := by decide +kernel
theorem d54 : decode yB 54 = .ok (.putfield 9, 3) := by decide +kernel
theorem d57 : decode yB 57 = .ok (.return_, 1) := by decide +kernel
def site : List Cond := [.fieldLink "java/lang/String" 38 "java/lang/String" "COMPACT_STRINGS" "Z", Cmp3.tab, CodL.tab, .laysFinal "java/lang/String" "java/lang/String" "value" "[B", .fieldLink "java/lang/String" 9 "java/lang/String" "value" "[B", .laysFinal "java/lang/String" "java/lang/String" "coder" "B", .fieldLink "java/lang/String" 15 "java/lang/String" "coder" "B"] ++ objW "java/lang/String" 1 ++ staticW "java/lang/String" 177 Cmp3.yN ++ staticW "java/lang/String" 47 CodL.yN
def tab : Cond := tabOf yN yB 6 none site
def P (a : Addr) (D : Cell) (fV fC : Field) (b : Addr) (A : Cell) (z : Int32) (o len : Nat) (args : Array Value) (s : State) : Prop := args = #[.ref a, .ref b, .int (Int32.ofNat o), .int (Int32.ofNat len), .null] ∧ Blank "java/lang/String" a D s ∧ Found "java/lang/String" "value" "[B" fV s ∧ Found "java/lang/String" "coder" "B" fC s ∧ Ch b A s ∧ StaticIs s "java/lang/String" "COMPACT_STRINGS" "Z" (.int z) ∧ ¬ z = 0 ∧ 0 < len ∧ o + len ≤ A.slots.size ∧ len ≤ 536870912 ∧ ∀ i, i < len → ¬ 255 < cv A (o + i)
def E (a : Addr) (D : Cell) (fV fC : Field) (A : Cell) (o len : Nat) (r : Option Value) (s u : State) : Prop := Got a D fV fC A o len r s u
/-- len > 0, no char of the range above 255: a Latin-1 String of their low bytes -/
theorem law (l : Launch) (a : Addr) (D : Cell) (fV fC : Field) (b : Addr) (A : Cell) (z : Int32) (o len : Nat) : Law l yN 5 4 2 35 yB 6 none site (P a D fV fC b A z o len) (E a D fV fC A o len) [⟨a, fC.slot⟩, ⟨a, fV.slot⟩] 1 len := by
  refine Law.of_walk (plainFor_of_name (by decide +kernel)) (by decide +kernel) (by decide +kernel) (by decide) (fun _ _ h => by rw [h.1]; rfl) (fun _ U U' hal hh h => ⟨h.1, h.2.1.mv hal hh, h.2.2.1.al hal, h.2.2.2.1.al hal, h.2.2.2.2.1.mv hal hh, h.2.2.2.2.2.1.there hal hh, h.2.2.2.2.2.2⟩) (fun r U U' V V' h1 hal h2 h => Got.mv r U U' V V' h1 hal h2 h) ?_
  intro p e s m args below meth c s₁ X0 hexec hbytes hml hret hlk hnm hown hh0 W hP
  obtain ⟨rfl, hB, f1, f2, hA, s1, hz, l0, l1, l2, hp⟩ := hP
  have a31 := hA.1.2.2.2
  have c1 : Steps p.tables e below (s₁.setTop (entryFrame m #[.ref a, .ref b, .int (Int32.ofNat o), .int (Int32.ofNat len), .null] 6)) (s₁.setTop (mkF m 0 #[.val (.ref a), .val (.ref b), .val (.int (Int32.ofNat o)), .val (.int (Int32.ofNat len)), .val .null, .unset] [])) := entry rfl
  have c2 : Steps p.tables e below (s₁.setTop (entryFrame m #[.ref a, .ref b, .int (Int32.ofNat o), .int (Int32.ofNat len), .null] 6)) (s₁.setTop (mkF m 1 #[.val (.ref a), .val (.ref b), .val (.int (Int32.ofNat o)), .val (.int (Int32.ofNat len)), .val .null, .unset] [.ref a])) := c1.trans (by
    refine XS.aloadN X0.here hexec rfl (hb hbytes d0) rfl rfl ?_
    exact Steps.refl _)
  obtain ⟨T3, X3, q3, st3⟩ := X0.oinit hexec hown (wks W (objW "java/lang/String" 1)) (g := (mkF m 1 #[.val (.ref a), .val (.ref b), .val (.int (Int32.ofNat o)), .val (.int (Int32.ofNat len)), .val .null, .unset] [.ref a])) rfl (by rw [hml]; rfl) (rest := []) rfl (hb hbytes d1) (W := 0) (by show 2 * 0 + 0 ≤ _; decide) (Nat.le_of_ble_eq_true rfl) (Nat.le_of_ble_eq_true rfl)
  have hh3 := q3.trans hh0
  have c4 : Steps p.tables e below (s₁.setTop (entryFrame m #[.ref a, .ref b, .int (Int32.ofNat o), .int (Int32.ofNat len), .null] 6)) (T3.setTop (mkF m 27 #[.val (.ref a), .val (.ref b), .val (.int (Int32.ofNat o)), .val (.int (Int32.ofNat len)), .val .null, .unset] [])) := (c2.trans (st3 _ (Steps.refl _))).trans (by
    refine XS.iloadN X3.here hexec rfl (hb hbytes d4) rfl ?_
    refine XS.ifYes X3.here hexec rfl (pc0 := 5) rfl (hb hbytes d5) rfl (i0_ne_t (nz32 (by omega) l0)) (by decide) rfl ?_
    exact Steps.refl _)
  obtain ⟨T5, X5, q5, st5⟩ := X3.sget hexec hown (wk W (.fieldLink "java/lang/String" 38 "java/lang/String" "COMPACT_STRINGS" "Z")) s1 (fun _ _ h => by rw [hh3]; exact h) (g := (mkF m 27 #[.val (.ref a), .val (.ref b), .val (.int (Int32.ofNat o)), .val (.int (Int32.ofNat len)), .val .null, .unset] [])) rfl (hb hbytes d27)
  have hh5 := q5.trans hh3
  have c6 : Steps p.tables e below (s₁.setTop (entryFrame m #[.ref a, .ref b, .int (Int32.ofNat o), .int (Int32.ofNat len), .null] 6)) (T5.setTop (mkF m 30 #[.val (.ref a), .val (.ref b), .val (.int (Int32.ofNat o)), .val (.int (Int32.ofNat len)), .val .null, .unset] [.int z])) := c4.trans (st5 _ (Steps.refl _))
  have c7 : Steps p.tables e below (s₁.setTop (entryFrame m #[.ref a, .ref b, .int (Int32.ofNat o), .int (Int32.ofNat len), .null] 6)) (T5.setTop (mkF m 36 #[.val (.ref a), .val (.ref b), .val (.int (Int32.ofNat o)), .val (.int (Int32.ofNat len)), .val .null, .unset] [.int (Int32.ofNat len), .int (Int32.ofNat o), .ref b])) := c6.trans (by
    refine XS.ifNo X5.here hexec rfl (hb hbytes d30) rfl (i0_eq_f hz) ?_
    refine XS.aloadN X5.here hexec rfl (hb hbytes d33) rfl rfl ?_
    refine XS.iloadN X5.here hexec rfl (hb hbytes d34) rfl ?_
    refine XS.iloadN X5.here hexec rfl (hb hbytes d35) rfl ?_
    exact Steps.refl _)
  obtain ⟨v8, T8, X8, E8, g8⟩ := X5.callS hexec (Cmp3.law l b A o len) hown (wks W (staticW "java/lang/String" 177 Cmp3.yN)) (wk W Cmp3.tab) (W := 0) (Nat.le_of_ble_eq_true rfl) (Nat.le_of_ble_eq_true rfl) (Nat.le_refl _) (by show 0 + len ≤ len; omega) (g := (mkF m 36 #[.val (.ref a), .val (.ref b), .val (.int (Int32.ofNat o)), .val (.int (Int32.ofNat len)), .val .null, .unset] [.int (Int32.ofNat len), .int (Int32.ofNat o), .ref b])) rfl (by rw [hml]; rfl) c7 (argsL := [.ref b, .int (Int32.ofNat o), .int (Int32.ofNat len)]) (rest := []) rfl rfl (by show 2 * 0 + 0 ≤ _; decide) (hb hbytes d36) (⟨rfl, hA.mv X5.warmed.alike hh5, l1, l2, hp⟩)
  obtain ⟨e8, z8⟩ := E8
  obtain ⟨rfl, N, n1, n2, n3, n4, n5, n6⟩ := NewArr.mv _ T5 s _ _ hh5.symm (Vm.Alike.refl _) rfl e8
  rw [hh5] at z8
  have hB1 := hB.keep X8.warmed.alike (n6 _ _ hB.1)
  have hne : s.heap.size ≠ a := (Nat.ne_of_lt (Array.getElem?_eq_some_iff.mp hB.1).1).symm
  have c9 : Steps p.tables e below (s₁.setTop (entryFrame m #[.ref a, .ref b, .int (Int32.ofNat o), .int (Int32.ofNat len), .null] 6)) (T8.setTop (mkF m 39 #[.val (.ref a), .val (.ref b), .val (.int (Int32.ofNat o)), .val (.int (Int32.ofNat len)), .val .null, .unset] [.ref s.heap.size])) := g8
  have c10 : Steps p.tables e below (s₁.setTop (entryFrame m #[.ref a, .ref b, .int (Int32.ofNat o), .int (Int32.ofNat len), .null] 6)) (T8.setTop (mkF m 45 #[.val (.ref a), .val (.ref b), .val (.int (Int32.ofNat o)), .val (.int (Int32.ofNat len)), .val .null, .val (.ref s.heap.size)] [.int (Int32.ofNat N.slots.size), .ref s.heap.size, .ref a])) := by
    have hc : Steps p.tables e below (s₁.setTop (entryFrame m #[.ref a, .ref b, .int (Int32.ofNat o), .int (Int32.ofNat len), .null] 6)) (T8.setTop (mkF m 45 #[.val (.ref a), .val (.ref b), .val (.int (Int32.ofNat o)), .val (.int (Int32.ofNat len)), .val .null, .val (.ref s.heap.size)] [.int (Int32.ofNat len), .ref s.heap.size, .ref a])) := c9.trans (by
      refine XS.astore X8.here hexec rfl (hb hbytes d39) rfl rfl rfl ?_
      refine XS.aloadN X8.here hexec rfl (hb hbytes d41) rfl rfl ?_
      refine XS.aload X8.here hexec rfl (hb hbytes d42) rfl rfl ?_
      refine XS.iloadN X8.here hexec rfl (hb hbytes d44) rfl ?_
      exact Steps.refl _)
    rw [n4]; exact hc
  obtain ⟨v11, T11, X11, E11, g11⟩ := X8.callS hexec (CodL.law l s.heap.size N) hown (wks W (staticW "java/lang/String" 47 CodL.yN)) (wk W CodL.tab) (W := 1) (Nat.le_of_ble_eq_true rfl) (Nat.le_of_ble_eq_true rfl) (Nat.le_refl _) (by show 0 + len + 0 ≤ len; omega) (g := (mkF m 45 #[.val (.ref a), .val (.ref b), .val (.int (Int32.ofNat o)), .val (.int (Int32.ofNat len)), .val .null, .val (.ref s.heap.size)] [.int (Int32.ofNat N.slots.size), .ref s.heap.size, .ref a])) rfl (by rw [hml]; rfl) c10 (argsL := [.ref s.heap.size, .int (Int32.ofNat N.slots.size)]) (rest := [.ref a]) rfl rfl (by show 2 * 0 + (1 + 0) ≤ _; decide) (hb hbytes d45) (⟨rfl, n1⟩)
  obtain ⟨rfl, q11⟩ := E11
  have hB11 := hB1.mv (X8.warmed.alike.symm.trans X11.warmed.alike) q11
  have c12 : Steps p.tables e below (s₁.setTop (entryFrame m #[.ref a, .ref b, .int (Int32.ofNat o), .int (Int32.ofNat len), .null] 6)) (T11.setTop (mkF m 48 #[.val (.ref a), .val (.ref b), .val (.int (Int32.ofNat o)), .val (.int (Int32.ofNat len)), .val .null, .val (.ref s.heap.size)] [.int 0, .ref a])) := g11
  obtain ⟨T13, X13, p13, bl13, sl13, st13⟩ := X11.finit hexec hown (wk W (.fieldLink "java/lang/String" 15 "java/lang/String" "coder" "B")) (Or.inr ⟨_, (wk W (.laysFinal "java/lang/String" "java/lang/String" "coder" "B"))⟩) (Or.inl ⟨rfl, hnm⟩) f2 (Or.inl rfl) hB11 (t := .byte) (by decide +kernel) rfl (g := (mkF m 48 #[.val (.ref a), .val (.ref b), .val (.int (Int32.ofNat o)), .val (.int (Int32.ofNat len)), .val .null, .val (.ref s.heap.size)] [.int 0, .ref a])) rfl (rest := []) rfl (hb hbytes d48)
  have c14 : Steps p.tables e below (s₁.setTop (entryFrame m #[.ref a, .ref b, .int (Int32.ofNat o), .int (Int32.ofNat len), .null] 6)) (T13.setTop (mkF m 54 #[.val (.ref a), .val (.ref b), .val (.int (Int32.ofNat o)), .val (.int (Int32.ofNat len)), .val .null, .val (.ref s.heap.size)] [.ref s.heap.size, .ref a])) := (c12.trans (st13 _ (Steps.refl _))).trans (by
    refine XS.aloadN X13.here hexec rfl (hb hbytes d51) rfl rfl ?_
    refine XS.aload X13.here hexec rfl (hb hbytes d52) rfl rfl ?_
    exact Steps.refl _)
  obtain ⟨T15, X15, p15, bl15, sl15, st15⟩ := X13.finit hexec hown (wk W (.fieldLink "java/lang/String" 9 "java/lang/String" "value" "[B")) (Or.inr ⟨_, (wk W (.laysFinal "java/lang/String" "java/lang/String" "value" "[B"))⟩) (Or.inl ⟨rfl, hnm⟩) f1 (Or.inl rfl) bl13 (t := (.array .byte)) (by decide +kernel) rfl (g := (mkF m 54 #[.val (.ref a), .val (.ref b), .val (.int (Int32.ofNat o)), .val (.int (Int32.ofNat len)), .val .null, .val (.ref s.heap.size)] [.ref s.heap.size, .ref a])) rfl (rest := []) rfl (hb hbytes d54)
  have c16 : Steps p.tables e below (s₁.setTop (entryFrame m #[.ref a, .ref b, .int (Int32.ofNat o), .int (Int32.ofNat len), .null] 6)) (T15.setTop (mkF m 57 #[.val (.ref a), .val (.ref b), .val (.int (Int32.ofNat o)), .val (.int (Int32.ofNat len)), .val .null, .val (.ref s.heap.size)] [])) := c14.trans (st15 _ (Steps.refl _))
  have ap := apart (Or.inr ⟨_, (wk W (.laysFinal "java/lang/String" "java/lang/String" "value" "[B"))⟩) (Or.inr ⟨_, (wk W (.laysFinal "java/lang/String" "java/lang/String" "coder" "B"))⟩) f1 f2 (t₁ := .array .byte) (t₂ := .byte) (by decide +kernel) (by decide +kernel) (by decide)
  have al := X8.warmed.alike.symm.trans X15.warmed.alike
  have n7 : T11.heap[s.heap.size]? = some N := by rw [q11]; exact n1.1
  exact ⟨T15, none, _, _, _, X15, by simp, rfl, by omega, (fun _ => rfl), ⟨rfl, _, N, bl15, ((Same.refl D _).set _ (by simp)).set _ (by simp), sl15, (Cell.slots_setSlot_ne _ ap).trans sl13, n1.keep al (p15.other hne (p13.other hne n7)), n2, by rw [al.findClass]; exact n3, n4, n5, fun y c h1 h2 => p15.other h1 (p13.other h1 (by rw [q11]; exact n6 y c h2)), by rw [p15.2.2, p13.2.2, q11]; exact z8⟩, fun fs hl => c16.trans (X15.returnOut hexec hret (hb hbytes d57) hl)⟩
end New4
namespace New1
def yN : MethodName := ⟨"java/lang/String", "<init>", "([C)V"⟩
abbrev yB : ByteArray := jdk_42_method_3_code
theorem d0 : decode yB 0 = .ok (.aload_n 0, 1) := by decide +kernel
theorem d1 : decode yB 1 = .ok (.aload_n 1, 1) := by decide +kernel
theorem d2 : decode yB 2 = .ok (.iconst 0, 1) := by decide +kernel
theorem d3 : decode yB 3 = .ok (.aload_n 1, 1) := by decide +kernel
theorem d4 : decode yB 4 = .ok (.arraylength, 1) := by decide +kernel
theorem d5 : decode yB 5 = .ok (.aconst_null, 1) := by decide +kernel
theorem d6 : decode yB 6 = .ok (.invokespecial 27, 3) := by decide +kernel
theorem d9 : decode yB 9 = .ok (.return_, 1) := by decide +kernel
def site : List Cond := [New4.tab] ++ initW "java/lang/String" 27 New4.yN
def tab : Cond := tabOf yN yB 2 none site
def P (a : Addr) (D : Cell) (fV fC : Field) (b : Addr) (A : Cell) (z : Int32) (args : Array Value) (s : State) : Prop := args = #[.ref a, .ref b] ∧ Blank "java/lang/String" a D s ∧ Found "java/lang/String" "value" "[B" fV s ∧ Found "java/lang/String" "coder" "B" fC s ∧ Ch b A s ∧ StaticIs s "java/lang/String" "COMPACT_STRINGS" "Z" (.int z) ∧ ¬ z = 0 ∧ 0 < A.slots.size ∧ A.slots.size ≤ 536870912 ∧ ∀ i, i < A.slots.size → ¬ 255 < cv A i
def E (a : Addr) (D : Cell) (fV fC : Field) (A : Cell) (r : Option Value) (s u : State) : Prop := Got a D fV fC A 0 A.slots.size r s u
/-- new String(chars), not empty, no char above 255: a Latin-1 String of their low bytes -/
theorem law (l : Launch) (a : Addr) (D : Cell) (fV fC : Field) (b : Addr) (A : Cell) (z : Int32) : Law l yN 2 1 3 52 yB 2 none site (P a D fV fC b A z) (E a D fV fC A) [⟨a, fC.slot⟩, ⟨a, fV.slot⟩] 1 A.slots.size := by
  refine Law.of_walk (plainFor_of_name (by decide +kernel)) (by decide +kernel) (by decide +kernel) (by decide) (fun _ _ h => by rw [h.1]; rfl) (fun _ U U' hal hh h => ⟨h.1, h.2.1.mv hal hh, h.2.2.1.al hal, h.2.2.2.1.al hal, h.2.2.2.2.1.mv hal hh, h.2.2.2.2.2.1.there hal hh, h.2.2.2.2.2.2⟩) (fun r U U' V V' h1 hal h2 h => Got.mv r U U' V V' h1 hal h2 h) ?_
  intro p e s m args below meth c s₁ X0 hexec hbytes hml hret hlk hnm hown hh0 W hP
  obtain ⟨rfl, hB, f1, f2, hA, s1, hz, l0, l2, hp⟩ := hP
  have c1 : Steps p.tables e below (s₁.setTop (entryFrame m #[.ref a, .ref b] 2)) (s₁.setTop (mkF m 0 #[.val (.ref a), .val (.ref b)] [])) := entry rfl
  have c2 : Steps p.tables e below (s₁.setTop (entryFrame m #[.ref a, .ref b] 2)) (s₁.setTop (mkF m 6 #[.val (.ref a), .val (.ref b)] [.null, .int (Int32.ofNat A.slots.size), .int 0, .ref b, .ref a])) := c1.trans (by
    refine XS.aloadN X0.here hexec rfl (hb hbytes d0) rfl rfl ?_
    refine XS.aloadN X0.here hexec rfl (hb hbytes d1) rfl rfl ?_
    refine iconstV X0.here hexec rfl 0 (hb hbytes d2) (by decide) ?_
    refine XS.aloadN X0.here hexec rfl (hb hbytes d3) rfl rfl ?_
    refine X0.alen hexec (hA.1.mv X0.warmed.alike hh0) rfl rfl (hb hbytes d4) ?_
    refine XS.aconstNull X0.here hexec rfl (hb hbytes d5) ?_
    exact Steps.refl _)
  obtain ⟨v3, T3, X3, E3, g3⟩ := X0.callN hexec (New4.law l a D fV fC b A z 0 A.slots.size) rfl hown (wks W (initW "java/lang/String" 27 New4.yN)) (W New4.tab (by simp only [site, List.mem_cons, List.mem_append, true_or, or_true])) (W := 0) (Nat.le_of_ble_eq_true rfl) (Nat.le_of_ble_eq_true rfl) (Nat.le_refl _) (by show 0 + A.slots.size ≤ A.slots.size; omega) (g := (mkF m 6 #[.val (.ref a), .val (.ref b)] [.null, .int (Int32.ofNat A.slots.size), .int (Int32.ofNat 0), .ref b, .ref a])) rfl (by rw [hml]; rfl) c2 (argsL := [.ref b, .int (Int32.ofNat 0), .int (Int32.ofNat A.slots.size), .null]) (rest := []) rfl rfl (by show 2 * 0 + 0 ≤ _; decide) (hb hbytes d6) (⟨rfl, hB.mv X0.warmed.alike hh0, f1.al X0.warmed.alike, f2.al X0.warmed.alike, hA.mv X0.warmed.alike hh0, s1.there X0.warmed.alike hh0, hz, l0, by omega, l2, fun i hi => by rw [Nat.zero_add]; exact hp i hi⟩)
  have e0 := Got.mv _ s₁ s _ _ hh0.symm (Vm.Alike.refl _) rfl E3
  obtain rfl := e0.1
  have c4 : Steps p.tables e below (s₁.setTop (entryFrame m #[.ref a, .ref b] 2)) (T3.setTop (mkF m 9 #[.val (.ref a), .val (.ref b)] [])) := g3
  exact ⟨T3, none, _, _, _, X3, by simp, rfl, by omega, (fun _ => rfl), e0, fun fs hl => c4.trans (X3.returnOut hexec hret (hb hbytes d9) hl)⟩
theorem pays {l : Launch} {R : Room} {p : Program} {e : Env} {below : List Frame} {s : State} {sargs : Array Value} {len W : Nat} (a : Addr) (D : Cell) (fV fC : Field) (b : Addr) (A : Cell) (z : Int32) (htab : tab.before sargs s = true) (hfr : 4 ≤ R.frames) (hlo : W + 65 ≤ R.locals) :
    Back l R p e below s sargs yN len W (fun A₁ a₁ => A₁.cells + 1 ≤ R.cells ∧ A₁.slots + A.slots.size ≤ R.slots ∧ P a D fV fC b A z a₁ A₁.U) (fun A₁ _ v₁ B₁ => E a D fV fC A v₁ A₁.U B₁.U ∧ B₁.locs = A₁.locs ++ [⟨a, fC.slot⟩, ⟨a, fV.slot⟩] ∧ B₁.cells = A₁.cells + 1 ∧ B₁.slots = A₁.slots + A.slots.size) :=
  (law l a D fV fC b A z).pays htab hfr (by omega)
end New1
/-- the byte, read back as charAt reads it, is the char -/
theorem lo8_mask {x : Int32} (h0 : ¬ x < 0) (h1 : ¬ 255 < x) : lo8 x &&& 255 = x := by
  have t : ∀ k : Fin 256, lo8 (Int32.ofNat k.val) &&& 255 = Int32.ofNat k.val := by decide +kernel
  rw [Int32.lt_iff_toInt_lt] at h0 h1
  have e0 : (0 : Int32).toInt = 0 := rfl
  have e1 : (255 : Int32).toInt = 255 := rfl
  obtain ⟨k, hk⟩ : ∃ k : Nat, x.toInt = k := ⟨x.toInt.toNat, by omega⟩
  have hx : x = Int32.ofNat k := Int32.toInt_inj.mp (by rw [hk, Int32.toInt_ofNat_small (by omega)])
  rw [hx]
  exact t ⟨k, by omega⟩
end StrChars
namespace StrChars.Road
open Jvm Sem ClassFile Op Lib Jvm.Stand Jvm.Free Jvm.Free.XT
open Jvm.Lib.Cold (StaticIs)
abbrev ST : String := "java/lang/String"
/-- every table word that New1's law asks, flat -/
abbrev words : List Jvm.Cond := [.code New1.yN New1.yB 2 none, .initialized ST, .methodLink ST 27 New4.yN, .instanceMethod New4.yN,
  .code New4.yN New4.yB 6 none, .fieldLink ST 38 ST "COMPACT_STRINGS" "Z", .laysFinal ST ST "value" "[B", .fieldLink ST 9 ST "value" "[B", .laysFinal ST ST "coder" "B", .fieldLink ST 15 ST "coder" "B",
  .methodLink ST 1 Lib.objectInit, .instanceMethod Lib.objectInit, .code Lib.objectInit ⟨#[0xb1]⟩ 1 none, .methodLink ST 177 Cmp3.yN, .static Cmp3.yN, .methodLink ST 47 CodL.yN, .static CodL.yN,
  .code Cmp3.yN Cmp3.yB 6 (some (.array .byte)), .initialized U16, .arrayClass .byte, .methodLink U16 115 Cmp5.yN, .static Cmp5.yN, .code Cmp5.yN Cmp5.yB 7 (some .int), .code CodL.yN CodL.yB 2 (some .byte)]
theorem tab_of {a : Array Value} {s : State} (h : ∀ w ∈ words, w.before a s = true) : New1.tab.before a s = true := by
  have h5 : Cmp5.tab.before a s = true := unparts (wk h (.code Cmp5.yN Cmp5.yB 7 (some .int))) (wks h (.initialized Cmp5.yN.cls :: Cmp5.site))
  have hc : CodL.tab.before a s = true := unparts (wk h (.code CodL.yN CodL.yB 2 (some .byte))) (wks h (.initialized CodL.yN.cls :: CodL.site))
  have q5 : ∀ w ∈ Cmp5.tab :: words, w.before a s = true := fun w hw => (List.mem_cons.mp hw).elim (fun e => e ▸ h5) (h w)
  have h3 : Cmp3.tab.before a s = true := unparts (wk q5 (.code Cmp3.yN Cmp3.yB 6 (some (.array .byte)))) (wks q5 (.initialized Cmp3.yN.cls :: Cmp3.site))
  have q3 : ∀ w ∈ Cmp3.tab :: CodL.tab :: words, w.before a s = true := fun w hw => (List.mem_cons.mp hw).elim (fun e => e ▸ h3) fun hw => (List.mem_cons.mp hw).elim (fun e => e ▸ hc) (h w)
  have h4 : New4.tab.before a s = true := unparts (wk q3 (.code New4.yN New4.yB 6 none)) (wks q3 (.initialized New4.yN.cls :: New4.site))
  have q4 : ∀ w ∈ New4.tab :: words, w.before a s = true := fun w hw => (List.mem_cons.mp hw).elim (fun e => e ▸ h4) (h w)
  exact unparts (wk q4 (.code New1.yN New1.yB 2 none)) (wks q4 (.initialized New1.yN.cls :: New1.site))
/-- the words ride from the start Z to the walk's own state -/
theorem moved {Z s : State} {a0 args : Array Value} (hZ : Z.Warmed39 s.vm) (hw : ∀ d ∈ words, d.before a0 Z = true) : ∀ d ∈ words, d.before args s = true := fun d hd => by
  have q := hw d hd
  have t : ∀ d ∈ words, d = .arrayClass .byte ∨ (d.onTables && d.keepsFace) = true := by decide +kernel
  rcases t d hd with rfl | t
  · exact RoadKit.mvA hZ q
  · exact RoadKit.mv hZ q t
/-- WHAT COMES BACK, over the tables of the start Z: h the heap at the call, h' behind it -/
def Q (Z : State) (x : Addr) (A : Cell) (h : Heap) (v : Option Value) (h' : Heap) (L : List Loc) : Prop := v = none ∧ (∀ y ∈ L, y.base = x) ∧ RoadKit.Keep h h' [x] ∧ h'.size = h.size + 1 ∧ RoadKit.Exa Z h' x ST ∧ RoadKit.Fld Z h' x ST "value" "[B" (.ref h.size) ∧ RoadKit.Fld Z h' x ST "coder" "B" (.int 0) ∧
  (∃ V : Cell, RoadKit.Arr Z h' h.size V .byte ∧ V.vm = .none ∧ Z.vm.findClass "[B" = some V.cls ∧ V.slots.size = A.slots.size ∧ ∀ j, j < A.slots.size → V.slots[j]? = some (.int (lo8 (cv A j)))) ∧
  ∀ (O n d : String) (w : Value), RoadKit.Fld Z h x O n d w → RoadKit.slotOf Z O n d ≠ RoadKit.slotOf Z ST "value" "[B" → RoadKit.slotOf Z O n d ≠ RoadKit.slotOf Z ST "coder" "B" → RoadKit.Fld Z h' x O n d w
/-- **new String(chars) AT A CALL, IN THE ROAD'S FORM**: for specialBack behind newO: x the fresh String, b the char[] with the cell A -/
theorem back {p : Program} {l : Launch} {e : Env} {R : Room} {s : State} {args : Array Value} {below : List Frame} {len W : Nat} {Z : State} {a0 : Array Value} {h : Heap} (hZ : Z.Warmed39 s.vm) (hw : ∀ d ∈ words, d.before a0 Z = true) {kI : Nat} (wi : (Jvm.Cond.instantiable ST kI).before a0 Z = true)
    {x b : Addr} {A : Cell} {z : Int32} {v0 c0 : Value} (E : RoadKit.Exa Z h x ST) (V : RoadKit.Fld Z h x ST "value" "[B" v0) (C : RoadKit.Fld Z h x ST "coder" "B" c0) (K : RoadKit.Arr Z h b A .char) (hty : Typed .char A) (S : RoadKit.Sta Z h ST "COMPACT_STRINGS" "Z" (.int z)) (hz : ¬ z = 0)
    (l0 : 0 < A.slots.size) (l2 : A.slots.size ≤ 536870912) (hp : ∀ i, i < A.slots.size → ¬ 255 < cv A i) (hfr : 4 ≤ R.frames) (hlo : W + 65 ≤ R.locals) :
    Back l R p e below s args New1.yN len W (fun P a => a = #[.ref x, .ref b] ∧ P.U.heap = h ∧ P.cells + 1 ≤ R.cells ∧ P.slots + A.slots.size ≤ R.slots)
      (fun P _ v B => ∃ L, Q Z x A h v B.U.heap L ∧ B.locs = P.locs ++ L ∧ B.cells = P.cells + 1 ∧ B.slots = P.slots + A.slots.size) := by
  intro m meth c P g ig mk a X hg hsize hdg hW hn hp'
  obtain ⟨rfl, rfl, r1, r2⟩ := hp'
  have al : Z.vm.Alike P.U.vm := hZ.alike.trans X.warmed.alike
  obtain ⟨D, cfV, kV, iV, fV, hD, gV, stV, knV, obV, asV, slV⟩ := id V
  obtain ⟨D', cfC, kC, iC, fC, hD', gC, stC, -, -, asC, slC⟩ := id C
  cases hD.symm.trans hD'
  obtain ⟨D2, kD, e1, e2, e3, e4, e5⟩ := id E
  cases hD.symm.trans e1
  obtain ⟨c2, k2, i1, i2, i3, -⟩ := Cond.instantiable_spec wi
  cases e2.symm.trans i1
  cases e3.symm.trans i2
  obtain ⟨kU, u1, u2⟩ := al.2.2 _ _ e3
  have hB : Blank ST x D P.U := ⟨hD, ⟨knV, fun q hq => by rw [hq] at obV; cases obV⟩, by rw [al.findClass]; exact e2, kU, u1, by rw [u2]; exact i3, by rw [u2]; exact e5 i3⟩
  have F1 : Found ST "value" "[B" fV P.U := ⟨SBG.found_only al ⟨cfV, kV, iV, gV⟩, stV⟩
  have F2 : Found ST "coder" "B" fC P.U := ⟨SBG.found_only al ⟨cfC, kC, iC, gC⟩, stC⟩
  have hA : Ch b A P.U := ⟨⟨K.1, State.isArrayOf_alike al K.2.1, K.2.2, by omega⟩, hty⟩
  have hS : StaticIs P.U ST "COMPACT_STRINGS" "Z" (.int z) := by
    obtain ⟨cfS, iS, kS, fS, st, cS, t1, t2, t3, t4, t5, t6, t7⟩ := S
    exact StaticIs.there (s := { Z with heap := P.U.heap }) ⟨cfS, iS, kS, fS, st, cS, t1, t2, t3, t4, t5, (fun q => by rw [q] at t6; cases t6), t7⟩ al rfl
  obtain ⟨v, B, X', ⟨⟨hv, E', V', q1, q2, q3, q4, q5, q6, q7, q8, q9, q10, q11⟩, hl, hc, hs⟩, st⟩ := New1.pays x D fV fC b A z (tab_of (moved hZ hw)) hfr hlo m meth c P g ig mk _ X hg hsize hdg hW hn ⟨r1, r2, rfl, hB, F1, F2, hA, hS, hz, l0, l2, hp⟩
  have al' : Z.vm.Alike B.U.vm := hZ.alike.trans X'.warmed.alike
  have hsz : E'.slots.size = D.slots.size := by
    obtain ⟨-, -, -, kB, w1, w2, w3⟩ := q1
    obtain ⟨kB', y1, y2⟩ := al'.2.2 _ _ e3
    rw [q2.2.1] at w1
    cases w1.symm.trans y1
    rw [w3, e5 i3, y2]
  refine ⟨v, B, X', ⟨_, ⟨hv, ?_, ⟨by omega, fun y cy hy hn' => q10 y cy (by simpa using hn') hy, fun y cy hy => ?_⟩, q11, ⟨E', _, q1.1, by rw [q2.2.1]; exact e2, by rw [q2.2.1]; exact e3, by rw [q2.1]; exact obV, fun _ => by rw [hsz]; exact e5 i3⟩,
    ⟨E', cfV, kV, iV, fV, q1.1, gV, stV, by rw [q2.1]; exact knV, by rw [q2.1]; exact obV, by rw [q2.2.1]; exact asV, q3⟩, ⟨E', cfC, kC, iC, fC, q1.1, gC, stC, by rw [q2.1]; exact knV, by rw [q2.1]; exact obV, by rw [q2.2.1]; exact asC, q4⟩,
    ⟨V', ⟨q5.1, State.isArrayOf_alike al'.symm q5.2.1, q5.2.2.1⟩, q6, by rw [← al'.findClass]; exact q7, q8, fun j hj => by have := q9 j hj; rwa [Nat.zero_add] at this⟩, fun O n d w F n1 n2 => ?_⟩, hl, hc, hs⟩, st⟩
  · intro y hy
    simp only [List.mem_cons, List.not_mem_nil, or_false] at hy
    rcases hy with rfl | rfl <;> rfl
  · by_cases q : y = x
    · subst q
      cases hD.symm.trans hy
      exact ⟨E', q1.1, q2.2.1, q2.1, hsz⟩
    · exact ⟨cy, q10 y cy q hy, rfl, rfl, rfl⟩
  · obtain ⟨D3, cf, k, i, f, g1, g2, g3, g4, g5, g6, g7⟩ := F
    cases hD.symm.trans g1
    simp only [RoadKit.slotOf, g2, gV, gC, Option.map_some, Option.getD_some] at n1 n2
    exact ⟨E', cf, k, i, f, q1.1, g2, g3, by rw [q2.1]; exact g4, by rw [q2.1]; exact g5, by rw [q2.2.1]; exact g6, by rw [q2.2.2 f.slot (by simp [n1, n2])]; exact g7⟩
end StrChars.Road
namespace StrChars.Road
open Jvm Sem ClassFile Op Lib Jvm.Stand Jvm.Free Jvm.Free.XT
/-- WHAT COMES BACK, the byte[] as a list of values -/
def QA (Z : State) (x : Addr) (zn : Int32) (cs : List Int32) (h : Heap) (v : Option Value) (h' : Heap) (L : List Loc) : Prop := v = none ∧ (∀ y ∈ L, y.base = x) ∧ RoadKit.Keep h h' [x] ∧ h'.size = h.size + 1 ∧ RoadKit.Exa Z h' x ST ∧ RoadKit.Fld Z h' x ST "value" "[B" (.ref h.size) ∧ RoadKit.Fld Z h' x ST "coder" "B" (.int 0) ∧
  (∃ kb, Z.vm.findClass "[B" = some kb ∧ RoadKit.Arv Z h' h.size kb .byte zn (cs.map fun c => .int (lo8 c)) (.int 0)) ∧
  ∀ (O n d : String) (w : Value), RoadKit.Fld Z h x O n d w → RoadKit.slotOf Z O n d ≠ RoadKit.slotOf Z ST "value" "[B" → RoadKit.slotOf Z O n d ≠ RoadKit.slotOf Z ST "coder" "B" → RoadKit.Fld Z h' x O n d w
/-- **new String(chars) AT A CALL, THE ARRAYS AS LISTS**: the char[] at b holds cs, not empty, no char above 255 -/
theorem backArv {p : Program} {l : Launch} {e : Env} {R : Room} {s : State} {args : Array Value} {below : List Frame} {len W : Nat} {Z : State} {a0 : Array Value} {h : Heap} (hZ : Z.Warmed39 s.vm) (hw : ∀ d ∈ words, d.before a0 Z = true) {kI : Nat} (wi : (Jvm.Cond.instantiable ST kI).before a0 Z = true)
    {x b : Addr} {k : ClassId} {zn z : Int32} {cs : List Int32} {dv v0 c0 : Value} (E : RoadKit.Exa Z h x ST) (V : RoadKit.Fld Z h x ST "value" "[B" v0) (C : RoadKit.Fld Z h x ST "coder" "B" c0) (K : RoadKit.Arv Z h b k .char zn (cs.map Value.int) dv) (S : RoadKit.Sta Z h ST "COMPACT_STRINGS" "Z" (.int z)) (hz : ¬ z = 0)
    (hlen : zn.toNatClampNeg = cs.length) (h0 : 0 < cs.length) (hbig : cs.length ≤ 536870912) (hall : ∀ c ∈ cs, ¬ 255 < c) (hfr : 4 ≤ R.frames) (hlo : W + 65 ≤ R.locals) :
    Back l R p e below s args New1.yN len W (fun P a => a = #[.ref x, .ref b] ∧ P.U.heap = h ∧ P.cells + 1 ≤ R.cells ∧ P.slots + cs.length ≤ R.slots)
      (fun P _ v B => ∃ L, QA Z x zn cs h v B.U.heap L ∧ B.locs = P.locs ++ L ∧ B.cells = P.cells + 1 ∧ B.slots = P.slots + cs.length) := by
  obtain ⟨A, K1, K2, K3, K4, K5, K6⟩ := K
  have e : A.slots.size = cs.length := K3.trans hlen
  have hat : ∀ (i : Nat) (hi : i < cs.length), A.slots[i]? = some (.int cs[i]) := fun i hi => by rw [K5 i (by omega)]; simp [List.getD_eq_getElem?_getD, hi]
  have hcv : ∀ (i : Nat) (hi : i < cs.length), cv A i = cs[i] := fun i hi => by unfold cv; rw [hat i hi]
  have hty : Typed .char A := fun i v hv => by
    have hi : i < A.slots.size := (Array.getElem?_eq_some_iff.mp hv).1
    have q := K5 i hi
    rw [hv] at q
    rw [Option.some.inj q]
    exact K6 i hi
  refine Back.mono (back hZ hw wi E V C K1 hty S hz (by omega) (by omega) (fun i hi => by rw [hcv i (by omega)]; exact hall _ (List.getElem_mem _)) hfr hlo) (fun P a hp => ⟨hp.1, hp.2.1, hp.2.2.1, by rw [e]; exact hp.2.2.2⟩) (fun P a v B hp hq => ?_)
  obtain ⟨L, ⟨q1, q2, q3, q4, q5, q6, q7, ⟨V', v1, v2, v3, v4, v5⟩, q9⟩, hl, hc, hs⟩ := hq
  refine ⟨L, ⟨q1, q2, q3, q4, q5, q6, q7, ⟨V'.cls, v3, V', v1, rfl, by rw [v4, e, hlen], K4, fun i hi => ?_, fun i hi => ?_⟩, q9⟩, hl, hc, by rw [hs, e]⟩
  · have hi' : i < cs.length := by omega
    rw [v5 i (by omega), hcv i hi']; simp [List.getD_eq_getElem?_getD, hi']
  · have hi' : i < cs.length := by omega
    simp only [List.getD_eq_getElem?_getD, List.getElem?_map, List.getElem?_eq_getElem hi', Option.map_some, Option.getD_some]
    exact fits_lo8 _
end StrChars.Road
namespace StrChars.Road
open Jvm Sem ClassFile Op Lib Jvm.Stand Jvm.Free Jvm.Free.XT
/-- WHAT COMES BACK, in the writer's own shape -/
def QV (Z : State) (x : Addr) (N : Int32) (bs : List Int32) (h : Heap) (n0 : Nat) (v : Option Value) (h' : Heap) (L : List Loc) : Prop := v = none ∧ RoadKit.Fr n0 L ∧ RoadKit.Keep h h' [x] ∧ RoadKit.Exa Z h' x ST ∧ RoadKit.Fld Z h' x ST "coder" "B" (.int 0) ∧
  ∃ (t : Addr) (kb : ClassId), n0 ≤ t ∧ h.size ≤ t ∧ ¬ t = x ∧ RoadKit.Fld Z h' x ST "value" "[B" (.ref t) ∧ RoadKit.Arv Z h' t kb .byte N (bs.map Value.int) (.int 0)
/-- **new String(chars) AT A CALL, FOR THE WRITER**: a char[] of n known ints, each 0 to 255 -/
theorem backV {p : Program} {l : Launch} {e : Env} {R : Room} {s : State} {args : Array Value} {below : List Frame} {len W : Nat} {Z : State} {a0 : Array Value} {h : Heap} (hZ : Z.Warmed39 s.vm) (hw : ∀ d ∈ words, d.before a0 Z = true) {kI : Nat} (wi : (Jvm.Cond.instantiable ST kI).before a0 Z = true)
    {x b : Addr} {kC : ClassId} {cs bs : List Int32} {d v0 c0 : Value} {z N : Int32} {n n0 : Nat} (hx0 : n0 ≤ x) (hh0 : n0 ≤ h.size) (E : RoadKit.Exa Z h x ST) (V : RoadKit.Fld Z h x ST "value" "[B" v0) (C : RoadKit.Fld Z h x ST "coder" "B" c0) (K : RoadKit.Arv Z h b kC .char N (cs.map Value.int) d) (S : RoadKit.Sta Z h ST "COMPACT_STRINGS" "Z" (.int z)) (hz : ¬ z = 0)
    (hn : cs.length = n) (hN : N = Int32.ofNat n) (l0 : 0 < n) (l2 : n ≤ 4000) (hp : ∀ c ∈ cs, ¬ c < 0 ∧ ¬ (255 : Int32) < c) (hb : bs = cs.map (fun c => c.toInt8.toInt32)) (hfr : 4 ≤ R.frames) (hlo : W + 65 ≤ R.locals) :
    Back l R p e below s args (⟨"java/lang/String", "<init>", "([C)V"⟩ : MethodName) len W (fun P a => a = #[.ref x, .ref b] ∧ P.U.heap = h ∧ P.cells + 1 ≤ R.cells ∧ P.slots + n ≤ R.slots)
      (fun P _ v B => ∃ L, QV Z x N bs h n0 v B.U.heap L ∧ B.locs = P.locs ++ L ∧ B.cells = P.cells + 1 ∧ B.slots = P.slots + n) := by
  subst hn hN hb
  refine Back.mono (backArv hZ hw wi E V C K S hz (n32 (by omega)) l0 (by omega) (fun c hc => (hp c hc).2) hfr hlo) (fun P a hp => hp) (fun P a v B hp hq => ?_)
  obtain ⟨L, ⟨q1, q2, q3, q4, q5, q6, q7, ⟨kb, v1, v2⟩, q9⟩, hl, hc, hs⟩ := hq
  exact ⟨L, ⟨q1, fun y hy => by rw [q2 y hy]; exact hx0, q3, q5, q7, h.size, kb, hh0, Nat.le_refl _, Nat.ne_of_gt E.lt, q6, by rw [List.map_map]; exact v2⟩, hl, hc, hs⟩
end StrChars.Road
namespace StrChars
open Jvm Sem ClassFile Op Lib Jvm.Stand Jvm.Free.XT Jvm.Free.ALB Jvm.Free.JM Jvm.Free
open Jvm.Lib.Cold (StaticIs)
def hi8 (x : Int32) : Int32 := lo8 (x >>> ((8 : Int32) &&& 31))
/-- what StringUTF16.getChar makes of two bytes -/
def pairCh (u v : Int32) : Int32 := (((u &&& 255) <<< ((0 : Int32) &&& 31)) ||| ((v &&& 255) <<< ((8 : Int32) &&& 31))).toUInt32.toUInt16.toUInt32.toInt32
theorem shr0 (c : Int32) : c >>> ((0 : Int32) &&& 31) = c := by
  have e : ((0 : Int32) &&& 31) = 0 := by decide
  rw [e]
  apply Int32.toBitVec_inj.mp
  rw [Int32.toBitVec_shiftRight]
  have e1 : ((0 : Int32).toBitVec.smod 32) = 0#32 := by decide
  rw [e1, BitVec.sshiftRight_eq']
  exact BitVec.sshiftRight_zero
theorem lo8_and (x : Int32) : (lo8 x &&& 255).toBitVec.toNat = x.toBitVec.toNat % 256 := by
  have h : (lo8 x).toBitVec = (x.toBitVec.signExtend 8).signExtend 32 := by rw [lo8, Int8.toBitVec_toInt32, Int32.toBitVec_toInt8]
  rw [Int32.toBitVec_and, BitVec.toNat_and, h]
  have e : ((x.toBitVec.signExtend 8).signExtend 32).toNat % 256 = x.toBitVec.toNat % 256 := by
    rw [BitVec.toNat_signExtend]
    have hlt := x.toBitVec.isLt
    simp only [BitVec.toNat_setWidth, BitVec.toNat_signExtend]
    split <;> split <;> omega
  rw [← e]
  exact Nat.and_two_pow_sub_one_eq_mod _ 8
theorem pair_says {c : Int32} (h0 : ¬ c < 0) (h1 : ¬ 65535 < c) : pairCh (lo8 c) (hi8 c) = c := by
  rw [Int32.lt_iff_toInt_lt] at h0 h1
  have e0 : (0 : Int32).toInt = 0 := rfl
  have e1 : (65535 : Int32).toInt = 65535 := rfl
  have hc : c.toInt = c.toBitVec.toNat := by
    have := c.toBitVec.isLt
    have e : c.toInt = c.toBitVec.toInt := rfl
    rw [e] at h0 h1
    rw [e]
    rw [BitVec.toInt_eq_toNat_cond] at h0 h1 ⊢
    split at h0 <;> split <;> omega
  have hn : c.toBitVec.toNat < 65536 := by omega
  have a1 := lo8_and c
  have a2 : (hi8 c &&& 255).toBitVec.toNat = c.toBitVec.toNat / 256 := by
    rw [hi8, lo8_and]
    have e : ((8 : Int32) &&& 31) = 8 := by decide
    rw [e, Int32.toBitVec_shiftRight]
    have e2 : ((8 : Int32).toBitVec.smod 32) = 8#32 := by decide
    rw [e2, BitVec.sshiftRight_eq', BitVec.toNat_sshiftRight_of_msb_false (by rw [BitVec.msb_eq_false_iff_two_mul_lt]; omega)]
    show c.toBitVec.toNat >>> 8 % 256 = _
    rw [Nat.shiftRight_eq_div_pow]
    omega
  unfold pairCh
  apply Int32.toBitVec_inj.mp
  apply BitVec.eq_of_toNat_eq
  have f0 : ((0 : Int32) &&& 31) = 0 := by decide
  have f8 : ((8 : Int32) &&& 31) = 8 := by decide
  rw [f0, f8]
  have g : (((lo8 c &&& 255) <<< (0 : Int32)) ||| ((hi8 c &&& 255) <<< (8 : Int32))).toBitVec.toNat = c.toBitVec.toNat := by
    rw [Int32.toBitVec_or, Int32.toBitVec_shiftLeft, Int32.toBitVec_shiftLeft]
    have s0 : ((0 : Int32).toBitVec.smod 32) = 0#32 := by decide
    have s8 : ((8 : Int32).toBitVec.smod 32) = 8#32 := by decide
    rw [s0, s8, BitVec.toNat_or]
    simp only [BitVec.shiftLeft_eq', BitVec.toNat_shiftLeft, a1, a2]
    show (c.toBitVec.toNat % 256) <<< 0 % 2 ^ 32 ||| (c.toBitVec.toNat / 256) <<< 8 % 2 ^ 32 = _
    rw [Nat.shiftLeft_zero, Nat.mod_eq_of_lt (show c.toBitVec.toNat % 256 < 2 ^ 32 by omega), Nat.mod_eq_of_lt (show (c.toBitVec.toNat / 256) <<< 8 < 2 ^ 32 by rw [Nat.shiftLeft_eq]; omega), Nat.or_comm, ← Nat.shiftLeft_add_eq_or_of_lt (by omega), Nat.shiftLeft_eq]
    omega
  show BitVec.toNat (((((lo8 c &&& 255) <<< (0 : Int32)) ||| ((hi8 c &&& 255) <<< (8 : Int32))).toBitVec.setWidth 16).setWidth 32) = _
  rw [BitVec.toNat_setWidth, BitVec.toNat_setWidth, g]
  omega
end StrChars
namespace StrChars
open Jvm Sem ClassFile Op Lib Jvm.Stand Jvm.Free.XT Jvm.Free.ALB Jvm.Free.JM Jvm.Free
open Jvm.Lib.Cold (StaticIs)
theorem shr1 {n : Nat} (h : 2 * n < 2 ^ 31) : Int32.ofNat (2 * n) >>> ((1 : Int32) &&& 31) = Int32.ofNat n := by
  have e : ((1 : Int32) &&& 31) = 1 := by decide
  rw [e]
  apply Int32.toBitVec_inj.mp
  rw [Int32.toBitVec_shiftRight]
  have e1 : ((1 : Int32).toBitVec.smod 32) = 1#32 := by decide
  have hm : (BitVec.ofNat 32 (2 * n)).toNat = 2 * n := by rw [BitVec.toNat_ofNat, Nat.mod_eq_of_lt (by omega)]
  rw [e1, BitVec.sshiftRight_eq']
  apply BitVec.eq_of_toNat_eq
  show ((BitVec.ofNat 32 (2 * n)).sshiftRight 1).toNat = (BitVec.ofNat 32 n).toNat
  rw [BitVec.toNat_sshiftRight_of_msb_false (by rw [BitVec.msb_eq_false_iff_two_mul_lt, hm]; omega), hm, BitVec.toNat_ofNat, Nat.shiftRight_eq_div_pow]
  omega
/-- charAt's cast of a byte read back -/
def chr8 (u : Int32) : Int32 := (u &&& 255).toUInt32.toUInt16.toUInt32.toInt32
theorem chr8_lo8 {c : Int32} (h0 : ¬ c < 0) (h1 : ¬ 255 < c) : chr8 (lo8 c) = c := by
  have t : ∀ k : Fin 256, (Int32.ofNat k.val).toUInt32.toUInt16.toUInt32.toInt32 = Int32.ofNat k.val := by decide +kernel
  unfold chr8
  rw [lo8_mask h0 h1]
  rw [Int32.lt_iff_toInt_lt] at h0 h1
  have e0 : (0 : Int32).toInt = 0 := rfl
  have e1 : (255 : Int32).toInt = 255 := rfl
  obtain ⟨k, hk⟩ : ∃ k : Nat, c.toInt = k := ⟨c.toInt.toNat, by omega⟩
  have hx : c = Int32.ofNat k := Int32.toInt_inj.mp (by rw [hk, Int32.toInt_ofNat_small (by omega)])
  rw [hx]
  exact t ⟨k, by omega⟩
theorem narrow_ch {c : Int32} (h0 : ¬ c < 0) (h1 : ¬ 65535 < c) : narrow .char (.int c) = .int c := by
  have q : narrow .char (.int (pairCh (lo8 c) (hi8 c))) = .int (pairCh (lo8 c) (hi8 c)) := narrow_c _
  rwa [pair_says h0 h1] at q
/-- the array's cell V codes the n chars f 0 .. f (n - 1) by the coder cd, as the JDK does: coder 1 just where some char is above 255 -/
def Cod (cd : Int32) (n : Nat) (f : Nat → Int32) (V : Cell) : Prop := (cd = 0 ∧ V.slots.size = n ∧ ∀ j, j < n → V.slots[j]? = some (.int (lo8 (f j))) ∧ ¬ 255 < f j) ∨ (cd = 1 ∧ V.slots.size = 2 * n ∧ (∀ j, j < n → V.slots[2 * j]? = some (.int (lo8 (f j))) ∧ V.slots[2 * j + 1]? = some (.int (hi8 (f j)))) ∧ ∃ j, j < n ∧ 255 < f j)
theorem Cod.cd {cd : Int32} {n : Nat} {f : Nat → Int32} {V : Cell} (h : Cod cd n f V) : cd = 0 ∨ cd = 1 := h.imp (fun q => q.1) fun q => q.1
theorem Cod.len {cd : Int32} {n : Nat} {f : Nat → Int32} {V : Cell} (h : Cod cd n f V) (hs : V.slots.size < 2 ^ 31) : Int32.ofNat V.slots.size >>> (cd &&& 31) = Int32.ofNat n := by
  rcases h with ⟨rfl, h, -⟩ | ⟨rfl, h, -⟩
  · rw [shr0, h]
  · rw [h, shr1 (by omega)]
/-- **x is a String of the n chars f 0 .. f (n - 1)**, Latin-1 or UTF-16; its array at t has the cell V -/
def Txt (x t : Addr) (V : Cell) (cd : Int32) (n : Nat) (f : Nat → Int32) (U : State) : Prop := Exact "java/lang/String" x U ∧ Has x "java/lang/String" "value" "[B" (.ref t) U ∧ Has x "java/lang/String" "coder" "B" (.int cd) U ∧ XT.Arr .byte t V U ∧ Cod cd n f V ∧ ∀ j, j < n → ¬ f j < 0 ∧ ¬ 65535 < f j
theorem Txt.mv {x t : Addr} {V : Cell} {cd : Int32} {n : Nat} {f : Nat → Int32} {U U' : State} (h : Txt x t V cd n f U) (hal : U.vm.Alike U'.vm) (hh : U'.heap = U.heap) : Txt x t V cd n f U' := ⟨h.1.mv hal hh, h.2.1.mv hal hh, h.2.2.1.mv hal hh, h.2.2.2.1.mv hal hh, h.2.2.2.2⟩
namespace Cdr
def yN : MethodName := ⟨"java/lang/String", "coder", "()B"⟩
abbrev yB : ByteArray := jdk_42_method_152_code
theorem d0 : decode yB 0 = .ok (.getstatic 38, 3) := by decide +kernel
theorem d3 : decode yB 3 = .ok (.ifCond (.eq) 10, 3) := by decide +kernel
theorem d6 : decode yB 6 = .ok (.aload_n 0, 1) := by decide +kernel
theorem d7 : decode yB 7 = .ok (.getfield 15, 3) := by decide +kernel
theorem d10 : decode yB 10 = .ok (.goto 4, 3) := by decide +kernel
theorem d14 : decode yB 14 = .ok (.ireturn, 1) := by decide +kernel
def site : List Cond := [.fieldLink "java/lang/String" 38 "java/lang/String" "COMPACT_STRINGS" "Z", .fieldLink "java/lang/String" 15 "java/lang/String" "coder" "B"]
def tab : Cond := tabOf yN yB 1 (some .byte) site
def P (x : Addr) (cd z : Int32) (args : Array Value) (s : State) : Prop := args = #[.ref x] ∧ Has x "java/lang/String" "coder" "B" (.int cd) s ∧ (cd = 0 ∨ cd = 1) ∧ StaticIs s "java/lang/String" "COMPACT_STRINGS" "Z" (.int z) ∧ ¬ z = 0
def E (cd : Int32) (r : Option Value) (s u : State) : Prop := XT.PureE (some (.int cd)) r s u
theorem law (l : Launch) (x : Addr) (cd z : Int32) : Law l yN 1 0 0 0 yB 1 (some .byte) site (P x cd z) (E cd) [] 0 0 := by
  refine Law.of_walk (plainFor_of_name (by decide +kernel)) (by decide +kernel) (by decide +kernel) (by decide) (fun _ _ h => by rw [h.1]; rfl) (fun _ U U' hal hh h => ⟨h.1, h.2.1.mv hal hh, h.2.2.1, h.2.2.2.1.there hal hh, h.2.2.2.2⟩) (fun r U U' V V' h1 hal h2 h => XT.PureE.mv r U U' V V' h1 hal h2 h) ?_
  intro p e s m args below meth c s₁ X0 hexec hbytes hml hret hlk hnm hown hh0 W hP
  obtain ⟨rfl, hx, hc, s1, hz⟩ := hP
  have c1 : Steps p.tables e below (s₁.setTop (entryFrame m #[.ref x] 1)) (s₁.setTop (mkF m 0 #[.val (.ref x)] [])) := entry rfl
  obtain ⟨T2, X2, q2, st2⟩ := X0.sget hexec hown (wk W (.fieldLink "java/lang/String" 38 "java/lang/String" "COMPACT_STRINGS" "Z")) s1 (fun _ _ h => by rw [hh0]; exact h) (g := (mkF m 0 #[.val (.ref x)] [])) rfl (hb hbytes d0)
  have hh2 := q2.trans hh0
  have c3 : Steps p.tables e below (s₁.setTop (entryFrame m #[.ref x] 1)) (T2.setTop (mkF m 7 #[.val (.ref x)] [.ref x])) := (c1.trans (st2 _ (Steps.refl _))).trans (by
    refine XS.ifNo X2.here hexec rfl (hb hbytes d3) rfl (i0_eq_f hz) ?_
    refine XS.aloadN X2.here hexec rfl (hb hbytes d6) rfl rfl ?_
    exact Steps.refl _)
  obtain ⟨T4, X4, q4, st4⟩ := X2.hget hexec hown (wk W (.fieldLink "java/lang/String" 15 "java/lang/String" "coder" "B")) (hx.mv X2.warmed.alike hh2) (g := (mkF m 7 #[.val (.ref x)] [.ref x])) rfl (rest := []) rfl (hb hbytes d7)
  have c5 : Steps p.tables e below (s₁.setTop (entryFrame m #[.ref x] 1)) (T4.setTop (mkF m 14 #[.val (.ref x)] [.int cd])) := (c3.trans (st4 _ (Steps.refl _))).trans (by
    refine XS.goto X4.here hexec rfl (pc0 := 10) rfl (hb hbytes d10) (by decide) rfl ?_
    exact Steps.refl _)
  exact ⟨T4, some (.int cd), _, _, _, X4, rfl, rfl, rfl, (fun h => by cases h), ⟨rfl, q4.trans hh2⟩, fun fs hl => c5.trans (X4.ireturnOut hexec hret (by rcases hc with rfl | rfl <;> rfl) (Or.inr (Or.inr (Or.inl rfl))) (hb hbytes d14) hl)⟩
end Cdr
namespace Len
def yN : MethodName := ⟨"java/lang/String", "length", "()I"⟩
abbrev yB : ByteArray := jdk_42_method_54_code
theorem d0 : decode yB 0 = .ok (.aload_n 0, 1) := by decide +kernel
theorem d1 : decode yB 1 = .ok (.getfield 9, 3) := by decide +kernel
theorem d4 : decode yB 4 = .ok (.arraylength, 1) := by decide +kernel
theorem d5 : decode yB 5 = .ok (.aload_n 0, 1) := by decide +kernel
theorem d6 : decode yB 6 = .ok (.invokevirtual 335, 3) := by decide +kernel
theorem d9 : decode yB 9 = .ok (.ishr, 1) := by decide +kernel
theorem d10 : decode yB 10 = .ok (.ireturn, 1) := by decide +kernel
def site : List Cond := [.fieldLink "java/lang/String" 9 "java/lang/String" "value" "[B", Cdr.tab] ++ virtW "java/lang/String" 335 "java/lang/String" Cdr.yN Cdr.yN
def tab : Cond := tabOf yN yB 1 (some .int) site
def P (x t : Addr) (V : Cell) (cd : Int32) (n : Nat) (f : Nat → Int32) (z : Int32) (args : Array Value) (s : State) : Prop := args = #[.ref x] ∧ Txt x t V cd n f s ∧ StaticIs s "java/lang/String" "COMPACT_STRINGS" "Z" (.int z) ∧ ¬ z = 0
def E (n : Nat) (r : Option Value) (s u : State) : Prop := XT.PureE (some (.int (Int32.ofNat n))) r s u
/-- length() of a String of n chars, in either coding -/
theorem law (l : Launch) (x t : Addr) (V : Cell) (cd : Int32) (n : Nat) (f : Nat → Int32) (z : Int32) : Law l yN 1 0 1 13 yB 1 (some .int) site (P x t V cd n f z) (E n) [] 0 0 := by
  refine Law.of_walk (plainFor_of_name (by decide +kernel)) (by decide +kernel) (by decide +kernel) (by decide) (fun _ _ h => by rw [h.1]; rfl) (fun _ U U' hal hh h => ⟨h.1, h.2.1.mv hal hh, h.2.2.1.there hal hh, h.2.2.2⟩) (fun r U U' V V' h1 hal h2 h => XT.PureE.mv r U U' V V' h1 hal h2 h) ?_
  intro p e s m args below meth c s₁ X0 hexec hbytes hml hret hlk hnm hown hh0 W hP
  obtain ⟨rfl, hx, s1, hz⟩ := hP
  have v31 := hx.2.2.2.1.2.2.2
  have c1 : Steps p.tables e below (s₁.setTop (entryFrame m #[.ref x] 1)) (s₁.setTop (mkF m 1 #[.val (.ref x)] [.ref x])) := Steps.trans (entry rfl) (by
    show Steps p.tables e below (s₁.setTop (mkF m 0 #[.val (.ref x)] [])) _
    refine XS.aloadN X0.here hexec rfl (hb hbytes d0) rfl rfl ?_
    exact Steps.refl _)
  obtain ⟨T2, X2, q2, st2⟩ := X0.hget hexec hown (wk W (.fieldLink "java/lang/String" 9 "java/lang/String" "value" "[B")) (hx.mv X0.warmed.alike hh0).2.1 (g := (mkF m 1 #[.val (.ref x)] [.ref x])) rfl (rest := []) rfl (hb hbytes d1)
  have hh2 := q2.trans hh0
  have hx2 := hx.mv X2.warmed.alike hh2
  have c3 : Steps p.tables e below (s₁.setTop (entryFrame m #[.ref x] 1)) (T2.setTop (mkF m 6 #[.val (.ref x)] [.ref x, .int (Int32.ofNat V.slots.size)])) := (c1.trans (st2 _ (Steps.refl _))).trans (by
    refine X2.alen hexec hx2.2.2.2.1 rfl rfl (hb hbytes d4) ?_
    refine XS.aloadN X2.here hexec rfl (hb hbytes d5) rfl rfl ?_
    exact Steps.refl _)
  obtain ⟨v4, T4, X4, E4, g4⟩ := X2.callV hexec (Cdr.law l x cd z) hown (wks W (virtW "java/lang/String" 335 "java/lang/String" Cdr.yN Cdr.yN)) rfl (by decide) (wk W Cdr.tab) (W := 1) (Nat.le_of_ble_eq_true rfl) (Nat.le_of_ble_eq_true rfl) (Nat.le_refl _) (Nat.le_refl _) (hx2.1.fc X2.warmed.alike) hx2.1.is (g := (mkF m 6 #[.val (.ref x)] [.ref x, .int (Int32.ofNat V.slots.size)])) rfl (by rw [hml]; rfl) c3 (argsL := []) (rest := [.int (Int32.ofNat V.slots.size)]) rfl rfl (by show 2 * 0 + (1 + 0) ≤ _; decide) (hb hbytes d6) (⟨rfl, hx2.2.2.1, hx.2.2.2.2.1.cd, s1.there X2.warmed.alike hh2, hz⟩)
  obtain ⟨rfl, q4⟩ := E4
  have c5 : Steps p.tables e below (s₁.setTop (entryFrame m #[.ref x] 1)) (T4.setTop (mkF m 10 #[.val (.ref x)] [.int (Int32.ofNat V.slots.size >>> (cd &&& 31))])) := Steps.trans g4 (by
    refine ishr X4.here hexec rfl (hb hbytes d9) rfl ?_
    exact Steps.refl _)
  rw [hx.2.2.2.2.1.len v31] at c5
  exact ⟨T4, some (.int (Int32.ofNat n)), _, _, _, X4, rfl, rfl, rfl, (fun h => by cases h), ⟨rfl, q4.trans hh2⟩, fun fs hl => c5.trans (X4.ireturnOut hexec hret rfl (Or.inl rfl) (hb hbytes d10) hl)⟩
theorem pays {l : Launch} {R : Room} {p : Program} {e : Env} {below : List Frame} {s : State} {sargs : Array Value} {len W : Nat} (x t : Addr) (V : Cell) (cd : Int32) (n : Nat) (f : Nat → Int32) (z : Int32) (htab : tab.before sargs s = true) (hfr : 2 ≤ R.frames) (hlo : W + 25 ≤ R.locals) :
    Back l R p e below s sargs yN len W (fun A₁ a₁ => A₁.cells + 0 ≤ R.cells ∧ A₁.slots + 0 ≤ R.slots ∧ P x t V cd n f z a₁ A₁.U) (fun A₁ _ v₁ B₁ => E n v₁ A₁.U B₁.U ∧ B₁.locs = A₁.locs ++ [] ∧ B₁.cells = A₁.cells + 0 ∧ B₁.slots = A₁.slots + 0) :=
  (law l x t V cd n f z).pays htab hfr (by omega)
end Len
namespace IsL
def yN : MethodName := ⟨"java/lang/String", "isLatin1", "()Z"⟩
abbrev yB : ByteArray := jdk_42_method_154_code
theorem d0 : decode yB 0 = .ok (.getstatic 38, 3) := by decide +kernel
theorem d3 : decode yB 3 = .ok (.ifCond (.eq) 14, 3) := by decide +kernel
theorem d6 : decode yB 6 = .ok (.aload_n 0, 1) := by decide +kernel
theorem d7 : decode yB 7 = .ok (.getfield 15, 3) := by decide +kernel
theorem d10 : decode yB 10 = .ok (.ifCond (.ne) 7, 3) := by decide +kernel
theorem d13 : decode yB 13 = .ok (.iconst 1, 1) := by decide +kernel
theorem d14 : decode yB 14 = .ok (.goto 4, 3) := by decide +kernel
theorem d17 : decode yB 17 = .ok (.iconst 0, 1) := by decide +kernel
theorem d18 : decode yB 18 = .ok (.ireturn, 1) := by decide +kernel
def site : List Cond := [.fieldLink "java/lang/String" 38 "java/lang/String" "COMPACT_STRINGS" "Z", .fieldLink "java/lang/String" 15 "java/lang/String" "coder" "B"]
def tab : Cond := tabOf yN yB 1 (some .boolean) site
def P (x : Addr) (cd z : Int32) (args : Array Value) (s : State) : Prop := args = #[.ref x] ∧ Has x "java/lang/String" "coder" "B" (.int cd) s ∧ (cd = 0 ∨ cd = 1) ∧ StaticIs s "java/lang/String" "COMPACT_STRINGS" "Z" (.int z) ∧ ¬ z = 0
def E (cd : Int32) (r : Option Value) (s u : State) : Prop := XT.PureE (some (.int (1 - cd))) r s u
theorem law (l : Launch) (x : Addr) (cd z : Int32) : Law l yN 1 0 0 0 yB 1 (some .boolean) site (P x cd z) (E cd) [] 0 0 := by
  refine Law.of_walk (plainFor_of_name (by decide +kernel)) (by decide +kernel) (by decide +kernel) (by decide) (fun _ _ h => by rw [h.1]; rfl) (fun _ U U' hal hh h => ⟨h.1, h.2.1.mv hal hh, h.2.2.1, h.2.2.2.1.there hal hh, h.2.2.2.2⟩) (fun r U U' V V' h1 hal h2 h => XT.PureE.mv r U U' V V' h1 hal h2 h) ?_
  intro p e s m args below meth c s₁ X0 hexec hbytes hml hret hlk hnm hown hh0 W hP
  obtain ⟨rfl, hx, hc, s1, hz⟩ := hP
  have c1 : Steps p.tables e below (s₁.setTop (entryFrame m #[.ref x] 1)) (s₁.setTop (mkF m 0 #[.val (.ref x)] [])) := entry rfl
  obtain ⟨T2, X2, q2, st2⟩ := X0.sget hexec hown (wk W (.fieldLink "java/lang/String" 38 "java/lang/String" "COMPACT_STRINGS" "Z")) s1 (fun _ _ h => by rw [hh0]; exact h) (g := (mkF m 0 #[.val (.ref x)] [])) rfl (hb hbytes d0)
  have hh2 := q2.trans hh0
  have c3 : Steps p.tables e below (s₁.setTop (entryFrame m #[.ref x] 1)) (T2.setTop (mkF m 7 #[.val (.ref x)] [.ref x])) := (c1.trans (st2 _ (Steps.refl _))).trans (by
    refine XS.ifNo X2.here hexec rfl (hb hbytes d3) rfl (i0_eq_f hz) ?_
    refine XS.aloadN X2.here hexec rfl (hb hbytes d6) rfl rfl ?_
    exact Steps.refl _)
  obtain ⟨T4, X4, q4, st4⟩ := X2.hget hexec hown (wk W (.fieldLink "java/lang/String" 15 "java/lang/String" "coder" "B")) (hx.mv X2.warmed.alike hh2) (g := (mkF m 7 #[.val (.ref x)] [.ref x])) rfl (rest := []) rfl (hb hbytes d7)
  have c5 : Steps p.tables e below (s₁.setTop (entryFrame m #[.ref x] 1)) (T4.setTop (mkF m 10 #[.val (.ref x)] [.int cd])) := c3.trans (st4 _ (Steps.refl _))
  have c6 : Steps p.tables e below (s₁.setTop (entryFrame m #[.ref x] 1)) (T4.setTop (mkF m 18 #[.val (.ref x)] [.int (1 - cd)])) := by
    rcases hc with rfl | rfl
    · exact c5.trans (by
        refine XS.ifNo X4.here hexec rfl (hb hbytes d10) rfl (i0_ne_f rfl) ?_
        refine iconstV X4.here hexec rfl 1 (hb hbytes d13) (by decide) ?_
        refine XS.goto X4.here hexec rfl (pc0 := 14) rfl (hb hbytes d14) (by decide) rfl ?_
        exact Steps.refl _)
    · exact c5.trans (by
        refine XS.ifYes X4.here hexec rfl (pc0 := 10) rfl (hb hbytes d10) rfl (i0_ne_t (by decide)) (by decide) rfl ?_
        refine iconstV X4.here hexec rfl 0 (hb hbytes d17) (by decide) ?_
        exact Steps.refl _)
  exact ⟨T4, some (.int (1 - cd)), _, _, _, X4, rfl, rfl, rfl, (fun h => by cases h), ⟨rfl, q4.trans hh2⟩, fun fs hl => c6.trans (X4.ireturnOut hexec hret (by rcases hc with rfl | rfl <;> rfl) (Or.inr (Or.inl rfl)) (hb hbytes d18) hl)⟩
end IsL
namespace LChA
def yN : MethodName := ⟨"java/lang/StringLatin1", "charAt", "([BI)C"⟩
abbrev yB : ByteArray := jdk_43_method_2_code
theorem d0 : decode yB 0 = .ok (.iload_n 1, 1) := by decide +kernel
theorem d1 : decode yB 1 = .ok (.aload_n 0, 1) := by decide +kernel
theorem d2 : decode yB 2 = .ok (.arraylength, 1) := by decide +kernel
theorem d3 : decode yB 3 = .ok (.invokestatic 9, 3) := by decide +kernel
theorem d6 : decode yB 6 = .ok (.aload_n 0, 1) := by decide +kernel
theorem d7 : decode yB 7 = .ok (.iload_n 1, 1) := by decide +kernel
theorem d8 : decode yB 8 = .ok (.baload, 1) := by decide +kernel
theorem d9 : decode yB 9 = .ok (.sipush 255, 3) := by decide +kernel
theorem d12 : decode yB 12 = .ok (.iand, 1) := by decide +kernel
theorem d13 : decode yB 13 = .ok (.i2c, 1) := by decide +kernel
theorem d14 : decode yB 14 = .ok (.ireturn, 1) := by decide +kernel
def site : List Cond := [JO.Str_checkIndex.tab] ++ staticW "java/lang/StringLatin1" 9 JO.Str_checkIndex.yN
def tab : Cond := tabOf yN yB 2 (some .char) site
def P (t : Addr) (V : Cell) (i : Nat) (u : Int32) (fm : Value) (args : Array Value) (s : State) : Prop := args = #[.ref t, .int (Int32.ofNat i)] ∧ XT.Arr .byte t V s ∧ V.slots[i]? = some (.int u) ∧ (StaticIs s "jdk/internal/util/Preconditions" "SIOOBE_FORMATTER" "Ljava/util/function/BiFunction;" fm ∧ fm.isRef = true)
def E (u : Int32) (r : Option Value) (s w : State) : Prop := XT.PureE (some (.int (chr8 u))) r s w
theorem law (l : Launch) (t : Addr) (V : Cell) (i : Nat) (u : Int32) (fm : Value) : Law l yN 2 2 2 27 yB 2 (some .char) site (P t V i u fm) (E u) [] 0 0 := by
  refine Law.of_walk (plainFor_of_name (by decide +kernel)) (by decide +kernel) (by decide +kernel) (by decide) (fun _ _ h => by rw [h.1]; rfl) (fun _ U U' hal hh h => ⟨h.1, h.2.1.mv hal hh, h.2.2.1, h.2.2.2.1.there hal hh, h.2.2.2.2⟩) (fun r U U' V V' h1 hal h2 h => XT.PureE.mv r U U' V V' h1 hal h2 h) ?_
  intro p e s m args below meth c s₁ X0 hexec hbytes hml hret hlk hnm hown hh0 W hP
  obtain ⟨rfl, hV, hu, s1, rf⟩ := hP
  have v31 := hV.2.2.2
  have hi : i < V.slots.size := (Array.getElem?_eq_some_iff.mp hu).1
  have c1 : Steps p.tables e below (s₁.setTop (entryFrame m #[.ref t, .int (Int32.ofNat i)] 2)) (s₁.setTop (mkF m 0 #[.val (.ref t), .val (.int (Int32.ofNat i))] [])) := entry rfl
  have c2 : Steps p.tables e below (s₁.setTop (entryFrame m #[.ref t, .int (Int32.ofNat i)] 2)) (s₁.setTop (mkF m 3 #[.val (.ref t), .val (.int (Int32.ofNat i))] [.int (Int32.ofNat V.slots.size), .int (Int32.ofNat i)])) := c1.trans (by
    refine XS.iloadN X0.here hexec rfl (hb hbytes d0) rfl ?_
    refine XS.aloadN X0.here hexec rfl (hb hbytes d1) rfl rfl ?_
    refine X0.alen hexec (hV.mv X0.warmed.alike hh0) rfl rfl (hb hbytes d2) ?_
    exact Steps.refl _)
  obtain ⟨v3, T3, X3, E3, g3⟩ := X0.callS hexec (JO.Str_checkIndex.law l (Int32.ofNat i) (Int32.ofNat V.slots.size) fm) hown (wks W (staticW "java/lang/StringLatin1" 9 JO.Str_checkIndex.yN)) (wk W JO.Str_checkIndex.tab) (W := 0) (Nat.le_of_ble_eq_true rfl) (Nat.le_of_ble_eq_true rfl) (Nat.le_refl _) (Nat.le_refl _) (g := (mkF m 3 #[.val (.ref t), .val (.int (Int32.ofNat i))] [.int (Int32.ofNat V.slots.size), .int (Int32.ofNat i)])) rfl (by rw [hml]; rfl) c2 (argsL := [.int (Int32.ofNat i), .int (Int32.ofNat V.slots.size)]) (rest := []) rfl rfl (by show 2 * 0 + 0 ≤ _; decide) (hb hbytes d3) (⟨rfl, rf, s1.there X0.warmed.alike hh0, Int32.ofNat_not_neg (by omega), lt32 v31 hi⟩)
  obtain ⟨rfl, q3⟩ := E3
  have hh3 := q3.trans hh0
  have c4 : Steps p.tables e below (s₁.setTop (entryFrame m #[.ref t, .int (Int32.ofNat i)] 2)) (T3.setTop (mkF m 14 #[.val (.ref t), .val (.int (Int32.ofNat i))] [.int (chr8 u)])) := Steps.trans g3 (by
    refine XS.aloadN X3.here hexec rfl (hb hbytes d6) rfl rfl ?_
    refine XS.iloadN X3.here hexec rfl (hb hbytes d7) rfl ?_
    refine X3.aget hexec (hV.mv X3.warmed.alike hh3) rfl hu rfl rfl (hb hbytes d8) ?_
    refine sipushV X3.here hexec rfl 255 (hb hbytes d9) (by decide) ?_
    refine XS.iand X3.here hexec rfl (hb hbytes d12) rfl ?_
    refine i2c X3.here hexec rfl (hb hbytes d13) rfl ?_
    exact Steps.refl _)
  exact ⟨T3, some (.int (chr8 u)), _, _, _, X3, rfl, rfl, rfl, (fun h => by cases h), ⟨rfl, hh3⟩, fun fs hl => c4.trans (X3.ireturnOut hexec hret (narrow_c _) (Or.inr (Or.inr (Or.inr (Or.inl rfl)))) (hb hbytes d14) hl)⟩
end LChA
end StrChars
namespace StrChars.Road
open Jvm Sem ClassFile Op Lib Jvm.Stand Jvm.Free Jvm.Free.XT
open Jvm.Lib.Cold (StaticIs)
theorem consq {a : Array Value} {s : State} {c : Jvm.Cond} {L : List Jvm.Cond} (h0 : c.before a s = true) (h : ∀ w ∈ L, w.before a s = true) : ∀ w ∈ c :: L, w.before a s = true := fun w hw => (List.mem_cons.mp hw).elim (fun e => e ▸ h0) (h w)
/-- the words of String.length(), either coding -/
abbrev wordsLen : List Jvm.Cond := [.code Len.yN Len.yB 1 (some .int), .initialized ST, .fieldLink ST 9 ST "value" "[B", .fieldLink ST 38 ST "COMPACT_STRINGS" "Z", .fieldLink ST 15 ST "coder" "B", .code Cdr.yN Cdr.yB 1 (some .byte), .methodLink ST 335 Cdr.yN, .declares Cdr.yN, .selects ST Cdr.yN Cdr.yN, .instanceMethod Cdr.yN]
theorem tabLen_of {a : Array Value} {s : State} (h : ∀ w ∈ wordsLen, w.before a s = true) : Len.tab.before a s = true := by
  have hc : Cdr.tab.before a s = true := unparts (wk h (.code Cdr.yN Cdr.yB 1 (some .byte))) (wks h (.initialized Cdr.yN.cls :: Cdr.site))
  have q := consq hc h
  exact unparts (wk q (.code Len.yN Len.yB 1 (some .int))) (wks q (.initialized Len.yN.cls :: Len.site))
theorem movedLen {Z s : State} {a0 args : Array Value} (hZ : Z.Warmed39 s.vm) (hw : ∀ d ∈ wordsLen, d.before a0 Z = true) : ∀ d ∈ wordsLen, d.before args s = true := fun d hd => by
  have q := hw d hd
  have t : ∀ d ∈ wordsLen, d = .arrayClass .byte ∨ (d.onTables && d.keepsFace) = true := by decide +kernel
  rcases t d hd with rfl | t
  · exact RoadKit.mvA hZ q
  · exact RoadKit.mv hZ q t
/-- the bytes of the chars cs, low before high -/
def wideBytes : List Int32 → List Value
  | [] => []
  | c :: cs => .int (lo8 c) :: .int (hi8 c) :: wideBytes cs
theorem wide_lo (d : Value) : ∀ (cs : List Int32) (j : Nat), j < cs.length → (wideBytes cs).getD (2 * j) d = .int (lo8 (cs.getD j 0))
  | [], j, h => absurd h (Nat.not_lt_zero j)
  | c :: cs, 0, _ => rfl
  | c :: cs, j + 1, h => by
    have q := wide_lo d cs j (by simpa using h)
    rw [show 2 * (j + 1) = 2 * j + 1 + 1 from by omega]
    simpa [wideBytes] using q
theorem wide_hi (d : Value) : ∀ (cs : List Int32) (j : Nat), j < cs.length → (wideBytes cs).getD (2 * j + 1) d = .int (hi8 (cs.getD j 0))
  | [], j, h => absurd h (Nat.not_lt_zero j)
  | c :: cs, 0, _ => rfl
  | c :: cs, j + 1, h => by
    have q := wide_hi d cs j (by simpa using h)
    rw [show 2 * (j + 1) + 1 = 2 * j + 1 + 1 + 1 from by omega]
    simpa [wideBytes] using q
theorem low_at (d : Value) (cs : List Int32) (j : Nat) (h : j < cs.length) : (cs.map fun c => Value.int (lo8 c)).getD j d = .int (lo8 (cs.getD j 0)) := by
  simp [List.getD_eq_getElem?_getD, h]
/-- an array of N2 bytes vs codes the chars cs by the coder cd -/
def CodA (cs : List Int32) (cd N2 : Int32) (vs : List Value) : Prop := (cd = 0 ∧ N2 = Int32.ofNat cs.length ∧ vs = (cs.map fun c => Value.int (lo8 c)) ∧ ∀ c ∈ cs, ¬ 255 < c) ∨ (cd = 1 ∧ N2 = Int32.ofNat (2 * cs.length) ∧ vs = wideBytes cs ∧ ∃ c ∈ cs, 255 < c)
theorem CodA.cod {cs : List Int32} {cd N2 : Int32} {vs : List Value} {V : Cell} (h : CodA cs cd N2 vs) (hn : 2 * cs.length < 2 ^ 31) (hs : V.slots.size = N2.toNatClampNeg) (hv : RoadKit.Has V vs (.int 0)) : Cod cd cs.length (fun j => cs.getD j 0) V := by
  rcases h with ⟨rfl, rfl, rfl, h⟩ | ⟨rfl, rfl, rfl, c, hc, hw⟩
  · rw [n32 (by omega)] at hs
    exact Or.inl ⟨rfl, hs, fun j hj => ⟨by rw [hv j (by omega), low_at _ _ _ hj], by
      have e : cs.getD j 0 = cs[j] := by simp [List.getD_eq_getElem?_getD, hj]
      show ¬ 255 < cs.getD j 0
      rw [e]; exact h _ (List.getElem_mem _)⟩⟩
  · rw [n32 (by omega)] at hs
    obtain ⟨j, hj, rfl⟩ := List.getElem_of_mem hc
    exact Or.inr ⟨rfl, hs, fun j hj => ⟨by rw [hv _ (by omega), wide_lo _ _ _ hj], by rw [hv _ (by omega), wide_hi _ _ _ hj]⟩, j, hj, by
      have e : cs.getD j 0 = cs[j] := by simp [List.getD_eq_getElem?_getD, hj]
      show 255 < cs.getD j 0
      rw [e]; exact hw⟩
/-- an object of exactly java/lang/String, its two fields found: as the laws ask it -/
theorem strObj {Z U : State} {a0 : Array Value} {kI : Nat} (wi : (Jvm.Cond.instantiable ST kI).before a0 Z = true) (al : Z.vm.Alike U.vm) {x : Addr} {v0 c0 : Value} (E : RoadKit.Exa Z U.heap x ST) (V : RoadKit.Fld Z U.heap x ST "value" "[B" v0) (C : RoadKit.Fld Z U.heap x ST "coder" "B" c0) :
    ∃ (D : Cell) (fV fC : Field), Blank ST x D U ∧ Found ST "value" "[B" fV U ∧ Found ST "coder" "B" fC U ∧ D.slots[fV.slot]? = some v0 ∧ D.slots[fC.slot]? = some c0 ∧ RoadKit.slotOf Z ST "value" "[B" = fV.slot ∧ RoadKit.slotOf Z ST "coder" "B" = fC.slot := by
  obtain ⟨D, cfV, kV, iV, fV, hD, gV, stV, knV, obV, asV, slV⟩ := V
  obtain ⟨D', cfC, kC, iC, fC, hD', gC, stC, -, -, asC, slC⟩ := C
  cases hD.symm.trans hD'
  obtain ⟨D2, kD, e1, e2, e3, e4, e5⟩ := E
  cases hD.symm.trans e1
  obtain ⟨c2, k2, i1, i2, i3, -⟩ := Cond.instantiable_spec wi
  cases e2.symm.trans i1
  cases e3.symm.trans i2
  obtain ⟨kU, u1, u2⟩ := al.2.2 _ _ e3
  exact ⟨D, fV, fC, ⟨hD, ⟨knV, fun q hq => by rw [hq] at obV; cases obV⟩, by rw [al.findClass]; exact e2, kU, u1, by rw [u2]; exact i3, by rw [u2]; exact e5 i3⟩, ⟨SBG.found_only al ⟨cfV, kV, iV, gV⟩, stV⟩, ⟨SBG.found_only al ⟨cfC, kC, iC, gC⟩, stC⟩, slV, slC, by simp [RoadKit.slotOf, gV], by simp [RoadKit.slotOf, gC]⟩
theorem sta_is {Z U : State} (al : Z.vm.Alike U.vm) {C n d : String} {v : Value} (S : RoadKit.Sta Z U.heap C n d v) : StaticIs U C n d v := by
  obtain ⟨cfS, iS, kS, fS, st, cS, t1, t2, t3, t4, t5, t6, t7⟩ := S
  exact StaticIs.there (s := { Z with heap := U.heap }) ⟨cfS, iS, kS, fS, st, cS, t1, t2, t3, t4, t5, (fun q => by rw [q] at t6; cases t6), t7⟩ al rfl
/-- **length() OF SUCH A STRING** -/
theorem lenW {p : Program} {l : Launch} {e : Env} {R : Room} {s : State} {args : Array Value} {below : List Frame} {len W : Nat} {Z : State} {a0 : Array Value} {h : Heap} (hZ : Z.Warmed39 s.vm) (hw : ∀ d ∈ wordsLen, d.before a0 Z = true) {kI : Nat} (wi : (Jvm.Cond.instantiable ST kI).before a0 Z = true)
    {x t : Addr} {kb : ClassId} {cs : List Int32} {cd N2 z : Int32} {vs : List Value} (E : RoadKit.Exa Z h x ST) (V : RoadKit.Fld Z h x ST "value" "[B" (.ref t)) (C : RoadKit.Fld Z h x ST "coder" "B" (.int cd)) (K : RoadKit.Arv Z h t kb .byte N2 vs (.int 0)) (hc : CodA cs cd N2 vs) (hb : ∀ c ∈ cs, ¬ c < 0 ∧ ¬ (65535 : Int32) < c)
    (S : RoadKit.Sta Z h ST "COMPACT_STRINGS" "Z" (.int z)) (hz : ¬ z = 0) (l2 : cs.length ≤ 4000) (hfr : 2 ≤ R.frames) (hlo : W + 25 ≤ R.locals) :
    Back l R p e below s args (⟨"java/lang/String", "length", "()I"⟩ : MethodName) len W (fun P a => a = #[.ref x] ∧ P.U.heap = h ∧ P.cells + 0 ≤ R.cells ∧ P.slots + 0 ≤ R.slots)
      (fun P _ v B => ∃ L, (v = some (.int (Int32.ofNat cs.length)) ∧ L = [] ∧ B.U.heap = h) ∧ B.locs = P.locs ++ L ∧ B.cells = P.cells + 0 ∧ B.slots = P.slots + 0) := by
  obtain ⟨A, K1, K2, K3, K4, K5, K6⟩ := K
  have hcod := hc.cod (by omega) K3 K5
  intro m meth c P g ig mk a X hg hsize hdg hW hn hp'
  obtain ⟨rfl, rfl, r1, r2⟩ := hp'
  have al : Z.vm.Alike P.U.vm := hZ.alike.trans X.warmed.alike
  obtain ⟨D, fV, fC, hB, F1, F2, g1, g2, -, -⟩ := strObj wi al E V C
  have hx : Txt x t A cd cs.length (fun j => cs.getD j 0) P.U := ⟨⟨_, hB.2.2.1, D, hB.1, rfl, by cases q : D.vm <;> first | rfl | exact absurd q (hB.2.1.2 _)⟩, Has.of hB F1 g1, Has.of hB F2 g2, ⟨K1.1, State.isArrayOf_alike al K1.2.1, K1.2.2, by rcases hcod with ⟨-, q, -⟩ | ⟨-, q, -⟩ <;> omega⟩, hcod, fun j hj => by
    have e : cs.getD j 0 = cs[j] := by simp [List.getD_eq_getElem?_getD, hj]
    show ¬ cs.getD j 0 < 0 ∧ ¬ 65535 < cs.getD j 0
    rw [e]; exact hb _ (List.getElem_mem _)⟩
  obtain ⟨v, B, X', ⟨⟨hv, hh⟩, hl, hk, hs⟩, st⟩ := Len.pays x t A cd cs.length (fun j => cs.getD j 0) z (tabLen_of (movedLen hZ hw)) hfr hlo m meth c P g ig mk _ X hg hsize hdg hW hn ⟨r1, r2, rfl, hx, sta_is al S, hz⟩
  exact ⟨v, B, X', ⟨[], ⟨hv, rfl, hh⟩, hl, hk, hs⟩, st⟩
end StrChars.Road
namespace StrChars.Road
open Jvm Sem ClassFile Op Lib Jvm.Stand Jvm.Free Jvm.Free.XT
open Jvm.Lib.Cold (StaticIs)
/-- the road's facts of a String, as the laws ask it -/
theorem txt_of {Z U : State} {a0 : Array Value} {kI : Nat} (wi : (Jvm.Cond.instantiable ST kI).before a0 Z = true) (al : Z.vm.Alike U.vm) {x t : Addr} {kb : ClassId} {cs : List Int32} {cd N2 : Int32} {vs : List Value} (E : RoadKit.Exa Z U.heap x ST) (V : RoadKit.Fld Z U.heap x ST "value" "[B" (.ref t)) (C : RoadKit.Fld Z U.heap x ST "coder" "B" (.int cd)) (K : RoadKit.Arv Z U.heap t kb .byte N2 vs (.int 0)) (hc : CodA cs cd N2 vs) (hb : ∀ c ∈ cs, ¬ c < 0 ∧ ¬ (65535 : Int32) < c) (l2 : cs.length ≤ 4000) :
    ∃ A, Txt x t A cd cs.length (fun j => cs.getD j 0) U := by
  obtain ⟨A, K1, K2, K3, K4, K5, K6⟩ := K
  have hcod := hc.cod (by omega) K3 K5
  obtain ⟨D, fV, fC, hB, F1, F2, g1, g2, -, -⟩ := strObj wi al E V C
  exact ⟨A, ⟨_, hB.2.2.1, D, hB.1, rfl, by cases q : D.vm <;> first | rfl | exact absurd q (hB.2.1.2 _)⟩, Has.of hB F1 g1, Has.of hB F2 g2, ⟨K1.1, State.isArrayOf_alike al K1.2.1, K1.2.2, by rcases hcod with ⟨-, q, -⟩ | ⟨-, q, -⟩ <;> omega⟩, hcod, fun j hj => by
    have e : cs.getD j 0 = cs[j] := by simp [List.getD_eq_getElem?_getD, hj]
    show ¬ cs.getD j 0 < 0 ∧ ¬ 65535 < cs.getD j 0
    rw [e]; exact hb _ (List.getElem_mem _)⟩
end StrChars.Road
namespace StrChars
open Jvm Sem ClassFile Op Lib Jvm.Stand Jvm.Free.XT Jvm.Free.ALB Jvm.Free.JM Jvm.Free
open Jvm.Lib.Cold (StaticIs)
namespace ChN
def yN : MethodName := ⟨"java/lang/String", "charAt", "(I)C"⟩
abbrev yB : ByteArray := jdk_42_method_56_code
theorem d0 : decode yB 0 = .ok (.aload_n 0, 1) := by decide +kernel
theorem d1 : decode yB 1 = .ok (.invokevirtual 492, 3) := by decide +kernel
theorem d4 : decode yB 4 = .ok (.ifCond (.eq) 12, 3) := by decide +kernel
theorem d7 : decode yB 7 = .ok (.aload_n 0, 1) := by decide +kernel
theorem d8 : decode yB 8 = .ok (.getfield 9, 3) := by decide +kernel
theorem d11 : decode yB 11 = .ok (.iload_n 1, 1) := by decide +kernel
theorem d12 : decode yB 12 = .ok (.invokestatic 495, 3) := by decide +kernel
theorem d15 : decode yB 15 = .ok (.ireturn, 1) := by decide +kernel
def site : List Cond := [.fieldLink "java/lang/String" 9 "java/lang/String" "value" "[B", IsL.tab, LChA.tab] ++ virtW "java/lang/String" 492 "java/lang/String" IsL.yN IsL.yN ++ staticW "java/lang/String" 495 LChA.yN
def tab : Cond := tabOf yN yB 2 (some .char) site
def P (x t : Addr) (V : Cell) (n : Nat) (f : Nat → Int32) (z : Int32) (fm : Value) (i : Nat) (args : Array Value) (s : State) : Prop := args = #[.ref x, .int (Int32.ofNat i)] ∧ Txt x t V 0 n f s ∧ i < n ∧ StaticIs s "java/lang/String" "COMPACT_STRINGS" "Z" (.int z) ∧ ¬ z = 0 ∧ StaticIs s "jdk/internal/util/Preconditions" "SIOOBE_FORMATTER" "Ljava/util/function/BiFunction;" fm ∧ fm.isRef = true
def E (f : Nat → Int32) (i : Nat) (r : Option Value) (s u : State) : Prop := XT.PureE (some (.int (f i))) r s u
/-- charAt(i) of a Latin-1 String of n chars, i < n: f i -/
theorem law (l : Launch) (x t : Addr) (V : Cell) (n : Nat) (f : Nat → Int32) (z : Int32) (fm : Value) (i : Nat) : Law l yN 2 1 3 40 yB 2 (some .char) site (P x t V n f z fm i) (E f i) [] 0 0 := by
  refine Law.of_walk (plainFor_of_name (by decide +kernel)) (by decide +kernel) (by decide +kernel) (by decide) (fun _ _ h => by rw [h.1]; rfl) (fun _ U U' hal hh h => ⟨h.1, h.2.1.mv hal hh, h.2.2.1, h.2.2.2.1.there hal hh, h.2.2.2.2.1, h.2.2.2.2.2.1.there hal hh, h.2.2.2.2.2.2⟩) (fun r U U' V V' h1 hal h2 h => XT.PureE.mv r U U' V V' h1 hal h2 h) ?_
  intro p e s m args below meth c s₁ X0 hexec hbytes hml hret hlk hnm hown hh0 W hP
  obtain ⟨rfl, hx, hi, s1, hz, s3, rf⟩ := hP
  have v31 := hx.2.2.2.1.2.2.2
  have hr := hx.2.2.2.2.2 i hi
  have hx0 := hx.mv X0.warmed.alike hh0
  have c1 : Steps p.tables e below (s₁.setTop (entryFrame m #[.ref x, .int (Int32.ofNat i)] 2)) (s₁.setTop (mkF m 1 #[.val (.ref x), .val (.int (Int32.ofNat i))] [.ref x])) := Steps.trans (entry rfl) (by
    show Steps p.tables e below (s₁.setTop (mkF m 0 #[.val (.ref x), .val (.int (Int32.ofNat i))] [])) _
    refine XS.aloadN X0.here hexec rfl (hb hbytes d0) rfl rfl ?_
    exact Steps.refl _)
  obtain ⟨v2, T2, X2, E2, g2⟩ := X0.callV hexec (IsL.law l x 0 z) hown (wks W (virtW "java/lang/String" 492 "java/lang/String" IsL.yN IsL.yN)) rfl (by decide) (wk W IsL.tab) (W := 0) (Nat.le_of_ble_eq_true rfl) (Nat.le_of_ble_eq_true rfl) (Nat.le_refl _) (Nat.le_refl _) (hx0.1.fc X0.warmed.alike) hx0.1.is (g := (mkF m 1 #[.val (.ref x), .val (.int (Int32.ofNat i))] [.ref x])) rfl (by rw [hml]; rfl) c1 (argsL := []) (rest := []) rfl rfl (by show 2 * 0 + 0 ≤ _; decide) (hb hbytes d1) (⟨rfl, hx0.2.2.1, hx.2.2.2.2.1.cd, s1.there X0.warmed.alike hh0, hz⟩)
  obtain ⟨rfl, q2⟩ := E2
  have hh2 := q2.trans hh0
  have hx2 := hx.mv X2.warmed.alike hh2
  obtain ⟨-, k1, k2⟩ | ⟨k0, -⟩ := hx.2.2.2.2.1
  · have c3 : Steps p.tables e below (s₁.setTop (entryFrame m #[.ref x, .int (Int32.ofNat i)] 2)) (T2.setTop (mkF m 8 #[.val (.ref x), .val (.int (Int32.ofNat i))] [.ref x])) := Steps.trans g2 (by
      refine XS.ifNo X2.here hexec rfl (hb hbytes d4) rfl (i0_eq_f (by decide)) ?_
      refine XS.aloadN X2.here hexec rfl (hb hbytes d7) rfl rfl ?_
      exact Steps.refl _)
    obtain ⟨T4, X4, q4, st4⟩ := X2.hget hexec hown (wk W (.fieldLink "java/lang/String" 9 "java/lang/String" "value" "[B")) hx2.2.1 (g := (mkF m 8 #[.val (.ref x), .val (.int (Int32.ofNat i))] [.ref x])) rfl (rest := []) rfl (hb hbytes d8)
    have hh4 := q4.trans hh2
    have c5 : Steps p.tables e below (s₁.setTop (entryFrame m #[.ref x, .int (Int32.ofNat i)] 2)) (T4.setTop (mkF m 12 #[.val (.ref x), .val (.int (Int32.ofNat i))] [.int (Int32.ofNat i), .ref t])) := (c3.trans (st4 _ (Steps.refl _))).trans (by
      refine XS.iloadN X4.here hexec rfl (hb hbytes d11) rfl ?_
      exact Steps.refl _)
    obtain ⟨v6, T6, X6, E6, g6⟩ := X4.callS hexec (LChA.law l t V i (lo8 (f i)) fm) hown (wks W (staticW "java/lang/String" 495 LChA.yN)) (wk W LChA.tab) (W := 0) (Nat.le_of_ble_eq_true rfl) (Nat.le_of_ble_eq_true rfl) (Nat.le_refl _) (Nat.le_refl _) (g := (mkF m 12 #[.val (.ref x), .val (.int (Int32.ofNat i))] [.int (Int32.ofNat i), .ref t])) rfl (by rw [hml]; rfl) c5 (argsL := [.ref t, .int (Int32.ofNat i)]) (rest := []) rfl rfl (by show 2 * 0 + 0 ≤ _; decide) (hb hbytes d12) (⟨rfl, hx.2.2.2.1.mv X4.warmed.alike hh4, (k2 i hi).1, s3.there X4.warmed.alike hh4, rf⟩)
    obtain ⟨rfl, q6⟩ := E6
    rw [chr8_lo8 hr.1 (k2 i hi).2] at g6
    exact ⟨T6, some (.int (f i)), _, _, _, X6, rfl, rfl, rfl, (fun h => by cases h), ⟨rfl, q6.trans hh4⟩, fun fs hl => Steps.trans g6 (X6.ireturnOut hexec hret (narrow_ch hr.1 hr.2) (Or.inr (Or.inr (Or.inr (Or.inl rfl)))) (hb hbytes d15) hl)⟩
  · exact absurd k0 (by decide)
theorem pays {l : Launch} {R : Room} {p : Program} {e : Env} {below : List Frame} {s : State} {sargs : Array Value} {len W : Nat} (x t : Addr) (V : Cell) (n : Nat) (f : Nat → Int32) (z : Int32) (fm : Value) (i : Nat) (htab : tab.before sargs s = true) (hfr : 4 ≤ R.frames) (hlo : W + 53 ≤ R.locals) :
    Back l R p e below s sargs yN len W (fun A₁ a₁ => A₁.cells + 0 ≤ R.cells ∧ A₁.slots + 0 ≤ R.slots ∧ P x t V n f z fm i a₁ A₁.U) (fun A₁ _ v₁ B₁ => E f i v₁ A₁.U B₁.U ∧ B₁.locs = A₁.locs ++ [] ∧ B₁.cells = A₁.cells + 0 ∧ B₁.slots = A₁.slots + 0) :=
  (law l x t V n f z fm i).pays htab hfr (by omega)
end ChN
end StrChars
namespace StrChars.Road
open Jvm Sem ClassFile Op Lib Jvm.Stand Jvm.Free Jvm.Free.XT
open Jvm.Lib.Cold (StaticIs)
/-- the words of String.charAt(int), the Latin-1 road alone -/
abbrev wordsChN : List Jvm.Cond := [.code ChN.yN ChN.yB 2 (some .char), .initialized ST, .fieldLink ST 9 ST "value" "[B", .fieldLink ST 38 ST "COMPACT_STRINGS" "Z", .fieldLink ST 15 ST "coder" "B", .code IsL.yN IsL.yB 1 (some .boolean), .methodLink ST 492 IsL.yN, .declares IsL.yN, .selects ST IsL.yN IsL.yN, .instanceMethod IsL.yN,
  .methodLink ST 495 LChA.yN, .static LChA.yN, .code LChA.yN LChA.yB 2 (some .char), .initialized "java/lang/StringLatin1", .methodLink "java/lang/StringLatin1" 9 JO.Str_checkIndex.yN, .static JO.Str_checkIndex.yN, .code JO.Str_checkIndex.yN JO.Str_checkIndex.yB 2 none,
  .fieldLink ST 1053 "jdk/internal/util/Preconditions" "SIOOBE_FORMATTER" "Ljava/util/function/BiFunction;", .methodLink ST 1059 JC.PreCheck.yN, .static JC.PreCheck.yN, .code JC.PreCheck.yN JC.PreCheck.yB 3 (some .int), .initialized "jdk/internal/util/Preconditions"]
theorem tabChN_of {a : Array Value} {s : State} (h : ∀ w ∈ wordsChN, w.before a s = true) : ChN.tab.before a s = true := by
  have hp : JC.PreCheck.tab.before a s = true := unparts (wk h (.code JC.PreCheck.yN JC.PreCheck.yB 3 (some .int))) (wks h (.initialized JC.PreCheck.yN.cls :: JC.PreCheck.site))
  have qk := consq hp h
  have hk : JO.Str_checkIndex.tab.before a s = true := unparts (wk qk (.code JO.Str_checkIndex.yN JO.Str_checkIndex.yB 2 none)) (wks qk (.initialized JO.Str_checkIndex.yN.cls :: JO.Str_checkIndex.site))
  have ql := consq hk h
  have hl : LChA.tab.before a s = true := unparts (wk ql (.code LChA.yN LChA.yB 2 (some .char))) (wks ql (.initialized LChA.yN.cls :: LChA.site))
  have hi : IsL.tab.before a s = true := unparts (wk h (.code IsL.yN IsL.yB 1 (some .boolean))) (wks h (.initialized IsL.yN.cls :: IsL.site))
  have q := consq hi (consq hl h)
  exact unparts (wk q (.code ChN.yN ChN.yB 2 (some .char))) (wks q (.initialized ChN.yN.cls :: ChN.site))
theorem movedChN {Z s : State} {a0 args : Array Value} (hZ : Z.Warmed39 s.vm) (hw : ∀ d ∈ wordsChN, d.before a0 Z = true) : ∀ d ∈ wordsChN, d.before args s = true := fun d hd => by
  have t : ∀ d ∈ wordsChN, (d.onTables && d.keepsFace) = true := by decide +kernel
  exact RoadKit.mv hZ (hw d hd) (t d hd)
/-- **charAt(i) OF A LATIN-1 STRING**, i < n: the char -/
theorem chN {p : Program} {l : Launch} {e : Env} {R : Room} {s : State} {args : Array Value} {below : List Frame} {len W : Nat} {Z : State} {a0 : Array Value} {h : Heap} (hZ : Z.Warmed39 s.vm) (hw : ∀ d ∈ wordsChN, d.before a0 Z = true) {kI : Nat} (wi : (Jvm.Cond.instantiable ST kI).before a0 Z = true)
    {x t : Addr} {kb : ClassId} {cs : List Int32} {N2 z : Int32} {vs : List Value} {fm : Value} {i : Nat} {j : Int32} (E : RoadKit.Exa Z h x ST) (V : RoadKit.Fld Z h x ST "value" "[B" (.ref t)) (C : RoadKit.Fld Z h x ST "coder" "B" (.int 0)) (K : RoadKit.Arv Z h t kb .byte N2 vs (.int 0)) (hc : CodA cs 0 N2 vs) (hb : ∀ c ∈ cs, ¬ c < 0 ∧ ¬ (65535 : Int32) < c)
    (S : RoadKit.Sta Z h ST "COMPACT_STRINGS" "Z" (.int z)) (hz : ¬ z = 0) (F : RoadKit.Sta Z h "jdk/internal/util/Preconditions" "SIOOBE_FORMATTER" "Ljava/util/function/BiFunction;" fm) (rf : fm.isRef = true) (l2 : cs.length ≤ 4000) (hi : i < cs.length) (hj : j = Int32.ofNat i) (hfr : 4 ≤ R.frames) (hlo : W + 53 ≤ R.locals) :
    Back l R p e below s args (⟨"java/lang/String", "charAt", "(I)C"⟩ : MethodName) len W (fun P a => a = #[.ref x, .int j] ∧ P.U.heap = h ∧ P.cells + 0 ≤ R.cells ∧ P.slots + 0 ≤ R.slots)
      (fun P _ v B => ∃ L, (v = some (.int (cs.getD i 0)) ∧ L = [] ∧ B.U.heap = h) ∧ B.locs = P.locs ++ L ∧ B.cells = P.cells + 0 ∧ B.slots = P.slots + 0) := by
  subst hj
  intro m meth c P g ig mk a X hg hsize hdg hW hn hp'
  obtain ⟨rfl, rfl, r1, r2⟩ := hp'
  have al : Z.vm.Alike P.U.vm := hZ.alike.trans X.warmed.alike
  obtain ⟨A, hx⟩ := txt_of wi al E V C K hc hb l2
  obtain ⟨v, B, X', ⟨⟨hv, hh⟩, hl, hk, hs⟩, st⟩ := ChN.pays x t A cs.length (fun j => cs.getD j 0) z fm i (tabChN_of (movedChN hZ hw)) hfr hlo m meth c P g ig mk _ X hg hsize hdg hW hn ⟨r1, r2, rfl, hx, hi, sta_is al S, hz, sta_is al F, rf⟩
  exact ⟨v, B, X', ⟨[], ⟨hv, rfl, hh⟩, hl, hk, hs⟩, st⟩
/-- what backV says of its String, as the contracts of this text ask it: cs's low bytes, coder 0 -/
theorem codOf {cs : List Int32} {n : Nat} (hn : cs.length = n) (hb : ∀ c ∈ cs, ¬ 255 < c) : CodA cs 0 (Int32.ofNat n) ((cs.map lo8).map Value.int) := Or.inl ⟨rfl, by rw [hn], by simp [List.map_map, Function.comp_def], hb⟩
end StrChars.Road
end Jvm.Pilot.@@N@@
namespace Jvm.Pilot.@@N@@
open Jvm Jvm.ClassFile Sem Op Lib Jvm.Free Jvm.Stand Jvm.LawKit Jvm.RoadKit Bundle Jvm.Pilot.@@N@@.Jvm.D
/-- a byte as a char: 0 to 255 -/
def own_B (x : Int32) : Prop := ∃ k : Fin 256, x = Int32.ofNat k.val
theorem own_B.lit (k : Fin 256) : own_B (Int32.ofNat k.val) := ⟨k, rfl⟩
theorem own_B.rng {x : Int32} (h : own_B x) : ¬ x < 0 ∧ ¬ (255 : Int32) < x := by
  obtain ⟨k, rfl⟩ := h
  have t : ∀ k : Fin 256, ¬ (Int32.ofNat k.val) < 0 ∧ ¬ (255 : Int32) < (Int32.ofNat k.val) := by decide +kernel
  exact t k
theorem own_B.rng2 {x : Int32} (h : own_B x) : ¬ x < 0 ∧ ¬ (65535 : Int32) < x := by
  obtain ⟨k, rfl⟩ := h
  have t : ∀ k : Fin 256, ¬ (Int32.ofNat k.val) < 0 ∧ ¬ (65535 : Int32) < (Int32.ofNat k.val) := by decide +kernel
  exact t k
theorem own_B.nar {x : Int32} (h : own_B x) : nar .char x = x := by
  obtain ⟨k, rfl⟩ := h
  have t : ∀ k : Fin 256, Jvm.RoadKit.nar .char (Int32.ofNat k.val) = Int32.ofNat k.val := by decide +kernel
  exact t k
theorem own_and255 (x : Int32) : own_B (x &&& (255 : Int32)) := by
  have h : (x &&& 255).toBitVec.toNat < 256 := by
    simp only [Int32.toBitVec_and, BitVec.toNat_and]
    exact Nat.lt_succ_of_le Nat.and_le_right
  refine ⟨⟨_, h⟩, ?_⟩
  apply Int32.toBitVec_inj.mp
  apply BitVec.eq_of_toNat_eq
  simp only [Int32.toBitVec_ofNat', BitVec.toNat_ofNat]
  rw [Nat.mod_eq_of_lt (Nat.lt_of_lt_of_le h (by decide))]
theorem own_i2c {x : Int32} (h : own_B x) : x.toUInt32.toUInt16.toUInt32.toInt32 = x := h.nar
theorem own_bI (x : Int32) : ∃ c : Int32, own_B c ∧ ((x &&& (255 : Int32)).toUInt32.toUInt16.toUInt32.toInt32) = c := ⟨_, by rw [own_i2c (own_and255 x)]; exact own_and255 x, rfl⟩
theorem own_ofInt {x : Int32} {n : Nat} (h : x.toInt = (n : Int)) : x = Int32.ofNat n := by
  have : x = Int32.ofInt x.toInt := (Int32.ofInt_toInt x).symm
  rw [this, h]; rfl
theorem own_bL (x : Int64) : ∃ c : Int32, own_B c ∧ (((x &&& (255 : Int64)).toInt32).toUInt32.toUInt16.toUInt32.toInt32) = c := by
  have h1 := c_maskL x 255 8 (by decide) rfl
  have h2 : 0 ≤ (x &&& 255).toInt := by rw [h1]; exact Int.emod_nonneg _ (by decide)
  have h3 : (x &&& 255).toInt < 256 := by rw [h1]; exact Int.emod_lt_of_pos _ (by decide)
  have h4 : ((x &&& 255).toInt32).toInt = ((x &&& 255).toInt.toNat : Int) := by
    rw [Int64.toInt_toInt32, Int.toNat_of_nonneg h2, Int.bmod_eq_of_le (by omega) (by omega)]
  have h5 := own_ofInt h4
  have hB : own_B ((x &&& (255 : Int64)).toInt32) := ⟨⟨(x &&& 255).toInt.toNat, by omega⟩, h5⟩
  exact ⟨_, by rw [own_i2c hB]; exact hB, rfl⟩
theorem own_rem (x : Int32) (d : Nat) (h0 : 0 < d) (hd : (Int32.ofNat d).toInt = (d : Int)) : ∃ j : Fin d, ((x &&& (2147483647 : Int32)) % (Int32.ofNat d)) = Int32.ofNat j.val := by
  have h1 := (c_and x 2147483647 (by decide)).1
  have h2 := (c_irem (x &&& 2147483647) (Int32.ofNat d) d hd).1 h1
  have h3 : 0 ≤ (x &&& 2147483647).toInt % (d : Int) := Int.emod_nonneg _ (by omega)
  have h4 : (x &&& 2147483647).toInt % (d : Int) < (d : Int) := Int.emod_lt_of_pos _ (by omega)
  refine ⟨⟨((x &&& 2147483647).toInt % (d : Int)).toNat, by omega⟩, own_ofInt ?_⟩
  rw [h2]; exact (Int.toNat_of_nonneg h3).symm
/-- a Bool as the machine's int -/
def own_i (b : Bool) : Int32 := if b then 1 else 0
theorem own_i0 (b : Bool) : own_i b = (0 : Int32) ↔ b = false := by cases b <;> decide
theorem own_iT {b : Bool} (h : b = true) : ¬ (own_i b = (0 : Int32)) := by subst h; decide
theorem own_iF {b : Bool} (h : b = false) : own_i b = (0 : Int32) := by subst h; rfl
theorem own_inar (b : Bool) : nar .boolean (own_i b) = own_i b := by cases b <;> decide
theorem own_getD (cs : List Int32) (n : Nat) : (cs.map Value.int).getD n (.int 0) = .int (cs.getD n 0) := by
  simp only [List.getD_eq_getElem?_getD, List.getElem?_map]
  cases cs[n]? <;> rfl
theorem own_lt32 {i n : Nat} (hi : i < 2147483648) (hn : n < 2147483648) : (Int32.ofNat i < Int32.ofNat n) ↔ i < n := by
  rw [Int32.lt_iff_toInt_lt, Int32.toInt_ofNat_of_lt hi, Int32.toInt_ofNat_of_lt hn]; omega
theorem own_succ (i : Nat) : Int32.ofNat i + (1 : Int32) = Int32.ofNat (i + 1) := by
  rw [Int32.ofNat_add]; rfl
theorem own_nil : ∀ c ∈ ([] : List Int32), own_B c := fun _ h => nomatch h
theorem own_cons {a : Int32} {l : List Int32} (h : own_B a) (t : ∀ c ∈ l, own_B c) : ∀ c ∈ a :: l, own_B c := fun c hc => (List.mem_cons.mp hc).elim (fun e => e ▸ h) (t c)
theorem own_Bl (k : Nat) (h : k < 256) : own_B (Int32.ofNat k) := ⟨⟨k, h⟩, rfl⟩
def own_dig (c : Int32) : Bool := decide (¬ c < (48 : Int32)) && decide (¬ (57 : Int32) < c)
def own_sep (c : Int32) : Bool := decide (c = (46 : Int32)) || decide (c = (95 : Int32))
/-- Version.end's loop over which places hold a digit (d) and which a separator (q) -/
def own_endG (d q : Nat → Bool) : Nat → Nat → Int32 → Int32
  | 0, _, e => e
  | k + 1, i, e => if d i then own_endG d q k (i + 1) (Int32.ofNat i + (1 : Int32)) else if e = Int32.ofNat i ∧ q i = true then own_endG d q k (i + 1) e else e
def own_end (cs : List Int32) : Nat → Nat → Int32 → Int32 := own_endG (fun i => own_dig (cs.getD i 0)) (fun i => own_sep (cs.getD i 0))
def own_digG (d : Nat → Bool) (i : Int32) : Bool := decide (¬ i < 0) && decide (i < (6 : Int32)) && d i.toNatClampNeg
def own_digA (cs : List Int32) (i : Int32) : Bool := own_digG (fun i => own_dig (cs.getD i 0)) i
def own_sepA (cs : List Int32) (i : Int32) : Bool := own_digG (fun i => own_sep (cs.getD i 0)) i
def own_fitG (d q : Nat → Bool) (i f r : Int32) : Bool := decide (i < f) || decide (¬ i < r) || own_digG d i || (own_digG q i && own_digG d (i - (1 : Int32)) && own_digG d (i + (1 : Int32)))
def own_fit (cs : List Int32) (i f r : Int32) : Bool := own_fitG (fun i => own_dig (cs.getD i 0)) (fun i => own_sep (cs.getD i 0)) i f r
theorem own_fit_eq (cs : List Int32) (i f r : Int32) : own_fit cs i f r = (decide (i < f) || decide (¬ i < r) || own_digA cs i || (own_sepA cs i && own_digA cs (i - (1 : Int32)) && own_digA cs (i + (1 : Int32)))) := rfl
theorem own_d46 : own_dig (46 : Int32) = false := by decide
theorem own_d95 : own_dig (95 : Int32) = false := by decide
def own_at (cs : List Int32) (i : Int32) : Int32 := cs.getD i.toNatClampNeg 0
def own_atN (cs : List Int32) (i : Nat) : Int32 := cs.getD i 0
theorem own_digA_eq (cs : List Int32) (i : Int32) : own_digA cs i = (decide (¬ i < 0) && decide (i < (6 : Int32)) && own_dig (own_at cs i)) := rfl
theorem own_sepA_eq (cs : List Int32) (i : Int32) : own_sepA cs i = (decide (¬ i < 0) && decide (i < (6 : Int32)) && own_sep (own_at cs i)) := rfl
theorem own_end_succ (cs : List Int32) (k i : Nat) (e : Int32) : own_end cs (k + 1) i e = if own_dig (own_atN cs i) then own_end cs k (i + 1) (Int32.ofNat i + (1 : Int32)) else if e = Int32.ofNat i ∧ own_sep (own_atN cs i) = true then own_end cs k (i + 1) e else e := rfl
def own_goodG (d q : Nat → Bool) (j : Nat) : Bool :=
  let r := own_endG d q (6 - j) j (-1)
  let f := Int32.ofNat j
  if own_digG d f then decide (f < r) && decide (¬ (6 : Int32) < r) && own_digG d (r - (1 : Int32)) && own_fitG d q 0 f r && own_fitG d q 1 f r && own_fitG d q 2 f r && own_fitG d q 3 f r && own_fitG d q 4 f r && own_fitG d q 5 f r && !own_digG d r && !(own_digG q r && own_digG d (r + (1 : Int32)))
  else decide (r = (-1 : Int32))
def own_kd (ks : List (Fin 3)) (v : Fin 3) (i : Nat) : Bool := decide (ks.getD i 2 = v)
set_option maxRecDepth 65536 in
theorem own_good3 : ∀ k0 k1 k2 k3 k4 k5 : Fin 3, ∀ j : Fin 8, own_goodG (own_kd [k0, k1, k2, k3, k4, k5] 0) (own_kd [k0, k1, k2, k3, k4, k5] 1) j.val = true := by decide +kernel
def own_cl (c : Int32) : Fin 3 := if own_dig c then 0 else if own_sep c then 1 else 2
theorem own_cl0 (c : Int32) : decide (own_cl c = 0) = own_dig c := by unfold own_cl; cases own_dig c <;> cases own_sep c <;> rfl
theorem own_ds (c : Int32) (h : own_sep c = true) : own_dig c = false := by
  simp only [own_sep, Bool.or_eq_true, decide_eq_true_eq] at h
  rcases h with rfl | rfl <;> decide
theorem own_cl1 (c : Int32) : decide (own_cl c = 1) = own_sep c := by
  unfold own_cl
  cases h : own_sep c
  · cases own_dig c <;> rfl
  · rw [own_ds c h]; rfl
theorem own_kdig (cs : List Int32) (i : Nat) : own_kd (cs.map own_cl) 0 i = own_dig (cs.getD i 0) := by
  unfold own_kd
  rw [← own_cl0]
  simp only [List.getD_eq_getElem?_getD, List.getElem?_map]
  cases cs[i]? <;> rfl
theorem own_ksep (cs : List Int32) (i : Nat) : own_kd (cs.map own_cl) 1 i = own_sep (cs.getD i 0) := by
  unfold own_kd
  rw [← own_cl1]
  simp only [List.getD_eq_getElem?_getD, List.getElem?_map]
  cases cs[i]? <;> rfl
theorem own_good (c0 c1 c2 c3 c4 c5 : Int32) (j : Fin 8) : own_goodG (fun i => own_dig ([c0, c1, c2, c3, c4, c5].getD i 0)) (fun i => own_sep ([c0, c1, c2, c3, c4, c5].getD i 0)) j.val = true := by
  have h := own_good3 (own_cl c0) (own_cl c1) (own_cl c2) (own_cl c3) (own_cl c4) (own_cl c5) j
  have e1 : own_kd [own_cl c0, own_cl c1, own_cl c2, own_cl c3, own_cl c4, own_cl c5] 0 = fun i => own_dig ([c0, c1, c2, c3, c4, c5].getD i 0) := funext fun i => own_kdig [c0, c1, c2, c3, c4, c5] i
  have e2 : own_kd [own_cl c0, own_cl c1, own_cl c2, own_cl c3, own_cl c4, own_cl c5] 1 = fun i => own_sep ([c0, c1, c2, c3, c4, c5].getD i 0) := funext fun i => own_ksep [c0, c1, c2, c3, c4, c5] i
  rw [e1, e2] at h
  exact h
theorem own_no (c0 c1 c2 c3 c4 c5 : Int32) (j : Fin 8) (h : own_digA [c0, c1, c2, c3, c4, c5] (Int32.ofNat j.val) = false) : own_end [c0, c1, c2, c3, c4, c5] (6 - j.val) j.val (-1) = (-1 : Int32) := by
  have g := own_good c0 c1 c2 c3 c4 c5 j
  unfold own_goodG at g
  unfold own_digA at h
  simp only [h, Bool.false_eq_true, if_false, decide_eq_true_eq] at g
  exact g
theorem own_yes (c0 c1 c2 c3 c4 c5 : Int32) (j : Fin 8) (h : own_digA [c0, c1, c2, c3, c4, c5] (Int32.ofNat j.val) = true) (r : Int32) (hr : own_end [c0, c1, c2, c3, c4, c5] (6 - j.val) j.val (-1) = r) :
    Int32.ofNat j.val < r ∧ ¬ (6 : Int32) < r ∧ own_digA [c0, c1, c2, c3, c4, c5] (r - (1 : Int32)) = true ∧ own_fit [c0, c1, c2, c3, c4, c5] 0 (Int32.ofNat j.val) r = true ∧ own_fit [c0, c1, c2, c3, c4, c5] 1 (Int32.ofNat j.val) r = true ∧ own_fit [c0, c1, c2, c3, c4, c5] 2 (Int32.ofNat j.val) r = true ∧ own_fit [c0, c1, c2, c3, c4, c5] 3 (Int32.ofNat j.val) r = true ∧ own_fit [c0, c1, c2, c3, c4, c5] 4 (Int32.ofNat j.val) r = true ∧ own_fit [c0, c1, c2, c3, c4, c5] 5 (Int32.ofNat j.val) r = true ∧ own_digA [c0, c1, c2, c3, c4, c5] r = false ∧ (own_sepA [c0, c1, c2, c3, c4, c5] r = true → own_digA [c0, c1, c2, c3, c4, c5] (r + (1 : Int32)) = false) := by
  have g := own_good c0 c1 c2 c3 c4 c5 j
  unfold own_goodG at g
  unfold own_digA at h
  unfold own_end at hr
  simp only [h, if_true, hr, Bool.and_eq_true, decide_eq_true_eq, Bool.not_eq_true', Bool.and_eq_false_iff] at g
  obtain ⟨⟨⟨⟨⟨⟨⟨⟨⟨⟨g1, g2⟩, g3⟩, g4⟩, g5⟩, g6⟩, g7⟩, g8⟩, g9⟩, g10⟩, g11⟩ := g
  refine ⟨g1, g2, g3, g4, g5, g6, g7, g8, g9, g10, fun q => ?_⟩
  rcases g11 with g11 | g11
  · unfold own_sepA at q; rw [q] at g11; cases g11
  · exact g11
theorem d7_0 : decode prog_37_method_3_code 0 = .ok (.iconst (-1), 1) := by decide +kernel
theorem d7_1 : decode prog_37_method_3_code 1 = .ok (.istore_n 2, 1) := by decide +kernel
theorem d7_2 : decode prog_37_method_3_code 2 = .ok (.iload_n 1, 1) := by decide +kernel
theorem d7_3 : decode prog_37_method_3_code 3 = .ok (.istore_n 3, 1) := by decide +kernel
theorem d7_4 : decode prog_37_method_3_code 4 = .ok (.iload_n 3, 1) := by decide +kernel
theorem d7_5 : decode prog_37_method_3_code 5 = .ok (.aload_n 0, 1) := by decide +kernel
theorem d7_6 : decode prog_37_method_3_code 6 = .ok (.invokevirtual 46, 3) := by decide +kernel
theorem d7_9 : decode prog_37_method_3_code 9 = .ok (.if_icmp .ge 53, 3) := by decide +kernel
theorem d7_12 : decode prog_37_method_3_code 12 = .ok (.aload_n 0, 1) := by decide +kernel
theorem d7_13 : decode prog_37_method_3_code 13 = .ok (.iload_n 3, 1) := by decide +kernel
theorem d7_14 : decode prog_37_method_3_code 14 = .ok (.invokevirtual 61, 3) := by decide +kernel
theorem d7_17 : decode prog_37_method_3_code 17 = .ok (.istore 4, 2) := by decide +kernel
theorem d7_19 : decode prog_37_method_3_code 19 = .ok (.iload 4, 2) := by decide +kernel
theorem d7_21 : decode prog_37_method_3_code 21 = .ok (.invokestatic 65, 3) := by decide +kernel
theorem d7_24 : decode prog_37_method_3_code 24 = .ok (.ifCond .eq 10, 3) := by decide +kernel
theorem d7_27 : decode prog_37_method_3_code 27 = .ok (.iload_n 3, 1) := by decide +kernel
theorem d7_28 : decode prog_37_method_3_code 28 = .ok (.iconst 1, 1) := by decide +kernel
theorem d7_29 : decode prog_37_method_3_code 29 = .ok (.iadd, 1) := by decide +kernel
theorem d7_30 : decode prog_37_method_3_code 30 = .ok (.istore_n 2, 1) := by decide +kernel
theorem d7_31 : decode prog_37_method_3_code 31 = .ok (.goto 25, 3) := by decide +kernel
theorem d7_34 : decode prog_37_method_3_code 34 = .ok (.iload_n 2, 1) := by decide +kernel
theorem d7_35 : decode prog_37_method_3_code 35 = .ok (.iload_n 3, 1) := by decide +kernel
theorem d7_36 : decode prog_37_method_3_code 36 = .ok (.if_icmp .ne 26, 3) := by decide +kernel
theorem d7_39 : decode prog_37_method_3_code 39 = .ok (.iload 4, 2) := by decide +kernel
theorem d7_41 : decode prog_37_method_3_code 41 = .ok (.bipush 46, 2) := by decide +kernel
theorem d7_43 : decode prog_37_method_3_code 43 = .ok (.if_icmp .eq 13, 3) := by decide +kernel
theorem d7_46 : decode prog_37_method_3_code 46 = .ok (.iload 4, 2) := by decide +kernel
theorem d7_48 : decode prog_37_method_3_code 48 = .ok (.bipush 95, 2) := by decide +kernel
theorem d7_50 : decode prog_37_method_3_code 50 = .ok (.if_icmp .eq 6, 3) := by decide +kernel
theorem d7_53 : decode prog_37_method_3_code 53 = .ok (.goto 9, 3) := by decide +kernel
theorem d7_56 : decode prog_37_method_3_code 56 = .ok (.iinc 3 1, 3) := by decide +kernel
theorem d7_59 : decode prog_37_method_3_code 59 = .ok (.goto (-55), 3) := by decide +kernel
theorem d7_62 : decode prog_37_method_3_code 62 = .ok (.iload_n 2, 1) := by decide +kernel
theorem d7_63 : decode prog_37_method_3_code 63 = .ok (.ireturn, 1) := by decide +kernel
theorem d15_0 : decode prog_37_method_4_code 0 = .ok (.iload_n 0, 1) := by decide +kernel
theorem d15_1 : decode prog_37_method_4_code 1 = .ok (.bipush 48, 2) := by decide +kernel
theorem d15_3 : decode prog_37_method_4_code 3 = .ok (.if_icmp .lt 13, 3) := by decide +kernel
theorem d15_6 : decode prog_37_method_4_code 6 = .ok (.iload_n 0, 1) := by decide +kernel
theorem d15_7 : decode prog_37_method_4_code 7 = .ok (.bipush 57, 2) := by decide +kernel
theorem d15_9 : decode prog_37_method_4_code 9 = .ok (.if_icmp .gt 7, 3) := by decide +kernel
theorem d15_12 : decode prog_37_method_4_code 12 = .ok (.iconst 1, 1) := by decide +kernel
theorem d15_13 : decode prog_37_method_4_code 13 = .ok (.goto 4, 3) := by decide +kernel
theorem d15_16 : decode prog_37_method_4_code 16 = .ok (.iconst 0, 1) := by decide +kernel
theorem d15_17 : decode prog_37_method_4_code 17 = .ok (.ireturn, 1) := by decide +kernel
theorem d16_0 : decode method_2_code 0 = .ok (.iload_n 1, 1) := by decide +kernel
theorem d16_1 : decode method_2_code 1 = .ok (.ifCond .lt 29, 3) := by decide +kernel
theorem d16_4 : decode method_2_code 4 = .ok (.iload_n 1, 1) := by decide +kernel
theorem d16_5 : decode method_2_code 5 = .ok (.aload_n 0, 1) := by decide +kernel
theorem d16_6 : decode method_2_code 6 = .ok (.arraylength, 1) := by decide +kernel
theorem d16_7 : decode method_2_code 7 = .ok (.if_icmp .ge 23, 3) := by decide +kernel
theorem d16_10 : decode method_2_code 10 = .ok (.aload_n 0, 1) := by decide +kernel
theorem d16_11 : decode method_2_code 11 = .ok (.iload_n 1, 1) := by decide +kernel
theorem d16_12 : decode method_2_code 12 = .ok (.caload, 1) := by decide +kernel
theorem d16_13 : decode method_2_code 13 = .ok (.bipush 48, 2) := by decide +kernel
theorem d16_15 : decode method_2_code 15 = .ok (.if_icmp .lt 15, 3) := by decide +kernel
theorem d16_18 : decode method_2_code 18 = .ok (.aload_n 0, 1) := by decide +kernel
theorem d16_19 : decode method_2_code 19 = .ok (.iload_n 1, 1) := by decide +kernel
theorem d16_20 : decode method_2_code 20 = .ok (.caload, 1) := by decide +kernel
theorem d16_21 : decode method_2_code 21 = .ok (.bipush 57, 2) := by decide +kernel
theorem d16_23 : decode method_2_code 23 = .ok (.if_icmp .gt 7, 3) := by decide +kernel
theorem d16_26 : decode method_2_code 26 = .ok (.iconst 1, 1) := by decide +kernel
theorem d16_27 : decode method_2_code 27 = .ok (.goto 4, 3) := by decide +kernel
theorem d16_30 : decode method_2_code 30 = .ok (.iconst 0, 1) := by decide +kernel
theorem d16_31 : decode method_2_code 31 = .ok (.ireturn, 1) := by decide +kernel
theorem d17_0 : decode method_4_code 0 = .ok (.iload_n 1, 1) := by decide +kernel
theorem d17_1 : decode method_4_code 1 = .ok (.iload_n 2, 1) := by decide +kernel
theorem d17_2 : decode method_4_code 2 = .ok (.if_icmp .lt 44, 3) := by decide +kernel
theorem d17_5 : decode method_4_code 5 = .ok (.iload_n 1, 1) := by decide +kernel
theorem d17_6 : decode method_4_code 6 = .ok (.iload_n 3, 1) := by decide +kernel
theorem d17_7 : decode method_4_code 7 = .ok (.if_icmp .ge 39, 3) := by decide +kernel
theorem d17_10 : decode method_4_code 10 = .ok (.aload_n 0, 1) := by decide +kernel
theorem d17_11 : decode method_4_code 11 = .ok (.iload_n 1, 1) := by decide +kernel
theorem d17_12 : decode method_4_code 12 = .ok (.invokestatic 7, 3) := by decide +kernel
theorem d17_15 : decode method_4_code 15 = .ok (.ifCond .ne 31, 3) := by decide +kernel
theorem d17_18 : decode method_4_code 18 = .ok (.aload_n 0, 1) := by decide +kernel
theorem d17_19 : decode method_4_code 19 = .ok (.iload_n 1, 1) := by decide +kernel
theorem d17_20 : decode method_4_code 20 = .ok (.invokestatic 13, 3) := by decide +kernel
theorem d17_23 : decode method_4_code 23 = .ok (.ifCond .eq 27, 3) := by decide +kernel
theorem d17_26 : decode method_4_code 26 = .ok (.aload_n 0, 1) := by decide +kernel
theorem d17_27 : decode method_4_code 27 = .ok (.iload_n 1, 1) := by decide +kernel
theorem d17_28 : decode method_4_code 28 = .ok (.iconst 1, 1) := by decide +kernel
theorem d17_29 : decode method_4_code 29 = .ok (.isub, 1) := by decide +kernel
theorem d17_30 : decode method_4_code 30 = .ok (.invokestatic 7, 3) := by decide +kernel
theorem d17_33 : decode method_4_code 33 = .ok (.ifCond .eq 17, 3) := by decide +kernel
theorem d17_36 : decode method_4_code 36 = .ok (.aload_n 0, 1) := by decide +kernel
theorem d17_37 : decode method_4_code 37 = .ok (.iload_n 1, 1) := by decide +kernel
theorem d17_38 : decode method_4_code 38 = .ok (.iconst 1, 1) := by decide +kernel
theorem d17_39 : decode method_4_code 39 = .ok (.iadd, 1) := by decide +kernel
theorem d17_40 : decode method_4_code 40 = .ok (.invokestatic 7, 3) := by decide +kernel
theorem d17_43 : decode method_4_code 43 = .ok (.ifCond .eq 7, 3) := by decide +kernel
theorem d17_46 : decode method_4_code 46 = .ok (.iconst 1, 1) := by decide +kernel
theorem d17_47 : decode method_4_code 47 = .ok (.goto 4, 3) := by decide +kernel
theorem d17_50 : decode method_4_code 50 = .ok (.iconst 0, 1) := by decide +kernel
theorem d17_51 : decode method_4_code 51 = .ok (.ireturn, 1) := by decide +kernel
theorem d18_0 : decode method_3_code 0 = .ok (.iload_n 1, 1) := by decide +kernel
theorem d18_1 : decode method_3_code 1 = .ok (.ifCond .lt 29, 3) := by decide +kernel
theorem d18_4 : decode method_3_code 4 = .ok (.iload_n 1, 1) := by decide +kernel
theorem d18_5 : decode method_3_code 5 = .ok (.aload_n 0, 1) := by decide +kernel
theorem d18_6 : decode method_3_code 6 = .ok (.arraylength, 1) := by decide +kernel
theorem d18_7 : decode method_3_code 7 = .ok (.if_icmp .ge 23, 3) := by decide +kernel
theorem d18_10 : decode method_3_code 10 = .ok (.aload_n 0, 1) := by decide +kernel
theorem d18_11 : decode method_3_code 11 = .ok (.iload_n 1, 1) := by decide +kernel
theorem d18_12 : decode method_3_code 12 = .ok (.caload, 1) := by decide +kernel
theorem d18_13 : decode method_3_code 13 = .ok (.bipush 46, 2) := by decide +kernel
theorem d18_15 : decode method_3_code 15 = .ok (.if_icmp .eq 11, 3) := by decide +kernel
theorem d18_18 : decode method_3_code 18 = .ok (.aload_n 0, 1) := by decide +kernel
theorem d18_19 : decode method_3_code 19 = .ok (.iload_n 1, 1) := by decide +kernel
theorem d18_20 : decode method_3_code 20 = .ok (.caload, 1) := by decide +kernel
theorem d18_21 : decode method_3_code 21 = .ok (.bipush 95, 2) := by decide +kernel
theorem d18_23 : decode method_3_code 23 = .ok (.if_icmp .ne 7, 3) := by decide +kernel
theorem d18_26 : decode method_3_code 26 = .ok (.iconst 1, 1) := by decide +kernel
theorem d18_27 : decode method_3_code 27 = .ok (.goto 4, 3) := by decide +kernel
theorem d18_30 : decode method_3_code 30 = .ok (.iconst 0, 1) := by decide +kernel
theorem d18_31 : decode method_3_code 31 = .ok (.ireturn, 1) := by decide +kernel
theorem pd_0 : parseMethodDescriptor "([CI)Z" = some ⟨[(.array .char), .int], some .boolean⟩ := by decide +kernel
theorem pd_1 : parseMethodDescriptor "()I" = some ⟨[], some .int⟩ := by decide +kernel
theorem pd_2 : parseMethodDescriptor "(I)C" = some ⟨[.int], some .char⟩ := by decide +kernel
theorem pd_3 : parseMethodDescriptor "(C)Z" = some ⟨[.char], some .boolean⟩ := by decide +kernel
theorem pd_4 : parseMethodDescriptor "([C)V" = some ⟨[(.array .char)], none⟩ := by decide +kernel
theorem pd_5 : parseMethodDescriptor "(Ljava/lang/String;I)I" = some ⟨[(.object "java/lang/String"), .int], some .int⟩ := by decide +kernel
theorem pd_6 : parseMethodDescriptor "([CIII)Z" = some ⟨[(.array .char), .int, .int, .int], some .boolean⟩ := by decide +kernel
set_option maxRecDepth 65536 in
set_option maxHeartbeats 40000000 in
theorem rmDigit (l : Launch) (Z : State) (a0 : Array Value) (hw : ∀ d ∈ tables_1, d.before a0 Z = true) (k : Int32) (h0 : Heap) (O0 : Old Z Z.heap.size h0)  :
    own_NC l Z (⟨"com/example/milepost/milepost/model/Version", "isDigit", "(C)Z"⟩ : MethodName) prog_37_method_4_code 1 (some .boolean) ({ frames := 0, cells := 0, slots := 0, locals := 0 } : Room) #[(.int k)] h0 (fun v h => v = some (.int (own_i (own_dig k))) ∧ h = h0) := by
  refine own_nc (plainFor_of_name (by first | (simp [plainName, overriddenIn]; done) | decide +kernel)) ?_
  intro p e s m below meth c s₁ S0 X0 hx hby hml hret hnm hown hZ e0 cc
  have N0 := Fr.nil Z.heap.size
  have c0 : Steps p.tables e below S0 (s₁.setTop (mkF m 0 #[.val (.int k)] [])) := cc.trans (XT.entry rfl)
  have c1 : Steps p.tables e below S0 (s₁.setTop (mkF m 3 #[.val (.int k)] [(.int (48 : Int32)), (.int k)])) := c0.trans (by
    refine XS.iloadN X0.here hx rfl (hb hby d15_0) rfl ?_
    refine XS.bipush X0.here hx rfl (hb hby d15_1) ?_
    exact Steps.refl _)
  by_cases hc2 : k < (48 : Int32)
  · skip
    have c3 : Steps p.tables e below S0 (s₁.setTop (mkF m 17 #[.val (.int k)] [(.int (0 : Int32))])) := c1.trans (by
      refine XS.icmpYes X0.here hx rfl (pc0 := 3) (pc' := 16) rfl (hb hby d15_3) rfl (tlt hc2).1 (by decide) (by decide) ?_
      refine XS.iconst X0.here hx rfl (hb hby d15_16) ?_
      exact Steps.refl _)
    refine ⟨s₁, (some (.int (0 : Int32))), _, _, _, X0, by decide, by decide, (fun q => by cases q), N0, ?_, fun fs hr => ?_⟩
    · rw [e0]
      exact ⟨by simp [own_dig, own_i, hc2], rfl⟩
    · exact c3.trans (retN X0 hx (t := .boolean) hret (by simp) (hb hby d15_17) hr)
  · skip
    have c5 : Steps p.tables e below S0 (s₁.setTop (mkF m 9 #[.val (.int k)] [(.int (57 : Int32)), (.int k)])) := c1.trans (by
      refine XS.icmpNo X0.here hx rfl (hb hby d15_3) rfl (flt hc2).1 ?_
      refine XS.iloadN X0.here hx rfl (hb hby d15_6) rfl ?_
      refine XS.bipush X0.here hx rfl (hb hby d15_7) ?_
      exact Steps.refl _)
    by_cases hc6 : (57 : Int32) < k
    · skip
      have c7 : Steps p.tables e below S0 (s₁.setTop (mkF m 17 #[.val (.int k)] [(.int (0 : Int32))])) := c5.trans (by
        refine XS.icmpYes X0.here hx rfl (pc0 := 9) (pc' := 16) rfl (hb hby d15_9) rfl (tlt hc6).2.2.1 (by decide) (by decide) ?_
        refine XS.iconst X0.here hx rfl (hb hby d15_16) ?_
        exact Steps.refl _)
      refine ⟨s₁, (some (.int (0 : Int32))), _, _, _, X0, by decide, by decide, (fun q => by cases q), N0, ?_, fun fs hr => ?_⟩
      · rw [e0]
        exact ⟨by simp [own_dig, own_i, hc2, hc6], rfl⟩
      · exact c7.trans (retN X0 hx (t := .boolean) hret (by simp) (hb hby d15_17) hr)
    · skip
      have c9 : Steps p.tables e below S0 (s₁.setTop (mkF m 17 #[.val (.int k)] [(.int (1 : Int32))])) := c5.trans (by
        refine XS.icmpNo X0.here hx rfl (hb hby d15_9) rfl (flt hc6).2.2.1 ?_
        refine XS.iconst X0.here hx rfl (hb hby d15_12) ?_
        refine XS.goto X0.here hx rfl (pc0 := 13) (pc' := 17) rfl (hb hby d15_13) (by decide) (by decide) ?_
        exact Steps.refl _)
      refine ⟨s₁, (some (.int (1 : Int32))), _, _, _, X0, by decide, by decide, (fun q => by cases q), N0, ?_, fun fs hr => ?_⟩
      · rw [e0]
        exact ⟨by simp [own_dig, own_i, hc2, hc6], rfl⟩
      · exact c9.trans (retN X0 hx (t := .boolean) hret (by simp) (hb hby d15_17) hr)
set_option maxRecDepth 65536 in
set_option maxHeartbeats 40000000 in
theorem rm_dig (l : Launch) (Z : State) (a0 : Array Value) (hw : ∀ d ∈ tables_1, d.before a0 Z = true) (cs : List Int32) (a : Addr) (ka : ClassId) (p1 : Int32) (h0 : Heap) (O0 : Old Z Z.heap.size h0) (Ka : Arv Z h0 a ka .char (6 : Int32) (cs.map Value.int) (.int (0 : Int32))) :
    own_NC l Z (⟨"com/example/milepost/milepost/model/VersionEndPinLaw", "dig", "([CI)Z"⟩ : MethodName) method_2_code 2 (some .boolean) ({ frames := 0, cells := 0, slots := 0, locals := 0 } : Room) #[(.ref a), (.int p1)] h0 (fun v h => v = some (.int (own_i (own_digA cs p1))) ∧ h = h0) := by
  refine own_nc (plainFor_of_name (by first | (simp [plainName, overriddenIn]; done) | decide +kernel)) ?_
  intro p e s m below meth c s₁ S0 X0 hx hby hml hret hnm hown hZ e0 cc
  have N0 := Fr.nil Z.heap.size
  have c0 : Steps p.tables e below S0 (s₁.setTop (mkF m 0 #[.val (.ref a), .val (.int p1)] [])) := cc.trans (XT.entry rfl)
  have c1 : Steps p.tables e below S0 (s₁.setTop (mkF m 1 #[.val (.ref a), .val (.int p1)] [(.int p1)])) := c0.trans (by
    refine XS.iloadN X0.here hx rfl (hb hby d16_0) rfl ?_
    exact Steps.refl _)
  by_cases hc2 : p1 < (0 : Int32)
  · skip
    have c3 : Steps p.tables e below S0 (s₁.setTop (mkF m 31 #[.val (.ref a), .val (.int p1)] [(.int (0 : Int32))])) := c1.trans (by
      refine XS.ifYes X0.here hx rfl (pc0 := 1) (pc' := 30) rfl (hb hby d16_1) rfl ((if0 _ _).trans (tlt hc2).1) (by decide) (by decide) ?_
      refine XS.iconst X0.here hx rfl (hb hby d16_30) ?_
      exact Steps.refl _)
    refine ⟨s₁, (some (.int (0 : Int32))), _, _, _, X0, by decide, by decide, (fun q => by cases q), N0, ?_, fun fs hr => ?_⟩
    · rw [e0]
      exact ⟨by simp [own_digA_eq, own_sepA_eq, own_dig, own_sep, own_i, hc2], rfl⟩
    · exact c3.trans (retN X0 hx (t := .boolean) hret (by simp) (hb hby d16_31) hr)
  · skip
    have c5 : Steps p.tables e below S0 (s₁.setTop (mkF m 6 #[.val (.ref a), .val (.int p1)] [(.ref a), (.int p1)])) := c1.trans (by
      refine XS.ifNo X0.here hx rfl (hb hby d16_1) rfl ((if0 _ _).trans (flt hc2).1) ?_
      refine XS.iloadN X0.here hx rfl (hb hby d16_4) rfl ?_
      refine XS.aloadN X0.here hx rfl (hb hby d16_5) rfl rfl ?_
      exact Steps.refl _)
    obtain ⟨cl6, Ar6, q6, S6, M6, H6, G6⟩ := id Ka
    have c6 : Steps p.tables e below S0 (s₁.setTop (mkF m 7 #[.val (.ref a), .val (.int p1)] [(.int (6 : Int32)), (.int p1)])) := c5.trans (by
      refine X0.arraylength hx (by rw [show s₁.heap = h0 from e0]; exact Ar6.1) (State.isArrayOf_alike (hZ).alike Ar6.2.1) (g := (mkF m 6 #[.val (.ref a), .val (.int p1)] [(.ref a), (.int p1)])) rfl rfl (hb hby d16_6) _ ?_
      rw [len_of S6 M6]
      exact Steps.refl _)
    by_cases hc7 : p1 < (6 : Int32)
    · skip
      have c8 : Steps p.tables e below S0 (s₁.setTop (mkF m 12 #[.val (.ref a), .val (.int p1)] [(.int p1), (.ref a)])) := c6.trans (by
        refine XS.icmpNo X0.here hx rfl (hb hby d16_7) rfl (tlt hc7).2.1 ?_
        refine XS.aloadN X0.here hx rfl (hb hby d16_10) rfl rfl ?_
        refine XS.iloadN X0.here hx rfl (hb hby d16_11) rfl ?_
        exact Steps.refl _)
      obtain ⟨cl9, Ar9, q9, S9, M9, H9, G9⟩ := id Ka
      have hin9 : ¬ (p1 < 0 ∨ cl9.slots.size ≤ (p1).toNatClampNeg) := inb_of S9 ⟨hc2, hc7⟩
      have hat9 := Has.at (v := .int (own_at cs p1)) H9 hin9 (own_getD cs _)
      have c9 : Steps p.tables e below S0 (s₁.setTop (mkF m 13 #[.val (.ref a), .val (.int p1)] [(.int (own_at cs p1))])) := c8.trans (by
        refine X0.caload hx (cell := cl9) (by rw [show s₁.heap = h0 from e0]; exact Ar9.1) (State.isArrayOf_alike (hZ).alike Ar9.2.1) Ar9.2.2 hin9 hat9 (g := (mkF m 12 #[.val (.ref a), .val (.int p1)] [(.int p1), (.ref a)])) rfl rfl (hb hby d16_12) _ ?_
        exact Steps.refl _)
      have c10 : Steps p.tables e below S0 (s₁.setTop (mkF m 15 #[.val (.ref a), .val (.int p1)] [(.int (48 : Int32)), (.int (own_at cs p1))])) := c9.trans (by
        refine XS.bipush X0.here hx rfl (hb hby d16_13) ?_
        exact Steps.refl _)
      by_cases hc11 : (own_at cs p1) < (48 : Int32)
      · skip
        have c12 : Steps p.tables e below S0 (s₁.setTop (mkF m 31 #[.val (.ref a), .val (.int p1)] [(.int (0 : Int32))])) := c10.trans (by
          refine XS.icmpYes X0.here hx rfl (pc0 := 15) (pc' := 30) rfl (hb hby d16_15) rfl (tlt hc11).1 (by decide) (by decide) ?_
          refine XS.iconst X0.here hx rfl (hb hby d16_30) ?_
          exact Steps.refl _)
        refine ⟨s₁, (some (.int (0 : Int32))), _, _, _, X0, by decide, by decide, (fun q => by cases q), N0, ?_, fun fs hr => ?_⟩
        · rw [e0]
          exact ⟨by simp [own_digA_eq, own_sepA_eq, own_dig, own_sep, own_i, hc2, hc7, hc11], rfl⟩
        · exact c12.trans (retN X0 hx (t := .boolean) hret (by simp) (hb hby d16_31) hr)
      · skip
        have c14 : Steps p.tables e below S0 (s₁.setTop (mkF m 20 #[.val (.ref a), .val (.int p1)] [(.int p1), (.ref a)])) := c10.trans (by
          refine XS.icmpNo X0.here hx rfl (hb hby d16_15) rfl (flt hc11).1 ?_
          refine XS.aloadN X0.here hx rfl (hb hby d16_18) rfl rfl ?_
          refine XS.iloadN X0.here hx rfl (hb hby d16_19) rfl ?_
          exact Steps.refl _)
        obtain ⟨cl15, Ar15, q15, S15, M15, H15, G15⟩ := id Ka
        have hin15 : ¬ (p1 < 0 ∨ cl15.slots.size ≤ (p1).toNatClampNeg) := inb_of S15 ⟨hc2, hc7⟩
        have hat15 := Has.at (v := .int (own_at cs p1)) H15 hin15 (own_getD cs _)
        have c15 : Steps p.tables e below S0 (s₁.setTop (mkF m 21 #[.val (.ref a), .val (.int p1)] [(.int (own_at cs p1))])) := c14.trans (by
          refine X0.caload hx (cell := cl15) (by rw [show s₁.heap = h0 from e0]; exact Ar15.1) (State.isArrayOf_alike (hZ).alike Ar15.2.1) Ar15.2.2 hin15 hat15 (g := (mkF m 20 #[.val (.ref a), .val (.int p1)] [(.int p1), (.ref a)])) rfl rfl (hb hby d16_20) _ ?_
          exact Steps.refl _)
        have c16 : Steps p.tables e below S0 (s₁.setTop (mkF m 23 #[.val (.ref a), .val (.int p1)] [(.int (57 : Int32)), (.int (own_at cs p1))])) := c15.trans (by
          refine XS.bipush X0.here hx rfl (hb hby d16_21) ?_
          exact Steps.refl _)
        by_cases hc17 : (57 : Int32) < (own_at cs p1)
        · skip
          have c18 : Steps p.tables e below S0 (s₁.setTop (mkF m 31 #[.val (.ref a), .val (.int p1)] [(.int (0 : Int32))])) := c16.trans (by
            refine XS.icmpYes X0.here hx rfl (pc0 := 23) (pc' := 30) rfl (hb hby d16_23) rfl (tlt hc17).2.2.1 (by decide) (by decide) ?_
            refine XS.iconst X0.here hx rfl (hb hby d16_30) ?_
            exact Steps.refl _)
          refine ⟨s₁, (some (.int (0 : Int32))), _, _, _, X0, by decide, by decide, (fun q => by cases q), N0, ?_, fun fs hr => ?_⟩
          · rw [e0]
            exact ⟨by simp [own_digA_eq, own_sepA_eq, own_dig, own_sep, own_i, hc2, hc7, hc11, hc17], rfl⟩
          · exact c18.trans (retN X0 hx (t := .boolean) hret (by simp) (hb hby d16_31) hr)
        · skip
          have c20 : Steps p.tables e below S0 (s₁.setTop (mkF m 31 #[.val (.ref a), .val (.int p1)] [(.int (1 : Int32))])) := c16.trans (by
            refine XS.icmpNo X0.here hx rfl (hb hby d16_23) rfl (flt hc17).2.2.1 ?_
            refine XS.iconst X0.here hx rfl (hb hby d16_26) ?_
            refine XS.goto X0.here hx rfl (pc0 := 27) (pc' := 31) rfl (hb hby d16_27) (by decide) (by decide) ?_
            exact Steps.refl _)
          refine ⟨s₁, (some (.int (1 : Int32))), _, _, _, X0, by decide, by decide, (fun q => by cases q), N0, ?_, fun fs hr => ?_⟩
          · rw [e0]
            exact ⟨by simp [own_digA_eq, own_sepA_eq, own_dig, own_sep, own_i, hc2, hc7, hc11, hc17], rfl⟩
          · exact c20.trans (retN X0 hx (t := .boolean) hret (by simp) (hb hby d16_31) hr)
    · skip
      have c22 : Steps p.tables e below S0 (s₁.setTop (mkF m 31 #[.val (.ref a), .val (.int p1)] [(.int (0 : Int32))])) := c6.trans (by
        refine XS.icmpYes X0.here hx rfl (pc0 := 7) (pc' := 30) rfl (hb hby d16_7) rfl (flt hc7).2.1 (by decide) (by decide) ?_
        refine XS.iconst X0.here hx rfl (hb hby d16_30) ?_
        exact Steps.refl _)
      refine ⟨s₁, (some (.int (0 : Int32))), _, _, _, X0, by decide, by decide, (fun q => by cases q), N0, ?_, fun fs hr => ?_⟩
      · rw [e0]
        exact ⟨by simp [own_digA_eq, own_sepA_eq, own_dig, own_sep, own_i, hc2, hc7], rfl⟩
      · exact c22.trans (retN X0 hx (t := .boolean) hret (by simp) (hb hby d16_31) hr)
set_option maxRecDepth 65536 in
set_option maxHeartbeats 40000000 in
theorem rm_sep (l : Launch) (Z : State) (a0 : Array Value) (hw : ∀ d ∈ tables_1, d.before a0 Z = true) (cs : List Int32) (a : Addr) (ka : ClassId) (p1 : Int32) (h0 : Heap) (O0 : Old Z Z.heap.size h0) (Ka : Arv Z h0 a ka .char (6 : Int32) (cs.map Value.int) (.int (0 : Int32))) :
    own_NC l Z (⟨"com/example/milepost/milepost/model/VersionEndPinLaw", "sep", "([CI)Z"⟩ : MethodName) method_3_code 2 (some .boolean) ({ frames := 0, cells := 0, slots := 0, locals := 0 } : Room) #[(.ref a), (.int p1)] h0 (fun v h => v = some (.int (own_i (own_sepA cs p1))) ∧ h = h0) := by
  refine own_nc (plainFor_of_name (by first | (simp [plainName, overriddenIn]; done) | decide +kernel)) ?_
  intro p e s m below meth c s₁ S0 X0 hx hby hml hret hnm hown hZ e0 cc
  have N0 := Fr.nil Z.heap.size
  have c0 : Steps p.tables e below S0 (s₁.setTop (mkF m 0 #[.val (.ref a), .val (.int p1)] [])) := cc.trans (XT.entry rfl)
  have c1 : Steps p.tables e below S0 (s₁.setTop (mkF m 1 #[.val (.ref a), .val (.int p1)] [(.int p1)])) := c0.trans (by
    refine XS.iloadN X0.here hx rfl (hb hby d18_0) rfl ?_
    exact Steps.refl _)
  by_cases hc2 : p1 < (0 : Int32)
  · skip
    have c3 : Steps p.tables e below S0 (s₁.setTop (mkF m 31 #[.val (.ref a), .val (.int p1)] [(.int (0 : Int32))])) := c1.trans (by
      refine XS.ifYes X0.here hx rfl (pc0 := 1) (pc' := 30) rfl (hb hby d18_1) rfl ((if0 _ _).trans (tlt hc2).1) (by decide) (by decide) ?_
      refine XS.iconst X0.here hx rfl (hb hby d18_30) ?_
      exact Steps.refl _)
    refine ⟨s₁, (some (.int (0 : Int32))), _, _, _, X0, by decide, by decide, (fun q => by cases q), N0, ?_, fun fs hr => ?_⟩
    · rw [e0]
      exact ⟨by simp [own_digA_eq, own_sepA_eq, own_dig, own_sep, own_i, hc2], rfl⟩
    · exact c3.trans (retN X0 hx (t := .boolean) hret (by simp) (hb hby d18_31) hr)
  · skip
    have c5 : Steps p.tables e below S0 (s₁.setTop (mkF m 6 #[.val (.ref a), .val (.int p1)] [(.ref a), (.int p1)])) := c1.trans (by
      refine XS.ifNo X0.here hx rfl (hb hby d18_1) rfl ((if0 _ _).trans (flt hc2).1) ?_
      refine XS.iloadN X0.here hx rfl (hb hby d18_4) rfl ?_
      refine XS.aloadN X0.here hx rfl (hb hby d18_5) rfl rfl ?_
      exact Steps.refl _)
    obtain ⟨cl6, Ar6, q6, S6, M6, H6, G6⟩ := id Ka
    have c6 : Steps p.tables e below S0 (s₁.setTop (mkF m 7 #[.val (.ref a), .val (.int p1)] [(.int (6 : Int32)), (.int p1)])) := c5.trans (by
      refine X0.arraylength hx (by rw [show s₁.heap = h0 from e0]; exact Ar6.1) (State.isArrayOf_alike (hZ).alike Ar6.2.1) (g := (mkF m 6 #[.val (.ref a), .val (.int p1)] [(.ref a), (.int p1)])) rfl rfl (hb hby d18_6) _ ?_
      rw [len_of S6 M6]
      exact Steps.refl _)
    by_cases hc7 : p1 < (6 : Int32)
    · skip
      have c8 : Steps p.tables e below S0 (s₁.setTop (mkF m 12 #[.val (.ref a), .val (.int p1)] [(.int p1), (.ref a)])) := c6.trans (by
        refine XS.icmpNo X0.here hx rfl (hb hby d18_7) rfl (tlt hc7).2.1 ?_
        refine XS.aloadN X0.here hx rfl (hb hby d18_10) rfl rfl ?_
        refine XS.iloadN X0.here hx rfl (hb hby d18_11) rfl ?_
        exact Steps.refl _)
      obtain ⟨cl9, Ar9, q9, S9, M9, H9, G9⟩ := id Ka
      have hin9 : ¬ (p1 < 0 ∨ cl9.slots.size ≤ (p1).toNatClampNeg) := inb_of S9 ⟨hc2, hc7⟩
      have hat9 := Has.at (v := .int (own_at cs p1)) H9 hin9 (own_getD cs _)
      have c9 : Steps p.tables e below S0 (s₁.setTop (mkF m 13 #[.val (.ref a), .val (.int p1)] [(.int (own_at cs p1))])) := c8.trans (by
        refine X0.caload hx (cell := cl9) (by rw [show s₁.heap = h0 from e0]; exact Ar9.1) (State.isArrayOf_alike (hZ).alike Ar9.2.1) Ar9.2.2 hin9 hat9 (g := (mkF m 12 #[.val (.ref a), .val (.int p1)] [(.int p1), (.ref a)])) rfl rfl (hb hby d18_12) _ ?_
        exact Steps.refl _)
      have c10 : Steps p.tables e below S0 (s₁.setTop (mkF m 15 #[.val (.ref a), .val (.int p1)] [(.int (46 : Int32)), (.int (own_at cs p1))])) := c9.trans (by
        refine XS.bipush X0.here hx rfl (hb hby d18_13) ?_
        exact Steps.refl _)
      by_cases hc11 : (own_at cs p1) = (46 : Int32)
      · skip
        have c12 : Steps p.tables e below S0 (s₁.setTop (mkF m 31 #[.val (.ref a), .val (.int p1)] [(.int (1 : Int32))])) := c10.trans (by
          refine XS.icmpYes X0.here hx rfl (pc0 := 15) (pc' := 26) rfl (hb hby d18_15) rfl (teq hc11).1 (by decide) (by decide) ?_
          refine XS.iconst X0.here hx rfl (hb hby d18_26) ?_
          refine XS.goto X0.here hx rfl (pc0 := 27) (pc' := 31) rfl (hb hby d18_27) (by decide) (by decide) ?_
          exact Steps.refl _)
        refine ⟨s₁, (some (.int (1 : Int32))), _, _, _, X0, by decide, by decide, (fun q => by cases q), N0, ?_, fun fs hr => ?_⟩
        · rw [e0]
          exact ⟨by simp [own_digA_eq, own_sepA_eq, own_dig, own_sep, own_i, hc2, hc7, hc11], rfl⟩
        · exact c12.trans (retN X0 hx (t := .boolean) hret (by simp) (hb hby d18_31) hr)
      · skip
        have c14 : Steps p.tables e below S0 (s₁.setTop (mkF m 20 #[.val (.ref a), .val (.int p1)] [(.int p1), (.ref a)])) := c10.trans (by
          refine XS.icmpNo X0.here hx rfl (hb hby d18_15) rfl (feq hc11).1 ?_
          refine XS.aloadN X0.here hx rfl (hb hby d18_18) rfl rfl ?_
          refine XS.iloadN X0.here hx rfl (hb hby d18_19) rfl ?_
          exact Steps.refl _)
        obtain ⟨cl15, Ar15, q15, S15, M15, H15, G15⟩ := id Ka
        have hin15 : ¬ (p1 < 0 ∨ cl15.slots.size ≤ (p1).toNatClampNeg) := inb_of S15 ⟨hc2, hc7⟩
        have hat15 := Has.at (v := .int (own_at cs p1)) H15 hin15 (own_getD cs _)
        have c15 : Steps p.tables e below S0 (s₁.setTop (mkF m 21 #[.val (.ref a), .val (.int p1)] [(.int (own_at cs p1))])) := c14.trans (by
          refine X0.caload hx (cell := cl15) (by rw [show s₁.heap = h0 from e0]; exact Ar15.1) (State.isArrayOf_alike (hZ).alike Ar15.2.1) Ar15.2.2 hin15 hat15 (g := (mkF m 20 #[.val (.ref a), .val (.int p1)] [(.int p1), (.ref a)])) rfl rfl (hb hby d18_20) _ ?_
          exact Steps.refl _)
        have c16 : Steps p.tables e below S0 (s₁.setTop (mkF m 23 #[.val (.ref a), .val (.int p1)] [(.int (95 : Int32)), (.int (own_at cs p1))])) := c15.trans (by
          refine XS.bipush X0.here hx rfl (hb hby d18_21) ?_
          exact Steps.refl _)
        by_cases hc17 : (own_at cs p1) = (95 : Int32)
        · skip
          have c18 : Steps p.tables e below S0 (s₁.setTop (mkF m 31 #[.val (.ref a), .val (.int p1)] [(.int (1 : Int32))])) := c16.trans (by
            refine XS.icmpNo X0.here hx rfl (hb hby d18_23) rfl (teq hc17).2 ?_
            refine XS.iconst X0.here hx rfl (hb hby d18_26) ?_
            refine XS.goto X0.here hx rfl (pc0 := 27) (pc' := 31) rfl (hb hby d18_27) (by decide) (by decide) ?_
            exact Steps.refl _)
          refine ⟨s₁, (some (.int (1 : Int32))), _, _, _, X0, by decide, by decide, (fun q => by cases q), N0, ?_, fun fs hr => ?_⟩
          · rw [e0]
            exact ⟨by simp [own_digA_eq, own_sepA_eq, own_dig, own_sep, own_i, hc2, hc7, hc11, hc17], rfl⟩
          · exact c18.trans (retN X0 hx (t := .boolean) hret (by simp) (hb hby d18_31) hr)
        · skip
          have c20 : Steps p.tables e below S0 (s₁.setTop (mkF m 31 #[.val (.ref a), .val (.int p1)] [(.int (0 : Int32))])) := c16.trans (by
            refine XS.icmpYes X0.here hx rfl (pc0 := 23) (pc' := 30) rfl (hb hby d18_23) rfl (feq hc17).2 (by decide) (by decide) ?_
            refine XS.iconst X0.here hx rfl (hb hby d18_30) ?_
            exact Steps.refl _)
          refine ⟨s₁, (some (.int (0 : Int32))), _, _, _, X0, by decide, by decide, (fun q => by cases q), N0, ?_, fun fs hr => ?_⟩
          · rw [e0]
            exact ⟨by simp [own_digA_eq, own_sepA_eq, own_dig, own_sep, own_i, hc2, hc7, hc11, hc17], rfl⟩
          · exact c20.trans (retN X0 hx (t := .boolean) hret (by simp) (hb hby d18_31) hr)
    · skip
      have c22 : Steps p.tables e below S0 (s₁.setTop (mkF m 31 #[.val (.ref a), .val (.int p1)] [(.int (0 : Int32))])) := c6.trans (by
        refine XS.icmpYes X0.here hx rfl (pc0 := 7) (pc' := 30) rfl (hb hby d18_7) rfl (flt hc7).2.1 (by decide) (by decide) ?_
        refine XS.iconst X0.here hx rfl (hb hby d18_30) ?_
        exact Steps.refl _)
      refine ⟨s₁, (some (.int (0 : Int32))), _, _, _, X0, by decide, by decide, (fun q => by cases q), N0, ?_, fun fs hr => ?_⟩
      · rw [e0]
        exact ⟨by simp [own_digA_eq, own_sepA_eq, own_dig, own_sep, own_i, hc2, hc7], rfl⟩
      · exact c22.trans (retN X0 hx (t := .boolean) hret (by simp) (hb hby d18_31) hr)
set_option maxRecDepth 65536 in
set_option maxHeartbeats 40000000 in
theorem rm_fits (l : Launch) (Z : State) (a0 : Array Value) (hw : ∀ d ∈ tables_1, d.before a0 Z = true) (cs : List Int32) (a : Addr) (ka : ClassId) (p1 p2 p3 : Int32) (h0 : Heap) (O0 : Old Z Z.heap.size h0) (Ka : Arv Z h0 a ka .char (6 : Int32) (cs.map Value.int) (.int (0 : Int32))) :
    own_NC l Z (⟨"com/example/milepost/milepost/model/VersionEndPinLaw", "fits", "([CIII)Z"⟩ : MethodName) method_4_code 4 (some .boolean) ({ frames := 1, cells := 0, slots := 0, locals := 13 } : Room) #[(.ref a), (.int p1), (.int p2), (.int p3)] h0 (fun v h => v = some (.int (own_i (own_fit cs p1 p2 p3))) ∧ h = h0) := by
  refine own_nc (plainFor_of_name (by first | (simp [plainName, overriddenIn]; done) | decide +kernel)) ?_
  intro p e s m below meth c s₁ S0 X0 hx hby hml hret hnm hown hZ e0 cc
  have N0 := Fr.nil Z.heap.size
  have c0 : Steps p.tables e below S0 (s₁.setTop (mkF m 0 #[.val (.ref a), .val (.int p1), .val (.int p2), .val (.int p3)] [])) := cc.trans (XT.entry rfl)
  have c1 : Steps p.tables e below S0 (s₁.setTop (mkF m 2 #[.val (.ref a), .val (.int p1), .val (.int p2), .val (.int p3)] [(.int p2), (.int p1)])) := c0.trans (by
    refine XS.iloadN X0.here hx rfl (hb hby d17_0) rfl ?_
    refine XS.iloadN X0.here hx rfl (hb hby d17_1) rfl ?_
    exact Steps.refl _)
  by_cases hc2 : p1 < p2
  · skip
    have c3 : Steps p.tables e below S0 (s₁.setTop (mkF m 51 #[.val (.ref a), .val (.int p1), .val (.int p2), .val (.int p3)] [(.int (1 : Int32))])) := c1.trans (by
      refine XS.icmpYes X0.here hx rfl (pc0 := 2) (pc' := 46) rfl (hb hby d17_2) rfl (tlt hc2).1 (by decide) (by decide) ?_
      refine XS.iconst X0.here hx rfl (hb hby d17_46) ?_
      refine XS.goto X0.here hx rfl (pc0 := 47) (pc' := 51) rfl (hb hby d17_47) (by decide) (by decide) ?_
      exact Steps.refl _)
    refine ⟨s₁, (some (.int (1 : Int32))), _, _, _, X0, by decide, by decide, (fun q => by cases q), N0, ?_, fun fs hr => ?_⟩
    · rw [e0]
      exact ⟨by simp [own_fit_eq, own_i, hc2], rfl⟩
    · exact c3.trans (retN X0 hx (t := .boolean) hret (by simp) (hb hby d17_51) hr)
  · skip
    have c5 : Steps p.tables e below S0 (s₁.setTop (mkF m 7 #[.val (.ref a), .val (.int p1), .val (.int p2), .val (.int p3)] [(.int p3), (.int p1)])) := c1.trans (by
      refine XS.icmpNo X0.here hx rfl (hb hby d17_2) rfl (flt hc2).1 ?_
      refine XS.iloadN X0.here hx rfl (hb hby d17_5) rfl ?_
      refine XS.iloadN X0.here hx rfl (hb hby d17_6) rfl ?_
      exact Steps.refl _)
    by_cases hc6 : p1 < p3
    · skip
      have c7 : Steps p.tables e below S0 (s₁.setTop (mkF m 12 #[.val (.ref a), .val (.int p1), .val (.int p2), .val (.int p3)] [(.int p1), (.ref a)])) := c5.trans (by
        refine XS.icmpNo X0.here hx rfl (hb hby d17_7) rfl (tlt hc6).2.1 ?_
        refine XS.aloadN X0.here hx rfl (hb hby d17_10) rfl rfl ?_
        refine XS.iloadN X0.here hx rfl (hb hby d17_11) rfl ?_
        exact Steps.refl _)
      obtain ⟨v8, T8, L8, X8, ⟨N8', rfl, e8⟩, c8'⟩ := own_stat X0 hx hml hZ hown (hw _ (List.mem_of_getElem? (i := 71) rfl)) (hw _ (List.mem_of_getElem? (i := 72) rfl)) (hw _ (List.mem_of_getElem? (i := 73) rfl)) (hw _ (List.mem_of_getElem? (i := 74) rfl)) (by decide) (kc := 0) (ks := 0) (h := h0) (W := 0) (argsL := [(.ref a), (.int p1)]) (rest := []) (own_pay (W := 0) (rm_dig l Z a0 hw cs a ka p1 h0 O0 Ka) hZ (hw _ (List.mem_of_getElem? (i := 74) rfl)) (hw _ (List.mem_of_getElem? (i := 73) rfl)) (by decide) (by decide)) c7 rfl rfl (lenOf pd_0 rfl) rfl (by show 2 * 0 + _ ≤ _; exact Nat.le_of_eq rfl) (hb hby d17_12) e0 (by decide) (by decide)
      have N8 := Fr.app N0 N8'
      have c8 : Steps p.tables e below S0 (T8.setTop (mkF m 15 #[.val (.ref a), .val (.int p1), .val (.int p2), .val (.int p3)] [(.int (own_i (own_digA cs p1)))])) := c8'
      by_cases hc9 : (own_i (own_digA cs p1)) = (0 : Int32)
      · skip
        have c10 : Steps p.tables e below S0 (T8.setTop (mkF m 20 #[.val (.ref a), .val (.int p1), .val (.int p2), .val (.int p3)] [(.int p1), (.ref a)])) := c8.trans (by
          refine XS.ifNo X8.here hx rfl (hb hby d17_15) rfl ((if0 _ _).trans (teq hc9).2) ?_
          refine XS.aloadN X8.here hx rfl (hb hby d17_18) rfl rfl ?_
          refine XS.iloadN X8.here hx rfl (hb hby d17_19) rfl ?_
          exact Steps.refl _)
        obtain ⟨v11, T11, L11, X11, ⟨N11', rfl, e11⟩, c11'⟩ := own_stat X8 hx hml hZ hown (hw _ (List.mem_of_getElem? (i := 78) rfl)) (hw _ (List.mem_of_getElem? (i := 79) rfl)) (hw _ (List.mem_of_getElem? (i := 73) rfl)) (hw _ (List.mem_of_getElem? (i := 80) rfl)) (by decide) (kc := 0) (ks := 0) (h := h0) (W := 0) (argsL := [(.ref a), (.int p1)]) (rest := []) (own_pay (W := 0) (rm_sep l Z a0 hw cs a ka p1 h0 O0 Ka) hZ (hw _ (List.mem_of_getElem? (i := 80) rfl)) (hw _ (List.mem_of_getElem? (i := 73) rfl)) (by decide) (by decide)) c10 rfl rfl (lenOf pd_0 rfl) rfl (by show 2 * 0 + _ ≤ _; exact Nat.le_of_eq rfl) (hb hby d17_20) e8 (by decide) (by decide)
        have N11 := Fr.app N8 N11'
        have c11 : Steps p.tables e below S0 (T11.setTop (mkF m 23 #[.val (.ref a), .val (.int p1), .val (.int p2), .val (.int p3)] [(.int (own_i (own_sepA cs p1)))])) := c11'
        by_cases hc12 : (own_i (own_sepA cs p1)) = (0 : Int32)
        · skip
          have c13 : Steps p.tables e below S0 (T11.setTop (mkF m 51 #[.val (.ref a), .val (.int p1), .val (.int p2), .val (.int p3)] [(.int (0 : Int32))])) := c11.trans (by
            refine XS.ifYes X11.here hx rfl (pc0 := 23) (pc' := 50) rfl (hb hby d17_23) rfl ((if0 _ _).trans (teq hc12).1) (by decide) (by decide) ?_
            refine XS.iconst X11.here hx rfl (hb hby d17_50) ?_
            exact Steps.refl _)
          refine ⟨T11, (some (.int (0 : Int32))), _, _, _, X11, by decide, by decide, (fun q => by cases q), N11, ?_, fun fs hr => ?_⟩
          · rw [e11]
            simp only [own_i0] at hc9 hc12
            exact ⟨by simp [own_fit_eq, own_i, hc2, hc6, hc9, hc12], rfl⟩
          · exact c13.trans (retN X11 hx (t := .boolean) hret (by simp) (hb hby d17_51) hr)
        · skip
          have c15 : Steps p.tables e below S0 (T11.setTop (mkF m 30 #[.val (.ref a), .val (.int p1), .val (.int p2), .val (.int p3)] [(.int (p1 - (1 : Int32))), (.ref a)])) := c11.trans (by
            refine XS.ifNo X11.here hx rfl (hb hby d17_23) rfl ((if0 _ _).trans (feq hc12).1) ?_
            refine XS.aloadN X11.here hx rfl (hb hby d17_26) rfl rfl ?_
            refine XS.iloadN X11.here hx rfl (hb hby d17_27) rfl ?_
            refine XS.iconst X11.here hx rfl (hb hby d17_28) ?_
            refine XS.isub X11.here hx rfl (hb hby d17_29) rfl ?_
            exact Steps.refl _)
          obtain ⟨v16, T16, L16, X16, ⟨N16', rfl, e16⟩, c16'⟩ := own_stat X11 hx hml hZ hown (hw _ (List.mem_of_getElem? (i := 71) rfl)) (hw _ (List.mem_of_getElem? (i := 72) rfl)) (hw _ (List.mem_of_getElem? (i := 73) rfl)) (hw _ (List.mem_of_getElem? (i := 74) rfl)) (by decide) (kc := 0) (ks := 0) (h := h0) (W := 0) (argsL := [(.ref a), (.int (p1 - (1 : Int32)))]) (rest := []) (own_pay (W := 0) (rm_dig l Z a0 hw cs a ka (p1 - (1 : Int32)) h0 O0 Ka) hZ (hw _ (List.mem_of_getElem? (i := 74) rfl)) (hw _ (List.mem_of_getElem? (i := 73) rfl)) (by decide) (by decide)) c15 rfl rfl (lenOf pd_0 rfl) rfl (by show 2 * 0 + _ ≤ _; exact Nat.le_of_eq rfl) (hb hby d17_30) e11 (by decide) (by decide)
          have N16 := Fr.app N11 N16'
          have c16 : Steps p.tables e below S0 (T16.setTop (mkF m 33 #[.val (.ref a), .val (.int p1), .val (.int p2), .val (.int p3)] [(.int (own_i (own_digA cs (p1 - (1 : Int32)))))])) := c16'
          by_cases hc17 : (own_i (own_digA cs (p1 - (1 : Int32)))) = (0 : Int32)
          · skip
            have c18 : Steps p.tables e below S0 (T16.setTop (mkF m 51 #[.val (.ref a), .val (.int p1), .val (.int p2), .val (.int p3)] [(.int (0 : Int32))])) := c16.trans (by
              refine XS.ifYes X16.here hx rfl (pc0 := 33) (pc' := 50) rfl (hb hby d17_33) rfl ((if0 _ _).trans (teq hc17).1) (by decide) (by decide) ?_
              refine XS.iconst X16.here hx rfl (hb hby d17_50) ?_
              exact Steps.refl _)
            refine ⟨T16, (some (.int (0 : Int32))), _, _, _, X16, by decide, by decide, (fun q => by cases q), N16, ?_, fun fs hr => ?_⟩
            · rw [e16]
              simp only [own_i0] at hc9 hc12 hc17
              exact ⟨by simp [own_fit_eq, own_i, hc2, hc6, hc9, hc12, hc17], rfl⟩
            · exact c18.trans (retN X16 hx (t := .boolean) hret (by simp) (hb hby d17_51) hr)
          · skip
            have c20 : Steps p.tables e below S0 (T16.setTop (mkF m 40 #[.val (.ref a), .val (.int p1), .val (.int p2), .val (.int p3)] [(.int (p1 + (1 : Int32))), (.ref a)])) := c16.trans (by
              refine XS.ifNo X16.here hx rfl (hb hby d17_33) rfl ((if0 _ _).trans (feq hc17).1) ?_
              refine XS.aloadN X16.here hx rfl (hb hby d17_36) rfl rfl ?_
              refine XS.iloadN X16.here hx rfl (hb hby d17_37) rfl ?_
              refine XS.iconst X16.here hx rfl (hb hby d17_38) ?_
              refine XS.iadd X16.here hx rfl (hb hby d17_39) rfl ?_
              exact Steps.refl _)
            obtain ⟨v21, T21, L21, X21, ⟨N21', rfl, e21⟩, c21'⟩ := own_stat X16 hx hml hZ hown (hw _ (List.mem_of_getElem? (i := 71) rfl)) (hw _ (List.mem_of_getElem? (i := 72) rfl)) (hw _ (List.mem_of_getElem? (i := 73) rfl)) (hw _ (List.mem_of_getElem? (i := 74) rfl)) (by decide) (kc := 0) (ks := 0) (h := h0) (W := 0) (argsL := [(.ref a), (.int (p1 + (1 : Int32)))]) (rest := []) (own_pay (W := 0) (rm_dig l Z a0 hw cs a ka (p1 + (1 : Int32)) h0 O0 Ka) hZ (hw _ (List.mem_of_getElem? (i := 74) rfl)) (hw _ (List.mem_of_getElem? (i := 73) rfl)) (by decide) (by decide)) c20 rfl rfl (lenOf pd_0 rfl) rfl (by show 2 * 0 + _ ≤ _; exact Nat.le_of_eq rfl) (hb hby d17_40) e16 (by decide) (by decide)
            have N21 := Fr.app N16 N21'
            have c21 : Steps p.tables e below S0 (T21.setTop (mkF m 43 #[.val (.ref a), .val (.int p1), .val (.int p2), .val (.int p3)] [(.int (own_i (own_digA cs (p1 + (1 : Int32)))))])) := c21'
            by_cases hc22 : (own_i (own_digA cs (p1 + (1 : Int32)))) = (0 : Int32)
            · skip
              have c23 : Steps p.tables e below S0 (T21.setTop (mkF m 51 #[.val (.ref a), .val (.int p1), .val (.int p2), .val (.int p3)] [(.int (0 : Int32))])) := c21.trans (by
                refine XS.ifYes X21.here hx rfl (pc0 := 43) (pc' := 50) rfl (hb hby d17_43) rfl ((if0 _ _).trans (teq hc22).1) (by decide) (by decide) ?_
                refine XS.iconst X21.here hx rfl (hb hby d17_50) ?_
                exact Steps.refl _)
              refine ⟨T21, (some (.int (0 : Int32))), _, _, _, X21, by decide, by decide, (fun q => by cases q), N21, ?_, fun fs hr => ?_⟩
              · rw [e21]
                simp only [own_i0] at hc9 hc12 hc17 hc22
                exact ⟨by simp [own_fit_eq, own_i, hc2, hc6, hc9, hc12, hc17, hc22], rfl⟩
              · exact c23.trans (retN X21 hx (t := .boolean) hret (by simp) (hb hby d17_51) hr)
            · skip
              have c25 : Steps p.tables e below S0 (T21.setTop (mkF m 51 #[.val (.ref a), .val (.int p1), .val (.int p2), .val (.int p3)] [(.int (1 : Int32))])) := c21.trans (by
                refine XS.ifNo X21.here hx rfl (hb hby d17_43) rfl ((if0 _ _).trans (feq hc22).1) ?_
                refine XS.iconst X21.here hx rfl (hb hby d17_46) ?_
                refine XS.goto X21.here hx rfl (pc0 := 47) (pc' := 51) rfl (hb hby d17_47) (by decide) (by decide) ?_
                exact Steps.refl _)
              refine ⟨T21, (some (.int (1 : Int32))), _, _, _, X21, by decide, by decide, (fun q => by cases q), N21, ?_, fun fs hr => ?_⟩
              · rw [e21]
                simp only [own_i0] at hc9 hc12 hc17 hc22
                exact ⟨by simp [own_fit_eq, own_i, hc2, hc6, hc9, hc12, hc17, hc22], rfl⟩
              · exact c25.trans (retN X21 hx (t := .boolean) hret (by simp) (hb hby d17_51) hr)
      · skip
        have c27 : Steps p.tables e below S0 (T8.setTop (mkF m 51 #[.val (.ref a), .val (.int p1), .val (.int p2), .val (.int p3)] [(.int (1 : Int32))])) := c8.trans (by
          refine XS.ifYes X8.here hx rfl (pc0 := 15) (pc' := 46) rfl (hb hby d17_15) rfl ((if0 _ _).trans (feq hc9).2) (by decide) (by decide) ?_
          refine XS.iconst X8.here hx rfl (hb hby d17_46) ?_
          refine XS.goto X8.here hx rfl (pc0 := 47) (pc' := 51) rfl (hb hby d17_47) (by decide) (by decide) ?_
          exact Steps.refl _)
        refine ⟨T8, (some (.int (1 : Int32))), _, _, _, X8, by decide, by decide, (fun q => by cases q), N8, ?_, fun fs hr => ?_⟩
        · rw [e8]
          simp only [own_i0] at hc9
          exact ⟨by simp [own_fit_eq, own_i, hc2, hc6, hc9], rfl⟩
        · exact c27.trans (retN X8 hx (t := .boolean) hret (by simp) (hb hby d17_51) hr)
    · skip
      have c29 : Steps p.tables e below S0 (s₁.setTop (mkF m 51 #[.val (.ref a), .val (.int p1), .val (.int p2), .val (.int p3)] [(.int (1 : Int32))])) := c5.trans (by
        refine XS.icmpYes X0.here hx rfl (pc0 := 7) (pc' := 46) rfl (hb hby d17_7) rfl (flt hc6).2.1 (by decide) (by decide) ?_
        refine XS.iconst X0.here hx rfl (hb hby d17_46) ?_
        refine XS.goto X0.here hx rfl (pc0 := 47) (pc' := 51) rfl (hb hby d17_47) (by decide) (by decide) ?_
        exact Steps.refl _)
      refine ⟨s₁, (some (.int (1 : Int32))), _, _, _, X0, by decide, by decide, (fun q => by cases q), N0, ?_, fun fs hr => ?_⟩
      · rw [e0]
        exact ⟨by simp [own_fit_eq, own_i, hc2, hc6], rfl⟩
      · exact c29.trans (retN X0 hx (t := .boolean) hret (by simp) (hb hby d17_51) hr)
set_option maxRecDepth 65536 in
set_option maxHeartbeats 40000000 in
theorem loopE {p : Program} {l : Launch} {e : Env} {s : State} {m : MethodId} {args : Array Value} {below : List Frame} {meth : Method} {c : Code} {S0 : State} {Z : State} {a0 : Array Value} (hw : ∀ d ∈ tables_1, d.before a0 Z = true) (cs : List Int32) (x t : Addr) (kb : ClassId) (z : Int32) (fm : Value) (f : Int32) (h0 : Heap) (O0 : Old Z Z.heap.size h0) (E : Exa Z h0 x "java/lang/String") (V : Fld Z h0 x "java/lang/String" "value" "[B" (.ref t)) (Cd : Fld Z h0 x "java/lang/String" "coder" "B" (.int 0)) (K : Arv Z h0 t kb .byte (6 : Int32) ((cs.map (fun c : Int32 => c.toInt8.toInt32)).map Value.int) (.int 0)) (hlen : cs.length = 6) (hB : ∀ c ∈ cs, own_B c) (SC : Sta Z Z.heap "java/lang/String" "COMPACT_STRINGS" "Z" (.int z)) (hz : ¬ z = 0) (SF : Sta Z Z.heap "jdk/internal/util/Preconditions" "SIOOBE_FORMATTER" "Ljava/util/function/BiFunction;" fm) (hfm : fm.isRef = true)
    (hx : p.tables.exec = Jvm.exec) (hZ : Z.Warmed39 s.vm) (hby : c.code = prog_37_method_3_code) (hml : c.maxLocals = 5) (hown : s.vm.findClass "com/example/milepost/milepost/model/Version" = some m.cls) :
    ∀ (k i : Nat) (en : Int32) (z0 : Slot) (T0 : State) (locs : List Loc), k = 6 - i → i ≤ 7 → (z0 = .unset ∨ ∃ w, z0 = .val w ∧ w.category = 1) → Stand p l e ({ frames := 4, cells := 0, slots := 0, locals := 60 } : Room) s m args below meth c T0 locs 0 0 → Fr Z.heap.size locs → T0.heap = h0 →
      Steps p.tables e below S0 (T0.setTop (mkF m 4 #[.val (.ref x), .val (.int f), .val (.int en), .val (.int (Int32.ofNat i)), z0] [])) →
      ∃ (T' : State) (locs' : List Loc) (a' : Int32) (z' : Slot), Stand p l e ({ frames := 4, cells := 0, slots := 0, locals := 60 } : Room) s m args below meth c T' locs' 0 0 ∧ Fr Z.heap.size locs' ∧ T'.heap = h0 ∧ Steps p.tables e below S0 (T'.setTop (mkF m 62 #[.val (.ref x), .val (.int f), .val (.int (own_end cs k i en)), .val (.int a'), z'] [])) := by
  have hln : ∀ d ∈ StrChars.Road.wordsLen, d.before a0 Z = true := fun d hd => hw d ((by decide +kernel : ∀ d ∈ StrChars.Road.wordsLen, d ∈ tables_1) d hd)
  have hch : ∀ d ∈ StrChars.Road.wordsChN, d.before a0 Z = true := fun d hd => hw d ((by decide +kernel : ∀ d ∈ StrChars.Road.wordsChN, d ∈ tables_1) d hd)
  have hcd : StrChars.Road.CodA cs 0 (6 : Int32) ((cs.map (fun c : Int32 => c.toInt8.toInt32)).map Value.int) := StrChars.Road.codOf (n := 6) hlen (fun c hc => (hB c hc).rng.2)
  have hbd : ∀ c ∈ cs, ¬ c < 0 ∧ ¬ (65535 : Int32) < c := fun c hc => (hB c hc).rng2
  have hl4 : cs.length ≤ 4000 := by rw [hlen]; decide
  intro k
  induction k with
  | zero =>
    intro i en z0 T0 locs hik hi7 hz0 X0 N0 e0 c0
    have hge : ¬ (Int32.ofNat i < Int32.ofNat cs.length) := by rw [own_lt32 (by omega) (by omega)]; omega
    have c101 : Steps p.tables e below S0 (T0.setTop (mkF m 6 #[.val (.ref x), .val (.int f), .val (.int en), .val (.int (Int32.ofNat i)), z0] [(.ref x), (.int (Int32.ofNat i))])) := c0.trans (by
      refine XS.iloadN X0.here hx rfl (hb hby d7_4) rfl ?_
      refine XS.aloadN X0.here hx rfl (hb hby d7_5) rfl rfl ?_
      exact Steps.refl _)
    obtain ⟨v102, T102, L102, X102, ⟨rfl, rfl, e102⟩, c102'⟩ := own_virt X0 hx hml hZ hown (hw _ (List.mem_of_getElem? (i := 36) rfl)) (hw _ (List.mem_of_getElem? (i := 37) rfl)) (hw _ (List.mem_of_getElem? (i := 39) rfl)) (hw _ (List.mem_of_getElem? (i := 38) rfl)) (hw _ (List.mem_of_getElem? (i := 39) rfl)) (by decide) (Q := fun v h' L => v = some (.int (Int32.ofNat cs.length)) ∧ L = [] ∧ h' = h0) (kc := 0) (ks := 0) (h := h0) (W := 1) (b := x) (argsL := []) (rest := [(.int (Int32.ofNat i))]) (StrChars.Road.lenW (W := 1) hZ hln (kI := 4) (hw _ (List.mem_of_getElem? (i := 4) rfl)) E V Cd K hcd hbd (SC.ext O0.2) hz hl4 (by decide) (by decide)) E c101 rfl rfl (lenOf pd_1 rfl) rfl (by show 2 * 0 + _ ≤ _; exact Nat.le_of_eq rfl) (hb hby d7_6) e0 (by decide) (by decide)
    have N102 := Fr.app N0 (Fr.nil _)
    have c102 : Steps p.tables e below S0 (T102.setTop (mkF m 9 #[.val (.ref x), .val (.int f), .val (.int en), .val (.int (Int32.ofNat i)), z0] [(.int (Int32.ofNat cs.length)), (.int (Int32.ofNat i))])) := c102'
    have c103 : Steps p.tables e below S0 (T102.setTop (mkF m 62 #[.val (.ref x), .val (.int f), .val (.int en), .val (.int (Int32.ofNat i)), z0] [])) := c102.trans (by
      refine XS.icmpYes X102.here hx rfl (pc0 := 9) (pc' := 62) rfl (hb hby d7_9) rfl (flt hge).2.1 (by decide) (by decide) ?_
      exact Steps.refl _)
    exact ⟨T102, _, _, _, X102, N102, e102, c103⟩
  | succ k ih =>
    intro i en z0 T0 locs hik hi7 hz0 X0 N0 e0 c0
    have hi6 : i < cs.length := by omega
    have hlt : Int32.ofNat i < Int32.ofNat cs.length := by rw [own_lt32 (by omega) (by omega)]; omega
    have c1 : Steps p.tables e below S0 (T0.setTop (mkF m 6 #[.val (.ref x), .val (.int f), .val (.int en), .val (.int (Int32.ofNat i)), z0] [(.ref x), (.int (Int32.ofNat i))])) := c0.trans (by
      refine XS.iloadN X0.here hx rfl (hb hby d7_4) rfl ?_
      refine XS.aloadN X0.here hx rfl (hb hby d7_5) rfl rfl ?_
      exact Steps.refl _)
    obtain ⟨v2, T2, L2, X2, ⟨rfl, rfl, e2⟩, c2'⟩ := own_virt X0 hx hml hZ hown (hw _ (List.mem_of_getElem? (i := 36) rfl)) (hw _ (List.mem_of_getElem? (i := 37) rfl)) (hw _ (List.mem_of_getElem? (i := 39) rfl)) (hw _ (List.mem_of_getElem? (i := 38) rfl)) (hw _ (List.mem_of_getElem? (i := 39) rfl)) (by decide) (Q := fun v h' L => v = some (.int (Int32.ofNat cs.length)) ∧ L = [] ∧ h' = h0) (kc := 0) (ks := 0) (h := h0) (W := 1) (b := x) (argsL := []) (rest := [(.int (Int32.ofNat i))]) (StrChars.Road.lenW (W := 1) hZ hln (kI := 4) (hw _ (List.mem_of_getElem? (i := 4) rfl)) E V Cd K hcd hbd (SC.ext O0.2) hz hl4 (by decide) (by decide)) E c1 rfl rfl (lenOf pd_1 rfl) rfl (by show 2 * 0 + _ ≤ _; exact Nat.le_of_eq rfl) (hb hby d7_6) e0 (by decide) (by decide)
    have N2 := Fr.app N0 (Fr.nil _)
    have c2 : Steps p.tables e below S0 (T2.setTop (mkF m 9 #[.val (.ref x), .val (.int f), .val (.int en), .val (.int (Int32.ofNat i)), z0] [(.int (Int32.ofNat cs.length)), (.int (Int32.ofNat i))])) := c2'
    have c3 : Steps p.tables e below S0 (T2.setTop (mkF m 14 #[.val (.ref x), .val (.int f), .val (.int en), .val (.int (Int32.ofNat i)), z0] [(.int (Int32.ofNat i)), (.ref x)])) := c2.trans (by
      refine XS.icmpNo X2.here hx rfl (hb hby d7_9) rfl (tlt hlt).2.1 ?_
      refine XS.aloadN X2.here hx rfl (hb hby d7_12) rfl rfl ?_
      refine XS.iloadN X2.here hx rfl (hb hby d7_13) rfl ?_
      exact Steps.refl _)
    obtain ⟨v4, T4, L4, X4, ⟨rfl, rfl, e4⟩, c4'⟩ := own_virt X2 hx hml hZ hown (hw _ (List.mem_of_getElem? (i := 46) rfl)) (hw _ (List.mem_of_getElem? (i := 47) rfl)) (hw _ (List.mem_of_getElem? (i := 49) rfl)) (hw _ (List.mem_of_getElem? (i := 48) rfl)) (hw _ (List.mem_of_getElem? (i := 49) rfl)) (by decide) (Q := fun v h' L => v = some (.int (own_atN cs i)) ∧ L = [] ∧ h' = h0) (kc := 0) (ks := 0) (h := h0) (W := 0) (b := x) (argsL := [(.int (Int32.ofNat i))]) (rest := []) (StrChars.Road.chN (W := 0) hZ hch (kI := 4) (hw _ (List.mem_of_getElem? (i := 4) rfl)) E V Cd K hcd hbd (SC.ext O0.2) hz (SF.ext O0.2) hfm hl4 (i := i) hi6 rfl (by decide) (by decide)) E c3 rfl rfl (lenOf pd_2 rfl) rfl (by show 2 * 0 + _ ≤ _; exact Nat.le_of_eq rfl) (hb hby d7_14) e2 (by decide) (by decide)
    have N4 := Fr.app N2 (Fr.nil _)
    have c4 : Steps p.tables e below S0 (T4.setTop (mkF m 17 #[.val (.ref x), .val (.int f), .val (.int en), .val (.int (Int32.ofNat i)), z0] [(.int (own_atN cs i))])) := c4'
    have c5 : Steps p.tables e below S0 (T4.setTop (mkF m 21 #[.val (.ref x), .val (.int f), .val (.int en), .val (.int (Int32.ofNat i)), .val (.int (own_atN cs i))] [(.int (own_atN cs i))])) := c4.trans (by
      refine XS.istore X4.here hx rfl (hb hby d7_17) rfl (l' := #[.val (.ref x), .val (.int f), .val (.int en), .val (.int (Int32.ofNat i)), .val (.int (own_atN cs i))]) (by rw [XS.store1 (o := z0) rfl hz0 rfl]; rfl) ?_
      refine XS.iload X4.here hx rfl (hb hby d7_19) rfl ?_
      exact Steps.refl _)
    obtain ⟨v6, T6, L6, X6, ⟨N6', rfl, e6⟩, c6'⟩ := own_stat X4 hx hml hZ hown (hw _ (List.mem_of_getElem? (i := 68) rfl)) (hw _ (List.mem_of_getElem? (i := 69) rfl)) (hw _ (List.mem_of_getElem? (i := 34) rfl)) (hw _ (List.mem_of_getElem? (i := 70) rfl)) (by decide) (kc := 0) (ks := 0) (h := h0) (W := 0) (argsL := [(.int (own_atN cs i))]) (rest := []) (own_pay (W := 0) (rmDigit l Z a0 hw (own_atN cs i) h0 O0) hZ (hw _ (List.mem_of_getElem? (i := 70) rfl)) (hw _ (List.mem_of_getElem? (i := 34) rfl)) (by decide) (by decide)) c5 rfl rfl (lenOf pd_3 rfl) rfl (by show 2 * 0 + _ ≤ _; exact Nat.le_of_eq rfl) (hb hby d7_21) e4 (by decide) (by decide)
    have N6 := Fr.app N4 N6'
    have c6 : Steps p.tables e below S0 (T6.setTop (mkF m 24 #[.val (.ref x), .val (.int f), .val (.int en), .val (.int (Int32.ofNat i)), .val (.int (own_atN cs i))] [(.int (own_i (own_dig (own_atN cs i))))])) := c6'
    by_cases hc7 : (own_i (own_dig (own_atN cs i))) = (0 : Int32)
    · skip
      have c8 : Steps p.tables e below S0 (T6.setTop (mkF m 36 #[.val (.ref x), .val (.int f), .val (.int en), .val (.int (Int32.ofNat i)), .val (.int (own_atN cs i))] [(.int (Int32.ofNat i)), (.int en)])) := c6.trans (by
        refine XS.ifYes X6.here hx rfl (pc0 := 24) (pc' := 34) rfl (hb hby d7_24) rfl ((if0 _ _).trans (teq hc7).1) (by decide) (by decide) ?_
        refine XS.iloadN X6.here hx rfl (hb hby d7_34) rfl ?_
        refine XS.iloadN X6.here hx rfl (hb hby d7_35) rfl ?_
        exact Steps.refl _)
      by_cases hc9 : en = (Int32.ofNat i)
      · skip
        have c10 : Steps p.tables e below S0 (T6.setTop (mkF m 43 #[.val (.ref x), .val (.int f), .val (.int en), .val (.int (Int32.ofNat i)), .val (.int (own_atN cs i))] [(.int (46 : Int32)), (.int (own_atN cs i))])) := c8.trans (by
          refine XS.icmpNo X6.here hx rfl (hb hby d7_36) rfl (teq hc9).2 ?_
          refine XS.iload X6.here hx rfl (hb hby d7_39) rfl ?_
          refine XS.bipush X6.here hx rfl (hb hby d7_41) ?_
          exact Steps.refl _)
        by_cases hc11 : (own_atN cs i) = (46 : Int32)
        · skip
          have c12 : Steps p.tables e below S0 (T6.setTop (mkF m 4 #[.val (.ref x), .val (.int f), .val (.int en), .val (.int ((Int32.ofNat i) + (1 : Int32))), .val (.int (own_atN cs i))] [])) := c10.trans (by
            refine XS.icmpYes X6.here hx rfl (pc0 := 43) (pc' := 56) rfl (hb hby d7_43) rfl (teq hc11).1 (by decide) (by decide) ?_
            refine XS.iinc X6.here hx rfl (hb hby d7_56) rfl (l' := #[.val (.ref x), .val (.int f), .val (.int en), .val (.int ((Int32.ofNat i) + (1 : Int32))), .val (.int (own_atN cs i))]) rfl ?_
            refine XS.goto X6.here hx rfl (pc0 := 59) (pc' := 4) rfl (hb hby d7_59) (by decide) (by decide) ?_
            exact Steps.refl _)
          have ho : own_end cs (k + 1) i en = own_end cs k (i + 1) en := by
            simp only [own_i0] at hc7
            simp [own_end_succ, own_sep, own_d46, own_d95, hc7, hc9, hc11]
          rw [ho]
          have cz : Steps p.tables e below S0 (T6.setTop (mkF m 4 #[.val (.ref x), .val (.int f), .val (.int en), .val (.int (Int32.ofNat (i + 1))), .val (.int (own_atN cs i))] [])) := by rw [← own_succ]; exact c12
          exact ih (i + 1) en _ T6 _ (by omega) (by omega) (Or.inr ⟨_, rfl, rfl⟩) X6 N6 e6 cz
        · skip
          have c13 : Steps p.tables e below S0 (T6.setTop (mkF m 50 #[.val (.ref x), .val (.int f), .val (.int en), .val (.int (Int32.ofNat i)), .val (.int (own_atN cs i))] [(.int (95 : Int32)), (.int (own_atN cs i))])) := c10.trans (by
            refine XS.icmpNo X6.here hx rfl (hb hby d7_43) rfl (feq hc11).1 ?_
            refine XS.iload X6.here hx rfl (hb hby d7_46) rfl ?_
            refine XS.bipush X6.here hx rfl (hb hby d7_48) ?_
            exact Steps.refl _)
          by_cases hc14 : (own_atN cs i) = (95 : Int32)
          · skip
            have c15 : Steps p.tables e below S0 (T6.setTop (mkF m 4 #[.val (.ref x), .val (.int f), .val (.int en), .val (.int ((Int32.ofNat i) + (1 : Int32))), .val (.int (own_atN cs i))] [])) := c13.trans (by
              refine XS.icmpYes X6.here hx rfl (pc0 := 50) (pc' := 56) rfl (hb hby d7_50) rfl (teq hc14).1 (by decide) (by decide) ?_
              refine XS.iinc X6.here hx rfl (hb hby d7_56) rfl (l' := #[.val (.ref x), .val (.int f), .val (.int en), .val (.int ((Int32.ofNat i) + (1 : Int32))), .val (.int (own_atN cs i))]) rfl ?_
              refine XS.goto X6.here hx rfl (pc0 := 59) (pc' := 4) rfl (hb hby d7_59) (by decide) (by decide) ?_
              exact Steps.refl _)
            have ho : own_end cs (k + 1) i en = own_end cs k (i + 1) en := by
              simp only [own_i0] at hc7
              simp [own_end_succ, own_sep, own_d46, own_d95, hc7, hc9, hc11, hc14]
            rw [ho]
            have cz : Steps p.tables e below S0 (T6.setTop (mkF m 4 #[.val (.ref x), .val (.int f), .val (.int en), .val (.int (Int32.ofNat (i + 1))), .val (.int (own_atN cs i))] [])) := by rw [← own_succ]; exact c15
            exact ih (i + 1) en _ T6 _ (by omega) (by omega) (Or.inr ⟨_, rfl, rfl⟩) X6 N6 e6 cz
          · skip
            have c16 : Steps p.tables e below S0 (T6.setTop (mkF m 62 #[.val (.ref x), .val (.int f), .val (.int en), .val (.int (Int32.ofNat i)), .val (.int (own_atN cs i))] [])) := c13.trans (by
              refine XS.icmpNo X6.here hx rfl (hb hby d7_50) rfl (feq hc14).1 ?_
              refine XS.goto X6.here hx rfl (pc0 := 53) (pc' := 62) rfl (hb hby d7_53) (by decide) (by decide) ?_
              exact Steps.refl _)
            have ho : own_end cs (k + 1) i en = en := by
              simp only [own_i0] at hc7
              simp [own_end_succ, own_sep, own_d46, own_d95, hc7, hc9, hc11, hc14]
            rw [ho]
            exact ⟨T6, _, _, _, X6, N6, e6, c16⟩
      · skip
        have c17 : Steps p.tables e below S0 (T6.setTop (mkF m 62 #[.val (.ref x), .val (.int f), .val (.int en), .val (.int (Int32.ofNat i)), .val (.int (own_atN cs i))] [])) := c8.trans (by
          refine XS.icmpYes X6.here hx rfl (pc0 := 36) (pc' := 62) rfl (hb hby d7_36) rfl (feq hc9).2 (by decide) (by decide) ?_
          exact Steps.refl _)
        have ho : own_end cs (k + 1) i en = en := by
          simp only [own_i0] at hc7
          simp [own_end_succ, own_sep, own_d46, own_d95, hc7, hc9]
        rw [ho]
        exact ⟨T6, _, _, _, X6, N6, e6, c17⟩
    · skip
      have c18 : Steps p.tables e below S0 (T6.setTop (mkF m 4 #[.val (.ref x), .val (.int f), .val (.int ((Int32.ofNat i) + (1 : Int32))), .val (.int ((Int32.ofNat i) + (1 : Int32))), .val (.int (own_atN cs i))] [])) := c6.trans (by
        refine XS.ifNo X6.here hx rfl (hb hby d7_24) rfl ((if0 _ _).trans (feq hc7).1) ?_
        refine XS.iloadN X6.here hx rfl (hb hby d7_27) rfl ?_
        refine XS.iconst X6.here hx rfl (hb hby d7_28) ?_
        refine XS.iadd X6.here hx rfl (hb hby d7_29) rfl ?_
        refine XS.istoreN X6.here hx rfl (hb hby d7_30) rfl (l' := #[.val (.ref x), .val (.int f), .val (.int ((Int32.ofNat i) + (1 : Int32))), .val (.int (Int32.ofNat i)), .val (.int (own_atN cs i))]) rfl ?_
        refine XS.goto X6.here hx rfl (pc0 := 31) (pc' := 56) rfl (hb hby d7_31) (by decide) (by decide) ?_
        refine XS.iinc X6.here hx rfl (hb hby d7_56) rfl (l' := #[.val (.ref x), .val (.int f), .val (.int ((Int32.ofNat i) + (1 : Int32))), .val (.int ((Int32.ofNat i) + (1 : Int32))), .val (.int (own_atN cs i))]) rfl ?_
        refine XS.goto X6.here hx rfl (pc0 := 59) (pc' := 4) rfl (hb hby d7_59) (by decide) (by decide) ?_
        exact Steps.refl _)
      have ho : own_end cs (k + 1) i en = own_end cs k (i + 1) ((Int32.ofNat i) + (1 : Int32)) := by
        simp only [own_i0] at hc7
        simp [own_end_succ, own_sep, own_d46, own_d95, hc7]
      rw [ho]
      have cz : Steps p.tables e below S0 (T6.setTop (mkF m 4 #[.val (.ref x), .val (.int f), .val (.int ((Int32.ofNat i) + (1 : Int32))), .val (.int (Int32.ofNat (i + 1))), .val (.int (own_atN cs i))] [])) := by rw [← own_succ]; exact c18
      exact ih (i + 1) ((Int32.ofNat i) + (1 : Int32)) _ T6 _ (by omega) (by omega) (Or.inr ⟨_, rfl, rfl⟩) X6 N6 e6 cz
set_option maxRecDepth 65536 in
set_option maxHeartbeats 40000000 in
theorem rmEnd (l : Launch) (Z : State) (a0 : Array Value) (hw : ∀ d ∈ tables_1, d.before a0 Z = true) (cs : List Int32) (x t : Addr) (kb : ClassId) (z : Int32) (fm : Value) (j : Nat) (h0 : Heap) (O0 : Old Z Z.heap.size h0) (E : Exa Z h0 x "java/lang/String") (V : Fld Z h0 x "java/lang/String" "value" "[B" (.ref t)) (Cd : Fld Z h0 x "java/lang/String" "coder" "B" (.int 0)) (K : Arv Z h0 t kb .byte (6 : Int32) ((cs.map (fun c : Int32 => c.toInt8.toInt32)).map Value.int) (.int 0)) (hlen : cs.length = 6) (hB : ∀ c ∈ cs, own_B c) (SC : Sta Z Z.heap "java/lang/String" "COMPACT_STRINGS" "Z" (.int z)) (hz : ¬ z = 0) (SF : Sta Z Z.heap "jdk/internal/util/Preconditions" "SIOOBE_FORMATTER" "Ljava/util/function/BiFunction;" fm) (hfm : fm.isRef = true) (hj : j ≤ 7) :
    own_NC l Z (⟨"com/example/milepost/milepost/model/Version", "end", "(Ljava/lang/String;I)I"⟩ : MethodName) prog_37_method_3_code 5 (some .int) ({ frames := 4, cells := 0, slots := 0, locals := 60 } : Room) #[(.ref x), (.int (Int32.ofNat j))] h0 (fun v h => v = some (.int (own_end cs (6 - j) j (-1))) ∧ h = h0) := by
  refine own_nc (plainFor_of_name (by first | (simp [plainName, overriddenIn]; done) | decide +kernel)) ?_
  intro p e s m below meth c s₁ S0 X0 hx hby hml hret hnm hown hZ e0 cc
  have N0 := Fr.nil Z.heap.size
  have c0 : Steps p.tables e below S0 (s₁.setTop (mkF m 0 #[.val (.ref x), .val (.int (Int32.ofNat j)), .unset, .unset, .unset] [])) := cc.trans (XT.entry rfl)
  have c1 : Steps p.tables e below S0 (s₁.setTop (mkF m 4 #[.val (.ref x), .val (.int (Int32.ofNat j)), .val (.int (-1 : Int32)), .val (.int (Int32.ofNat j)), .unset] [])) := c0.trans (by
    refine XS.iconst X0.here hx rfl (hb hby d7_0) ?_
    refine XS.istoreN X0.here hx rfl (hb hby d7_1) rfl (l' := #[.val (.ref x), .val (.int (Int32.ofNat j)), .val (.int (-1 : Int32)), .unset, .unset]) rfl ?_
    refine XS.iloadN X0.here hx rfl (hb hby d7_2) rfl ?_
    refine XS.istoreN X0.here hx rfl (hb hby d7_3) rfl (l' := #[.val (.ref x), .val (.int (Int32.ofNat j)), .val (.int (-1 : Int32)), .val (.int (Int32.ofNat j)), .unset]) rfl ?_
    exact Steps.refl _)
  obtain ⟨T2, lo2, a2, z2, X2, N2, e2, c2⟩ := loopE hw cs x t kb z fm (Int32.ofNat j) h0 O0 E V Cd K hlen hB SC hz SF hfm hx hZ hby hml hown (6 - j) j (-1) .unset s₁ [] rfl hj (Or.inl rfl) X0 N0 e0 c1
  have c3 : Steps p.tables e below S0 (T2.setTop (mkF m 63 #[.val (.ref x), .val (.int (Int32.ofNat j)), .val (.int (own_end cs (6 - j) j (-1))), .val (.int a2), z2] [(.int (own_end cs (6 - j) j (-1)))])) := c2.trans (by
    refine XS.iloadN X2.here hx rfl (hb hby d7_62) rfl ?_
    exact Steps.refl _)
  refine ⟨T2, (some (.int (own_end cs (6 - j) j (-1)))), _, _, _, X2, by decide, by decide, (fun q => by cases q), N2, ?_, fun fs hr => ?_⟩
  · rw [e2]
    exact ⟨rfl, rfl⟩
  · exact c3.trans (retI X2 hx hret (hb hby d7_63) hr)
set_option maxRecDepth 65536 in
set_option maxHeartbeats 40000000 in
theorem rm0 (l : Launch) (Z : State) (a0 : Array Value) (hw : ∀ d ∈ tables_1, d.before a0 Z = true) (lq : Int64) (p3 : Int32) (z : Int32) (fm : Value) (h0 : Heap) (O0 : Old Z Z.heap.size h0) (SC : Sta Z Z.heap "java/lang/String" "COMPACT_STRINGS" "Z" (.int z)) (hz : ¬ z = 0) (SF : Sta Z Z.heap "jdk/internal/util/Preconditions" "SIOOBE_FORMATTER" "Ljava/util/function/BiFunction;" fm) (hfm : fm.isRef = true) :
    own_NW l Z x code maxLocals ret room_1 #[(.long lq), (.int p3)] h0 (fun v h => v = some (.int (1 : Int32))) := by
  intro p e s m below meth c s₁ S0 X0 hx hby hml hret hnm hown hZ e0 cc
  have N0 := Fr.nil Z.heap.size
  have c0 : Steps p.tables e below S0 (s₁.setTop (mkF m 0 #[.val (.long lq), .second, .val (.int p3), .unset, .unset, .unset, .unset, .unset] [])) := cc.trans (XT.entry rfl)
  have hws : ∀ d ∈ StrChars.Road.words, d.before a0 Z = true := fun d hd => hw d ((by decide +kernel : ∀ d ∈ StrChars.Road.words, d ∈ tables_1) d hd)
  have c1 : Steps p.tables e below S0 (s₁.setTop (mkF m 2 #[.val (.long lq), .second, .val (.int p3), .unset, .unset, .unset, .unset, .unset] [(.int (6 : Int32))])) := c0.trans (by
    refine XS.bipush X0.here hx rfl (hb hby at_0) ?_
    exact Steps.refl _)
  obtain ⟨T2, h2, k2, X2, e2, E2, A2, st2⟩ := newP X0 hx hZ (hw _ (List.mem_of_getElem? (i := 0) rfl)) e0 (g := (mkF m 2 #[.val (.long lq), .second, .val (.int p3), .unset, .unset, .unset, .unset, .unset] [(.int (6 : Int32))])) rfl (hb hby at_2) rfl (by decide) (cap := 6) (by decide) (by decide) (by decide) (by decide)
  obtain ⟨b2, g2⟩ : ∃ z, z = h0.size := ⟨_, rfl⟩
  rw [← g2] at A2 st2
  have lo2 : h0.size ≤ b2 := Nat.le_of_eq g2.symm
  have ge2 : Z.heap.size ≤ b2 := Nat.le_trans O0.2.1 lo2
  have V2 := Arv.new A2 (by decide)
  have V2a : Arv Z h2 b2 k2 .char (6 : Int32) [(.int (0 : Int32)), (.int (0 : Int32)), (.int (0 : Int32)), (.int (0 : Int32)), (.int (0 : Int32)), (.int (0 : Int32))] (.int (0 : Int32)) := V2.pad (pad_rep [] (.int (0 : Int32)) 6)
  have c2 : Steps p.tables e below S0 (T2.setTop (mkF m 4 #[.val (.long lq), .second, .val (.int p3), .unset, .unset, .unset, .unset, .unset] [(.ref b2)])) := c1.trans (st2 _ (Steps.refl _))
  have c3 : Steps p.tables e below S0 (T2.setTop (mkF m 8 #[.val (.long lq), .second, .val (.int p3), .val (.ref b2), .unset, .unset, .unset, .unset] [(.long lq), (.int (0 : Int32)), (.ref b2)])) := c2.trans (by
    refine XS.astoreN X2.here hx rfl (hb hby at_4) rfl rfl (l' := #[.val (.long lq), .second, .val (.int p3), .val (.ref b2), .unset, .unset, .unset, .unset]) rfl ?_
    refine XS.aloadN X2.here hx rfl (hb hby at_5) rfl rfl ?_
    refine XS.iconst X2.here hx rfl (hb hby at_6) ?_
    refine XS.lloadN X2.here hx rfl (hb hby at_7) rfl ?_
    exact Steps.refl _)
  have c4 : Steps p.tables e below S0 (T2.setTop (mkF m 11 #[.val (.long lq), .second, .val (.int p3), .val (.ref b2), .unset, .unset, .unset, .unset] [(.long (255 : Int64)), (.long lq), (.int (0 : Int32)), (.ref b2)])) := c3.trans (by
    refine X2.ldc2Long hx hown (mvT hZ (hw _ (List.mem_of_getElem? (i := 1) rfl))) (g := (mkF m 8 #[.val (.long lq), .second, .val (.int p3), .val (.ref b2), .unset, .unset, .unset, .unset] [(.long lq), (.int (0 : Int32)), (.ref b2)])) rfl (hb hby at_8) _ ?_
    exact Steps.refl _)
  have c5 : Steps p.tables e below S0 (T2.setTop (mkF m 14 #[.val (.long lq), .second, .val (.int p3), .val (.ref b2), .unset, .unset, .unset, .unset] [(.int (((lq &&& (255 : Int64)).toInt32).toUInt32.toUInt16.toUInt32.toInt32)), (.int (0 : Int32)), (.ref b2)])) := c4.trans (by
    refine XS.land X2.here hx rfl (hb hby at_11) rfl ?_
    refine XS.l2i X2.here hx rfl (hb hby at_12) rfl ?_
    refine XS.i2c X2.here hx rfl (hb hby at_13) rfl ?_
    exact Steps.refl _)
  obtain ⟨x6, hB6, eq6⟩ := own_bL lq
  have c6 : Steps p.tables e below S0 (T2.setTop (mkF m 14 #[.val (.long lq), .second, .val (.int p3), .val (.ref b2), .unset, .unset, .unset, .unset] [(.int x6), (.int (0 : Int32)), (.ref b2)])) := by rw [← eq6]; exact c5
  obtain ⟨cl7, Ar7, q7, S7, M7, H7, G7⟩ := id V2a
  have hin7 : ¬ ((0 : Int32) < 0 ∨ cl7.slots.size ≤ ((0 : Int32)).toNatClampNeg) := inb_of S7 ⟨by decide, by decide⟩
  obtain ⟨T7, h7, X7, e7, W7, st7⟩ := stC X2 hx hZ e2 Ar7 (j := (0 : Int32)) hin7 (g := (mkF m 14 #[.val (.long lq), .second, .val (.int p3), .val (.ref b2), .unset, .unset, .unset, .unset] [(.int x6), (.int (0 : Int32)), (.ref b2)])) rfl rfl (hb hby at_14)
  have V7 := Arv.set Ar7 q7 S7 M7 H7 G7 (fits_nar_char _) W7 0 rfl (Nat.le_of_ble_eq_true rfl)
  have N7 := Fr.snoc X7 N0 ge2
  rw [hB6.nar] at V7
  have V7a : Arv Z h7 b2 k2 .char (6 : Int32) [(.int x6), (.int (0 : Int32)), (.int (0 : Int32)), (.int (0 : Int32)), (.int (0 : Int32)), (.int (0 : Int32))] (.int (0 : Int32)) := V7
  have c7 : Steps p.tables e below S0 (T7.setTop (mkF m 15 #[.val (.long lq), .second, .val (.int p3), .val (.ref b2), .unset, .unset, .unset, .unset] [])) := c6.trans (st7 _ (Steps.refl _))
  have c8 : Steps p.tables e below S0 (T7.setTop (mkF m 21 #[.val (.long lq), .second, .val (.int p3), .val (.ref b2), .unset, .unset, .unset, .unset] [(.long ((lq.toUInt64 >>> ((8 : Int32) &&& 0x3f).toInt64.toUInt64).toInt64)), (.int (1 : Int32)), (.ref b2)])) := c7.trans (by
    refine XS.aloadN X7.here hx rfl (hb hby at_15) rfl rfl ?_
    refine XS.iconst X7.here hx rfl (hb hby at_16) ?_
    refine XS.lloadN X7.here hx rfl (hb hby at_17) rfl ?_
    refine XS.bipush X7.here hx rfl (hb hby at_18) ?_
    refine XS.lushr X7.here hx rfl (hb hby at_20) rfl ?_
    exact Steps.refl _)
  have c9 : Steps p.tables e below S0 (T7.setTop (mkF m 24 #[.val (.long lq), .second, .val (.int p3), .val (.ref b2), .unset, .unset, .unset, .unset] [(.long (255 : Int64)), (.long ((lq.toUInt64 >>> ((8 : Int32) &&& 0x3f).toInt64.toUInt64).toInt64)), (.int (1 : Int32)), (.ref b2)])) := c8.trans (by
    refine X7.ldc2Long hx hown (mvT hZ (hw _ (List.mem_of_getElem? (i := 1) rfl))) (g := (mkF m 21 #[.val (.long lq), .second, .val (.int p3), .val (.ref b2), .unset, .unset, .unset, .unset] [(.long ((lq.toUInt64 >>> ((8 : Int32) &&& 0x3f).toInt64.toUInt64).toInt64)), (.int (1 : Int32)), (.ref b2)])) rfl (hb hby at_21) _ ?_
    exact Steps.refl _)
  have c10 : Steps p.tables e below S0 (T7.setTop (mkF m 27 #[.val (.long lq), .second, .val (.int p3), .val (.ref b2), .unset, .unset, .unset, .unset] [(.int (((((lq.toUInt64 >>> ((8 : Int32) &&& 0x3f).toInt64.toUInt64).toInt64) &&& (255 : Int64)).toInt32).toUInt32.toUInt16.toUInt32.toInt32)), (.int (1 : Int32)), (.ref b2)])) := c9.trans (by
    refine XS.land X7.here hx rfl (hb hby at_24) rfl ?_
    refine XS.l2i X7.here hx rfl (hb hby at_25) rfl ?_
    refine XS.i2c X7.here hx rfl (hb hby at_26) rfl ?_
    exact Steps.refl _)
  obtain ⟨x11, hB11, eq11⟩ := own_bL ((lq.toUInt64 >>> ((8 : Int32) &&& 0x3f).toInt64.toUInt64).toInt64)
  have c11 : Steps p.tables e below S0 (T7.setTop (mkF m 27 #[.val (.long lq), .second, .val (.int p3), .val (.ref b2), .unset, .unset, .unset, .unset] [(.int x11), (.int (1 : Int32)), (.ref b2)])) := by rw [← eq11]; exact c10
  obtain ⟨cl12, Ar12, q12, S12, M12, H12, G12⟩ := id V7a
  have hin12 : ¬ ((1 : Int32) < 0 ∨ cl12.slots.size ≤ ((1 : Int32)).toNatClampNeg) := inb_of S12 ⟨by decide, by decide⟩
  obtain ⟨T12, h12, X12, e12, W12, st12⟩ := stC X7 hx hZ e7 Ar12 (j := (1 : Int32)) hin12 (g := (mkF m 27 #[.val (.long lq), .second, .val (.int p3), .val (.ref b2), .unset, .unset, .unset, .unset] [(.int x11), (.int (1 : Int32)), (.ref b2)])) rfl rfl (hb hby at_27)
  have V12 := Arv.set Ar12 q12 S12 M12 H12 G12 (fits_nar_char _) W12 1 rfl (Nat.le_of_ble_eq_true rfl)
  have N12 := Fr.snoc X12 N7 ge2
  rw [hB11.nar] at V12
  have V12a : Arv Z h12 b2 k2 .char (6 : Int32) [(.int x6), (.int x11), (.int (0 : Int32)), (.int (0 : Int32)), (.int (0 : Int32)), (.int (0 : Int32))] (.int (0 : Int32)) := V12
  have c12 : Steps p.tables e below S0 (T12.setTop (mkF m 28 #[.val (.long lq), .second, .val (.int p3), .val (.ref b2), .unset, .unset, .unset, .unset] [])) := c11.trans (st12 _ (Steps.refl _))
  have c13 : Steps p.tables e below S0 (T12.setTop (mkF m 34 #[.val (.long lq), .second, .val (.int p3), .val (.ref b2), .unset, .unset, .unset, .unset] [(.long ((lq.toUInt64 >>> ((16 : Int32) &&& 0x3f).toInt64.toUInt64).toInt64)), (.int (2 : Int32)), (.ref b2)])) := c12.trans (by
    refine XS.aloadN X12.here hx rfl (hb hby at_28) rfl rfl ?_
    refine XS.iconst X12.here hx rfl (hb hby at_29) ?_
    refine XS.lloadN X12.here hx rfl (hb hby at_30) rfl ?_
    refine XS.bipush X12.here hx rfl (hb hby at_31) ?_
    refine XS.lushr X12.here hx rfl (hb hby at_33) rfl ?_
    exact Steps.refl _)
  have c14 : Steps p.tables e below S0 (T12.setTop (mkF m 37 #[.val (.long lq), .second, .val (.int p3), .val (.ref b2), .unset, .unset, .unset, .unset] [(.long (255 : Int64)), (.long ((lq.toUInt64 >>> ((16 : Int32) &&& 0x3f).toInt64.toUInt64).toInt64)), (.int (2 : Int32)), (.ref b2)])) := c13.trans (by
    refine X12.ldc2Long hx hown (mvT hZ (hw _ (List.mem_of_getElem? (i := 1) rfl))) (g := (mkF m 34 #[.val (.long lq), .second, .val (.int p3), .val (.ref b2), .unset, .unset, .unset, .unset] [(.long ((lq.toUInt64 >>> ((16 : Int32) &&& 0x3f).toInt64.toUInt64).toInt64)), (.int (2 : Int32)), (.ref b2)])) rfl (hb hby at_34) _ ?_
    exact Steps.refl _)
  have c15 : Steps p.tables e below S0 (T12.setTop (mkF m 40 #[.val (.long lq), .second, .val (.int p3), .val (.ref b2), .unset, .unset, .unset, .unset] [(.int (((((lq.toUInt64 >>> ((16 : Int32) &&& 0x3f).toInt64.toUInt64).toInt64) &&& (255 : Int64)).toInt32).toUInt32.toUInt16.toUInt32.toInt32)), (.int (2 : Int32)), (.ref b2)])) := c14.trans (by
    refine XS.land X12.here hx rfl (hb hby at_37) rfl ?_
    refine XS.l2i X12.here hx rfl (hb hby at_38) rfl ?_
    refine XS.i2c X12.here hx rfl (hb hby at_39) rfl ?_
    exact Steps.refl _)
  obtain ⟨x16, hB16, eq16⟩ := own_bL ((lq.toUInt64 >>> ((16 : Int32) &&& 0x3f).toInt64.toUInt64).toInt64)
  have c16 : Steps p.tables e below S0 (T12.setTop (mkF m 40 #[.val (.long lq), .second, .val (.int p3), .val (.ref b2), .unset, .unset, .unset, .unset] [(.int x16), (.int (2 : Int32)), (.ref b2)])) := by rw [← eq16]; exact c15
  obtain ⟨cl17, Ar17, q17, S17, M17, H17, G17⟩ := id V12a
  have hin17 : ¬ ((2 : Int32) < 0 ∨ cl17.slots.size ≤ ((2 : Int32)).toNatClampNeg) := inb_of S17 ⟨by decide, by decide⟩
  obtain ⟨T17, h17, X17, e17, W17, st17⟩ := stC X12 hx hZ e12 Ar17 (j := (2 : Int32)) hin17 (g := (mkF m 40 #[.val (.long lq), .second, .val (.int p3), .val (.ref b2), .unset, .unset, .unset, .unset] [(.int x16), (.int (2 : Int32)), (.ref b2)])) rfl rfl (hb hby at_40)
  have V17 := Arv.set Ar17 q17 S17 M17 H17 G17 (fits_nar_char _) W17 2 rfl (Nat.le_of_ble_eq_true rfl)
  have N17 := Fr.snoc X17 N12 ge2
  rw [hB16.nar] at V17
  have V17a : Arv Z h17 b2 k2 .char (6 : Int32) [(.int x6), (.int x11), (.int x16), (.int (0 : Int32)), (.int (0 : Int32)), (.int (0 : Int32))] (.int (0 : Int32)) := V17
  have c17 : Steps p.tables e below S0 (T17.setTop (mkF m 41 #[.val (.long lq), .second, .val (.int p3), .val (.ref b2), .unset, .unset, .unset, .unset] [])) := c16.trans (st17 _ (Steps.refl _))
  have c18 : Steps p.tables e below S0 (T17.setTop (mkF m 47 #[.val (.long lq), .second, .val (.int p3), .val (.ref b2), .unset, .unset, .unset, .unset] [(.long ((lq.toUInt64 >>> ((24 : Int32) &&& 0x3f).toInt64.toUInt64).toInt64)), (.int (3 : Int32)), (.ref b2)])) := c17.trans (by
    refine XS.aloadN X17.here hx rfl (hb hby at_41) rfl rfl ?_
    refine XS.iconst X17.here hx rfl (hb hby at_42) ?_
    refine XS.lloadN X17.here hx rfl (hb hby at_43) rfl ?_
    refine XS.bipush X17.here hx rfl (hb hby at_44) ?_
    refine XS.lushr X17.here hx rfl (hb hby at_46) rfl ?_
    exact Steps.refl _)
  have c19 : Steps p.tables e below S0 (T17.setTop (mkF m 50 #[.val (.long lq), .second, .val (.int p3), .val (.ref b2), .unset, .unset, .unset, .unset] [(.long (255 : Int64)), (.long ((lq.toUInt64 >>> ((24 : Int32) &&& 0x3f).toInt64.toUInt64).toInt64)), (.int (3 : Int32)), (.ref b2)])) := c18.trans (by
    refine X17.ldc2Long hx hown (mvT hZ (hw _ (List.mem_of_getElem? (i := 1) rfl))) (g := (mkF m 47 #[.val (.long lq), .second, .val (.int p3), .val (.ref b2), .unset, .unset, .unset, .unset] [(.long ((lq.toUInt64 >>> ((24 : Int32) &&& 0x3f).toInt64.toUInt64).toInt64)), (.int (3 : Int32)), (.ref b2)])) rfl (hb hby at_47) _ ?_
    exact Steps.refl _)
  have c20 : Steps p.tables e below S0 (T17.setTop (mkF m 53 #[.val (.long lq), .second, .val (.int p3), .val (.ref b2), .unset, .unset, .unset, .unset] [(.int (((((lq.toUInt64 >>> ((24 : Int32) &&& 0x3f).toInt64.toUInt64).toInt64) &&& (255 : Int64)).toInt32).toUInt32.toUInt16.toUInt32.toInt32)), (.int (3 : Int32)), (.ref b2)])) := c19.trans (by
    refine XS.land X17.here hx rfl (hb hby at_50) rfl ?_
    refine XS.l2i X17.here hx rfl (hb hby at_51) rfl ?_
    refine XS.i2c X17.here hx rfl (hb hby at_52) rfl ?_
    exact Steps.refl _)
  obtain ⟨x21, hB21, eq21⟩ := own_bL ((lq.toUInt64 >>> ((24 : Int32) &&& 0x3f).toInt64.toUInt64).toInt64)
  have c21 : Steps p.tables e below S0 (T17.setTop (mkF m 53 #[.val (.long lq), .second, .val (.int p3), .val (.ref b2), .unset, .unset, .unset, .unset] [(.int x21), (.int (3 : Int32)), (.ref b2)])) := by rw [← eq21]; exact c20
  obtain ⟨cl22, Ar22, q22, S22, M22, H22, G22⟩ := id V17a
  have hin22 : ¬ ((3 : Int32) < 0 ∨ cl22.slots.size ≤ ((3 : Int32)).toNatClampNeg) := inb_of S22 ⟨by decide, by decide⟩
  obtain ⟨T22, h22, X22, e22, W22, st22⟩ := stC X17 hx hZ e17 Ar22 (j := (3 : Int32)) hin22 (g := (mkF m 53 #[.val (.long lq), .second, .val (.int p3), .val (.ref b2), .unset, .unset, .unset, .unset] [(.int x21), (.int (3 : Int32)), (.ref b2)])) rfl rfl (hb hby at_53)
  have V22 := Arv.set Ar22 q22 S22 M22 H22 G22 (fits_nar_char _) W22 3 rfl (Nat.le_of_ble_eq_true rfl)
  have N22 := Fr.snoc X22 N17 ge2
  rw [hB21.nar] at V22
  have V22a : Arv Z h22 b2 k2 .char (6 : Int32) [(.int x6), (.int x11), (.int x16), (.int x21), (.int (0 : Int32)), (.int (0 : Int32))] (.int (0 : Int32)) := V22
  have c22 : Steps p.tables e below S0 (T22.setTop (mkF m 54 #[.val (.long lq), .second, .val (.int p3), .val (.ref b2), .unset, .unset, .unset, .unset] [])) := c21.trans (st22 _ (Steps.refl _))
  have c23 : Steps p.tables e below S0 (T22.setTop (mkF m 60 #[.val (.long lq), .second, .val (.int p3), .val (.ref b2), .unset, .unset, .unset, .unset] [(.long ((lq.toUInt64 >>> ((32 : Int32) &&& 0x3f).toInt64.toUInt64).toInt64)), (.int (4 : Int32)), (.ref b2)])) := c22.trans (by
    refine XS.aloadN X22.here hx rfl (hb hby at_54) rfl rfl ?_
    refine XS.iconst X22.here hx rfl (hb hby at_55) ?_
    refine XS.lloadN X22.here hx rfl (hb hby at_56) rfl ?_
    refine XS.bipush X22.here hx rfl (hb hby at_57) ?_
    refine XS.lushr X22.here hx rfl (hb hby at_59) rfl ?_
    exact Steps.refl _)
  have c24 : Steps p.tables e below S0 (T22.setTop (mkF m 63 #[.val (.long lq), .second, .val (.int p3), .val (.ref b2), .unset, .unset, .unset, .unset] [(.long (255 : Int64)), (.long ((lq.toUInt64 >>> ((32 : Int32) &&& 0x3f).toInt64.toUInt64).toInt64)), (.int (4 : Int32)), (.ref b2)])) := c23.trans (by
    refine X22.ldc2Long hx hown (mvT hZ (hw _ (List.mem_of_getElem? (i := 1) rfl))) (g := (mkF m 60 #[.val (.long lq), .second, .val (.int p3), .val (.ref b2), .unset, .unset, .unset, .unset] [(.long ((lq.toUInt64 >>> ((32 : Int32) &&& 0x3f).toInt64.toUInt64).toInt64)), (.int (4 : Int32)), (.ref b2)])) rfl (hb hby at_60) _ ?_
    exact Steps.refl _)
  have c25 : Steps p.tables e below S0 (T22.setTop (mkF m 66 #[.val (.long lq), .second, .val (.int p3), .val (.ref b2), .unset, .unset, .unset, .unset] [(.int (((((lq.toUInt64 >>> ((32 : Int32) &&& 0x3f).toInt64.toUInt64).toInt64) &&& (255 : Int64)).toInt32).toUInt32.toUInt16.toUInt32.toInt32)), (.int (4 : Int32)), (.ref b2)])) := c24.trans (by
    refine XS.land X22.here hx rfl (hb hby at_63) rfl ?_
    refine XS.l2i X22.here hx rfl (hb hby at_64) rfl ?_
    refine XS.i2c X22.here hx rfl (hb hby at_65) rfl ?_
    exact Steps.refl _)
  obtain ⟨x26, hB26, eq26⟩ := own_bL ((lq.toUInt64 >>> ((32 : Int32) &&& 0x3f).toInt64.toUInt64).toInt64)
  have c26 : Steps p.tables e below S0 (T22.setTop (mkF m 66 #[.val (.long lq), .second, .val (.int p3), .val (.ref b2), .unset, .unset, .unset, .unset] [(.int x26), (.int (4 : Int32)), (.ref b2)])) := by rw [← eq26]; exact c25
  obtain ⟨cl27, Ar27, q27, S27, M27, H27, G27⟩ := id V22a
  have hin27 : ¬ ((4 : Int32) < 0 ∨ cl27.slots.size ≤ ((4 : Int32)).toNatClampNeg) := inb_of S27 ⟨by decide, by decide⟩
  obtain ⟨T27, h27, X27, e27, W27, st27⟩ := stC X22 hx hZ e22 Ar27 (j := (4 : Int32)) hin27 (g := (mkF m 66 #[.val (.long lq), .second, .val (.int p3), .val (.ref b2), .unset, .unset, .unset, .unset] [(.int x26), (.int (4 : Int32)), (.ref b2)])) rfl rfl (hb hby at_66)
  have V27 := Arv.set Ar27 q27 S27 M27 H27 G27 (fits_nar_char _) W27 4 rfl (Nat.le_of_ble_eq_true rfl)
  have N27 := Fr.snoc X27 N22 ge2
  rw [hB26.nar] at V27
  have V27a : Arv Z h27 b2 k2 .char (6 : Int32) [(.int x6), (.int x11), (.int x16), (.int x21), (.int x26), (.int (0 : Int32))] (.int (0 : Int32)) := V27
  have c27 : Steps p.tables e below S0 (T27.setTop (mkF m 67 #[.val (.long lq), .second, .val (.int p3), .val (.ref b2), .unset, .unset, .unset, .unset] [])) := c26.trans (st27 _ (Steps.refl _))
  have c28 : Steps p.tables e below S0 (T27.setTop (mkF m 73 #[.val (.long lq), .second, .val (.int p3), .val (.ref b2), .unset, .unset, .unset, .unset] [(.long ((lq.toUInt64 >>> ((40 : Int32) &&& 0x3f).toInt64.toUInt64).toInt64)), (.int (5 : Int32)), (.ref b2)])) := c27.trans (by
    refine XS.aloadN X27.here hx rfl (hb hby at_67) rfl rfl ?_
    refine XS.iconst X27.here hx rfl (hb hby at_68) ?_
    refine XS.lloadN X27.here hx rfl (hb hby at_69) rfl ?_
    refine XS.bipush X27.here hx rfl (hb hby at_70) ?_
    refine XS.lushr X27.here hx rfl (hb hby at_72) rfl ?_
    exact Steps.refl _)
  have c29 : Steps p.tables e below S0 (T27.setTop (mkF m 76 #[.val (.long lq), .second, .val (.int p3), .val (.ref b2), .unset, .unset, .unset, .unset] [(.long (255 : Int64)), (.long ((lq.toUInt64 >>> ((40 : Int32) &&& 0x3f).toInt64.toUInt64).toInt64)), (.int (5 : Int32)), (.ref b2)])) := c28.trans (by
    refine X27.ldc2Long hx hown (mvT hZ (hw _ (List.mem_of_getElem? (i := 1) rfl))) (g := (mkF m 73 #[.val (.long lq), .second, .val (.int p3), .val (.ref b2), .unset, .unset, .unset, .unset] [(.long ((lq.toUInt64 >>> ((40 : Int32) &&& 0x3f).toInt64.toUInt64).toInt64)), (.int (5 : Int32)), (.ref b2)])) rfl (hb hby at_73) _ ?_
    exact Steps.refl _)
  have c30 : Steps p.tables e below S0 (T27.setTop (mkF m 79 #[.val (.long lq), .second, .val (.int p3), .val (.ref b2), .unset, .unset, .unset, .unset] [(.int (((((lq.toUInt64 >>> ((40 : Int32) &&& 0x3f).toInt64.toUInt64).toInt64) &&& (255 : Int64)).toInt32).toUInt32.toUInt16.toUInt32.toInt32)), (.int (5 : Int32)), (.ref b2)])) := c29.trans (by
    refine XS.land X27.here hx rfl (hb hby at_76) rfl ?_
    refine XS.l2i X27.here hx rfl (hb hby at_77) rfl ?_
    refine XS.i2c X27.here hx rfl (hb hby at_78) rfl ?_
    exact Steps.refl _)
  obtain ⟨x31, hB31, eq31⟩ := own_bL ((lq.toUInt64 >>> ((40 : Int32) &&& 0x3f).toInt64.toUInt64).toInt64)
  have c31 : Steps p.tables e below S0 (T27.setTop (mkF m 79 #[.val (.long lq), .second, .val (.int p3), .val (.ref b2), .unset, .unset, .unset, .unset] [(.int x31), (.int (5 : Int32)), (.ref b2)])) := by rw [← eq31]; exact c30
  obtain ⟨cl32, Ar32, q32, S32, M32, H32, G32⟩ := id V27a
  have hin32 : ¬ ((5 : Int32) < 0 ∨ cl32.slots.size ≤ ((5 : Int32)).toNatClampNeg) := inb_of S32 ⟨by decide, by decide⟩
  obtain ⟨T32, h32, X32, e32, W32, st32⟩ := stC X27 hx hZ e27 Ar32 (j := (5 : Int32)) hin32 (g := (mkF m 79 #[.val (.long lq), .second, .val (.int p3), .val (.ref b2), .unset, .unset, .unset, .unset] [(.int x31), (.int (5 : Int32)), (.ref b2)])) rfl rfl (hb hby at_79)
  have V32 := Arv.set Ar32 q32 S32 M32 H32 G32 (fits_nar_char _) W32 5 rfl (Nat.le_of_ble_eq_true rfl)
  have N32 := Fr.snoc X32 N27 ge2
  rw [hB31.nar] at V32
  have V32a : Arv Z h32 b2 k2 .char (6 : Int32) [(.int x6), (.int x11), (.int x16), (.int x21), (.int x26), (.int x31)] (.int (0 : Int32)) := V32
  have c32 : Steps p.tables e below S0 (T32.setTop (mkF m 80 #[.val (.long lq), .second, .val (.int p3), .val (.ref b2), .unset, .unset, .unset, .unset] [])) := c31.trans (st32 _ (Steps.refl _))
  have c33 : Steps p.tables e below S0 (T32.setTop (mkF m 81 #[.val (.long lq), .second, .val (.int p3), .val (.ref b2), .unset, .unset, .unset, .unset] [(.int p3)])) := c32.trans (by
    refine XS.iloadN X32.here hx rfl (hb hby at_80) rfl ?_
    exact Steps.refl _)
  have c34 : Steps p.tables e below S0 (T32.setTop (mkF m 83 #[.val (.long lq), .second, .val (.int p3), .val (.ref b2), .unset, .unset, .unset, .unset] [(.int (2147483647 : Int32)), (.int p3)])) := c33.trans (by
    refine X32.ldcInt hx hown (mvT hZ (hw _ (List.mem_of_getElem? (i := 2) rfl))) (g := (mkF m 81 #[.val (.long lq), .second, .val (.int p3), .val (.ref b2), .unset, .unset, .unset, .unset] [(.int p3)])) rfl (hb hby at_81) _ ?_
    exact Steps.refl _)
  have c35 : Steps p.tables e below S0 (T32.setTop (mkF m 87 #[.val (.long lq), .second, .val (.int p3), .val (.ref b2), .unset, .unset, .unset, .unset] [(.int ((p3 &&& (2147483647 : Int32)) % (8 : Int32)))])) := c34.trans (by
    refine XS.iand X32.here hx rfl (hb hby at_83) rfl ?_
    refine XS.bipush X32.here hx rfl (hb hby at_84) ?_
    refine iremM X32 hx rfl (hb hby at_86) rfl (by decide) ?_
    exact Steps.refl _)
  obtain ⟨j, ej'⟩ := own_rem p3 8 (by decide) (by decide)
  have ej : ((p3 &&& (2147483647 : Int32)) % (8 : Int32)) = Int32.ofNat j.val := ej'
  have c36 : Steps p.tables e below S0 (T32.setTop (mkF m 87 #[.val (.long lq), .second, .val (.int p3), .val (.ref b2), .unset, .unset, .unset, .unset] [(.int (Int32.ofNat j.val))])) := by rw [← ej]; exact c35
  have c37 : Steps p.tables e below S0 (T32.setTop (mkF m 89 #[.val (.long lq), .second, .val (.int p3), .val (.ref b2), .val (.int (Int32.ofNat j.val)), .unset, .unset, .unset] [])) := c36.trans (by
    refine XS.istore X32.here hx rfl (hb hby at_87) rfl (l' := #[.val (.long lq), .second, .val (.int p3), .val (.ref b2), .val (.int (Int32.ofNat j.val)), .unset, .unset, .unset]) rfl ?_
    exact Steps.refl _)
  obtain ⟨T38, h38, X38, e38, E38, A38, D38, -, st38⟩ := newO X32 hx hZ hown (hw _ (List.mem_of_getElem? (i := 3) rfl)) (hw _ (List.mem_of_getElem? (i := 4) rfl)) (hw _ (List.mem_of_getElem? (i := 5) rfl)) e32 (g := (mkF m 89 #[.val (.long lq), .second, .val (.int p3), .val (.ref b2), .val (.int (Int32.ofNat j.val)), .unset, .unset, .unset] [])) rfl (hb hby at_89) (by decide) (by decide)
  obtain ⟨b38, g38⟩ : ∃ z, z = h32.size := ⟨_, rfl⟩
  rw [← g38] at A38 D38 st38
  have lo38 : h32.size ≤ b38 := Nat.le_of_eq g38.symm
  have ge38 : Z.heap.size ≤ b38 := Nat.le_trans (((((((O0.ext E2).wr W7 ge2).wr W12 ge2).wr W17 ge2).wr W22 ge2).wr W27 ge2).wr W32 ge2).2.1 lo38
  have F38_coder : Fld Z h38 b38 "java/lang/String" "coder" "B" (.int (0 : Int32)) := D38 (Or.inr (hw _ (List.mem_of_getElem? (i := 29) rfl))) (ty := .byte) (by decide)
  have F38_value : Fld Z h38 b38 "java/lang/String" "value" "[B" .null := D38 (Or.inr (hw _ (List.mem_of_getElem? (i := 31) rfl))) (ty := (.array .byte)) (by decide)
  have c38 : Steps p.tables e below S0 (T38.setTop (mkF m 92 #[.val (.long lq), .second, .val (.int p3), .val (.ref b2), .val (.int (Int32.ofNat j.val)), .unset, .unset, .unset] [(.ref b38)])) := c37.trans (st38 _ (Steps.refl _))
  have c39 : Steps p.tables e below S0 (T38.setTop (mkF m 94 #[.val (.long lq), .second, .val (.int p3), .val (.ref b2), .val (.int (Int32.ofNat j.val)), .unset, .unset, .unset] [(.ref b2), (.ref b38), (.ref b38)])) := c38.trans (by
    refine XS.dup X38.here hx rfl (hb hby at_92) rfl rfl ?_
    refine XS.aloadN X38.here hx rfl (hb hby at_93) rfl rfl ?_
    exact Steps.refl _)
  have hp : ∀ c ∈ ([x6, x11, x16, x21, x26, x31] : List Int32), own_B c := by
    intro c hc
    simp only [List.mem_cons, List.not_mem_nil, or_false] at hc
    rcases hc with rfl | rfl | rfl | rfl | rfl | rfl
    · exact hB6
    · exact hB11
    · exact hB16
    · exact hB21
    · exact hB26
    · exact hB31
  obtain ⟨v40, T40, L40, X40, ⟨rfl, N40', K40, E40, Cd40, t40, kb40, gt40, lo40, ne40, V40, Kb40⟩, c40'⟩ := own_spec X38 hx hml hZ hown rfl (hw _ (List.mem_of_getElem? (i := 6) rfl)) (hw _ (List.mem_of_getElem? (i := 7) rfl)) (hw _ (List.mem_of_getElem? (i := 8) rfl)) (by decide) (Q := StrChars.Road.QV Z b38 (6 : Int32) (([x6, x11, x16, x21, x26, x31] : List Int32).map (fun c : Int32 => c.toInt8.toInt32)) h38 Z.heap.size) (kc := 1) (ks := 6) (h := h38) (W := 1) (b := b38) (argsL := [(.ref b2)]) (rest := [(.ref b38)]) (StrChars.Road.backV (W := 1) hZ hws (kI := 4) (hw _ (List.mem_of_getElem? (i := 4) rfl)) (cs := [x6, x11, x16, x21, x26, x31]) (bs := ([x6, x11, x16, x21, x26, x31] : List Int32).map (fun c : Int32 => c.toInt8.toInt32)) (n := 6) ge38 ((((((((O0.ext E2).wr W7 ge2).wr W12 ge2).wr W17 ge2).wr W22 ge2).wr W27 ge2).wr W32 ge2).ext E38).2.1 A38 F38_value F38_coder (V32a.ext E38) (SC.ext ((((((((O0.ext E2).wr W7 ge2).wr W12 ge2).wr W17 ge2).wr W22 ge2).wr W27 ge2).wr W32 ge2).ext E38).2) hz rfl rfl (by decide) (by decide) (fun c hc => (hp c hc).rng) rfl (by decide) (by decide)) c39 rfl rfl (lenOf pd_4 rfl) rfl (by show 2 * 0 + _ ≤ _; exact Nat.le_of_eq rfl) (hb hby at_94) e38 (by decide) (by decide)
  have N40 := Fr.app N32 N40'
  have c40 : Steps p.tables e below S0 (T40.setTop (mkF m 97 #[.val (.long lq), .second, .val (.int p3), .val (.ref b2), .val (.int (Int32.ofNat j.val)), .unset, .unset, .unset] [(.ref b38)])) := c40'
  have c41 : Steps p.tables e below S0 (T40.setTop (mkF m 99 #[.val (.long lq), .second, .val (.int p3), .val (.ref b2), .val (.int (Int32.ofNat j.val)), .unset, .unset, .unset] [(.int (Int32.ofNat j.val)), (.ref b38)])) := c40.trans (by
    refine XS.iload X40.here hx rfl (hb hby at_97) rfl ?_
    exact Steps.refl _)
  obtain ⟨v42, T42, L42, X42, ⟨N42', rfl, e42⟩, c42'⟩ := own_stat X40 hx hml hZ hown (hw _ (List.mem_of_getElem? (i := 32) rfl)) (hw _ (List.mem_of_getElem? (i := 33) rfl)) (hw _ (List.mem_of_getElem? (i := 34) rfl)) (hw _ (List.mem_of_getElem? (i := 35) rfl)) (by decide) (kc := 0) (ks := 0) (h := T40.heap) (W := 0) (argsL := [(.ref b38), (.int (Int32.ofNat j.val))]) (rest := []) (own_pay (W := 0) (rmEnd l Z a0 hw [x6, x11, x16, x21, x26, x31] b38 t40 kb40 z fm j.val T40.heap (((((((((O0.ext E2).wr W7 ge2).wr W12 ge2).wr W17 ge2).wr W22 ge2).wr W27 ge2).wr W32 ge2).ext E38).keep K40 (allS ge38 all0)) E40 V40 Cd40 Kb40 rfl hp SC hz SF hfm (by omega)) hZ (hw _ (List.mem_of_getElem? (i := 35) rfl)) (hw _ (List.mem_of_getElem? (i := 34) rfl)) (by decide) (by decide)) c41 rfl rfl (lenOf pd_5 rfl) rfl (by show 2 * 0 + _ ≤ _; exact Nat.le_of_eq rfl) (hb hby at_99) rfl (by decide) (by decide)
  have N42 := Fr.app N40 N42'
  have c42 : Steps p.tables e below S0 (T42.setTop (mkF m 102 #[.val (.long lq), .second, .val (.int p3), .val (.ref b2), .val (.int (Int32.ofNat j.val)), .unset, .unset, .unset] [(.int (own_end [x6, x11, x16, x21, x26, x31] (6 - j.val) j.val (-1)))])) := c42'
  obtain ⟨r, er⟩ : ∃ r, (own_end [x6, x11, x16, x21, x26, x31] (6 - j.val) j.val (-1)) = r := ⟨_, rfl⟩
  have c43 : Steps p.tables e below S0 (T42.setTop (mkF m 102 #[.val (.long lq), .second, .val (.int p3), .val (.ref b2), .val (.int (Int32.ofNat j.val)), .unset, .unset, .unset] [(.int r)])) := by rw [← er]; exact c42
  have c44 : Steps p.tables e below S0 (T42.setTop (mkF m 107 #[.val (.long lq), .second, .val (.int p3), .val (.ref b2), .val (.int (Int32.ofNat j.val)), .val (.int r), .unset, .unset] [(.int (Int32.ofNat j.val)), (.ref b2)])) := c43.trans (by
    refine XS.istore X42.here hx rfl (hb hby at_102) rfl (l' := #[.val (.long lq), .second, .val (.int p3), .val (.ref b2), .val (.int (Int32.ofNat j.val)), .val (.int r), .unset, .unset]) rfl ?_
    refine XS.aloadN X42.here hx rfl (hb hby at_104) rfl rfl ?_
    refine XS.iload X42.here hx rfl (hb hby at_105) rfl ?_
    exact Steps.refl _)
  obtain ⟨v45, T45, L45, X45, ⟨N45', rfl, e45⟩, c45'⟩ := own_stat X42 hx hml hZ hown (hw _ (List.mem_of_getElem? (i := 71) rfl)) (hw _ (List.mem_of_getElem? (i := 72) rfl)) (hw _ (List.mem_of_getElem? (i := 73) rfl)) (hw _ (List.mem_of_getElem? (i := 74) rfl)) (by decide) (kc := 0) (ks := 0) (h := T40.heap) (W := 0) (argsL := [(.ref b2), (.int (Int32.ofNat j.val))]) (rest := []) (own_pay (W := 0) (rm_dig l Z a0 hw [x6, x11, x16, x21, x26, x31] b2 k2 (Int32.ofNat j.val) T40.heap (((((((((O0.ext E2).wr W7 ge2).wr W12 ge2).wr W17 ge2).wr W22 ge2).wr W27 ge2).wr W32 ge2).ext E38).keep K40 (allS ge38 all0)) ((V32a.ext E38).keep K40 (ninS (Nat.ne_of_lt (Nat.lt_of_lt_of_le (Nat.lt_of_lt_of_le V2.lt (Nat.le_trans (Nat.le_trans (Nat.le_trans (Nat.le_trans (Nat.le_trans (Keep.of_wr W7).1 (Keep.of_wr W12).1) (Keep.of_wr W17).1) (Keep.of_wr W22).1) (Keep.of_wr W27).1) (Keep.of_wr W32).1)) lo38)) nin0))) hZ (hw _ (List.mem_of_getElem? (i := 74) rfl)) (hw _ (List.mem_of_getElem? (i := 73) rfl)) (by decide) (by decide)) c44 rfl rfl (lenOf pd_0 rfl) rfl (by show 2 * 0 + _ ≤ _; exact Nat.le_of_eq rfl) (hb hby at_107) e42 (by decide) (by decide)
  have N45 := Fr.app N42 N45'
  have c45 : Steps p.tables e below S0 (T45.setTop (mkF m 110 #[.val (.long lq), .second, .val (.int p3), .val (.ref b2), .val (.int (Int32.ofNat j.val)), .val (.int r), .unset, .unset] [(.int (own_i (own_digA [x6, x11, x16, x21, x26, x31] (Int32.ofNat j.val))))])) := c45'
  rcases Bool.eq_false_or_eq_true (own_digA [x6, x11, x16, x21, x26, x31] (Int32.ofNat j.val)) with hd | hd
  · skip
    obtain ⟨y1, y2, y3, y4, y5, y6, y7, y8, y9, y10, y11⟩ := own_yes x6 x11 x16 x21 x26 x31 j hd r er
    have c46 : Steps p.tables e below S0 (T45.setTop (mkF m 146 #[.val (.long lq), .second, .val (.int p3), .val (.ref b2), .val (.int (Int32.ofNat j.val)), .val (.int r), .unset, .unset] [(.int (r - (1 : Int32))), (.ref b2)])) := c45.trans (by
      refine XS.ifYes X45.here hx rfl (pc0 := 110) (pc' := 125) rfl (hb hby at_110) rfl ((if0 _ _).trans (feq (own_iT hd)).2) (by decide) (by decide) ?_
      refine XS.iload X45.here hx rfl (hb hby at_125) rfl ?_
      refine XS.iload X45.here hx rfl (hb hby at_127) rfl ?_
      refine XS.icmpNo X45.here hx rfl (hb hby at_129) rfl (tlt y1).2.2.2 ?_
      refine XS.iload X45.here hx rfl (hb hby at_132) rfl ?_
      refine XS.bipush X45.here hx rfl (hb hby at_134) ?_
      refine XS.icmpYes X45.here hx rfl (pc0 := 136) (pc' := 141) rfl (hb hby at_136) rfl (flt y2).2.2.2 (by decide) (by decide) ?_
      refine XS.aloadN X45.here hx rfl (hb hby at_141) rfl rfl ?_
      refine XS.iload X45.here hx rfl (hb hby at_142) rfl ?_
      refine XS.iconst X45.here hx rfl (hb hby at_144) ?_
      refine XS.isub X45.here hx rfl (hb hby at_145) rfl ?_
      exact Steps.refl _)
    obtain ⟨v47, T47, L47, X47, ⟨N47', rfl, e47⟩, c47'⟩ := own_stat X45 hx hml hZ hown (hw _ (List.mem_of_getElem? (i := 71) rfl)) (hw _ (List.mem_of_getElem? (i := 72) rfl)) (hw _ (List.mem_of_getElem? (i := 73) rfl)) (hw _ (List.mem_of_getElem? (i := 74) rfl)) (by decide) (kc := 0) (ks := 0) (h := T40.heap) (W := 0) (argsL := [(.ref b2), (.int (r - (1 : Int32)))]) (rest := []) (own_pay (W := 0) (rm_dig l Z a0 hw [x6, x11, x16, x21, x26, x31] b2 k2 (r - (1 : Int32)) T40.heap (((((((((O0.ext E2).wr W7 ge2).wr W12 ge2).wr W17 ge2).wr W22 ge2).wr W27 ge2).wr W32 ge2).ext E38).keep K40 (allS ge38 all0)) ((V32a.ext E38).keep K40 (ninS (Nat.ne_of_lt (Nat.lt_of_lt_of_le (Nat.lt_of_lt_of_le V2.lt (Nat.le_trans (Nat.le_trans (Nat.le_trans (Nat.le_trans (Nat.le_trans (Keep.of_wr W7).1 (Keep.of_wr W12).1) (Keep.of_wr W17).1) (Keep.of_wr W22).1) (Keep.of_wr W27).1) (Keep.of_wr W32).1)) lo38)) nin0))) hZ (hw _ (List.mem_of_getElem? (i := 74) rfl)) (hw _ (List.mem_of_getElem? (i := 73) rfl)) (by decide) (by decide)) c46 rfl rfl (lenOf pd_0 rfl) rfl (by show 2 * 0 + _ ≤ _; exact Nat.le_of_eq rfl) (hb hby at_146) e45 (by decide) (by decide)
    have N47 := Fr.app N45 N47'
    have c47 : Steps p.tables e below S0 (T47.setTop (mkF m 149 #[.val (.long lq), .second, .val (.int p3), .val (.ref b2), .val (.int (Int32.ofNat j.val)), .val (.int r), .unset, .unset] [(.int (own_i (own_digA [x6, x11, x16, x21, x26, x31] (r - (1 : Int32)))))])) := c47'
    have c48 : Steps p.tables e below S0 (T47.setTop (mkF m 160 #[.val (.long lq), .second, .val (.int p3), .val (.ref b2), .val (.int (Int32.ofNat j.val)), .val (.int r), .unset, .unset] [(.int r), (.int (Int32.ofNat j.val)), (.int (0 : Int32)), (.ref b2)])) := c47.trans (by
      refine XS.ifYes X47.here hx rfl (pc0 := 149) (pc' := 154) rfl (hb hby at_149) rfl ((if0 _ _).trans (feq (own_iT y3)).2) (by decide) (by decide) ?_
      refine XS.aloadN X47.here hx rfl (hb hby at_154) rfl rfl ?_
      refine XS.iconst X47.here hx rfl (hb hby at_155) ?_
      refine XS.iload X47.here hx rfl (hb hby at_156) rfl ?_
      refine XS.iload X47.here hx rfl (hb hby at_158) rfl ?_
      exact Steps.refl _)
    obtain ⟨v49, T49, L49, X49, ⟨N49', rfl, e49⟩, c49'⟩ := own_stat X47 hx hml hZ hown (hw _ (List.mem_of_getElem? (i := 75) rfl)) (hw _ (List.mem_of_getElem? (i := 76) rfl)) (hw _ (List.mem_of_getElem? (i := 73) rfl)) (hw _ (List.mem_of_getElem? (i := 77) rfl)) (by decide) (kc := 0) (ks := 0) (h := T40.heap) (W := 0) (argsL := [(.ref b2), (.int (0 : Int32)), (.int (Int32.ofNat j.val)), (.int r)]) (rest := []) (own_pay (W := 0) (rm_fits l Z a0 hw [x6, x11, x16, x21, x26, x31] b2 k2 (0 : Int32) (Int32.ofNat j.val) r T40.heap (((((((((O0.ext E2).wr W7 ge2).wr W12 ge2).wr W17 ge2).wr W22 ge2).wr W27 ge2).wr W32 ge2).ext E38).keep K40 (allS ge38 all0)) ((V32a.ext E38).keep K40 (ninS (Nat.ne_of_lt (Nat.lt_of_lt_of_le (Nat.lt_of_lt_of_le V2.lt (Nat.le_trans (Nat.le_trans (Nat.le_trans (Nat.le_trans (Nat.le_trans (Keep.of_wr W7).1 (Keep.of_wr W12).1) (Keep.of_wr W17).1) (Keep.of_wr W22).1) (Keep.of_wr W27).1) (Keep.of_wr W32).1)) lo38)) nin0))) hZ (hw _ (List.mem_of_getElem? (i := 77) rfl)) (hw _ (List.mem_of_getElem? (i := 73) rfl)) (by decide) (by decide)) c48 rfl rfl (lenOf pd_6 rfl) rfl (by show 2 * 0 + _ ≤ _; exact Nat.le_of_eq rfl) (hb hby at_160) e47 (by decide) (by decide)
    have N49 := Fr.app N47 N49'
    have c49 : Steps p.tables e below S0 (T49.setTop (mkF m 163 #[.val (.long lq), .second, .val (.int p3), .val (.ref b2), .val (.int (Int32.ofNat j.val)), .val (.int r), .unset, .unset] [(.int (own_i (own_fit [x6, x11, x16, x21, x26, x31] (0 : Int32) (Int32.ofNat j.val) r)))])) := c49'
    have c50 : Steps p.tables e below S0 (T49.setTop (mkF m 172 #[.val (.long lq), .second, .val (.int p3), .val (.ref b2), .val (.int (Int32.ofNat j.val)), .val (.int r), .unset, .unset] [(.int r), (.int (Int32.ofNat j.val)), (.int (1 : Int32)), (.ref b2)])) := c49.trans (by
      refine XS.ifNo X49.here hx rfl (hb hby at_163) rfl ((if0 _ _).trans (feq (own_iT y4)).1) ?_
      refine XS.aloadN X49.here hx rfl (hb hby at_166) rfl rfl ?_
      refine XS.iconst X49.here hx rfl (hb hby at_167) ?_
      refine XS.iload X49.here hx rfl (hb hby at_168) rfl ?_
      refine XS.iload X49.here hx rfl (hb hby at_170) rfl ?_
      exact Steps.refl _)
    obtain ⟨v51, T51, L51, X51, ⟨N51', rfl, e51⟩, c51'⟩ := own_stat X49 hx hml hZ hown (hw _ (List.mem_of_getElem? (i := 75) rfl)) (hw _ (List.mem_of_getElem? (i := 76) rfl)) (hw _ (List.mem_of_getElem? (i := 73) rfl)) (hw _ (List.mem_of_getElem? (i := 77) rfl)) (by decide) (kc := 0) (ks := 0) (h := T40.heap) (W := 0) (argsL := [(.ref b2), (.int (1 : Int32)), (.int (Int32.ofNat j.val)), (.int r)]) (rest := []) (own_pay (W := 0) (rm_fits l Z a0 hw [x6, x11, x16, x21, x26, x31] b2 k2 (1 : Int32) (Int32.ofNat j.val) r T40.heap (((((((((O0.ext E2).wr W7 ge2).wr W12 ge2).wr W17 ge2).wr W22 ge2).wr W27 ge2).wr W32 ge2).ext E38).keep K40 (allS ge38 all0)) ((V32a.ext E38).keep K40 (ninS (Nat.ne_of_lt (Nat.lt_of_lt_of_le (Nat.lt_of_lt_of_le V2.lt (Nat.le_trans (Nat.le_trans (Nat.le_trans (Nat.le_trans (Nat.le_trans (Keep.of_wr W7).1 (Keep.of_wr W12).1) (Keep.of_wr W17).1) (Keep.of_wr W22).1) (Keep.of_wr W27).1) (Keep.of_wr W32).1)) lo38)) nin0))) hZ (hw _ (List.mem_of_getElem? (i := 77) rfl)) (hw _ (List.mem_of_getElem? (i := 73) rfl)) (by decide) (by decide)) c50 rfl rfl (lenOf pd_6 rfl) rfl (by show 2 * 0 + _ ≤ _; exact Nat.le_of_eq rfl) (hb hby at_172) e49 (by decide) (by decide)
    have N51 := Fr.app N49 N51'
    have c51 : Steps p.tables e below S0 (T51.setTop (mkF m 175 #[.val (.long lq), .second, .val (.int p3), .val (.ref b2), .val (.int (Int32.ofNat j.val)), .val (.int r), .unset, .unset] [(.int (own_i (own_fit [x6, x11, x16, x21, x26, x31] (1 : Int32) (Int32.ofNat j.val) r)))])) := c51'
    have c52 : Steps p.tables e below S0 (T51.setTop (mkF m 184 #[.val (.long lq), .second, .val (.int p3), .val (.ref b2), .val (.int (Int32.ofNat j.val)), .val (.int r), .unset, .unset] [(.int r), (.int (Int32.ofNat j.val)), (.int (2 : Int32)), (.ref b2)])) := c51.trans (by
      refine XS.ifNo X51.here hx rfl (hb hby at_175) rfl ((if0 _ _).trans (feq (own_iT y5)).1) ?_
      refine XS.aloadN X51.here hx rfl (hb hby at_178) rfl rfl ?_
      refine XS.iconst X51.here hx rfl (hb hby at_179) ?_
      refine XS.iload X51.here hx rfl (hb hby at_180) rfl ?_
      refine XS.iload X51.here hx rfl (hb hby at_182) rfl ?_
      exact Steps.refl _)
    obtain ⟨v53, T53, L53, X53, ⟨N53', rfl, e53⟩, c53'⟩ := own_stat X51 hx hml hZ hown (hw _ (List.mem_of_getElem? (i := 75) rfl)) (hw _ (List.mem_of_getElem? (i := 76) rfl)) (hw _ (List.mem_of_getElem? (i := 73) rfl)) (hw _ (List.mem_of_getElem? (i := 77) rfl)) (by decide) (kc := 0) (ks := 0) (h := T40.heap) (W := 0) (argsL := [(.ref b2), (.int (2 : Int32)), (.int (Int32.ofNat j.val)), (.int r)]) (rest := []) (own_pay (W := 0) (rm_fits l Z a0 hw [x6, x11, x16, x21, x26, x31] b2 k2 (2 : Int32) (Int32.ofNat j.val) r T40.heap (((((((((O0.ext E2).wr W7 ge2).wr W12 ge2).wr W17 ge2).wr W22 ge2).wr W27 ge2).wr W32 ge2).ext E38).keep K40 (allS ge38 all0)) ((V32a.ext E38).keep K40 (ninS (Nat.ne_of_lt (Nat.lt_of_lt_of_le (Nat.lt_of_lt_of_le V2.lt (Nat.le_trans (Nat.le_trans (Nat.le_trans (Nat.le_trans (Nat.le_trans (Keep.of_wr W7).1 (Keep.of_wr W12).1) (Keep.of_wr W17).1) (Keep.of_wr W22).1) (Keep.of_wr W27).1) (Keep.of_wr W32).1)) lo38)) nin0))) hZ (hw _ (List.mem_of_getElem? (i := 77) rfl)) (hw _ (List.mem_of_getElem? (i := 73) rfl)) (by decide) (by decide)) c52 rfl rfl (lenOf pd_6 rfl) rfl (by show 2 * 0 + _ ≤ _; exact Nat.le_of_eq rfl) (hb hby at_184) e51 (by decide) (by decide)
    have N53 := Fr.app N51 N53'
    have c53 : Steps p.tables e below S0 (T53.setTop (mkF m 187 #[.val (.long lq), .second, .val (.int p3), .val (.ref b2), .val (.int (Int32.ofNat j.val)), .val (.int r), .unset, .unset] [(.int (own_i (own_fit [x6, x11, x16, x21, x26, x31] (2 : Int32) (Int32.ofNat j.val) r)))])) := c53'
    have c54 : Steps p.tables e below S0 (T53.setTop (mkF m 196 #[.val (.long lq), .second, .val (.int p3), .val (.ref b2), .val (.int (Int32.ofNat j.val)), .val (.int r), .unset, .unset] [(.int r), (.int (Int32.ofNat j.val)), (.int (3 : Int32)), (.ref b2)])) := c53.trans (by
      refine XS.ifNo X53.here hx rfl (hb hby at_187) rfl ((if0 _ _).trans (feq (own_iT y6)).1) ?_
      refine XS.aloadN X53.here hx rfl (hb hby at_190) rfl rfl ?_
      refine XS.iconst X53.here hx rfl (hb hby at_191) ?_
      refine XS.iload X53.here hx rfl (hb hby at_192) rfl ?_
      refine XS.iload X53.here hx rfl (hb hby at_194) rfl ?_
      exact Steps.refl _)
    obtain ⟨v55, T55, L55, X55, ⟨N55', rfl, e55⟩, c55'⟩ := own_stat X53 hx hml hZ hown (hw _ (List.mem_of_getElem? (i := 75) rfl)) (hw _ (List.mem_of_getElem? (i := 76) rfl)) (hw _ (List.mem_of_getElem? (i := 73) rfl)) (hw _ (List.mem_of_getElem? (i := 77) rfl)) (by decide) (kc := 0) (ks := 0) (h := T40.heap) (W := 0) (argsL := [(.ref b2), (.int (3 : Int32)), (.int (Int32.ofNat j.val)), (.int r)]) (rest := []) (own_pay (W := 0) (rm_fits l Z a0 hw [x6, x11, x16, x21, x26, x31] b2 k2 (3 : Int32) (Int32.ofNat j.val) r T40.heap (((((((((O0.ext E2).wr W7 ge2).wr W12 ge2).wr W17 ge2).wr W22 ge2).wr W27 ge2).wr W32 ge2).ext E38).keep K40 (allS ge38 all0)) ((V32a.ext E38).keep K40 (ninS (Nat.ne_of_lt (Nat.lt_of_lt_of_le (Nat.lt_of_lt_of_le V2.lt (Nat.le_trans (Nat.le_trans (Nat.le_trans (Nat.le_trans (Nat.le_trans (Keep.of_wr W7).1 (Keep.of_wr W12).1) (Keep.of_wr W17).1) (Keep.of_wr W22).1) (Keep.of_wr W27).1) (Keep.of_wr W32).1)) lo38)) nin0))) hZ (hw _ (List.mem_of_getElem? (i := 77) rfl)) (hw _ (List.mem_of_getElem? (i := 73) rfl)) (by decide) (by decide)) c54 rfl rfl (lenOf pd_6 rfl) rfl (by show 2 * 0 + _ ≤ _; exact Nat.le_of_eq rfl) (hb hby at_196) e53 (by decide) (by decide)
    have N55 := Fr.app N53 N55'
    have c55 : Steps p.tables e below S0 (T55.setTop (mkF m 199 #[.val (.long lq), .second, .val (.int p3), .val (.ref b2), .val (.int (Int32.ofNat j.val)), .val (.int r), .unset, .unset] [(.int (own_i (own_fit [x6, x11, x16, x21, x26, x31] (3 : Int32) (Int32.ofNat j.val) r)))])) := c55'
    have c56 : Steps p.tables e below S0 (T55.setTop (mkF m 208 #[.val (.long lq), .second, .val (.int p3), .val (.ref b2), .val (.int (Int32.ofNat j.val)), .val (.int r), .unset, .unset] [(.int r), (.int (Int32.ofNat j.val)), (.int (4 : Int32)), (.ref b2)])) := c55.trans (by
      refine XS.ifNo X55.here hx rfl (hb hby at_199) rfl ((if0 _ _).trans (feq (own_iT y7)).1) ?_
      refine XS.aloadN X55.here hx rfl (hb hby at_202) rfl rfl ?_
      refine XS.iconst X55.here hx rfl (hb hby at_203) ?_
      refine XS.iload X55.here hx rfl (hb hby at_204) rfl ?_
      refine XS.iload X55.here hx rfl (hb hby at_206) rfl ?_
      exact Steps.refl _)
    obtain ⟨v57, T57, L57, X57, ⟨N57', rfl, e57⟩, c57'⟩ := own_stat X55 hx hml hZ hown (hw _ (List.mem_of_getElem? (i := 75) rfl)) (hw _ (List.mem_of_getElem? (i := 76) rfl)) (hw _ (List.mem_of_getElem? (i := 73) rfl)) (hw _ (List.mem_of_getElem? (i := 77) rfl)) (by decide) (kc := 0) (ks := 0) (h := T40.heap) (W := 0) (argsL := [(.ref b2), (.int (4 : Int32)), (.int (Int32.ofNat j.val)), (.int r)]) (rest := []) (own_pay (W := 0) (rm_fits l Z a0 hw [x6, x11, x16, x21, x26, x31] b2 k2 (4 : Int32) (Int32.ofNat j.val) r T40.heap (((((((((O0.ext E2).wr W7 ge2).wr W12 ge2).wr W17 ge2).wr W22 ge2).wr W27 ge2).wr W32 ge2).ext E38).keep K40 (allS ge38 all0)) ((V32a.ext E38).keep K40 (ninS (Nat.ne_of_lt (Nat.lt_of_lt_of_le (Nat.lt_of_lt_of_le V2.lt (Nat.le_trans (Nat.le_trans (Nat.le_trans (Nat.le_trans (Nat.le_trans (Keep.of_wr W7).1 (Keep.of_wr W12).1) (Keep.of_wr W17).1) (Keep.of_wr W22).1) (Keep.of_wr W27).1) (Keep.of_wr W32).1)) lo38)) nin0))) hZ (hw _ (List.mem_of_getElem? (i := 77) rfl)) (hw _ (List.mem_of_getElem? (i := 73) rfl)) (by decide) (by decide)) c56 rfl rfl (lenOf pd_6 rfl) rfl (by show 2 * 0 + _ ≤ _; exact Nat.le_of_eq rfl) (hb hby at_208) e55 (by decide) (by decide)
    have N57 := Fr.app N55 N57'
    have c57 : Steps p.tables e below S0 (T57.setTop (mkF m 211 #[.val (.long lq), .second, .val (.int p3), .val (.ref b2), .val (.int (Int32.ofNat j.val)), .val (.int r), .unset, .unset] [(.int (own_i (own_fit [x6, x11, x16, x21, x26, x31] (4 : Int32) (Int32.ofNat j.val) r)))])) := c57'
    have c58 : Steps p.tables e below S0 (T57.setTop (mkF m 220 #[.val (.long lq), .second, .val (.int p3), .val (.ref b2), .val (.int (Int32.ofNat j.val)), .val (.int r), .unset, .unset] [(.int r), (.int (Int32.ofNat j.val)), (.int (5 : Int32)), (.ref b2)])) := c57.trans (by
      refine XS.ifNo X57.here hx rfl (hb hby at_211) rfl ((if0 _ _).trans (feq (own_iT y8)).1) ?_
      refine XS.aloadN X57.here hx rfl (hb hby at_214) rfl rfl ?_
      refine XS.iconst X57.here hx rfl (hb hby at_215) ?_
      refine XS.iload X57.here hx rfl (hb hby at_216) rfl ?_
      refine XS.iload X57.here hx rfl (hb hby at_218) rfl ?_
      exact Steps.refl _)
    obtain ⟨v59, T59, L59, X59, ⟨N59', rfl, e59⟩, c59'⟩ := own_stat X57 hx hml hZ hown (hw _ (List.mem_of_getElem? (i := 75) rfl)) (hw _ (List.mem_of_getElem? (i := 76) rfl)) (hw _ (List.mem_of_getElem? (i := 73) rfl)) (hw _ (List.mem_of_getElem? (i := 77) rfl)) (by decide) (kc := 0) (ks := 0) (h := T40.heap) (W := 0) (argsL := [(.ref b2), (.int (5 : Int32)), (.int (Int32.ofNat j.val)), (.int r)]) (rest := []) (own_pay (W := 0) (rm_fits l Z a0 hw [x6, x11, x16, x21, x26, x31] b2 k2 (5 : Int32) (Int32.ofNat j.val) r T40.heap (((((((((O0.ext E2).wr W7 ge2).wr W12 ge2).wr W17 ge2).wr W22 ge2).wr W27 ge2).wr W32 ge2).ext E38).keep K40 (allS ge38 all0)) ((V32a.ext E38).keep K40 (ninS (Nat.ne_of_lt (Nat.lt_of_lt_of_le (Nat.lt_of_lt_of_le V2.lt (Nat.le_trans (Nat.le_trans (Nat.le_trans (Nat.le_trans (Nat.le_trans (Keep.of_wr W7).1 (Keep.of_wr W12).1) (Keep.of_wr W17).1) (Keep.of_wr W22).1) (Keep.of_wr W27).1) (Keep.of_wr W32).1)) lo38)) nin0))) hZ (hw _ (List.mem_of_getElem? (i := 77) rfl)) (hw _ (List.mem_of_getElem? (i := 73) rfl)) (by decide) (by decide)) c58 rfl rfl (lenOf pd_6 rfl) rfl (by show 2 * 0 + _ ≤ _; exact Nat.le_of_eq rfl) (hb hby at_220) e57 (by decide) (by decide)
    have N59 := Fr.app N57 N59'
    have c59 : Steps p.tables e below S0 (T59.setTop (mkF m 223 #[.val (.long lq), .second, .val (.int p3), .val (.ref b2), .val (.int (Int32.ofNat j.val)), .val (.int r), .unset, .unset] [(.int (own_i (own_fit [x6, x11, x16, x21, x26, x31] (5 : Int32) (Int32.ofNat j.val) r)))])) := c59'
    have c60 : Steps p.tables e below S0 (T59.setTop (mkF m 236 #[.val (.long lq), .second, .val (.int p3), .val (.ref b2), .val (.int (Int32.ofNat j.val)), .val (.int r), .val (.int (1 : Int32)), .unset] [(.int r), (.ref b2)])) := c59.trans (by
      refine XS.ifNo X59.here hx rfl (hb hby at_223) rfl ((if0 _ _).trans (feq (own_iT y9)).1) ?_
      refine XS.iconst X59.here hx rfl (hb hby at_226) ?_
      refine XS.goto X59.here hx rfl (pc0 := 227) (pc' := 231) rfl (hb hby at_227) (by decide) (by decide) ?_
      refine XS.istore X59.here hx rfl (hb hby at_231) rfl (l' := #[.val (.long lq), .second, .val (.int p3), .val (.ref b2), .val (.int (Int32.ofNat j.val)), .val (.int r), .val (.int (1 : Int32)), .unset]) rfl ?_
      refine XS.aloadN X59.here hx rfl (hb hby at_233) rfl rfl ?_
      refine XS.iload X59.here hx rfl (hb hby at_234) rfl ?_
      exact Steps.refl _)
    obtain ⟨v61, T61, L61, X61, ⟨N61', rfl, e61⟩, c61'⟩ := own_stat X59 hx hml hZ hown (hw _ (List.mem_of_getElem? (i := 71) rfl)) (hw _ (List.mem_of_getElem? (i := 72) rfl)) (hw _ (List.mem_of_getElem? (i := 73) rfl)) (hw _ (List.mem_of_getElem? (i := 74) rfl)) (by decide) (kc := 0) (ks := 0) (h := T40.heap) (W := 0) (argsL := [(.ref b2), (.int r)]) (rest := []) (own_pay (W := 0) (rm_dig l Z a0 hw [x6, x11, x16, x21, x26, x31] b2 k2 r T40.heap (((((((((O0.ext E2).wr W7 ge2).wr W12 ge2).wr W17 ge2).wr W22 ge2).wr W27 ge2).wr W32 ge2).ext E38).keep K40 (allS ge38 all0)) ((V32a.ext E38).keep K40 (ninS (Nat.ne_of_lt (Nat.lt_of_lt_of_le (Nat.lt_of_lt_of_le V2.lt (Nat.le_trans (Nat.le_trans (Nat.le_trans (Nat.le_trans (Nat.le_trans (Keep.of_wr W7).1 (Keep.of_wr W12).1) (Keep.of_wr W17).1) (Keep.of_wr W22).1) (Keep.of_wr W27).1) (Keep.of_wr W32).1)) lo38)) nin0))) hZ (hw _ (List.mem_of_getElem? (i := 74) rfl)) (hw _ (List.mem_of_getElem? (i := 73) rfl)) (by decide) (by decide)) c60 rfl rfl (lenOf pd_0 rfl) rfl (by show 2 * 0 + _ ≤ _; exact Nat.le_of_eq rfl) (hb hby at_236) e59 (by decide) (by decide)
    have N61 := Fr.app N59 N61'
    have c61 : Steps p.tables e below S0 (T61.setTop (mkF m 239 #[.val (.long lq), .second, .val (.int p3), .val (.ref b2), .val (.int (Int32.ofNat j.val)), .val (.int r), .val (.int (1 : Int32)), .unset] [(.int (own_i (own_digA [x6, x11, x16, x21, x26, x31] r)))])) := c61'
    have c62 : Steps p.tables e below S0 (T61.setTop (mkF m 245 #[.val (.long lq), .second, .val (.int p3), .val (.ref b2), .val (.int (Int32.ofNat j.val)), .val (.int r), .val (.int (1 : Int32)), .unset] [(.int r), (.ref b2)])) := c61.trans (by
      refine XS.ifNo X61.here hx rfl (hb hby at_239) rfl ((if0 _ _).trans (teq (own_iF y10)).2) ?_
      refine XS.aloadN X61.here hx rfl (hb hby at_242) rfl rfl ?_
      refine XS.iload X61.here hx rfl (hb hby at_243) rfl ?_
      exact Steps.refl _)
    obtain ⟨v63, T63, L63, X63, ⟨N63', rfl, e63⟩, c63'⟩ := own_stat X61 hx hml hZ hown (hw _ (List.mem_of_getElem? (i := 78) rfl)) (hw _ (List.mem_of_getElem? (i := 79) rfl)) (hw _ (List.mem_of_getElem? (i := 73) rfl)) (hw _ (List.mem_of_getElem? (i := 80) rfl)) (by decide) (kc := 0) (ks := 0) (h := T40.heap) (W := 0) (argsL := [(.ref b2), (.int r)]) (rest := []) (own_pay (W := 0) (rm_sep l Z a0 hw [x6, x11, x16, x21, x26, x31] b2 k2 r T40.heap (((((((((O0.ext E2).wr W7 ge2).wr W12 ge2).wr W17 ge2).wr W22 ge2).wr W27 ge2).wr W32 ge2).ext E38).keep K40 (allS ge38 all0)) ((V32a.ext E38).keep K40 (ninS (Nat.ne_of_lt (Nat.lt_of_lt_of_le (Nat.lt_of_lt_of_le V2.lt (Nat.le_trans (Nat.le_trans (Nat.le_trans (Nat.le_trans (Nat.le_trans (Keep.of_wr W7).1 (Keep.of_wr W12).1) (Keep.of_wr W17).1) (Keep.of_wr W22).1) (Keep.of_wr W27).1) (Keep.of_wr W32).1)) lo38)) nin0))) hZ (hw _ (List.mem_of_getElem? (i := 80) rfl)) (hw _ (List.mem_of_getElem? (i := 73) rfl)) (by decide) (by decide)) c62 rfl rfl (lenOf pd_0 rfl) rfl (by show 2 * 0 + _ ≤ _; exact Nat.le_of_eq rfl) (hb hby at_245) e61 (by decide) (by decide)
    have N63 := Fr.app N61 N63'
    have c63 : Steps p.tables e below S0 (T63.setTop (mkF m 248 #[.val (.long lq), .second, .val (.int p3), .val (.ref b2), .val (.int (Int32.ofNat j.val)), .val (.int r), .val (.int (1 : Int32)), .unset] [(.int (own_i (own_sepA [x6, x11, x16, x21, x26, x31] r)))])) := c63'
    by_cases hc64 : (own_i (own_sepA [x6, x11, x16, x21, x26, x31] r)) = (0 : Int32)
    · skip
      have c65 : Steps p.tables e below S0 (T63.setTop (mkF m 284 #[.val (.long lq), .second, .val (.int p3), .val (.ref b2), .val (.int (Int32.ofNat j.val)), .val (.int r), .val (.int (1 : Int32)), .val (.int (1 : Int32))] [(.int (1 : Int32))])) := c63.trans (by
        refine XS.ifYes X63.here hx rfl (pc0 := 248) (pc' := 262) rfl (hb hby at_248) rfl ((if0 _ _).trans (teq hc64).1) (by decide) (by decide) ?_
        refine XS.iconst X63.here hx rfl (hb hby at_262) ?_
        refine XS.goto X63.here hx rfl (pc0 := 263) (pc' := 267) rfl (hb hby at_263) (by decide) (by decide) ?_
        refine XS.istore X63.here hx rfl (hb hby at_267) rfl (l' := #[.val (.long lq), .second, .val (.int p3), .val (.ref b2), .val (.int (Int32.ofNat j.val)), .val (.int r), .val (.int (1 : Int32)), .val (.int (1 : Int32))]) rfl ?_
        refine XS.iload X63.here hx rfl (hb hby at_269) rfl ?_
        refine XS.ifNo X63.here hx rfl (hb hby at_271) rfl ((if0 _ _).trans (feq (by decide : ¬ ((1 : Int32) = (0 : Int32)))).1) ?_
        refine XS.iload X63.here hx rfl (hb hby at_274) rfl ?_
        refine XS.ifNo X63.here hx rfl (hb hby at_276) rfl ((if0 _ _).trans (feq (by decide : ¬ ((1 : Int32) = (0 : Int32)))).1) ?_
        refine XS.iconst X63.here hx rfl (hb hby at_279) ?_
        refine XS.goto X63.here hx rfl (pc0 := 280) (pc' := 284) rfl (hb hby at_280) (by decide) (by decide) ?_
        exact Steps.refl _)
      refine ⟨T63, (some (.int (1 : Int32))), _, _, _, X63, by decide, by decide, (fun q => by cases q), N63, ?_, fun fs hr => ?_⟩
      · skip
        exact rfl
      · exact c65.trans (retN X63 hx (t := .boolean) hret (by simp) (hb hby at_284) hr)
    · skip
      have c67 : Steps p.tables e below S0 (T63.setTop (mkF m 256 #[.val (.long lq), .second, .val (.int p3), .val (.ref b2), .val (.int (Int32.ofNat j.val)), .val (.int r), .val (.int (1 : Int32)), .unset] [(.int (r + (1 : Int32))), (.ref b2)])) := c63.trans (by
        refine XS.ifNo X63.here hx rfl (hb hby at_248) rfl ((if0 _ _).trans (feq hc64).1) ?_
        refine XS.aloadN X63.here hx rfl (hb hby at_251) rfl rfl ?_
        refine XS.iload X63.here hx rfl (hb hby at_252) rfl ?_
        refine XS.iconst X63.here hx rfl (hb hby at_254) ?_
        refine XS.iadd X63.here hx rfl (hb hby at_255) rfl ?_
        exact Steps.refl _)
      obtain ⟨v68, T68, L68, X68, ⟨N68', rfl, e68⟩, c68'⟩ := own_stat X63 hx hml hZ hown (hw _ (List.mem_of_getElem? (i := 71) rfl)) (hw _ (List.mem_of_getElem? (i := 72) rfl)) (hw _ (List.mem_of_getElem? (i := 73) rfl)) (hw _ (List.mem_of_getElem? (i := 74) rfl)) (by decide) (kc := 0) (ks := 0) (h := T40.heap) (W := 0) (argsL := [(.ref b2), (.int (r + (1 : Int32)))]) (rest := []) (own_pay (W := 0) (rm_dig l Z a0 hw [x6, x11, x16, x21, x26, x31] b2 k2 (r + (1 : Int32)) T40.heap (((((((((O0.ext E2).wr W7 ge2).wr W12 ge2).wr W17 ge2).wr W22 ge2).wr W27 ge2).wr W32 ge2).ext E38).keep K40 (allS ge38 all0)) ((V32a.ext E38).keep K40 (ninS (Nat.ne_of_lt (Nat.lt_of_lt_of_le (Nat.lt_of_lt_of_le V2.lt (Nat.le_trans (Nat.le_trans (Nat.le_trans (Nat.le_trans (Nat.le_trans (Keep.of_wr W7).1 (Keep.of_wr W12).1) (Keep.of_wr W17).1) (Keep.of_wr W22).1) (Keep.of_wr W27).1) (Keep.of_wr W32).1)) lo38)) nin0))) hZ (hw _ (List.mem_of_getElem? (i := 74) rfl)) (hw _ (List.mem_of_getElem? (i := 73) rfl)) (by decide) (by decide)) c67 rfl rfl (lenOf pd_0 rfl) rfl (by show 2 * 0 + _ ≤ _; exact Nat.le_of_eq rfl) (hb hby at_256) e63 (by decide) (by decide)
      have N68 := Fr.app N63 N68'
      have c68 : Steps p.tables e below S0 (T68.setTop (mkF m 259 #[.val (.long lq), .second, .val (.int p3), .val (.ref b2), .val (.int (Int32.ofNat j.val)), .val (.int r), .val (.int (1 : Int32)), .unset] [(.int (own_i (own_digA [x6, x11, x16, x21, x26, x31] (r + (1 : Int32)))))])) := c68'
      have c69 : Steps p.tables e below S0 (T68.setTop (mkF m 284 #[.val (.long lq), .second, .val (.int p3), .val (.ref b2), .val (.int (Int32.ofNat j.val)), .val (.int r), .val (.int (1 : Int32)), .val (.int (1 : Int32))] [(.int (1 : Int32))])) := c68.trans (by
        refine XS.ifNo X68.here hx rfl (hb hby at_259) rfl ((if0 _ _).trans (teq (own_iF (y11 (by simpa [own_i0] using hc64)))).2) ?_
        refine XS.iconst X68.here hx rfl (hb hby at_262) ?_
        refine XS.goto X68.here hx rfl (pc0 := 263) (pc' := 267) rfl (hb hby at_263) (by decide) (by decide) ?_
        refine XS.istore X68.here hx rfl (hb hby at_267) rfl (l' := #[.val (.long lq), .second, .val (.int p3), .val (.ref b2), .val (.int (Int32.ofNat j.val)), .val (.int r), .val (.int (1 : Int32)), .val (.int (1 : Int32))]) rfl ?_
        refine XS.iload X68.here hx rfl (hb hby at_269) rfl ?_
        refine XS.ifNo X68.here hx rfl (hb hby at_271) rfl ((if0 _ _).trans (feq (by decide : ¬ ((1 : Int32) = (0 : Int32)))).1) ?_
        refine XS.iload X68.here hx rfl (hb hby at_274) rfl ?_
        refine XS.ifNo X68.here hx rfl (hb hby at_276) rfl ((if0 _ _).trans (feq (by decide : ¬ ((1 : Int32) = (0 : Int32)))).1) ?_
        refine XS.iconst X68.here hx rfl (hb hby at_279) ?_
        refine XS.goto X68.here hx rfl (pc0 := 280) (pc' := 284) rfl (hb hby at_280) (by decide) (by decide) ?_
        exact Steps.refl _)
      refine ⟨T68, (some (.int (1 : Int32))), _, _, _, X68, by decide, by decide, (fun q => by cases q), N68, ?_, fun fs hr => ?_⟩
      · skip
        exact rfl
      · exact c69.trans (retN X68 hx (t := .boolean) hret (by simp) (hb hby at_284) hr)
  · skip
    have y0 : r = (-1 : Int32) := er.symm.trans (own_no x6 x11 x16 x21 x26 x31 j hd)
    have c71 : Steps p.tables e below S0 (T45.setTop (mkF m 124 #[.val (.long lq), .second, .val (.int p3), .val (.ref b2), .val (.int (Int32.ofNat j.val)), .val (.int r), .unset, .unset] [(.int (1 : Int32))])) := c45.trans (by
      refine XS.ifNo X45.here hx rfl (hb hby at_110) rfl ((if0 _ _).trans (teq (own_iF hd)).2) ?_
      refine XS.iload X45.here hx rfl (hb hby at_113) rfl ?_
      refine XS.iconst X45.here hx rfl (hb hby at_115) ?_
      refine XS.icmpNo X45.here hx rfl (hb hby at_116) rfl (teq y0).2 ?_
      refine XS.iconst X45.here hx rfl (hb hby at_119) ?_
      refine XS.goto X45.here hx rfl (pc0 := 120) (pc' := 124) rfl (hb hby at_120) (by decide) (by decide) ?_
      exact Steps.refl _)
    refine ⟨T45, (some (.int (1 : Int32))), _, _, _, X45, by decide, by decide, (fun q => by cases q), N45, ?_, fun fs hr => ?_⟩
    · skip
      exact rfl
    · exact c71.trans (retN X45 hx (t := .boolean) hret (by simp) (hb hby at_124) hr)
set_option maxRecDepth 65536 in
set_option maxHeartbeats 40000000 in
theorem comes_1 {Post : Tables → Env → Array Value → State → Outcome → State → Prop} (hpost : ∀ tb e args s v u, (limb_1_1.after args s (.returned v) u = true ∧ limb_1_2.after args s (.returned v) u = true ∧ True) → FrameEnd s (.returned v) u (Jvm.fieldLocs frame_1_writes args s ++ Jvm.arrayLocs frame_1_arrays args s ++ Jvm.staticLocs frame_1_statics s) 16 128 → Post tb e args s (.returned v) u) :
    ArmFor flags0 classFile x code maxLocals ret World_1 tables_1 room_1 Calls_1 rest_1 Pre_1 Post := by
  intro l hfl _ _ p e ha hc hk s m args below hf hA hF happ hP
  obtain ⟨hcalls, hrest, hpre⟩ := hP
  obtain ⟨-, -, -, hnamed, -, -, -, hat⟩ := (Spec.applies_iff hf).mp happ
  obtain ⟨hg, hn⟩ := and_e (Cond.before_iff.mp (show (Jvm.Cond.and given_1 narrow_1).before args s = true from hpre))
  obtain ⟨g10, hg⟩ := and_e hg
  obtain ⟨ga0, hg⟩ := and_e hg
  have ga1 := hg
  obtain ⟨w0, w1, rfl⟩ : ∃ w0 w1 : Value, args = #[w0, w1] := by
    have hs : args.size = 2 := by simpa [Cond.value, given_1] using g10
    obtain ⟨L⟩ := args
    match L, hs with
    | [w0, w1], _ => exact ⟨w0, w1, rfl⟩
  have hw := fun d (hd : d ∈ tables_1) => atoms_spec (ws := Jvm.Cond.code x code maxLocals ret :: tables_1) hat d (List.mem_cons_of_mem _ hd)
  have hfit : Fit s := fun {y c} hc i hi => by
    obtain ⟨ha, rfl⟩ := Array.getElem?_eq_some_iff.mp hc
    have q := List.all_eq_true.mp ((Array.all_eq_true_iff_forall_mem.mp hF) _ (Array.getElem_mem ha)) i (List.mem_range.mpr hi)
    simpa [Array.getElem?_eq_getElem hi] using q
  obtain ⟨i0, ei0⟩ := isL_v ga0
  obtain rfl : w0 = (.long i0) := Option.some.inj ei0
  obtain ⟨i1, ei1⟩ := is_v ga1
  obtain rfl : w1 = (.int i1) := Option.some.inj ei1
  obtain ⟨hsets, hown0⟩ := atoms_of _ (rest_1_c_eq ▸ (show rest_1_c.before _ s = true from hrest))
  obtain ⟨z, ez⟩ := is_v (Cond.before_iff.mp (hsets _ (List.mem_of_getElem? (i := 1) rfl)))
  have hz : ¬ z = 0 := by
    have q := not_v (Cond.before_iff.mp (hsets _ (List.mem_of_getElem? (i := 2) rfl)))
    intro hz
    subst hz
    rw [eq_i ez (Term.int_eval (0)) rfl] at q
    cases q
  have SC := Sta.start ez (Or.inl (hsets _ (List.mem_of_getElem? (i := 0) rfl)))
  obtain ⟨fm, efm, hfm⟩ := isR_v (Cond.before_iff.mp (hsets _ (List.mem_of_getElem? (i := 8) rfl)))
  have SF := Sta.start efm (Or.inl (hsets _ (List.mem_of_getElem? (i := 7) rfl)))
  have M := rm0 l s _ hw i0 i1 z fm s.heap (Old.start s) SC hz SF hfm
  obtain ⟨n, o, h1, h2, h3, _, L, rfl, ⟨N, rfl⟩, hq⟩ := own_met (ws := tables_1) (plainFor_of_name (by first | (simp [plainName, overriddenIn]; done) | decide +kernel)) M p e ha hc hk s m _ below hf ((Spec.applies_iff_loose hf).mp happ).1 ⟨rfl, State.Warmed39.refl s, rfl⟩ trivial
  refine ⟨n, _, h1, h2, h3, hpost _ _ _ _ _ _ ⟨Cond.after_iff.mpr rfl, Cond.after_iff.mpr (eq_i res_at (Term.int_eval (1)) rfl), trivial⟩ ⟨hq.1, hq.2.1, (hq.2.2.sift fun y hy => Or.inr (N y hy)).mono (by decide) (by decide)⟩⟩
theorem main_1_1 : Claimed_1_1 := comes_1 fun _ _ _ _ _ _ h hF => ⟨h.1, hF⟩
theorem main_1_2 : Claimed_1_2 := comes_1 fun _ _ _ _ _ _ h hF => ⟨h.2.1, hF⟩
end Jvm.Pilot.@@N@@
namespace Jvm.Pilot.@@N@@
open Jvm Jvm.ClassFile Sem Op Lib Jvm.Free Jvm.Stand Jvm.Pilot.@@N@@.Jvm.D
/-! MADE BY PROGRAM (witnessworld.py) out of the Statement's table words and the real class files: 20 classes; the members and pool entries that the words name. The judged class is class 1, her method 4. -/
namespace start1
open Jvm.ClassFile
def u (s : String) : CpInfo := .utf8 (stringToUtf16 s)
/-- a pool by its gaps: so many unusable entries, then the entry; so many at the end -/
def gap : Nat → List CpInfo → List CpInfo
  | 0, r => r
  | n + 1, r => .unusable :: gap n r
def poolList (es : List (Nat × CpInfo)) (last : Nat) : List CpInfo := es.foldr (fun e r => gap e.1 (e.2 :: r)) (gap last [])
def pool (es : List (Nat × CpInfo)) (last : Nat) : Array CpInfo := ⟨poolList es last⟩
def fileOf (pool : Array CpInfo) (this : Nat) (attrs : Array Attribute := #[]) (ms : Array MethodInfo := #[]) (fl : Nat := 33) (sup : Nat := 0) (ifs : Array Nat := #[]) (fds : Array FieldInfo := #[]) : ClassFile where
  minorVersion := 0
  majorVersion := 65
  constantPool := pool
  accessFlags := fl
  thisClass := this
  superClass := sup
  interfaces := ifs
  fields := fds
  methods := ms
  attributes := attrs
def plain (name : String) (sup : Option ClassId) : Class where
  name := name
  kind := .ordinary
  loader := none
  accessFlags := 33
  super := sup
  interfaces := #[]
  cf := none
  fields := #[]
  methods := #[]
  instanceTypes := #[]
  staticTypes := #[]
  resolved := #[]
  callSites := []
  init := .initialized
  statics := none
  mirror := none

def pool0 : Array CpInfo := pool [(5, u "<init>"), (0, u "()V"), (1, .class_ 10), (1, u "java/lang/Object")] 113

def k0c0 : Code := { maxStack := 0, maxLocals := 1, code := object_method_1_code, exceptionTable := #[], attributes := #[] }
def k0m0 : Method := { name := "<init>", desc := "()V", sig := { parameters := [], returnType := none }, accessFlags := 1, code := some k0c0 }
/-- java/lang/Object -/
def k0 : Class := { plain "java/lang/Object" none with
  accessFlags := 33
  interfaces := #[]
  cf := some (fileOf pool0 8 #[] #[{ accessFlags := 1, nameIndex := 5, descriptorIndex := 6, attributes := #[] }] 33 0 #[] #[])
  fields := #[]
  methods := #[k0m0]
  instanceTypes := #[]
  staticTypes := #[]
  resolved := Array.replicate 124 none
  statics := none }

def pool1 : Array CpInfo := pool [(2, .class_ 4), (1, u "java/lang/Object"), (0, u "<init>"), (0, u "()V"), (0, .methodref 8 9), (0, .class_ 10), (0, .nameAndType 11 12), (0, u "com/example/milepost/milepost/model/VersionEndPinLaw"), (0, u "dig"), (0, u "([CI)Z"), (0, .methodref 8 14), (0, .nameAndType 15 12), (0, u "sep"), (0, .long 255), (1, .integer 2147483647), (0, .class_ 20), (0, u "java/lang/String"), (0, .methodref 19 22), (0, .nameAndType 5 23), (0, u "([C)V"), (0, .methodref 25 26), (0, .class_ 27), (0, .nameAndType 28 29), (0, u "com/example/milepost/milepost/model/Version"), (0, u "end"), (0, u "(Ljava/lang/String;I)I"), (0, .methodref 8 31), (0, .nameAndType 32 33), (0, u "fits"), (0, u "([CIII)Z"), (3, u "law"), (0, u "(JI)Z")] 4

def k1m0 : Method := { name := "<init>", desc := "()V", sig := { parameters := [], returnType := none }, accessFlags := 2, code := none }
def k1c1 : Code := { maxStack := 2, maxLocals := 2, code := method_2_code, exceptionTable := #[], attributes := #[] }
def k1m1 : Method := { name := "dig", desc := "([CI)Z", sig := { parameters := [(.array .char), .int], returnType := some .boolean }, accessFlags := 10, code := some k1c1 }
def k1c2 : Code := { maxStack := 2, maxLocals := 2, code := method_3_code, exceptionTable := #[], attributes := #[] }
def k1m2 : Method := { name := "sep", desc := "([CI)Z", sig := { parameters := [(.array .char), .int], returnType := some .boolean }, accessFlags := 10, code := some k1c2 }
def k1c3 : Code := { maxStack := 3, maxLocals := 4, code := method_4_code, exceptionTable := #[], attributes := #[] }
def k1m3 : Method := { name := "fits", desc := "([CIII)Z", sig := { parameters := [(.array .char), .int, .int, .int], returnType := some .boolean }, accessFlags := 10, code := some k1c3 }
def k1c4 : Code := { maxStack := 6, maxLocals := 8, code := code, exceptionTable := #[], attributes := #[] }
def k1m4 : Method := { name := "law", desc := "(JI)Z", sig := { parameters := [.long, .int], returnType := some .boolean }, accessFlags := 9, code := some k1c4 }
/-- com/example/milepost/milepost/model/VersionEndPinLaw -/
def k1 : Class := { plain "com/example/milepost/milepost/model/VersionEndPinLaw" (some 0) with
  accessFlags := 49
  interfaces := #[]
  cf := some (fileOf pool1 8 #[] #[{ accessFlags := 2, nameIndex := 5, descriptorIndex := 6, attributes := #[] }, { accessFlags := 10, nameIndex := 11, descriptorIndex := 12, attributes := #[] }, { accessFlags := 10, nameIndex := 15, descriptorIndex := 12, attributes := #[] }, { accessFlags := 10, nameIndex := 32, descriptorIndex := 33, attributes := #[] }, { accessFlags := 9, nameIndex := 37, descriptorIndex := 38, attributes := #[] }] 49 2 #[] #[])
  fields := #[]
  methods := #[k1m0, k1m1, k1m2, k1m3, k1m4]
  instanceTypes := #[]
  staticTypes := #[]
  resolved := Array.replicate 43 none
  statics := none }

def pool2 : Array CpInfo := pool [(1, .class_ 2), (0, u "java/io/Serializable"), (0, .class_ 4), (0, u "java/lang/Object")] 2

/-- java/io/Serializable -/
def k2 : Class := { plain "java/io/Serializable" (some 0) with
  accessFlags := 1537
  interfaces := #[]
  cf := some (fileOf pool2 1 #[] #[] 1537 3 #[] #[])
  fields := #[]
  methods := #[]
  instanceTypes := #[]
  staticTypes := #[]
  resolved := Array.replicate 7 none
  statics := none }

def pool3 : Array CpInfo := pool [(1, .class_ 2), (0, u "java/lang/Comparable"), (0, .class_ 4), (0, u "java/lang/Object")] 7

/-- java/lang/Comparable -/
def k3 : Class := { plain "java/lang/Comparable" (some 0) with
  accessFlags := 1537
  interfaces := #[]
  cf := some (fileOf pool3 1 #[] #[] 1537 3 #[] #[])
  fields := #[]
  methods := #[]
  instanceTypes := #[]
  staticTypes := #[]
  resolved := Array.replicate 12 none
  statics := none }

def pool4 : Array CpInfo := pool [(2, .class_ 4), (1, u "java/lang/CharSequence"), (42, .class_ 48), (0, u "java/lang/CharSequence$1CodePointIterator"), (10, .class_ 60), (0, u "java/lang/CharSequence$1CharIterator"), (5, .class_ 67), (0, u "java/lang/Object")] 63

/-- java/lang/CharSequence -/
def k4 : Class := { plain "java/lang/CharSequence" (some 0) with
  accessFlags := 1537
  interfaces := #[]
  cf := some (fileOf pool4 2 #[.nestMembers #[47, 59]] #[] 1537 66 #[] #[])
  fields := #[]
  methods := #[]
  instanceTypes := #[]
  staticTypes := #[]
  resolved := Array.replicate 131 none
  statics := none }

def pool5 : Array CpInfo := pool [(1, .class_ 2), (0, u "java/lang/constant/Constable"), (0, .class_ 4), (0, u "java/lang/Object")] 6

/-- java/lang/constant/Constable -/
def k5 : Class := { plain "java/lang/constant/Constable" (some 0) with
  accessFlags := 1537
  interfaces := #[]
  cf := some (fileOf pool5 1 #[] #[] 1537 3 #[] #[])
  fields := #[]
  methods := #[]
  instanceTypes := #[]
  staticTypes := #[]
  resolved := Array.replicate 11 none
  statics := none }

def pool6 : Array CpInfo := pool [(1, .class_ 2), (0, u "java/lang/constant/ConstantDesc"), (0, .class_ 4), (0, u "java/lang/Object")] 32

/-- java/lang/constant/ConstantDesc -/
def k6 : Class := { plain "java/lang/constant/ConstantDesc" (some 0) with
  accessFlags := 1537
  interfaces := #[]
  cf := some (fileOf pool6 1 #[] #[] 1537 3 #[] #[])
  fields := #[]
  methods := #[]
  instanceTypes := #[]
  staticTypes := #[]
  resolved := Array.replicate 37 none
  statics := none }

def pool7 : Array CpInfo := pool [(1, .methodref 2 3), (0, .class_ 4), (0, .nameAndType 5 6), (0, u "java/lang/Object"), (0, u "<init>"), (0, u "()V"), (2, .fieldref 10 11), (0, .class_ 12), (0, .nameAndType 13 14), (0, u "java/lang/String"), (0, u "value"), (0, u "[B"), (0, .fieldref 10 16), (0, .nameAndType 17 18), (0, u "coder"), (0, u "B"), (2, u "hash"), (0, u "I"), (2, u "hashIsZero"), (0, u "Z"), (0, .methodref 10 28), (0, .nameAndType 5 29), (0, u "([CIILjava/lang/Void;)V"), (8, .fieldref 10 39), (0, .nameAndType 40 26), (0, u "COMPACT_STRINGS"), (1, .class_ 44), (1, u "java/lang/StringUTF16"), (0, u "compress"), (1, .methodref 42 48), (0, .nameAndType 49 50), (0, u "coderFromArrayLen"), (0, u "([BI)B"), (56, .class_ 109), (1, u "java/lang/StringLatin1"), (32, u "()Z"), (34, .methodref 42 178), (0, .nameAndType 45 179), (0, u "([CII)[B"), (154, u "()I"), (0, .methodref 10 336), (0, .nameAndType 17 337), (0, u "()B"), (25, u "([BI)C"), (27, u "(II)V"), (35, u "(I)C"), (64, .methodref 10 493), (0, .nameAndType 494 142), (0, u "isLatin1"), (0, .methodref 107 496), (0, .nameAndType 497 363), (0, u "charAt"), (3, u "checkIndex"), (5, u "length"), (67, .class_ 576), (0, u "java/lang/CharSequence"), (22, u "CASE_INSENSITIVE_ORDER"), (0, u "Ljava/util/Comparator;"), (409, u "([C)V"), (42, .fieldref 1054 1055), (0, .class_ 1056), (0, .nameAndType 1057 1058), (0, u "jdk/internal/util/Preconditions"), (0, u "SIOOBE_FORMATTER"), (0, u "Ljava/util/function/BiFunction;"), (0, .methodref 1054 1060), (0, .nameAndType 501 1061), (0, u "(IILjava/util/function/BiFunction;)I"), (39, u "serialPersistentFields"), (0, u "[Ljava/io/ObjectStreamField;"), (0, .class_ 1104), (0, u "java/lang/String$CaseInsensitiveComparator"), (1, .class_ 1107), (0, u "java/io/Serializable"), (0, .class_ 1109), (0, u "java/lang/Comparable"), (0, .class_ 1111), (0, u "java/lang/constant/Constable"), (0, .class_ 1113), (0, u "java/lang/constant/ConstantDesc"), (2, u "serialVersionUID"), (0, u "J"), (3, u "REPL"), (0, u "C"), (2, u "LATIN1"), (1, u "UTF16")] 323

def k7m0 : Method := { name := "<init>", desc := "()V", sig := { parameters := [], returnType := none }, accessFlags := 1, code := none }
def k7c1 : Code := { maxStack := 5, maxLocals := 2, code := jdk_42_method_3_code, exceptionTable := #[], attributes := #[] }
def k7m1 : Method := { name := "<init>", desc := "([C)V", sig := { parameters := [(.array .char)], returnType := none }, accessFlags := 1, code := some k7c1 }
def k7c2 : Code := { maxStack := 2, maxLocals := 1, code := jdk_42_method_54_code, exceptionTable := #[], attributes := #[] }
def k7m2 : Method := { name := "length", desc := "()I", sig := { parameters := [], returnType := some .int }, accessFlags := 1, code := some k7c2 }
def k7c3 : Code := { maxStack := 2, maxLocals := 2, code := jdk_42_method_56_code, exceptionTable := #[], attributes := #[] }
def k7m3 : Method := { name := "charAt", desc := "(I)C", sig := { parameters := [.int], returnType := some .char }, accessFlags := 1, code := some k7c3 }
def k7c4 : Code := { maxStack := 4, maxLocals := 6, code := jdk_42_method_149_code, exceptionTable := #[], attributes := #[] }
def k7m4 : Method := { name := "<init>", desc := "([CIILjava/lang/Void;)V", sig := { parameters := [(.array .char), .int, .int, (.object "java/lang/Void")], returnType := none }, accessFlags := 2, code := some k7c4 }
def k7c5 : Code := { maxStack := 1, maxLocals := 1, code := jdk_42_method_152_code, exceptionTable := #[], attributes := #[] }
def k7m5 : Method := { name := "coder", desc := "()B", sig := { parameters := [], returnType := some .byte }, accessFlags := 0, code := some k7c5 }
def k7c6 : Code := { maxStack := 1, maxLocals := 1, code := jdk_42_method_154_code, exceptionTable := #[], attributes := #[] }
def k7m6 : Method := { name := "isLatin1", desc := "()Z", sig := { parameters := [], returnType := some .boolean }, accessFlags := 0, code := some k7c6 }
def k7c7 : Code := { maxStack := 3, maxLocals := 2, code := jdk_42_method_155_code, exceptionTable := #[], attributes := #[] }
def k7m7 : Method := { name := "checkIndex", desc := "(II)V", sig := { parameters := [.int, .int], returnType := none }, accessFlags := 8, code := some k7c7 }
/-- java/lang/String -/
def k7 : Class := { plain "java/lang/String" (some 0) with
  accessFlags := 49
  interfaces := #[2, 3, 4, 5, 6]
  cf := some (fileOf pool7 10 #[.nestMembers #[1103]] #[{ accessFlags := 1, nameIndex := 5, descriptorIndex := 6, attributes := #[] }, { accessFlags := 1, nameIndex := 5, descriptorIndex := 1010, attributes := #[] }, { accessFlags := 1, nameIndex := 507, descriptorIndex := 334, attributes := #[] }, { accessFlags := 1, nameIndex := 497, descriptorIndex := 427, attributes := #[] }, { accessFlags := 2, nameIndex := 5, descriptorIndex := 29, attributes := #[] }, { accessFlags := 0, nameIndex := 17, descriptorIndex := 337, attributes := #[] }, { accessFlags := 0, nameIndex := 494, descriptorIndex := 142, attributes := #[] }, { accessFlags := 8, nameIndex := 501, descriptorIndex := 391, attributes := #[] }] 49 2 #[1106, 1108, 575, 1110, 1112] #[{ accessFlags := 18, nameIndex := 13, descriptorIndex := 14, attributes := #[] }, { accessFlags := 18, nameIndex := 17, descriptorIndex := 18, attributes := #[] }, { accessFlags := 2, nameIndex := 21, descriptorIndex := 22, attributes := #[] }, { accessFlags := 2, nameIndex := 25, descriptorIndex := 26, attributes := #[] }, { accessFlags := 26, nameIndex := 1116, descriptorIndex := 1117, attributes := #[] }, { accessFlags := 24, nameIndex := 40, descriptorIndex := 26, attributes := #[] }, { accessFlags := 26, nameIndex := 1101, descriptorIndex := 1102, attributes := #[] }, { accessFlags := 26, nameIndex := 1121, descriptorIndex := 1122, attributes := #[] }, { accessFlags := 25, nameIndex := 599, descriptorIndex := 600, attributes := #[] }, { accessFlags := 24, nameIndex := 1125, descriptorIndex := 18, attributes := #[] }, { accessFlags := 24, nameIndex := 1127, descriptorIndex := 18, attributes := #[] }])
  fields := #[{ name := "value", type := (.array .byte), accessFlags := 18, slot := 0, constantValue := 0 }, { name := "coder", type := .byte, accessFlags := 18, slot := 1, constantValue := 0 }, { name := "hash", type := .int, accessFlags := 2, slot := 2, constantValue := 0 }, { name := "hashIsZero", type := .boolean, accessFlags := 2, slot := 3, constantValue := 0 }, { name := "serialVersionUID", type := .long, accessFlags := 26, slot := 0, constantValue := 0 }, { name := "COMPACT_STRINGS", type := .boolean, accessFlags := 24, slot := 1, constantValue := 0 }, { name := "serialPersistentFields", type := (.array (.object "java/io/ObjectStreamField")), accessFlags := 26, slot := 2, constantValue := 0 }, { name := "REPL", type := .char, accessFlags := 26, slot := 3, constantValue := 0 }, { name := "CASE_INSENSITIVE_ORDER", type := (.object "java/util/Comparator"), accessFlags := 25, slot := 4, constantValue := 0 }, { name := "LATIN1", type := .byte, accessFlags := 24, slot := 5, constantValue := 0 }, { name := "UTF16", type := .byte, accessFlags := 24, slot := 6, constantValue := 0 }]
  methods := #[k7m0, k7m1, k7m2, k7m3, k7m4, k7m5, k7m6, k7m7]
  instanceTypes := #[(.array .byte), .byte, .int, .boolean]
  staticTypes := #[.long, .boolean, (.array (.object "java/io/ObjectStreamField")), .char, (.object "java/util/Comparator"), .byte, .byte]
  resolved := Array.replicate 1451 none
  statics := some 0 }

def pool8 : Array CpInfo := pool [(6, .class_ 8), (1, u "java/lang/Object"), (0, u "<init>"), (0, u "()V"), (1, .class_ 14), (1, u "java/lang/StringUTF16"), (31, u "$assertionsDisabled"), (0, u "Z"), (13, u "HI_BYTE_SHIFT"), (0, u "I"), (2, u "LO_BYTE_SHIFT"), (49, .methodref 12 116), (0, .nameAndType 117 118), (0, u "compress"), (0, u "([CI[BII)I"), (3, u "([CII)[B"), (138, u "coderFromArrayLen"), (0, u "([BI)B"), (106, .class_ 371), (1, u "java/lang/StringUTF16$LinesSpliterator"), (58, u "MAX_LENGTH"), (196, .class_ 628), (0, u "java/lang/StringUTF16$CodePointsSpliterator"), (0, .class_ 630), (0, u "java/lang/StringUTF16$CharsSpliterator")] 4

def k8m0 : Method := { name := "<init>", desc := "()V", sig := { parameters := [], returnType := none }, accessFlags := 0, code := none }
def k8c1 : Code := { maxStack := 2, maxLocals := 2, code := jdk_52_method_15_code, exceptionTable := #[], attributes := #[] }
def k8m1 : Method := { name := "coderFromArrayLen", desc := "([BI)B", sig := { parameters := [(.array .byte), .int], returnType := some .byte }, accessFlags := 8, code := some k8c1 }
def k8c2 : Code := { maxStack := 5, maxLocals := 6, code := jdk_52_method_16_code, exceptionTable := #[], attributes := #[] }
def k8m2 : Method := { name := "compress", desc := "([CII)[B", sig := { parameters := [(.array .char), .int, .int], returnType := some (.array .byte) }, accessFlags := 9, code := some k8c2 }
def k8c3 : Code := { maxStack := 3, maxLocals := 7, code := jdk_52_method_21_code, exceptionTable := #[], attributes := #[] }
def k8m3 : Method := { name := "compress", desc := "([CI[BII)I", sig := { parameters := [(.array .char), .int, (.array .byte), .int, .int], returnType := some .int }, accessFlags := 9, code := some k8c3 }
/-- java/lang/StringUTF16 -/
def k8 : Class := { plain "java/lang/StringUTF16" (some 0) with
  accessFlags := 48
  interfaces := #[]
  cf := some (fileOf pool8 12 #[.nestMembers #[627, 629, 369]] #[{ accessFlags := 0, nameIndex := 9, descriptorIndex := 10, attributes := #[] }, { accessFlags := 8, nameIndex := 261, descriptorIndex := 262, attributes := #[] }, { accessFlags := 9, nameIndex := 117, descriptorIndex := 122, attributes := #[] }, { accessFlags := 9, nameIndex := 117, descriptorIndex := 118, attributes := #[] }] 48 6 #[] #[{ accessFlags := 26, nameIndex := 61, descriptorIndex := 62, attributes := #[] }, { accessFlags := 26, nameIndex := 65, descriptorIndex := 62, attributes := #[] }, { accessFlags := 24, nameIndex := 430, descriptorIndex := 62, attributes := #[] }, { accessFlags := 4120, nameIndex := 46, descriptorIndex := 47, attributes := #[] }])
  fields := #[{ name := "HI_BYTE_SHIFT", type := .int, accessFlags := 26, slot := 0, constantValue := 0 }, { name := "LO_BYTE_SHIFT", type := .int, accessFlags := 26, slot := 1, constantValue := 0 }, { name := "MAX_LENGTH", type := .int, accessFlags := 24, slot := 2, constantValue := 0 }, { name := "$assertionsDisabled", type := .boolean, accessFlags := 4120, slot := 3, constantValue := 0 }]
  methods := #[k8m0, k8m1, k8m2, k8m3]
  instanceTypes := #[]
  staticTypes := #[.int, .int, .int, .boolean]
  resolved := Array.replicate 635 none
  statics := none }

def pool9 : Array CpInfo := pool [(2, .class_ 4), (1, u "java/lang/Object"), (9, .class_ 16), (1, u "com/example/milepost/milepost/model/Version"), (0, u "parts"), (0, u "Ljava/util/List;"), (3, u "()I"), (4, .class_ 28), (0, u "java/lang/String"), (12, u "significant"), (2, u "end"), (0, u "(Ljava/lang/String;I)I"), (0, .methodref 27 47), (0, .nameAndType 48 22), (0, u "length"), (12, .methodref 27 62), (0, .nameAndType 63 64), (0, u "charAt"), (0, u "(I)C"), (0, .methodref 14 66), (0, .nameAndType 67 68), (0, u "isDigit"), (0, u "(C)Z"), (44, .class_ 114), (0, u "java/lang/Comparable")] 30

def k9c0 : Code := { maxStack := 2, maxLocals := 5, code := prog_37_method_3_code, exceptionTable := #[], attributes := #[] }
def k9m0 : Method := { name := "end", desc := "(Ljava/lang/String;I)I", sig := { parameters := [(.object "java/lang/String"), .int], returnType := some .int }, accessFlags := 8, code := some k9c0 }
def k9c1 : Code := { maxStack := 2, maxLocals := 1, code := prog_37_method_4_code, exceptionTable := #[], attributes := #[] }
def k9m1 : Method := { name := "isDigit", desc := "(C)Z", sig := { parameters := [.char], returnType := some .boolean }, accessFlags := 10, code := some k9c1 }
/-- com/example/milepost/milepost/model/Version -/
def k9 : Class := { plain "com/example/milepost/milepost/model/Version" (some 0) with
  accessFlags := 49
  interfaces := #[3]
  cf := some (fileOf pool9 14 #[] #[{ accessFlags := 8, nameIndex := 44, descriptorIndex := 45, attributes := #[] }, { accessFlags := 10, nameIndex := 67, descriptorIndex := 68, attributes := #[] }] 49 2 #[113] #[{ accessFlags := 18, nameIndex := 17, descriptorIndex := 18, attributes := #[] }, { accessFlags := 18, nameIndex := 41, descriptorIndex := 18, attributes := #[] }])
  fields := #[{ name := "parts", type := (.object "java/util/List"), accessFlags := 18, slot := 0, constantValue := 0 }, { name := "significant", type := (.object "java/util/List"), accessFlags := 18, slot := 1, constantValue := 0 }]
  methods := #[k9m0, k9m1]
  instanceTypes := #[(.object "java/util/List"), (.object "java/util/List")]
  staticTypes := #[]
  resolved := Array.replicate 145 none
  statics := none }

def pool10 : Array CpInfo := pool [(1, .class_ 2), (0, u "java/lang/String"), (1, .class_ 6), (1, u "java/lang/Object"), (0, u "<init>"), (0, u "()V"), (0, .methodref 1 10), (0, .nameAndType 11 12), (0, u "checkIndex"), (0, u "(II)V"), (1, .class_ 16), (1, u "java/lang/StringLatin1"), (36, u "([BI)C"), (67, u "$assertionsDisabled"), (0, u "Z"), (98, .class_ 223), (1, u "java/lang/StringLatin1$LinesSpliterator"), (28, u "charAt"), (137, .class_ 391), (0, u "java/lang/StringLatin1$CharsSpliterator")] 3

def k10m0 : Method := { name := "<init>", desc := "()V", sig := { parameters := [], returnType := none }, accessFlags := 0, code := none }
def k10c1 : Code := { maxStack := 2, maxLocals := 2, code := jdk_43_method_2_code, exceptionTable := #[], attributes := #[] }
def k10m1 : Method := { name := "charAt", desc := "([BI)C", sig := { parameters := [(.array .byte), .int], returnType := some .char }, accessFlags := 9, code := some k10c1 }
/-- java/lang/StringLatin1 -/
def k10 : Class := { plain "java/lang/StringLatin1" (some 0) with
  accessFlags := 48
  interfaces := #[]
  cf := some (fileOf pool10 14 #[.nestMembers #[390, 221]] #[{ accessFlags := 0, nameIndex := 7, descriptorIndex := 8, attributes := #[] }, { accessFlags := 9, nameIndex := 252, descriptorIndex := 53, attributes := #[] }] 48 4 #[] #[{ accessFlags := 4120, nameIndex := 121, descriptorIndex := 122, attributes := #[] }])
  fields := #[{ name := "$assertionsDisabled", type := .boolean, accessFlags := 4120, slot := 0, constantValue := 0 }]
  methods := #[k10m0, k10m1]
  instanceTypes := #[]
  staticTypes := #[.boolean]
  resolved := Array.replicate 395 none
  statics := none }

def pool11 : Array CpInfo := pool [(2, .class_ 4), (1, u "java/lang/Object"), (0, u "<init>"), (0, u "()V"), (17, .class_ 26), (1, u "jdk/internal/util/Preconditions"), (6, u "checkIndex"), (21, .class_ 56), (0, u "jdk/internal/util/Preconditions$4"), (57, .class_ 115), (0, u "jdk/internal/util/Preconditions$1"), (7, u "SIOOBE_FORMATTER"), (0, u "Ljava/util/function/BiFunction;"), (0, .class_ 126), (0, u "jdk/internal/util/Preconditions$2"), (3, u "AIOOBE_FORMATTER"), (0, .class_ 132), (0, u "jdk/internal/util/Preconditions$3"), (3, u "IOOBE_FORMATTER"), (41, u "(IILjava/util/function/BiFunction;)I")] 15

def k11m0 : Method := { name := "<init>", desc := "()V", sig := { parameters := [], returnType := none }, accessFlags := 1, code := none }
def k11c1 : Code := { maxStack := 3, maxLocals := 3, code := jdk_41_method_11_code, exceptionTable := #[], attributes := #[] }
def k11m1 : Method := { name := "checkIndex", desc := "(IILjava/util/function/BiFunction;)I", sig := { parameters := [.int, .int, (.object "java/util/function/BiFunction")], returnType := some .int }, accessFlags := 9, code := some k11c1 }
/-- jdk/internal/util/Preconditions -/
def k11 : Class := { plain "jdk/internal/util/Preconditions" (some 0) with
  accessFlags := 33
  interfaces := #[]
  cf := some (fileOf pool11 24 #[.nestMembers #[55, 131, 125, 114]] #[{ accessFlags := 1, nameIndex := 5, descriptorIndex := 6, attributes := #[] }, { accessFlags := 9, nameIndex := 33, descriptorIndex := 178, attributes := #[] }] 33 2 #[] #[{ accessFlags := 25, nameIndex := 123, descriptorIndex := 124, attributes := #[] }, { accessFlags := 25, nameIndex := 130, descriptorIndex := 124, attributes := #[] }, { accessFlags := 25, nameIndex := 136, descriptorIndex := 124, attributes := #[] }])
  fields := #[{ name := "SIOOBE_FORMATTER", type := (.object "java/util/function/BiFunction"), accessFlags := 25, slot := 0, constantValue := 0 }, { name := "AIOOBE_FORMATTER", type := (.object "java/util/function/BiFunction"), accessFlags := 25, slot := 1, constantValue := 0 }, { name := "IOOBE_FORMATTER", type := (.object "java/util/function/BiFunction"), accessFlags := 25, slot := 2, constantValue := 0 }]
  methods := #[k11m0, k11m1]
  instanceTypes := #[]
  staticTypes := #[(.object "java/util/function/BiFunction"), (.object "java/util/function/BiFunction"), (.object "java/util/function/BiFunction")]
  resolved := Array.replicate 194 none
  statics := some 1 }

def pool12 : Array CpInfo := pool [(9, u "<init>"), (6, .class_ 18), (1, u "java/lang/Object"), (0, u "()V"), (1, .class_ 23), (1, u "jdk/internal/util/ArraysSupport"), (0, u "LOG2_ARRAY_LONG_INDEX_SCALE"), (0, u "I"), (2, u "U"), (0, u "Ljdk/internal/misc/Unsafe;"), (8, u "BIG_ENDIAN"), (0, u "Z"), (8, u "LOG2_BYTE_BIT_SIZE"), (4, u "LOG2_ARRAY_INT_INDEX_SCALE"), (54, u "JLA"), (0, u "Ljdk/internal/access/JavaLangAccess;"), (11, u "LOG2_ARRAY_BOOLEAN_INDEX_SCALE"), (9, u "LOG2_ARRAY_BYTE_INDEX_SCALE"), (5, u "LOG2_ARRAY_CHAR_INDEX_SCALE"), (5, u "LOG2_ARRAY_SHORT_INDEX_SCALE"), (18, u "LOG2_ARRAY_FLOAT_INDEX_SCALE"), (24, u "LOG2_ARRAY_DOUBLE_INDEX_SCALE"), (89, u "T_BOOLEAN"), (2, u "T_CHAR"), (1, u "T_FLOAT"), (1, u "T_DOUBLE"), (1, u "T_BYTE"), (1, u "T_SHORT"), (1, u "T_INT"), (1, u "T_LONG"), (1, u "SOFT_MAX_ARRAY_LENGTH")] 83

def k12m0 : Method := { name := "<init>", desc := "()V", sig := { parameters := [], returnType := none }, accessFlags := 2, code := none }
/-- jdk/internal/util/ArraysSupport -/
def k12 : Class := { plain "jdk/internal/util/ArraysSupport" (some 0) with
  accessFlags := 33
  interfaces := #[]
  cf := some (fileOf pool12 21 #[] #[{ accessFlags := 2, nameIndex := 9, descriptorIndex := 19, attributes := #[] }] 33 16 #[] #[{ accessFlags := 24, nameIndex := 28, descriptorIndex := 29, attributes := #[] }, { accessFlags := 26, nameIndex := 38, descriptorIndex := 39, attributes := #[] }, { accessFlags := 25, nameIndex := 121, descriptorIndex := 25, attributes := #[] }, { accessFlags := 25, nameIndex := 131, descriptorIndex := 25, attributes := #[] }, { accessFlags := 25, nameIndex := 137, descriptorIndex := 25, attributes := #[] }, { accessFlags := 25, nameIndex := 143, descriptorIndex := 25, attributes := #[] }, { accessFlags := 25, nameIndex := 53, descriptorIndex := 25, attributes := #[] }, { accessFlags := 25, nameIndex := 24, descriptorIndex := 25, attributes := #[] }, { accessFlags := 25, nameIndex := 162, descriptorIndex := 25, attributes := #[] }, { accessFlags := 25, nameIndex := 187, descriptorIndex := 25, attributes := #[] }, { accessFlags := 26, nameIndex := 48, descriptorIndex := 25, attributes := #[] }, { accessFlags := 25, nameIndex := 277, descriptorIndex := 25, attributes := #[] }, { accessFlags := 25, nameIndex := 280, descriptorIndex := 25, attributes := #[] }, { accessFlags := 25, nameIndex := 282, descriptorIndex := 25, attributes := #[] }, { accessFlags := 25, nameIndex := 284, descriptorIndex := 25, attributes := #[] }, { accessFlags := 25, nameIndex := 286, descriptorIndex := 25, attributes := #[] }, { accessFlags := 25, nameIndex := 288, descriptorIndex := 25, attributes := #[] }, { accessFlags := 25, nameIndex := 290, descriptorIndex := 25, attributes := #[] }, { accessFlags := 25, nameIndex := 292, descriptorIndex := 25, attributes := #[] }, { accessFlags := 26, nameIndex := 108, descriptorIndex := 109, attributes := #[] }, { accessFlags := 25, nameIndex := 294, descriptorIndex := 25, attributes := #[] }])
  fields := #[{ name := "U", type := (.object "jdk/internal/misc/Unsafe"), accessFlags := 24, slot := 0, constantValue := 0 }, { name := "BIG_ENDIAN", type := .boolean, accessFlags := 26, slot := 1, constantValue := 0 }, { name := "LOG2_ARRAY_BOOLEAN_INDEX_SCALE", type := .int, accessFlags := 25, slot := 2, constantValue := 0 }, { name := "LOG2_ARRAY_BYTE_INDEX_SCALE", type := .int, accessFlags := 25, slot := 3, constantValue := 0 }, { name := "LOG2_ARRAY_CHAR_INDEX_SCALE", type := .int, accessFlags := 25, slot := 4, constantValue := 0 }, { name := "LOG2_ARRAY_SHORT_INDEX_SCALE", type := .int, accessFlags := 25, slot := 5, constantValue := 0 }, { name := "LOG2_ARRAY_INT_INDEX_SCALE", type := .int, accessFlags := 25, slot := 6, constantValue := 0 }, { name := "LOG2_ARRAY_LONG_INDEX_SCALE", type := .int, accessFlags := 25, slot := 7, constantValue := 0 }, { name := "LOG2_ARRAY_FLOAT_INDEX_SCALE", type := .int, accessFlags := 25, slot := 8, constantValue := 0 }, { name := "LOG2_ARRAY_DOUBLE_INDEX_SCALE", type := .int, accessFlags := 25, slot := 9, constantValue := 0 }, { name := "LOG2_BYTE_BIT_SIZE", type := .int, accessFlags := 26, slot := 10, constantValue := 0 }, { name := "T_BOOLEAN", type := .int, accessFlags := 25, slot := 11, constantValue := 0 }, { name := "T_CHAR", type := .int, accessFlags := 25, slot := 12, constantValue := 0 }, { name := "T_FLOAT", type := .int, accessFlags := 25, slot := 13, constantValue := 0 }, { name := "T_DOUBLE", type := .int, accessFlags := 25, slot := 14, constantValue := 0 }, { name := "T_BYTE", type := .int, accessFlags := 25, slot := 15, constantValue := 0 }, { name := "T_SHORT", type := .int, accessFlags := 25, slot := 16, constantValue := 0 }, { name := "T_INT", type := .int, accessFlags := 25, slot := 17, constantValue := 0 }, { name := "T_LONG", type := .int, accessFlags := 25, slot := 18, constantValue := 0 }, { name := "JLA", type := (.object "jdk/internal/access/JavaLangAccess"), accessFlags := 26, slot := 19, constantValue := 0 }, { name := "SOFT_MAX_ARRAY_LENGTH", type := .int, accessFlags := 25, slot := 20, constantValue := 0 }]
  methods := #[k12m0]
  instanceTypes := #[]
  staticTypes := #[(.object "jdk/internal/misc/Unsafe"), .boolean, .int, .int, .int, .int, .int, .int, .int, .int, .int, .int, .int, .int, .int, .int, .int, .int, .int, (.object "jdk/internal/access/JavaLangAccess"), .int]
  resolved := Array.replicate 378 none
  statics := none }

def pool13 : Array CpInfo := pool [(1, u "java/lang/Cloneable"), (0, .class_ 1), (0, u "java/lang/Object"), (0, .class_ 3)] 3

/-- java/lang/Cloneable -/
def k13 : Class := { plain "java/lang/Cloneable" (some 0) with
  accessFlags := 1537
  interfaces := #[]
  cf := some (fileOf pool13 2 #[] #[] 1537 4 #[] #[])
  fields := #[]
  methods := #[]
  instanceTypes := #[]
  staticTypes := #[]
  resolved := Array.replicate 8 none
  statics := none }

/-- the primitive byte -/
def k14 : Class := { plain "byte" none with kind := .primitive 'B', accessFlags := 0x411 }
/-- [B -/
def k15 : Class := { plain "[B" (some 0) with kind := .array 14 .byte, interfaces := #[13, 2], accessFlags := 1041 }

/-- the primitive char -/
def k16 : Class := { plain "char" none with kind := .primitive 'C', accessFlags := 0x411 }
/-- [C -/
def k17 : Class := { plain "[C" (some 0) with kind := .array 16 .char, interfaces := #[13, 2], accessFlags := 1041 }

/-- the primitive int -/
def k18 : Class := { plain "int" none with kind := .primitive 'I', accessFlags := 0x411 }
/-- [I -/
def k19 : Class := { plain "[I" (some 0) with kind := .array 18 .int, interfaces := #[13, 2], accessFlags := 1041 }

def heap : Heap := #[{ cls := 7, slots := #[.long 0, .int 1, .null, .int 0, .null, .int 0, .int 0], vm := .statics 7 },
  { cls := 11, slots := #[.null, .null, .null], vm := .statics 11 }]
def classes : Array Class := #[k0, k1, k2, k3, k4, k5, k6, k7, k8, k9, k10, k11, k12, k13, k14, k15, k16, k17, k18, k19]
def interned : List (Array UInt16 × Addr) := []
def slotsUsed : Nat := 10
def theMethod : MethodId := ⟨1, 4⟩
def args0 : Array Value := #[.long 5, .int 3]
def aboutOver (below : List Frame) : State where
  vm := { classes := classes, interned := interned.toArray }
  heap := heap
  slotsUsed := slotsUsed
  threads := #[{ frames := .invoking theMethod args0 :: below }]
def below0 : List Frame := [.native { method := ⟨0, 0⟩, args := #[] }]
def about1 : State := aboutOver below0
def p0 : Program := .bare "" "" ""
def e0 : Env := launch0.env 0 0 0
theorem w_frames : about1.frames = Frame.invoking theMethod args0 :: below0 := rfl
set_option maxRecDepth 65536 in
theorem w_args : argsFit about1.vm theMethod args0 = true := by decide +kernel
set_option maxRecDepth 65536 in
theorem w_heap : heapFits about1 = true := by decide +kernel
set_option maxRecDepth 65536 in
theorem w_runnable : about1.curStatus? = some .runnable := by decide +kernel
set_option maxRecDepth 65536 in
theorem w_alone : about1.alone = true := by decide +kernel
set_option maxRecDepth 65536 in
theorem w_named : about1.methodNamed? x = some theMethod := by decide +kernel
set_option maxRecDepth 65536 in
theorem w_hears : about1.hears theMethod below0 = true := by decide +kernel
set_option maxRecDepth 65536 in
theorem w_ripe : about1.ripe theMethod args0 below0 = true := by decide +kernel
theorem w_running : about1.status = .running := rfl
set_option maxRecDepth 65536 in
theorem w_room : about1.hasRoom e0.platform room_1 = true :=
  launch0.hasRoom_least _ room_1 (by decide +kernel) (by decide +kernel) (by decide +kernel) (by decide +kernel) (by decide +kernel) (by decide +kernel)
theorem allAtoms_all (ts : List Jvm.Cond) (a : Array Jvm.Value) (st : Jvm.State) : (allAtoms ts).before a st = ts.all (fun c => c.before a st) := by
  induction ts with
  | nil => rfl
  | cons c t ih =>
    show (Jvm.Cond.and c (allAtoms t)).before a st = _
    rw [Jvm.Cond.before_and, ih, List.all_cons]
def words1 : List Jvm.Cond := Jvm.Cond.code x code maxLocals ret :: tables_1
/-- a 'code' word, met by the world's own term for the bytes: nothing is compared byte by byte -/
theorem code_word {y : MethodName} {bytes : ByteArray} {mx : Nat} {rt : Option FieldType} {a : Array Value} {s : State} {m : MethodId} {meth : Method} {c : Code} (h1 : s.methodNamed? y = some m) (h2 : s.vm.method? m = some meth) (h3 : meth.code = some c) (h4 : c.code = bytes)
    (h5 : (c.maxLocals == mx && c.exceptionTable.isEmpty && decide (c.maxStack ≤ mostOperands) && decide (meth.sig.returnType = rt) && !meth.locks && decide (parseMethodDescriptor y.desc = some meth.sig)) = true) : (Jvm.Cond.code y bytes mx rt).before a s = true := by
  simp only [Bool.and_eq_true, beq_iff_eq, Bool.not_eq_true', decide_eq_true_eq] at h5
  obtain ⟨⟨⟨⟨⟨g1, g2⟩, g3⟩, g4⟩, g5⟩, g6⟩ := h5
  simp [Cond.before, Cond.holds, Cond.value, h1, h2, h3, h4, g1, g2, g3, g4, g5, g6]
def isCode : Jvm.Cond → Bool
  | .code _ _ _ _ => true
  | _ => false
theorem all_split {L : List Jvm.Cond} {P : Jvm.Cond → Bool} (h1 : L.all (fun c => isCode c || P c) = true) (h2 : ∀ c ∈ L.filter isCode, P c = true) : L.all P = true := by
  refine List.all_eq_true.mpr fun c hc => ?_
  have h := List.all_eq_true.mp h1 c hc
  rcases Bool.eq_false_or_eq_true (isCode c) with hi | hi
  · exact h2 c (List.mem_filter.mpr ⟨hc, hi⟩)
  · simpa [hi] using h
set_option maxRecDepth 65536 in
theorem w_c0 : (Jvm.Cond.code x code maxLocals ret).before args0 about1 = true := code_word (m := ⟨1, 4⟩) (meth := k1m4) (c := k1c4) (by decide +kernel) rfl rfl rfl (by decide +kernel)
set_option maxRecDepth 65536 in
theorem w_c1 : (Jvm.Cond.code ({ cls := "java/lang/String", name := "<init>", desc := "([C)V" } : Jvm.MethodName) jdk_42_method_3_code (2 : Nat) (Option.none : Option Jvm.ClassFile.FieldType)).before args0 about1 = true := code_word (m := ⟨7, 1⟩) (meth := k7m1) (c := k7c1) (by decide +kernel) rfl rfl rfl (by decide +kernel)
set_option maxRecDepth 65536 in
theorem w_c2 : (Jvm.Cond.code ({ cls := "java/lang/String", name := "<init>", desc := "([CIILjava/lang/Void;)V" } : Jvm.MethodName) jdk_42_method_149_code (6 : Nat) (Option.none : Option Jvm.ClassFile.FieldType)).before args0 about1 = true := code_word (m := ⟨7, 4⟩) (meth := k7m4) (c := k7c4) (by decide +kernel) rfl rfl rfl (by decide +kernel)
set_option maxRecDepth 65536 in
theorem w_c3 : (Jvm.Cond.code ({ cls := "java/lang/Object", name := "<init>", desc := "()V" } : Jvm.MethodName) object_method_1_code (1 : Nat) (Option.none : Option Jvm.ClassFile.FieldType)).before args0 about1 = true := code_word (m := ⟨0, 0⟩) (meth := k0m0) (c := k0c0) (by decide +kernel) rfl rfl rfl (by decide +kernel)
set_option maxRecDepth 65536 in
theorem w_c4 : (Jvm.Cond.code ({ cls := "java/lang/StringUTF16", name := "compress", desc := "([CII)[B" } : Jvm.MethodName) jdk_52_method_16_code (6 : Nat) (Option.some (Jvm.ClassFile.FieldType.array Jvm.ClassFile.FieldType.byte))).before args0 about1 = true := code_word (m := ⟨8, 2⟩) (meth := k8m2) (c := k8c2) (by decide +kernel) rfl rfl rfl (by decide +kernel)
set_option maxRecDepth 65536 in
theorem w_c5 : (Jvm.Cond.code ({ cls := "java/lang/StringUTF16", name := "compress", desc := "([CI[BII)I" } : Jvm.MethodName) jdk_52_method_21_code (7 : Nat) (Option.some Jvm.ClassFile.FieldType.int)).before args0 about1 = true := code_word (m := ⟨8, 3⟩) (meth := k8m3) (c := k8c3) (by decide +kernel) rfl rfl rfl (by decide +kernel)
set_option maxRecDepth 65536 in
theorem w_c6 : (Jvm.Cond.code ({ cls := "java/lang/StringUTF16", name := "coderFromArrayLen", desc := "([BI)B" } : Jvm.MethodName) jdk_52_method_15_code (2 : Nat) (Option.some Jvm.ClassFile.FieldType.byte)).before args0 about1 = true := code_word (m := ⟨8, 1⟩) (meth := k8m1) (c := k8c1) (by decide +kernel) rfl rfl rfl (by decide +kernel)
set_option maxRecDepth 65536 in
theorem w_c7 : (Jvm.Cond.code ({ cls := "com/example/milepost/milepost/model/Version", name := "end", desc := "(Ljava/lang/String;I)I" } : Jvm.MethodName) prog_37_method_3_code (5 : Nat) (Option.some Jvm.ClassFile.FieldType.int)).before args0 about1 = true := code_word (m := ⟨9, 0⟩) (meth := k9m0) (c := k9c0) (by decide +kernel) rfl rfl rfl (by decide +kernel)
set_option maxRecDepth 65536 in
theorem w_c8 : (Jvm.Cond.code ({ cls := "java/lang/String", name := "length", desc := "()I" } : Jvm.MethodName) jdk_42_method_54_code (1 : Nat) (Option.some Jvm.ClassFile.FieldType.int)).before args0 about1 = true := code_word (m := ⟨7, 2⟩) (meth := k7m2) (c := k7c2) (by decide +kernel) rfl rfl rfl (by decide +kernel)
set_option maxRecDepth 65536 in
theorem w_c9 : (Jvm.Cond.code ({ cls := "java/lang/String", name := "coder", desc := "()B" } : Jvm.MethodName) jdk_42_method_152_code (1 : Nat) (Option.some Jvm.ClassFile.FieldType.byte)).before args0 about1 = true := code_word (m := ⟨7, 5⟩) (meth := k7m5) (c := k7c5) (by decide +kernel) rfl rfl rfl (by decide +kernel)
set_option maxRecDepth 65536 in
theorem w_c10 : (Jvm.Cond.code ({ cls := "java/lang/String", name := "charAt", desc := "(I)C" } : Jvm.MethodName) jdk_42_method_56_code (2 : Nat) (Option.some Jvm.ClassFile.FieldType.char)).before args0 about1 = true := code_word (m := ⟨7, 3⟩) (meth := k7m3) (c := k7c3) (by decide +kernel) rfl rfl rfl (by decide +kernel)
set_option maxRecDepth 65536 in
theorem w_c11 : (Jvm.Cond.code ({ cls := "java/lang/String", name := "isLatin1", desc := "()Z" } : Jvm.MethodName) jdk_42_method_154_code (1 : Nat) (Option.some Jvm.ClassFile.FieldType.boolean)).before args0 about1 = true := code_word (m := ⟨7, 6⟩) (meth := k7m6) (c := k7c6) (by decide +kernel) rfl rfl rfl (by decide +kernel)
set_option maxRecDepth 65536 in
theorem w_c12 : (Jvm.Cond.code ({ cls := "java/lang/StringLatin1", name := "charAt", desc := "([BI)C" } : Jvm.MethodName) jdk_43_method_2_code (2 : Nat) (Option.some Jvm.ClassFile.FieldType.char)).before args0 about1 = true := code_word (m := ⟨10, 1⟩) (meth := k10m1) (c := k10c1) (by decide +kernel) rfl rfl rfl (by decide +kernel)
set_option maxRecDepth 65536 in
theorem w_c13 : (Jvm.Cond.code ({ cls := "java/lang/String", name := "checkIndex", desc := "(II)V" } : Jvm.MethodName) jdk_42_method_155_code (2 : Nat) (Option.none : Option Jvm.ClassFile.FieldType)).before args0 about1 = true := code_word (m := ⟨7, 7⟩) (meth := k7m7) (c := k7c7) (by decide +kernel) rfl rfl rfl (by decide +kernel)
set_option maxRecDepth 65536 in
theorem w_c14 : (Jvm.Cond.code ({ cls := "jdk/internal/util/Preconditions", name := "checkIndex", desc := "(IILjava/util/function/BiFunction;)I" } : Jvm.MethodName) jdk_41_method_11_code (3 : Nat) (Option.some Jvm.ClassFile.FieldType.int)).before args0 about1 = true := code_word (m := ⟨11, 1⟩) (meth := k11m1) (c := k11c1) (by decide +kernel) rfl rfl rfl (by decide +kernel)
set_option maxRecDepth 65536 in
theorem w_c15 : (Jvm.Cond.code ({ cls := "com/example/milepost/milepost/model/Version", name := "isDigit", desc := "(C)Z" } : Jvm.MethodName) prog_37_method_4_code (1 : Nat) (Option.some Jvm.ClassFile.FieldType.boolean)).before args0 about1 = true := code_word (m := ⟨9, 1⟩) (meth := k9m1) (c := k9c1) (by decide +kernel) rfl rfl rfl (by decide +kernel)
set_option maxRecDepth 65536 in
theorem w_c16 : (Jvm.Cond.code ({ cls := "com/example/milepost/milepost/model/VersionEndPinLaw", name := "dig", desc := "([CI)Z" } : Jvm.MethodName) method_2_code (2 : Nat) (Option.some Jvm.ClassFile.FieldType.boolean)).before args0 about1 = true := code_word (m := ⟨1, 1⟩) (meth := k1m1) (c := k1c1) (by decide +kernel) rfl rfl rfl (by decide +kernel)
set_option maxRecDepth 65536 in
theorem w_c17 : (Jvm.Cond.code ({ cls := "com/example/milepost/milepost/model/VersionEndPinLaw", name := "fits", desc := "([CIII)Z" } : Jvm.MethodName) method_4_code (4 : Nat) (Option.some Jvm.ClassFile.FieldType.boolean)).before args0 about1 = true := code_word (m := ⟨1, 3⟩) (meth := k1m3) (c := k1c3) (by decide +kernel) rfl rfl rfl (by decide +kernel)
set_option maxRecDepth 65536 in
theorem w_c18 : (Jvm.Cond.code ({ cls := "com/example/milepost/milepost/model/VersionEndPinLaw", name := "sep", desc := "([CI)Z" } : Jvm.MethodName) method_3_code (2 : Nat) (Option.some Jvm.ClassFile.FieldType.boolean)).before args0 about1 = true := code_word (m := ⟨1, 2⟩) (meth := k1m2) (c := k1c2) (by decide +kernel) rfl rfl rfl (by decide +kernel)
def codes1 : List Jvm.Cond := [Jvm.Cond.code x code maxLocals ret, Jvm.Cond.code ({ cls := "java/lang/String", name := "<init>", desc := "([C)V" } : Jvm.MethodName) jdk_42_method_3_code (2 : Nat) (Option.none : Option Jvm.ClassFile.FieldType), Jvm.Cond.code ({ cls := "java/lang/String", name := "<init>", desc := "([CIILjava/lang/Void;)V" } : Jvm.MethodName) jdk_42_method_149_code (6 : Nat) (Option.none : Option Jvm.ClassFile.FieldType), Jvm.Cond.code ({ cls := "java/lang/Object", name := "<init>", desc := "()V" } : Jvm.MethodName) object_method_1_code (1 : Nat) (Option.none : Option Jvm.ClassFile.FieldType), Jvm.Cond.code ({ cls := "java/lang/StringUTF16", name := "compress", desc := "([CII)[B" } : Jvm.MethodName) jdk_52_method_16_code (6 : Nat) (Option.some (Jvm.ClassFile.FieldType.array Jvm.ClassFile.FieldType.byte)), Jvm.Cond.code ({ cls := "java/lang/StringUTF16", name := "compress", desc := "([CI[BII)I" } : Jvm.MethodName) jdk_52_method_21_code (7 : Nat) (Option.some Jvm.ClassFile.FieldType.int), Jvm.Cond.code ({ cls := "java/lang/StringUTF16", name := "coderFromArrayLen", desc := "([BI)B" } : Jvm.MethodName) jdk_52_method_15_code (2 : Nat) (Option.some Jvm.ClassFile.FieldType.byte), Jvm.Cond.code ({ cls := "com/example/milepost/milepost/model/Version", name := "end", desc := "(Ljava/lang/String;I)I" } : Jvm.MethodName) prog_37_method_3_code (5 : Nat) (Option.some Jvm.ClassFile.FieldType.int), Jvm.Cond.code ({ cls := "java/lang/String", name := "length", desc := "()I" } : Jvm.MethodName) jdk_42_method_54_code (1 : Nat) (Option.some Jvm.ClassFile.FieldType.int), Jvm.Cond.code ({ cls := "java/lang/String", name := "coder", desc := "()B" } : Jvm.MethodName) jdk_42_method_152_code (1 : Nat) (Option.some Jvm.ClassFile.FieldType.byte), Jvm.Cond.code ({ cls := "java/lang/String", name := "charAt", desc := "(I)C" } : Jvm.MethodName) jdk_42_method_56_code (2 : Nat) (Option.some Jvm.ClassFile.FieldType.char), Jvm.Cond.code ({ cls := "java/lang/String", name := "isLatin1", desc := "()Z" } : Jvm.MethodName) jdk_42_method_154_code (1 : Nat) (Option.some Jvm.ClassFile.FieldType.boolean), Jvm.Cond.code ({ cls := "java/lang/StringLatin1", name := "charAt", desc := "([BI)C" } : Jvm.MethodName) jdk_43_method_2_code (2 : Nat) (Option.some Jvm.ClassFile.FieldType.char), Jvm.Cond.code ({ cls := "java/lang/String", name := "checkIndex", desc := "(II)V" } : Jvm.MethodName) jdk_42_method_155_code (2 : Nat) (Option.none : Option Jvm.ClassFile.FieldType), Jvm.Cond.code ({ cls := "jdk/internal/util/Preconditions", name := "checkIndex", desc := "(IILjava/util/function/BiFunction;)I" } : Jvm.MethodName) jdk_41_method_11_code (3 : Nat) (Option.some Jvm.ClassFile.FieldType.int), Jvm.Cond.code ({ cls := "com/example/milepost/milepost/model/Version", name := "isDigit", desc := "(C)Z" } : Jvm.MethodName) prog_37_method_4_code (1 : Nat) (Option.some Jvm.ClassFile.FieldType.boolean), Jvm.Cond.code ({ cls := "com/example/milepost/milepost/model/VersionEndPinLaw", name := "dig", desc := "([CI)Z" } : Jvm.MethodName) method_2_code (2 : Nat) (Option.some Jvm.ClassFile.FieldType.boolean), Jvm.Cond.code ({ cls := "com/example/milepost/milepost/model/VersionEndPinLaw", name := "fits", desc := "([CIII)Z" } : Jvm.MethodName) method_4_code (4 : Nat) (Option.some Jvm.ClassFile.FieldType.boolean), Jvm.Cond.code ({ cls := "com/example/milepost/milepost/model/VersionEndPinLaw", name := "sep", desc := "([CI)Z" } : Jvm.MethodName) method_3_code (2 : Nat) (Option.some Jvm.ClassFile.FieldType.boolean)]
set_option maxRecDepth 65536 in
theorem codes_eq : words1.filter isCode = codes1 := rfl
theorem w_codes : ∀ c ∈ words1.filter isCode, c.before args0 about1 = true := by
  rw [codes_eq]
  intro c hc
  simp only [codes1, List.mem_cons, List.not_mem_nil, or_false] at hc
  rcases hc with rfl | rfl | rfl | rfl | rfl | rfl | rfl | rfl | rfl | rfl | rfl | rfl | rfl | rfl | rfl | rfl | rfl | rfl | rfl
  · exact w_c0
  · exact w_c1
  · exact w_c2
  · exact w_c3
  · exact w_c4
  · exact w_c5
  · exact w_c6
  · exact w_c7
  · exact w_c8
  · exact w_c9
  · exact w_c10
  · exact w_c11
  · exact w_c12
  · exact w_c13
  · exact w_c14
  · exact w_c15
  · exact w_c16
  · exact w_c17
  · exact w_c18
set_option maxRecDepth 65536 in
theorem w_t1 : (words1.take 24).all (fun c => isCode c || c.before args0 about1) = true := by decide +kernel
set_option maxRecDepth 65536 in
theorem w_t2 : ((words1.drop 24).take 24).all (fun c => isCode c || c.before args0 about1) = true := by decide +kernel
set_option maxRecDepth 65536 in
theorem w_t3 : (((words1.drop 24).drop 24).take 24).all (fun c => isCode c || c.before args0 about1) = true := by decide +kernel
set_option maxRecDepth 65536 in
theorem w_t4 : (((words1.drop 24).drop 24).drop 24).all (fun c => isCode c || c.before args0 about1) = true := by decide +kernel
theorem w_tables : (allAtoms (Jvm.Cond.code x code maxLocals ret :: tables_1)).before args0 about1 = true := by
  rw [allAtoms_all]
  show words1.all (fun c => c.before args0 about1) = true
  refine all_split ?_ w_codes
  rw [← List.take_append_drop 24 words1, List.all_append, w_t1, ← List.take_append_drop 24 (words1.drop 24), List.all_append, w_t2, ← List.take_append_drop 24 ((words1.drop 24).drop 24), List.all_append, w_t3, w_t4]
  rfl
set_option maxRecDepth 65536 in
theorem w_rest : rest_1_c.before args0 about1 = true := by decide +kernel
set_option maxRecDepth 65536 in
theorem w_case : (Jvm.Cond.and given_1 narrow_1).before args0 about1 = true := by decide +kernel
theorem w_applies : (headSpec (Jvm.Cond.code x code maxLocals ret :: tables_1) room_1).applies x e0.platform about1 = true :=
  (Spec.applies_iff w_frames).mpr ⟨w_running, w_runnable, w_alone, w_named, w_hears, w_ripe, w_room, w_tables⟩
theorem atStart : AtStart classFile x code maxLocals ret World_1 tables_1 room_1 Calls_1 rest_1 Pre_1 launch0 p0 e0 about1 theMethod args0 below0 :=
  ⟨lists_1, trivial, launch0.admits_env _ _ _, launch0.least_env, fairChoices_fair.cas, fairChoices_fair.clock, w_frames, w_args, w_heap, w_applies, trivial, w_rest, w_case⟩
end start1
theorem witness_1 : WitnessClaimed_1 := ⟨start1.p0, start1.e0, start1.about1, start1.theMethod, start1.args0, start1.below0, start1.atStart⟩
end Jvm.Pilot.@@N@@
