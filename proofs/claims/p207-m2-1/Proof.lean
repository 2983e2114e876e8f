import JvmDerived
import JvmDerived.Pilot.@@N@@Statement
import JvmDerived.Pilot.@@N@@Code
set_option linter.unusedVariables false
set_option linter.unusedSimpArgs false
namespace Jvm.Pilot.@@N@@
open Jvm Jvm.ClassFile Sem Op Lib Jvm.Free Jvm.Stand Jvm.LawKit Jvm.RoadKit Bundle Jvm.Pilot.@@N@@.Jvm.D
/-! the walk in continuation form: 'Go' says that from here the body comes to its end with Q -/
def Go (EN : State → Outcome → State → List Loc → Nat → Nat → Prop) (p : Program) (e : Env) (below : List Frame) (s : State) (kc ks : Nat) (Q : Option Value → Heap → List Loc → Prop) (T : State) (g : JFrame) : Prop :=
  ∃ s₂ o, Steps p.tables e below (T.setTop g) s₂ ∧ s₂.status = .running ∧ Ended s₂ below o ∧ ∃ v L, o = .returned v ∧ Q v s₂.heap L ∧ EN s o s₂ L kc ks
section GoLaws
variable {p : Program} {l : Launch} {e : Env} {R : Room} {s : State} {m : MethodId} {args : Array Value} {below : List Frame} {meth : Method} {c : Code} {T T' : State} {locs : List Loc} {cells slots kc ks : Nat} {Q : Option Value → Heap → List Loc → Prop} {g g' : JFrame} {EN : State → Outcome → State → List Loc → Nat → Nat → Prop}
theorem Go.step (st : ∀ t, Steps p.tables e below (T'.setTop g') t → Steps p.tables e below (T.setTop g) t) (k : Go EN p e below s kc ks Q T' g') : Go EN p e below s kc ks Q T g := by
  obtain ⟨a, b, h1, h2⟩ := k
  exact ⟨a, b, st _ h1, h2⟩
theorem Go.trans (st : Steps p.tables e below (T.setTop g) (T'.setTop g')) (k : Go EN p e below s kc ks Q T' g') : Go EN p e below s kc ks Q T g := by
  obtain ⟨a, b, h1, h2⟩ := k
  exact ⟨a, b, st.trans h1, h2⟩
theorem Go.cast (q : g = g') (k : Go EN p e below s kc ks Q T g') : Go EN p e below s kc ks Q T g := q ▸ k
theorem Go.retN (X : Stand p l e R s m args below meth c T locs cells slots) (hx : p.tables.exec = Jvm.exec) {pc : Nat} {Ls : Array Slot} {z : Int32} {t : FieldType} {rest : List Value} (hret : meth.sig.returnType = some t) (ht : t = .boolean ∨ t = .byte ∨ t = .char ∨ t = .short) (hlk : meth.locks = false)
    (hd : decode c.code pc = .ok (.ireturn, 1)) (hc : cells ≤ kc) (hs : slots ≤ ks) (q : Q (some (.int (nar t z))) T.heap locs) : Go FrameEnd p e below s kc ks Q T (mkF m pc Ls (.int z :: rest)) := by
  obtain ⟨fs, hr, hrun, hended, hW, hsame⟩ := X.leave (v := some (.int (nar t z))) (fun h => by rw [hret] at h; cases h) hlk
  exact ⟨_, _, RoadKit.retN X hx hret ht hd hr, hrun, hended, _, _, rfl, q, ⟨_, rfl⟩, hW, hsame.mono hc hs⟩
theorem Go.retI (X : Stand p l e R s m args below meth c T locs cells slots) (hx : p.tables.exec = Jvm.exec) {pc : Nat} {Ls : Array Slot} {z : Int32} {rest : List Value} (hret : meth.sig.returnType = some .int) (hlk : meth.locks = false)
    (hd : decode c.code pc = .ok (.ireturn, 1)) (hc : cells ≤ kc) (hs : slots ≤ ks) (q : Q (some (.int z)) T.heap locs) : Go FrameEnd p e below s kc ks Q T (mkF m pc Ls (.int z :: rest)) := by
  obtain ⟨fs, hr, hrun, hended, hW, hsame⟩ := X.leave (v := some (.int z)) (fun h => by rw [hret] at h; cases h) hlk
  exact ⟨_, _, RoadKit.retOut X hx hret rfl (Or.inl ⟨rfl, Or.inl rfl, _, rfl⟩) hd hr, hrun, hended, _, _, rfl, q, ⟨_, rfl⟩, hW, hsame.mono hc hs⟩
theorem Go.retJ (X : Stand p l e R s m args below meth c T locs cells slots) (hx : p.tables.exec = Jvm.exec) {pc : Nat} {Ls : Array Slot} {z : Int64} {rest : List Value} (hret : meth.sig.returnType = some .long) (hlk : meth.locks = false)
    (hd : decode c.code pc = .ok (.lreturn, 1)) (hc : cells ≤ kc) (hs : slots ≤ ks) (q : Q (some (.long z)) T.heap locs) : Go FrameEnd p e below s kc ks Q T (mkF m pc Ls (.long z :: rest)) := by
  obtain ⟨fs, hr, hrun, hended, hW, hsame⟩ := X.leave (v := some (.long z)) (fun h => by rw [hret] at h; cases h) hlk
  exact ⟨_, _, RoadKit.retOut X hx hret rfl (Or.inr (Or.inl ⟨rfl, rfl, _, rfl⟩)) hd hr, hrun, hended, _, _, rfl, q, ⟨_, rfl⟩, hW, hsame.mono hc hs⟩
theorem Go.retA (X : Stand p l e R s m args below meth c T locs cells slots) (hx : p.tables.exec = Jvm.exec) {pc : Nat} {Ls : Array Slot} {z : Value} {t : FieldType} {rest : List Value} (hret : meth.sig.returnType = some t) (ht : t.isReference = true) (hz : z.isRef = true) (hlk : meth.locks = false)
    (hd : decode c.code pc = .ok (.areturn, 1)) (hc : cells ≤ kc) (hs : slots ≤ ks) (q : Q (some z) T.heap locs) : Go FrameEnd p e below s kc ks Q T (mkF m pc Ls (z :: rest)) := by
  obtain ⟨fs, hr, hrun, hended, hW, hsame⟩ := X.leave (v := some z) (fun h => by rw [hret] at h; cases h) hlk
  exact ⟨_, _, RoadKit.retOut X hx hret (by cases t <;> cases z <;> first | rfl | (cases ht; done) | (cases hz; done)) (Or.inr (Or.inr (Or.inr (Or.inr ⟨rfl, ht, hz⟩)))) hd hr, hrun, hended, _, _, rfl, q, ⟨_, rfl⟩, hW, hsame.mono hc hs⟩
theorem Go.retV (X : Stand p l e R s m args below meth c T locs cells slots) (hx : p.tables.exec = Jvm.exec) {pc : Nat} {Ls : Array Slot} (hret : meth.sig.returnType = none) (hlk : meth.locks = false)
    (hd : decode c.code pc = .ok (.return_, 1)) (hc : cells ≤ kc) (hs : slots ≤ ks) (q : Q none T.heap locs) : Go FrameEnd p e below s kc ks Q T (mkF m pc Ls []) := by
  obtain ⟨fs, hr, hrun, hended, hW, hsame⟩ := X.leave (v := none) (fun _ => rfl) hlk
  exact ⟨_, _, X.returnOut hx hret hd hr, hrun, hended, _, _, rfl, q, ⟨_, rfl⟩, hW, hsame.mono hc hs⟩
theorem rewMono {s t : State} {o : Outcome} {L : List Loc} {k n k' n' : Nat} (h : ReturnedEndW s o t L k n) (hk : k ≤ k') (hn : n ≤ n') : ReturnedEndW s o t L k' n' := ⟨h.1, h.2.1, h.2.2.1, h.2.2.2.mono hk hn⟩
theorem Go.retNW {vm0 : Vm} {k0 : Nat} (X : Stand p l e R (s.setVm vm0) m args below meth c T locs cells slots) (hS : s.Since vm0 k0) (hk : k0 ≤ T.heap.size) (hx : p.tables.exec = Jvm.exec) {pc : Nat} {Ls : Array Slot} {z : Int32} {t : FieldType} {rest : List Value} (hret : meth.sig.returnType = some t) (ht : t = .boolean ∨ t = .byte ∨ t = .char ∨ t = .short) (hlk : meth.locks = false)
    (hd : decode c.code pc = .ok (.ireturn, 1)) (hc : cells ≤ kc) (hs : slots ≤ ks) (q : Q (some (.int (nar t z))) T.heap locs) : Go ReturnedEndW p e below s kc ks Q T (mkF m pc Ls (.int z :: rest)) := by
  obtain ⟨fs, hr, hrun, hended, hW⟩ := X.leaveW hS hk (v := some (.int (nar t z))) (fun h => by rw [hret] at h; cases h) hlk
  exact ⟨_, _, RoadKit.retN X hx hret ht hd hr, hrun, hended, _, _, rfl, q, rewMono hW hc hs⟩
theorem Go.retIW {vm0 : Vm} {k0 : Nat} (X : Stand p l e R (s.setVm vm0) m args below meth c T locs cells slots) (hS : s.Since vm0 k0) (hk : k0 ≤ T.heap.size) (hx : p.tables.exec = Jvm.exec) {pc : Nat} {Ls : Array Slot} {z : Int32} {rest : List Value} (hret : meth.sig.returnType = some .int) (hlk : meth.locks = false)
    (hd : decode c.code pc = .ok (.ireturn, 1)) (hc : cells ≤ kc) (hs : slots ≤ ks) (q : Q (some (.int z)) T.heap locs) : Go ReturnedEndW p e below s kc ks Q T (mkF m pc Ls (.int z :: rest)) := by
  obtain ⟨fs, hr, hrun, hended, hW⟩ := X.leaveW hS hk (v := some (.int z)) (fun h => by rw [hret] at h; cases h) hlk
  exact ⟨_, _, RoadKit.retOut X hx hret rfl (Or.inl ⟨rfl, Or.inl rfl, _, rfl⟩) hd hr, hrun, hended, _, _, rfl, q, rewMono hW hc hs⟩
theorem Go.retJW {vm0 : Vm} {k0 : Nat} (X : Stand p l e R (s.setVm vm0) m args below meth c T locs cells slots) (hS : s.Since vm0 k0) (hk : k0 ≤ T.heap.size) (hx : p.tables.exec = Jvm.exec) {pc : Nat} {Ls : Array Slot} {z : Int64} {rest : List Value} (hret : meth.sig.returnType = some .long) (hlk : meth.locks = false)
    (hd : decode c.code pc = .ok (.lreturn, 1)) (hc : cells ≤ kc) (hs : slots ≤ ks) (q : Q (some (.long z)) T.heap locs) : Go ReturnedEndW p e below s kc ks Q T (mkF m pc Ls (.long z :: rest)) := by
  obtain ⟨fs, hr, hrun, hended, hW⟩ := X.leaveW hS hk (v := some (.long z)) (fun h => by rw [hret] at h; cases h) hlk
  exact ⟨_, _, RoadKit.retOut X hx hret rfl (Or.inr (Or.inl ⟨rfl, rfl, _, rfl⟩)) hd hr, hrun, hended, _, _, rfl, q, rewMono hW hc hs⟩
theorem Go.retAW {vm0 : Vm} {k0 : Nat} (X : Stand p l e R (s.setVm vm0) m args below meth c T locs cells slots) (hS : s.Since vm0 k0) (hk : k0 ≤ T.heap.size) (hx : p.tables.exec = Jvm.exec) {pc : Nat} {Ls : Array Slot} {z : Value} {t : FieldType} {rest : List Value} (hret : meth.sig.returnType = some t) (ht : t.isReference = true) (hz : z.isRef = true) (hlk : meth.locks = false)
    (hd : decode c.code pc = .ok (.areturn, 1)) (hc : cells ≤ kc) (hs : slots ≤ ks) (q : Q (some z) T.heap locs) : Go ReturnedEndW p e below s kc ks Q T (mkF m pc Ls (z :: rest)) := by
  obtain ⟨fs, hr, hrun, hended, hW⟩ := X.leaveW hS hk (v := some z) (fun h => by rw [hret] at h; cases h) hlk
  exact ⟨_, _, RoadKit.retOut X hx hret (by cases t <;> cases z <;> first | rfl | (cases ht; done) | (cases hz; done)) (Or.inr (Or.inr (Or.inr (Or.inr ⟨rfl, ht, hz⟩)))) hd hr, hrun, hended, _, _, rfl, q, rewMono hW hc hs⟩
theorem Go.retVW {vm0 : Vm} {k0 : Nat} (X : Stand p l e R (s.setVm vm0) m args below meth c T locs cells slots) (hS : s.Since vm0 k0) (hk : k0 ≤ T.heap.size) (hx : p.tables.exec = Jvm.exec) {pc : Nat} {Ls : Array Slot} (hret : meth.sig.returnType = none) (hlk : meth.locks = false)
    (hd : decode c.code pc = .ok (.return_, 1)) (hc : cells ≤ kc) (hs : slots ≤ ks) (q : Q none T.heap locs) : Go ReturnedEndW p e below s kc ks Q T (mkF m pc Ls []) := by
  obtain ⟨fs, hr, hrun, hended, hW⟩ := X.leaveW hS hk (v := none) (fun _ => rfl) hlk
  exact ⟨_, _, X.returnOut hx hret hd hr, hrun, hended, _, _, rfl, q, rewMono hW hc hs⟩
theorem extRfl (h : Heap) : Ext h h := ⟨Nat.le_refl _, fun _ _ q => q⟩
theorem extTr {h1 h2 h3 : Heap} (A : Ext h1 h2) (B : Ext h2 h3) : Ext h1 h3 := ⟨Nat.le_trans A.1 B.1, fun a c q => B.2 a c (A.2 a c q)⟩
theorem extKeep {h1 h2 h3 : Heap} {ws : List Addr} (A : Ext h1 h2) (K : Keep h2 h3 ws) (q : ∀ x ∈ ws, h1.size ≤ x) : Ext h1 h3 := ⟨Nat.le_trans A.1 K.1, fun a c r => K.2.1 a c (A.2 a c r) fun z => absurd (Array.getElem?_eq_some_iff.mp r).1 (Nat.not_lt.mpr (q a z))⟩
theorem extWr {h1 h2 h3 : Heap} {a : Addr} {sl : Nat} {v : Value} (A : Ext h1 h2) (W : Wr h2 h3 a sl v) (q : h1.size ≤ a) : Ext h1 h3 := extKeep A (Keep.of_wr W) (allS q all0)
end GoLaws
theorem fldStart {Z : State} {args : Array Value} {t : Jvm.Term} {a : Addr} {C n d : String} {k : Int32} (ev : t.eval args Z none [] Z = some (.ref a)) (h : (Jvm.Cond.eq (.field t C n d) (.int k)).value args Z none Z [] = some true) : Fld Z Z.heap a C n d (.int k) :=
  Fld.start ((fld_at ev).symm.trans (eqv_i (Term.int_eval k) h))
/-- putfield through an entry that the sheet says resolved -/
theorem putRdy {p : Program} {l : Launch} {e : Env} {R : Room} {s : State} {m : MethodId} {args : Array Value} {below : List Frame} {meth : Method} {c : Code} {T : State} {locs : List Loc} {cells slots : Nat} {Z : State} {a0 : Array Value} {h : Heap}
    (X : Stand p l e R s m args below meth c T locs cells slots) (hx : p.tables.exec = Jvm.exec) (hZ : Z.Warmed39 s.vm) {own O n d C : String} {index kk : Nat} {ty : FieldType} (hown : s.vm.findClass own = some m.cls) (w : (Jvm.Cond.fieldRef own index O n d).before a0 Z = true)
    (eT : T.heap = h) {a : Addr} {v old : Value} (F : Fld Z h a O n d old) (E : Exa Z h a C) (L : (Jvm.Cond.lays C O n d).before a0 Z = true) (wi : (Jvm.Cond.instantiable C kk).before a0 Z = true)
    (hty : parseFieldDescriptor d = some ty) (hn : narrow ty v = v) (hf : fits ty v = true) {g : JFrame} (hg : g.method = m) {rest : List Value} (hs : g.stack = v :: .ref a :: rest) (hd : decode c.code g.pc = .ok (.putfield index, 3)) :
    ∃ T' h', Stand p l e R s m args below meth c T' (locs ++ [⟨a, Jvm.RoadKit.slotOf Z O n d⟩]) cells slots ∧ T'.heap = h' ∧ Wr h h' a (Jvm.RoadKit.slotOf Z O n d) v ∧ ∀ target, Steps p.tables e below (T'.setTop { g with pc := g.pc + 3, stack := rest }) target → Steps p.tables e below (T.setTop g) target := by
  have hT : Z.Warmed39 T.vm := wtrans hZ X.warmed
  obtain ⟨cell, cf, k, i, f, h1, h2, h3, h4, h5, -, h7⟩ := F
  obtain ⟨cell', kc, e1, e2, e3, -⟩ := E
  cases h1.symm.trans e1
  obtain ⟨c1, k1, cf1, kf1, i1, f1, a1, a2, a3, -, -, a6, -⟩ := Laid.spec (Or.inl L)
  cases h2.symm.trans a3
  cases e2.symm.trans a1
  obtain ⟨c2, k2, i1, i2, i3, -⟩ := Cond.instantiable_spec wi
  cases e2.symm.trans i1
  cases a2.symm.trans i2
  have ht := (State.fieldFound?_type h2 hty).2
  have hfit : Z.fitsSlot cell.cls cell.vm f.slot v = true := by
    have q : Z.slotType? cell.cls cell.vm f.slot = some ty := by
      simp only [State.slotType?, a2, Option.bind_eq_bind, Option.bind_some, i3]
      cases hq : cell.vm <;> first | (rw [hq] at h5; exact Bool.noConfusion h5) | (rw [a6, ht])
    simp [State.fitsSlot, q, hf]
  have hfitT : T.fitsSlot cell.cls cell.vm f.slot v = true := by rw [← State.fitsSlot_setVm hT.alike] at hfit; exact hfit
  obtain ⟨_, _, _, _, _, _, -, -, b3, -, b5, -⟩ := Cond.lays_spec L
  cases h2.symm.trans b3
  have hcur : (Z.setVm T.vm).vm.findClass own = some m.cls := by
    show T.vm.findClass own = _
    rw [hT.alike.findClass, ← hZ.alike.findClass]; exact hown
  obtain ⟨cq, kq, iq, fq, q1, q2⟩ := Cond.fieldRef_spec hcur (Cond.fieldRef_warmed39 hT w)
  obtain ⟨k', q3, -⟩ := State.fieldFound?_setVm (s := Z) hT.alike h2
  cases q1.symm.trans q3
  have hlt := (Array.getElem?_eq_some_iff.mp h7).1
  have es : Jvm.RoadKit.slotOf Z O n d = f.slot := by simp [Jvm.RoadKit.slotOf, h2]
  rw [es]
  obtain ⟨X', st⟩ := X.putfieldReady hx q2 h3 (Or.inl b5) (by rw [eT]; exact h1) h4 hlt (by rw [ht]; exact hn) hfitT hg hs hd
  exact ⟨_, _, X', rfl, ⟨cell, h1, h5, hlt, by rw [← eT]; rfl⟩, st⟩
theorem d1_0 : decode prog_38_method_6_code 0 = .ok (.aload_n 0, 1) := by decide +kernel
theorem d1_1 : decode prog_38_method_6_code 1 = .ok (.getstatic 3, 3) := by decide +kernel
theorem d1_4 : decode prog_38_method_6_code 4 = .ok (.if_acmp .ne 17, 3) := by decide +kernel
theorem d1_7 : decode prog_38_method_6_code 7 = .ok (.lload_n 1, 1) := by decide +kernel
theorem d1_8 : decode prog_38_method_6_code 8 = .ok (.lload_n 3, 1) := by decide +kernel
theorem d1_9 : decode prog_38_method_6_code 9 = .ok (.lcmp, 1) := by decide +kernel
theorem d1_10 : decode prog_38_method_6_code 10 = .ok (.ifCond .le 7, 3) := by decide +kernel
theorem d1_13 : decode prog_38_method_6_code 13 = .ok (.iconst 1, 1) := by decide +kernel
theorem d1_14 : decode prog_38_method_6_code 14 = .ok (.goto 18, 3) := by decide +kernel
theorem d1_32 : decode prog_38_method_6_code 32 = .ok (.ireturn, 1) := by decide +kernel
theorem d1_17 : decode prog_38_method_6_code 17 = .ok (.iconst 0, 1) := by decide +kernel
theorem d1_18 : decode prog_38_method_6_code 18 = .ok (.goto 14, 3) := by decide +kernel
theorem d1_21 : decode prog_38_method_6_code 21 = .ok (.lload_n 1, 1) := by decide +kernel
theorem d1_22 : decode prog_38_method_6_code 22 = .ok (.lload_n 3, 1) := by decide +kernel
theorem d1_23 : decode prog_38_method_6_code 23 = .ok (.lcmp, 1) := by decide +kernel
theorem d1_24 : decode prog_38_method_6_code 24 = .ok (.ifCond .ge 7, 3) := by decide +kernel
theorem d1_27 : decode prog_38_method_6_code 27 = .ok (.iconst 1, 1) := by decide +kernel
theorem d1_28 : decode prog_38_method_6_code 28 = .ok (.goto 4, 3) := by decide +kernel
theorem d1_31 : decode prog_38_method_6_code 31 = .ok (.iconst 0, 1) := by decide +kernel
theorem pn_1 : plainName "org/matchstone/engine/Side" = true := by first | (simp [plainName, overriddenIn]; done) | decide +kernel
theorem ef_1 (m : MethodId) (y0 : Addr) (y1 : Int64) (y2 : Int64) : entryFrame m #[(.ref y0), (.long y1), (.long y2)] 5 = mkF m 0 #[.val (.ref y0), .val (.long y1), .second, .val (.long y2), .second] [] := by first | (simp [entryFrame, mkF, argsToLocals, Value.category]; done) | rfl
def Q_1 (Z : State) (x0 : Addr) (x1 : Int64) (x2 : Int64) (bA : Addr) (r : Int32) (h0 : Heap) (v : Option Value) (h : Heap) (L : List Loc) : Prop := v = some (.int r) ∧ Fr Z.heap.size L ∧ h = h0
set_option maxRecDepth 65536 in
set_option maxHeartbeats 40000000 in
theorem rm_1 (l : Launch) (Z : State) (a0 : Array Value) (hw : ∀ d ∈ tables_1, d.before a0 Z = true) (ws : List Jvm.Cond) (x0 : Addr) (x1 : Int64) (x2 : Int64) (bA : Addr) (r : Int32) (h0 : Heap) (O0 : Ext Z.heap h0) (S_B : Sta Z Z.heap "org/matchstone/engine/Side" "BUY" "Lorg/matchstone/engine/Side;" (.ref bA)) (hr : r = if x0 = bA then (if x2 < x1 then 1 else 0) else (if x1 < x2 then 1 else 0)) :
    MetFree l (⟨"org/matchstone/engine/Side", "better", "(JJ)Z"⟩ : MethodName) (head1 (Jvm.Cond.code (⟨"org/matchstone/engine/Side", "better", "(JJ)Z"⟩ : MethodName) prog_38_method_6_code 5 (some .boolean) :: ws) ({ frames := 0, cells := 0, slots := 0, locals := 0 } : Room)) (fun a U => a = #[(.ref x0), (.long x1), (.long x2)] ∧ Z.Warmed39 U.vm ∧ U.heap = h0) (fun _ _ _ _ _ => True) (fun _ U o U' => ∃ v L, o = .returned v ∧ Q_1 Z x0 x1 x2 bA r h0 v U'.heap L ∧ FrameEnd U o U' L ({ frames := 0, cells := 0, slots := 0, locals := 0 } : Room).cells ({ frames := 0, cells := 0, slots := 0, locals := 0 } : Room).slots) := by
  refine MetFree.of_bodySF (plainFor_of_name pn_1) hisR ?_
  intro p e s m args below meth c s₁ Bd hml0 hP hK
  obtain ⟨rfl, hZ, hh⟩ := hP
  have hx := Bd.exec
  have hby := Bd.bytes
  have hlk := Bd.notSynchronized
  have hml : c.maxLocals = 5 := hml0
  have hown : s.vm.findClass "org/matchstone/engine/Side" = some m.cls := findClass_of_methodNamed Bd.named
  have hnm := (name_of_methodNamed Bd.named Bd.method).1
  have X0 : Stand p l e ({ frames := 0, cells := 0, slots := 0, locals := 0 } : Room) s m #[(.ref x0), (.long x1), (.long x2)] below meth c s₁ [] 0 0 := Stand.of_body Bd
  have e0 : s₁.heap = h0 := by rw [← hh, Bd.state]; rfl
  have N0 := Fr.nil Z.heap.size
  show Go FrameEnd p e below s ({ frames := 0, cells := 0, slots := 0, locals := 0 } : Room).cells ({ frames := 0, cells := 0, slots := 0, locals := 0 } : Room).slots (Q_1 Z x0 x1 x2 bA r h0) s₁ (entryFrame m #[(.ref x0), (.long x1), (.long x2)] 5)
  refine Go.cast (ef_1 m x0 x1 x2) ?_
  show Go _ _ _ _ _ _ _ _ s₁ (mkF m 0 #[.val (.ref x0), .val (.long x1), .second, .val (.long x2), .second] [])
  refine Go.step (fun _ kt_ => XS.aloadN X0.here hx rfl (hb hby d1_0) rfl rfl kt_) ?_
  show Go _ _ _ _ _ _ _ _ s₁ (mkF m 1 #[.val (.ref x0), .val (.long x1), .second, .val (.long x2), .second] [(.ref x0)])
  obtain ⟨T1, X1, e1, st1⟩ := getS2 X0 hx hZ hown (host := "") (Or.inl (hw _ (List.mem_of_getElem? (i := 10) rfl))) Via.refl e0 (Sta.ext O0 S_B) (g := (mkF m 1 #[.val (.ref x0), .val (.long x1), .second, .val (.long x2), .second] [(.ref x0)])) rfl (hb hby d1_1)
  refine Go.step st1 ?_
  show Go _ _ _ _ _ _ _ _ T1 (mkF m 4 #[.val (.ref x0), .val (.long x1), .second, .val (.long x2), .second] [(.ref bA), (.ref x0)])
  by_cases ha4_2 : x0 = bA
  · refine Go.step (fun _ kt_ => Jvm.RoadKit.acmp (g := (mkF m 4 #[.val (.ref x0), .val (.long x1), .second, .val (.long x2), .second] [(.ref bA), (.ref x0)])) X1 hx rfl rfl rfl (pc0 := 4) (pc' := 7) (same := true) rfl (hb hby d1_4) rfl (decide_eq_true (congrArg Value.ref ha4_2)) (by decide) (by decide) kt_) ?_
    show Go _ _ _ _ _ _ _ _ T1 (mkF m 7 #[.val (.ref x0), .val (.long x1), .second, .val (.long x2), .second] [])
    refine Go.step (fun _ kt_ => XS.lloadN X1.here hx rfl (hb hby d1_7) rfl kt_) ?_
    show Go _ _ _ _ _ _ _ _ T1 (mkF m 8 #[.val (.ref x0), .val (.long x1), .second, .val (.long x2), .second] [(.long x1)])
    refine Go.step (fun _ kt_ => XS.lloadN X1.here hx rfl (hb hby d1_8) rfl kt_) ?_
    show Go _ _ _ _ _ _ _ _ T1 (mkF m 9 #[.val (.ref x0), .val (.long x1), .second, .val (.long x2), .second] [(.long x2), (.long x1)])
    refine Go.step (fun _ kt_ => XS.lcmp X1.here hx rfl (hb hby d1_9) rfl kt_) ?_
    show Go _ _ _ _ _ _ _ _ T1 (mkF m 10 #[.val (.ref x0), .val (.long x1), .second, .val (.long x2), .second] [(.int (lcmpW x1 x2))])
    by_cases hc10_3 : (0 : Int32) < (lcmpW x1 x2)
    · refine Go.step (fun _ kt_ => XS.ifNo X1.here hx rfl (hb hby d1_10) rfl ((if0 _ _).trans (tlt hc10_3).2.2.2) kt_) ?_
      show Go _ _ _ _ _ _ _ _ T1 (mkF m 13 #[.val (.ref x0), .val (.long x1), .second, .val (.long x2), .second] [])
      refine Go.step (fun _ kt_ => XS.iconst X1.here hx rfl (hb hby d1_13)  kt_) ?_
      show Go _ _ _ _ _ _ _ _ T1 (mkF m 14 #[.val (.ref x0), .val (.long x1), .second, .val (.long x2), .second] [(.int (1 : Int32))])
      refine Go.step (fun _ kt_ => XS.goto X1.here hx rfl (pc0 := 14) (pc' := 32) rfl (hb hby d1_14) (by decide) (by decide) kt_) ?_
      show Go _ _ _ _ _ _ _ _ T1 (mkF m 32 #[.val (.ref x0), .val (.long x1), .second, .val (.long x2), .second] [(.int (1 : Int32))])
      exact Go.retN X1 hx (t := .boolean) Bd.returns (by simp) hlk (hb hby d1_32) (by decide) (by decide) (by show _ ∧ _ ∧ _; rw [e1]; refine ⟨congrArg (fun z => some (Value.int z)) ?_, N0, rfl⟩; rw [hr]; ((try simp only [lw_lt, lw_gt, lw_eq] at ha4_2 hc10_3); simp only [ha4_2, hc10_3, if_true, if_false, ite_self, eq_self, not_false_eq_true, true_or, or_true, false_or, or_false, or_self]); try rfl)
    · refine Go.step (fun _ kt_ => XS.ifYes X1.here hx rfl (pc0 := 10) (pc' := 17) rfl (hb hby d1_10) rfl ((if0 _ _).trans (flt hc10_3).2.2.2) (by decide) (by decide) kt_) ?_
      show Go _ _ _ _ _ _ _ _ T1 (mkF m 17 #[.val (.ref x0), .val (.long x1), .second, .val (.long x2), .second] [])
      refine Go.step (fun _ kt_ => XS.iconst X1.here hx rfl (hb hby d1_17)  kt_) ?_
      show Go _ _ _ _ _ _ _ _ T1 (mkF m 18 #[.val (.ref x0), .val (.long x1), .second, .val (.long x2), .second] [(.int (0 : Int32))])
      refine Go.step (fun _ kt_ => XS.goto X1.here hx rfl (pc0 := 18) (pc' := 32) rfl (hb hby d1_18) (by decide) (by decide) kt_) ?_
      show Go _ _ _ _ _ _ _ _ T1 (mkF m 32 #[.val (.ref x0), .val (.long x1), .second, .val (.long x2), .second] [(.int (0 : Int32))])
      exact Go.retN X1 hx (t := .boolean) Bd.returns (by simp) hlk (hb hby d1_32) (by decide) (by decide) (by show _ ∧ _ ∧ _; rw [e1]; refine ⟨congrArg (fun z => some (Value.int z)) ?_, N0, rfl⟩; rw [hr]; ((try simp only [lw_lt, lw_gt, lw_eq] at ha4_2 hc10_3); simp only [ha4_2, hc10_3, if_true, if_false, ite_self, eq_self, not_false_eq_true, true_or, or_true, false_or, or_false, or_self]); try rfl)
  · refine Go.step (fun _ kt_ => Jvm.RoadKit.acmp (g := (mkF m 4 #[.val (.ref x0), .val (.long x1), .second, .val (.long x2), .second] [(.ref bA), (.ref x0)])) X1 hx rfl rfl rfl (pc0 := 4) (pc' := 21) (same := false) rfl (hb hby d1_4) rfl (decide_eq_false fun q => ha4_2 (Value.ref.inj q)) (by decide) (by decide) kt_) ?_
    show Go _ _ _ _ _ _ _ _ T1 (mkF m 21 #[.val (.ref x0), .val (.long x1), .second, .val (.long x2), .second] [])
    refine Go.step (fun _ kt_ => XS.lloadN X1.here hx rfl (hb hby d1_21) rfl kt_) ?_
    show Go _ _ _ _ _ _ _ _ T1 (mkF m 22 #[.val (.ref x0), .val (.long x1), .second, .val (.long x2), .second] [(.long x1)])
    refine Go.step (fun _ kt_ => XS.lloadN X1.here hx rfl (hb hby d1_22) rfl kt_) ?_
    show Go _ _ _ _ _ _ _ _ T1 (mkF m 23 #[.val (.ref x0), .val (.long x1), .second, .val (.long x2), .second] [(.long x2), (.long x1)])
    refine Go.step (fun _ kt_ => XS.lcmp X1.here hx rfl (hb hby d1_23) rfl kt_) ?_
    show Go _ _ _ _ _ _ _ _ T1 (mkF m 24 #[.val (.ref x0), .val (.long x1), .second, .val (.long x2), .second] [(.int (lcmpW x1 x2))])
    by_cases hc24_4 : (lcmpW x1 x2) < (0 : Int32)
    · refine Go.step (fun _ kt_ => XS.ifNo X1.here hx rfl (hb hby d1_24) rfl ((if0 _ _).trans (tlt hc24_4).2.1) kt_) ?_
      show Go _ _ _ _ _ _ _ _ T1 (mkF m 27 #[.val (.ref x0), .val (.long x1), .second, .val (.long x2), .second] [])
      refine Go.step (fun _ kt_ => XS.iconst X1.here hx rfl (hb hby d1_27)  kt_) ?_
      show Go _ _ _ _ _ _ _ _ T1 (mkF m 28 #[.val (.ref x0), .val (.long x1), .second, .val (.long x2), .second] [(.int (1 : Int32))])
      refine Go.step (fun _ kt_ => XS.goto X1.here hx rfl (pc0 := 28) (pc' := 32) rfl (hb hby d1_28) (by decide) (by decide) kt_) ?_
      show Go _ _ _ _ _ _ _ _ T1 (mkF m 32 #[.val (.ref x0), .val (.long x1), .second, .val (.long x2), .second] [(.int (1 : Int32))])
      exact Go.retN X1 hx (t := .boolean) Bd.returns (by simp) hlk (hb hby d1_32) (by decide) (by decide) (by show _ ∧ _ ∧ _; rw [e1]; refine ⟨congrArg (fun z => some (Value.int z)) ?_, N0, rfl⟩; rw [hr]; ((try simp only [lw_lt, lw_gt, lw_eq] at ha4_2 hc24_4); simp only [ha4_2, hc24_4, if_true, if_false, ite_self, eq_self, not_false_eq_true, true_or, or_true, false_or, or_false, or_self]); try rfl)
    · refine Go.step (fun _ kt_ => XS.ifYes X1.here hx rfl (pc0 := 24) (pc' := 31) rfl (hb hby d1_24) rfl ((if0 _ _).trans (flt hc24_4).2.1) (by decide) (by decide) kt_) ?_
      show Go _ _ _ _ _ _ _ _ T1 (mkF m 31 #[.val (.ref x0), .val (.long x1), .second, .val (.long x2), .second] [])
      refine Go.step (fun _ kt_ => XS.iconst X1.here hx rfl (hb hby d1_31)  kt_) ?_
      show Go _ _ _ _ _ _ _ _ T1 (mkF m 32 #[.val (.ref x0), .val (.long x1), .second, .val (.long x2), .second] [(.int (0 : Int32))])
      exact Go.retN X1 hx (t := .boolean) Bd.returns (by simp) hlk (hb hby d1_32) (by decide) (by decide) (by show _ ∧ _ ∧ _; rw [e1]; refine ⟨congrArg (fun z => some (Value.int z)) ?_, N0, rfl⟩; rw [hr]; ((try simp only [lw_lt, lw_gt, lw_eq] at ha4_2 hc24_4); simp only [ha4_2, hc24_4, if_true, if_false, ite_self, eq_self, not_false_eq_true, true_or, or_true, false_or, or_false, or_self]); try rfl)
theorem d2_0 : decode jdk_29_method_66_code 0 = .ok (.lload_n 0, 1) := by decide +kernel
theorem d2_1 : decode jdk_29_method_66_code 1 = .ok (.lload_n 2, 1) := by decide +kernel
theorem d2_2 : decode jdk_29_method_66_code 2 = .ok (.lcmp, 1) := by decide +kernel
theorem d2_3 : decode jdk_29_method_66_code 3 = .ok (.ifCond .lt 7, 3) := by decide +kernel
theorem d2_10 : decode jdk_29_method_66_code 10 = .ok (.lload_n 2, 1) := by decide +kernel
theorem d2_11 : decode jdk_29_method_66_code 11 = .ok (.lreturn, 1) := by decide +kernel
theorem d2_6 : decode jdk_29_method_66_code 6 = .ok (.lload_n 0, 1) := by decide +kernel
theorem d2_7 : decode jdk_29_method_66_code 7 = .ok (.goto 4, 3) := by decide +kernel
theorem ef_2 (m : MethodId) (y0 : Int64) (y1 : Int64) : entryFrame m #[(.long y0), (.long y1)] 4 = mkF m 0 #[.val (.long y0), .second, .val (.long y1), .second] [] := by first | (simp [entryFrame, mkF, argsToLocals, Value.category]; done) | rfl
def Q_2 (Z : State) (x0 : Int64) (x1 : Int64) (r : Int64) (h0 : Heap) (v : Option Value) (h : Heap) (L : List Loc) : Prop := v = some (.long r) ∧ Fr Z.heap.size L ∧ h = h0
set_option maxRecDepth 65536 in
set_option maxHeartbeats 40000000 in
theorem rm_2 (l : Launch) (Z : State) (a0 : Array Value) (hw : ∀ d ∈ tables_1, d.before a0 Z = true) (ws : List Jvm.Cond) (x0 : Int64) (x1 : Int64) (r : Int64) (h0 : Heap) (O0 : Ext Z.heap h0) (hr : r = if x0 < x1 then x1 else x0) :
    MetFree l (⟨"java/lang/Math", "max", "(JJ)J"⟩ : MethodName) (head1 (Jvm.Cond.code (⟨"java/lang/Math", "max", "(JJ)J"⟩ : MethodName) jdk_29_method_66_code 4 (some .long) :: ws) ({ frames := 0, cells := 0, slots := 0, locals := 0 } : Room)) (fun a U => a = #[(.long x0), (.long x1)] ∧ Z.Warmed39 U.vm ∧ U.heap = h0) (fun _ _ _ _ _ => True) (fun _ U o U' => ∃ v L, o = .returned v ∧ Q_2 Z x0 x1 r h0 v U'.heap L ∧ FrameEnd U o U' L ({ frames := 0, cells := 0, slots := 0, locals := 0 } : Room).cells ({ frames := 0, cells := 0, slots := 0, locals := 0 } : Room).slots) := by
  refine MetFree.of_bodySF (Jvm.Free.JP.mathPlain rfl (by decide +kernel)) hisR ?_
  intro p e s m args below meth c s₁ Bd hml0 hP hK
  obtain ⟨rfl, hZ, hh⟩ := hP
  have hx := Bd.exec
  have hby := Bd.bytes
  have hlk := Bd.notSynchronized
  have hml : c.maxLocals = 4 := hml0
  have hown : s.vm.findClass "java/lang/Math" = some m.cls := findClass_of_methodNamed Bd.named
  have hnm := (name_of_methodNamed Bd.named Bd.method).1
  have X0 : Stand p l e ({ frames := 0, cells := 0, slots := 0, locals := 0 } : Room) s m #[(.long x0), (.long x1)] below meth c s₁ [] 0 0 := Stand.of_body Bd
  have e0 : s₁.heap = h0 := by rw [← hh, Bd.state]; rfl
  have N0 := Fr.nil Z.heap.size
  show Go FrameEnd p e below s ({ frames := 0, cells := 0, slots := 0, locals := 0 } : Room).cells ({ frames := 0, cells := 0, slots := 0, locals := 0 } : Room).slots (Q_2 Z x0 x1 r h0) s₁ (entryFrame m #[(.long x0), (.long x1)] 4)
  refine Go.cast (ef_2 m x0 x1) ?_
  show Go _ _ _ _ _ _ _ _ s₁ (mkF m 0 #[.val (.long x0), .second, .val (.long x1), .second] [])
  refine Go.step (fun _ kt_ => XS.lloadN X0.here hx rfl (hb hby d2_0) rfl kt_) ?_
  show Go _ _ _ _ _ _ _ _ s₁ (mkF m 1 #[.val (.long x0), .second, .val (.long x1), .second] [(.long x0)])
  refine Go.step (fun _ kt_ => XS.lloadN X0.here hx rfl (hb hby d2_1) rfl kt_) ?_
  show Go _ _ _ _ _ _ _ _ s₁ (mkF m 2 #[.val (.long x0), .second, .val (.long x1), .second] [(.long x1), (.long x0)])
  refine Go.step (fun _ kt_ => XS.lcmp X0.here hx rfl (hb hby d2_2) rfl kt_) ?_
  show Go _ _ _ _ _ _ _ _ s₁ (mkF m 3 #[.val (.long x0), .second, .val (.long x1), .second] [(.int (lcmpW x0 x1))])
  by_cases hc3_1 : (lcmpW x0 x1) < (0 : Int32)
  · refine Go.step (fun _ kt_ => XS.ifYes X0.here hx rfl (pc0 := 3) (pc' := 10) rfl (hb hby d2_3) rfl ((if0 _ _).trans (tlt hc3_1).1) (by decide) (by decide) kt_) ?_
    show Go _ _ _ _ _ _ _ _ s₁ (mkF m 10 #[.val (.long x0), .second, .val (.long x1), .second] [])
    refine Go.step (fun _ kt_ => XS.lloadN X0.here hx rfl (hb hby d2_10) rfl kt_) ?_
    show Go _ _ _ _ _ _ _ _ s₁ (mkF m 11 #[.val (.long x0), .second, .val (.long x1), .second] [(.long x1)])
    exact Go.retJ X0 hx Bd.returns hlk (hb hby d2_11) (by decide) (by decide) (by show _ ∧ _ ∧ _; rw [e0]; refine ⟨congrArg (fun z => some (Value.long z)) ?_, N0, rfl⟩; rw [hr]; ((try simp only [lw_lt, lw_gt, lw_eq] at hc3_1); simp only [hc3_1, if_true, if_false, ite_self, eq_self, not_false_eq_true, true_or, or_true, false_or, or_false, or_self]); try rfl)
  · refine Go.step (fun _ kt_ => XS.ifNo X0.here hx rfl (hb hby d2_3) rfl ((if0 _ _).trans (flt hc3_1).1) kt_) ?_
    show Go _ _ _ _ _ _ _ _ s₁ (mkF m 6 #[.val (.long x0), .second, .val (.long x1), .second] [])
    refine Go.step (fun _ kt_ => XS.lloadN X0.here hx rfl (hb hby d2_6) rfl kt_) ?_
    show Go _ _ _ _ _ _ _ _ s₁ (mkF m 7 #[.val (.long x0), .second, .val (.long x1), .second] [(.long x0)])
    refine Go.step (fun _ kt_ => XS.goto X0.here hx rfl (pc0 := 7) (pc' := 11) rfl (hb hby d2_7) (by decide) (by decide) kt_) ?_
    show Go _ _ _ _ _ _ _ _ s₁ (mkF m 11 #[.val (.long x0), .second, .val (.long x1), .second] [(.long x0)])
    exact Go.retJ X0 hx Bd.returns hlk (hb hby d2_11) (by decide) (by decide) (by show _ ∧ _ ∧ _; rw [e0]; refine ⟨congrArg (fun z => some (Value.long z)) ?_, N0, rfl⟩; rw [hr]; ((try simp only [lw_lt, lw_gt, lw_eq] at hc3_1); simp only [hc3_1, if_true, if_false, ite_self, eq_self, not_false_eq_true, true_or, or_true, false_or, or_false, or_self]); try rfl)
theorem d3_0 : decode jdk_29_method_70_code 0 = .ok (.lload_n 0, 1) := by decide +kernel
theorem d3_1 : decode jdk_29_method_70_code 1 = .ok (.lload_n 2, 1) := by decide +kernel
theorem d3_2 : decode jdk_29_method_70_code 2 = .ok (.lcmp, 1) := by decide +kernel
theorem d3_3 : decode jdk_29_method_70_code 3 = .ok (.ifCond .gt 7, 3) := by decide +kernel
theorem d3_10 : decode jdk_29_method_70_code 10 = .ok (.lload_n 2, 1) := by decide +kernel
theorem d3_11 : decode jdk_29_method_70_code 11 = .ok (.lreturn, 1) := by decide +kernel
theorem d3_6 : decode jdk_29_method_70_code 6 = .ok (.lload_n 0, 1) := by decide +kernel
theorem d3_7 : decode jdk_29_method_70_code 7 = .ok (.goto 4, 3) := by decide +kernel
theorem ef_3 (m : MethodId) (y0 : Int64) (y1 : Int64) : entryFrame m #[(.long y0), (.long y1)] 4 = mkF m 0 #[.val (.long y0), .second, .val (.long y1), .second] [] := by first | (simp [entryFrame, mkF, argsToLocals, Value.category]; done) | rfl
def Q_3 (Z : State) (x0 : Int64) (x1 : Int64) (r : Int64) (h0 : Heap) (v : Option Value) (h : Heap) (L : List Loc) : Prop := v = some (.long r) ∧ Fr Z.heap.size L ∧ h = h0
set_option maxRecDepth 65536 in
set_option maxHeartbeats 40000000 in
theorem rm_3 (l : Launch) (Z : State) (a0 : Array Value) (hw : ∀ d ∈ tables_1, d.before a0 Z = true) (ws : List Jvm.Cond) (x0 : Int64) (x1 : Int64) (r : Int64) (h0 : Heap) (O0 : Ext Z.heap h0) (hr : r = if x1 < x0 then x1 else x0) :
    MetFree l (⟨"java/lang/Math", "min", "(JJ)J"⟩ : MethodName) (head1 (Jvm.Cond.code (⟨"java/lang/Math", "min", "(JJ)J"⟩ : MethodName) jdk_29_method_70_code 4 (some .long) :: ws) ({ frames := 0, cells := 0, slots := 0, locals := 0 } : Room)) (fun a U => a = #[(.long x0), (.long x1)] ∧ Z.Warmed39 U.vm ∧ U.heap = h0) (fun _ _ _ _ _ => True) (fun _ U o U' => ∃ v L, o = .returned v ∧ Q_3 Z x0 x1 r h0 v U'.heap L ∧ FrameEnd U o U' L ({ frames := 0, cells := 0, slots := 0, locals := 0 } : Room).cells ({ frames := 0, cells := 0, slots := 0, locals := 0 } : Room).slots) := by
  refine MetFree.of_bodySF (Jvm.Free.JP.mathPlain rfl (by decide +kernel)) hisR ?_
  intro p e s m args below meth c s₁ Bd hml0 hP hK
  obtain ⟨rfl, hZ, hh⟩ := hP
  have hx := Bd.exec
  have hby := Bd.bytes
  have hlk := Bd.notSynchronized
  have hml : c.maxLocals = 4 := hml0
  have hown : s.vm.findClass "java/lang/Math" = some m.cls := findClass_of_methodNamed Bd.named
  have hnm := (name_of_methodNamed Bd.named Bd.method).1
  have X0 : Stand p l e ({ frames := 0, cells := 0, slots := 0, locals := 0 } : Room) s m #[(.long x0), (.long x1)] below meth c s₁ [] 0 0 := Stand.of_body Bd
  have e0 : s₁.heap = h0 := by rw [← hh, Bd.state]; rfl
  have N0 := Fr.nil Z.heap.size
  show Go FrameEnd p e below s ({ frames := 0, cells := 0, slots := 0, locals := 0 } : Room).cells ({ frames := 0, cells := 0, slots := 0, locals := 0 } : Room).slots (Q_3 Z x0 x1 r h0) s₁ (entryFrame m #[(.long x0), (.long x1)] 4)
  refine Go.cast (ef_3 m x0 x1) ?_
  show Go _ _ _ _ _ _ _ _ s₁ (mkF m 0 #[.val (.long x0), .second, .val (.long x1), .second] [])
  refine Go.step (fun _ kt_ => XS.lloadN X0.here hx rfl (hb hby d3_0) rfl kt_) ?_
  show Go _ _ _ _ _ _ _ _ s₁ (mkF m 1 #[.val (.long x0), .second, .val (.long x1), .second] [(.long x0)])
  refine Go.step (fun _ kt_ => XS.lloadN X0.here hx rfl (hb hby d3_1) rfl kt_) ?_
  show Go _ _ _ _ _ _ _ _ s₁ (mkF m 2 #[.val (.long x0), .second, .val (.long x1), .second] [(.long x1), (.long x0)])
  refine Go.step (fun _ kt_ => XS.lcmp X0.here hx rfl (hb hby d3_2) rfl kt_) ?_
  show Go _ _ _ _ _ _ _ _ s₁ (mkF m 3 #[.val (.long x0), .second, .val (.long x1), .second] [(.int (lcmpW x0 x1))])
  by_cases hc3_1 : (0 : Int32) < (lcmpW x0 x1)
  · refine Go.step (fun _ kt_ => XS.ifYes X0.here hx rfl (pc0 := 3) (pc' := 10) rfl (hb hby d3_3) rfl ((if0 _ _).trans (tlt hc3_1).2.2.1) (by decide) (by decide) kt_) ?_
    show Go _ _ _ _ _ _ _ _ s₁ (mkF m 10 #[.val (.long x0), .second, .val (.long x1), .second] [])
    refine Go.step (fun _ kt_ => XS.lloadN X0.here hx rfl (hb hby d3_10) rfl kt_) ?_
    show Go _ _ _ _ _ _ _ _ s₁ (mkF m 11 #[.val (.long x0), .second, .val (.long x1), .second] [(.long x1)])
    exact Go.retJ X0 hx Bd.returns hlk (hb hby d3_11) (by decide) (by decide) (by show _ ∧ _ ∧ _; rw [e0]; refine ⟨congrArg (fun z => some (Value.long z)) ?_, N0, rfl⟩; rw [hr]; ((try simp only [lw_lt, lw_gt, lw_eq] at hc3_1); simp only [hc3_1, if_true, if_false, ite_self, eq_self, not_false_eq_true, true_or, or_true, false_or, or_false, or_self]); try rfl)
  · refine Go.step (fun _ kt_ => XS.ifNo X0.here hx rfl (hb hby d3_3) rfl ((if0 _ _).trans (flt hc3_1).2.2.1) kt_) ?_
    show Go _ _ _ _ _ _ _ _ s₁ (mkF m 6 #[.val (.long x0), .second, .val (.long x1), .second] [])
    refine Go.step (fun _ kt_ => XS.lloadN X0.here hx rfl (hb hby d3_6) rfl kt_) ?_
    show Go _ _ _ _ _ _ _ _ s₁ (mkF m 7 #[.val (.long x0), .second, .val (.long x1), .second] [(.long x0)])
    refine Go.step (fun _ kt_ => XS.goto X0.here hx rfl (pc0 := 7) (pc' := 11) rfl (hb hby d3_7) (by decide) (by decide) kt_) ?_
    show Go _ _ _ _ _ _ _ _ s₁ (mkF m 11 #[.val (.long x0), .second, .val (.long x1), .second] [(.long x0)])
    exact Go.retJ X0 hx Bd.returns hlk (hb hby d3_11) (by decide) (by decide) (by show _ ∧ _ ∧ _; rw [e0]; refine ⟨congrArg (fun z => some (Value.long z)) ?_, N0, rfl⟩; rw [hr]; ((try simp only [lw_lt, lw_gt, lw_eq] at hc3_1); simp only [hc3_1, if_true, if_false, ite_self, eq_self, not_false_eq_true, true_or, or_true, false_or, or_false, or_self]); try rfl)
theorem own_tri (a b : Int64) : (a < b ∧ ¬ b < a ∧ ¬ a = b ∧ ¬ b = a) ∨ (a = b ∧ ¬ a < b ∧ ¬ b < a) ∨ (b < a ∧ ¬ a < b ∧ ¬ a = b ∧ ¬ b = a) := by
  rw [Int64.lt_iff_toInt_lt, Int64.lt_iff_toInt_lt, ← Int64.toInt_inj, ← Int64.toInt_inj]
  omega
theorem pd_LJJRZ : parseMethodDescriptor "(JJ)Z" = some ⟨[.long, .long], some .boolean⟩ := by decide +kernel
theorem pd_LJJRJ : parseMethodDescriptor "(JJ)J" = some ⟨[.long, .long], some .long⟩ := by decide +kernel
theorem pn_0 : plainName "org/matchstone/engine/SideBetterPinLaw" = true := by first | (simp [plainName, overriddenIn]; done) | decide +kernel
theorem ef_0 (m : MethodId) (y0 : Int64) (y1 : Int64) (y2 : Int32) : entryFrame m #[(.long y0), (.long y1), (.int y2)] maxLocals = mkF m 0 #[.val (.long y0), .second, .val (.long y1), .second, .val (.int y2), .unset, .unset, .unset, .unset, .unset, .unset, .unset, .unset, .unset, .unset] [] := by first | (simp [entryFrame, mkF, argsToLocals, Value.category, maxLocals]; done) | rfl
def Q_0 (Z : State) (x0 : Int64) (x1 : Int64) (x2 : Int32) (bA : Addr) (sA : Addr) (h0 : Heap) (v : Option Value) (h : Heap) (L : List Loc) : Prop := v = some (.int 1) ∧ Fr Z.heap.size L ∧ h = h0
set_option maxRecDepth 65536 in
set_option maxHeartbeats 40000000 in
theorem rm_0 (l : Launch) (Z : State) (a0 : Array Value) (hw : ∀ d ∈ tables_1, d.before a0 Z = true) (ws : List Jvm.Cond) (x0 : Int64) (x1 : Int64) (x2 : Int32) (bA : Addr) (sA : Addr) (h0 : Heap) (O0 : Ext Z.heap h0) (S_B : Sta Z Z.heap "org/matchstone/engine/Side" "BUY" "Lorg/matchstone/engine/Side;" (.ref bA)) (S_S : Sta Z Z.heap "org/matchstone/engine/Side" "SELL" "Lorg/matchstone/engine/Side;" (.ref sA)) (X_B : Exa Z Z.heap bA "org/matchstone/engine/Side") (X_S : Exa Z Z.heap sA "org/matchstone/engine/Side") (hne : sA ≠ bA) :
    MetFree l x (head1 (Jvm.Cond.code x code maxLocals ret :: ws) room_1) (fun a U => a = #[(.long x0), (.long x1), (.int x2)] ∧ Z.Warmed39 U.vm ∧ U.heap = h0) (fun _ _ _ _ _ => True) (fun _ U o U' => ∃ v L, o = .returned v ∧ Q_0 Z x0 x1 x2 bA sA h0 v U'.heap L ∧ FrameEnd U o U' L room_1.cells room_1.slots) := by
  refine MetFree.of_bodySF (plainFor_of_name pn_0) hisR ?_
  intro p e s m args below meth c s₁ Bd hml0 hP hK
  obtain ⟨rfl, hZ, hh⟩ := hP
  have hx := Bd.exec
  have hby := Bd.bytes
  have hlk := Bd.notSynchronized
  have hml : c.maxLocals = 15 := hml0
  have hown : s.vm.findClass "org/matchstone/engine/SideBetterPinLaw" = some m.cls := findClass_of_methodNamed Bd.named
  have hnm := (name_of_methodNamed Bd.named Bd.method).1
  have X0 : Stand p l e room_1 s m #[(.long x0), (.long x1), (.int x2)] below meth c s₁ [] 0 0 := Stand.of_body Bd
  have e0 : s₁.heap = h0 := by rw [← hh, Bd.state]; rfl
  have N0 := Fr.nil Z.heap.size
  show Go FrameEnd p e below s room_1.cells room_1.slots (Q_0 Z x0 x1 x2 bA sA h0) s₁ (entryFrame m #[(.long x0), (.long x1), (.int x2)] maxLocals)
  refine Go.cast (ef_0 m x0 x1 x2) ?_
  show Go _ _ _ _ _ _ _ _ s₁ (mkF m 0 #[.val (.long x0), .second, .val (.long x1), .second, .val (.int x2), .unset, .unset, .unset, .unset, .unset, .unset, .unset, .unset, .unset, .unset] [])
  rcases own_tri x0 x1 with hk | hk | hk
  · obtain ⟨h1, h2, h3, h4⟩ := hk
    show Go _ _ _ _ _ _ _ _ s₁ (mkF m 0 #[.val (.long x0), .second, .val (.long x1), .second, .val (.int x2), .unset, .unset, .unset, .unset, .unset, .unset, .unset, .unset, .unset, .unset] [])
    refine Go.step (fun _ kt_ => XS.iload X0.here hx rfl (hb hby at_0) rfl kt_) ?_
    show Go _ _ _ _ _ _ _ _ s₁ (mkF m 2 #[.val (.long x0), .second, .val (.long x1), .second, .val (.int x2), .unset, .unset, .unset, .unset, .unset, .unset, .unset, .unset, .unset, .unset] [(.int x2)])
    refine Go.step (fun _ kt_ => XS.iconst X0.here hx rfl (hb hby at_2)  kt_) ?_
    show Go _ _ _ _ _ _ _ _ s₁ (mkF m 3 #[.val (.long x0), .second, .val (.long x1), .second, .val (.int x2), .unset, .unset, .unset, .unset, .unset, .unset, .unset, .unset, .unset, .unset] [(.int (1 : Int32)), (.int x2)])
    refine Go.step (fun _ kt_ => XS.iand X0.here hx rfl (hb hby at_3) rfl kt_) ?_
    show Go _ _ _ _ _ _ _ _ s₁ (mkF m 4 #[.val (.long x0), .second, .val (.long x1), .second, .val (.int x2), .unset, .unset, .unset, .unset, .unset, .unset, .unset, .unset, .unset, .unset] [(.int (x2 &&& (1 : Int32)))])
    by_cases hc4_1 : (x2 &&& (1 : Int32)) = (0 : Int32)
    · refine Go.step (fun _ kt_ => XS.ifYes X0.here hx rfl (pc0 := 4) (pc' := 11) rfl (hb hby at_4) rfl ((if0 _ _).trans (teq hc4_1).1) (by decide) (by decide) kt_) ?_
      show Go _ _ _ _ _ _ _ _ s₁ (mkF m 11 #[.val (.long x0), .second, .val (.long x1), .second, .val (.int x2), .unset, .unset, .unset, .unset, .unset, .unset, .unset, .unset, .unset, .unset] [])
      refine Go.step (fun _ kt_ => XS.iconst X0.here hx rfl (hb hby at_11)  kt_) ?_
      show Go _ _ _ _ _ _ _ _ s₁ (mkF m 12 #[.val (.long x0), .second, .val (.long x1), .second, .val (.int x2), .unset, .unset, .unset, .unset, .unset, .unset, .unset, .unset, .unset, .unset] [(.int (0 : Int32))])
      refine Go.step (fun _ kt_ => XS.istore X0.here hx rfl (hb hby at_12) rfl (l' := #[.val (.long x0), .second, .val (.long x1), .second, .val (.int x2), .val (.int (0 : Int32)), .unset, .unset, .unset, .unset, .unset, .unset, .unset, .unset, .unset]) rfl kt_) ?_
      show Go _ _ _ _ _ _ _ _ s₁ (mkF m 14 #[.val (.long x0), .second, .val (.long x1), .second, .val (.int x2), .val (.int (0 : Int32)), .unset, .unset, .unset, .unset, .unset, .unset, .unset, .unset, .unset] [])
      refine Go.step (fun _ kt_ => XS.iload X0.here hx rfl (hb hby at_14) rfl kt_) ?_
      show Go _ _ _ _ _ _ _ _ s₁ (mkF m 16 #[.val (.long x0), .second, .val (.long x1), .second, .val (.int x2), .val (.int (0 : Int32)), .unset, .unset, .unset, .unset, .unset, .unset, .unset, .unset, .unset] [(.int (0 : Int32))])
      refine Go.step (fun _ kt_ => XS.ifYes X0.here hx rfl (pc0 := 16) (pc' := 25) rfl (hb hby at_16) rfl ((if0 _ _).trans (teq (by decide : (0 : Int32) = (0 : Int32))).1) (by decide) (by decide) kt_) ?_
      show Go _ _ _ _ _ _ _ _ s₁ (mkF m 25 #[.val (.long x0), .second, .val (.long x1), .second, .val (.int x2), .val (.int (0 : Int32)), .unset, .unset, .unset, .unset, .unset, .unset, .unset, .unset, .unset] [])
      obtain ⟨T2, X2, e2, st2⟩ := getS2 X0 hx hZ hown (host := "") (Or.inl (hw _ (List.mem_of_getElem? (i := 0) rfl))) Via.refl e0 (Sta.ext O0 S_S) (g := (mkF m 25 #[.val (.long x0), .second, .val (.long x1), .second, .val (.int x2), .val (.int (0 : Int32)), .unset, .unset, .unset, .unset, .unset, .unset, .unset, .unset, .unset] [])) rfl (hb hby at_25)
      refine Go.step st2 ?_
      show Go _ _ _ _ _ _ _ _ T2 (mkF m 28 #[.val (.long x0), .second, .val (.long x1), .second, .val (.int x2), .val (.int (0 : Int32)), .unset, .unset, .unset, .unset, .unset, .unset, .unset, .unset, .unset] [(.ref sA)])
      refine Go.step (fun _ kt_ => XS.astore X2.here hx rfl (hb hby at_28) rfl rfl (l' := #[.val (.long x0), .second, .val (.long x1), .second, .val (.int x2), .val (.int (0 : Int32)), .val (.ref sA), .unset, .unset, .unset, .unset, .unset, .unset, .unset, .unset]) rfl kt_) ?_
      show Go _ _ _ _ _ _ _ _ T2 (mkF m 30 #[.val (.long x0), .second, .val (.long x1), .second, .val (.int x2), .val (.int (0 : Int32)), .val (.ref sA), .unset, .unset, .unset, .unset, .unset, .unset, .unset, .unset] [])
      refine Go.step (fun _ kt_ => XS.iload X2.here hx rfl (hb hby at_30) rfl kt_) ?_
      show Go _ _ _ _ _ _ _ _ T2 (mkF m 32 #[.val (.long x0), .second, .val (.long x1), .second, .val (.int x2), .val (.int (0 : Int32)), .val (.ref sA), .unset, .unset, .unset, .unset, .unset, .unset, .unset, .unset] [(.int (0 : Int32))])
      refine Go.step (fun _ kt_ => XS.ifYes X2.here hx rfl (pc0 := 32) (pc' := 41) rfl (hb hby at_32) rfl ((if0 _ _).trans (teq (by decide : (0 : Int32) = (0 : Int32))).1) (by decide) (by decide) kt_) ?_
      show Go _ _ _ _ _ _ _ _ T2 (mkF m 41 #[.val (.long x0), .second, .val (.long x1), .second, .val (.int x2), .val (.int (0 : Int32)), .val (.ref sA), .unset, .unset, .unset, .unset, .unset, .unset, .unset, .unset] [])
      obtain ⟨T3, X3, e3, st3⟩ := getS2 X2 hx hZ hown (host := "") (Or.inl (hw _ (List.mem_of_getElem? (i := 3) rfl))) Via.refl e2 (Sta.ext O0 S_B) (g := (mkF m 41 #[.val (.long x0), .second, .val (.long x1), .second, .val (.int x2), .val (.int (0 : Int32)), .val (.ref sA), .unset, .unset, .unset, .unset, .unset, .unset, .unset, .unset] [])) rfl (hb hby at_41)
      refine Go.step st3 ?_
      show Go _ _ _ _ _ _ _ _ T3 (mkF m 44 #[.val (.long x0), .second, .val (.long x1), .second, .val (.int x2), .val (.int (0 : Int32)), .val (.ref sA), .unset, .unset, .unset, .unset, .unset, .unset, .unset, .unset] [(.ref bA)])
      refine Go.step (fun _ kt_ => XS.astore X3.here hx rfl (hb hby at_44) rfl rfl (l' := #[.val (.long x0), .second, .val (.long x1), .second, .val (.int x2), .val (.int (0 : Int32)), .val (.ref sA), .val (.ref bA), .unset, .unset, .unset, .unset, .unset, .unset, .unset]) rfl kt_) ?_
      show Go _ _ _ _ _ _ _ _ T3 (mkF m 46 #[.val (.long x0), .second, .val (.long x1), .second, .val (.int x2), .val (.int (0 : Int32)), .val (.ref sA), .val (.ref bA), .unset, .unset, .unset, .unset, .unset, .unset, .unset] [])
      refine Go.step (fun _ kt_ => XS.aload X3.here hx rfl (hb hby at_46) rfl rfl kt_) ?_
      show Go _ _ _ _ _ _ _ _ T3 (mkF m 48 #[.val (.long x0), .second, .val (.long x1), .second, .val (.int x2), .val (.int (0 : Int32)), .val (.ref sA), .val (.ref bA), .unset, .unset, .unset, .unset, .unset, .unset, .unset] [(.ref sA)])
      refine Go.step (fun _ kt_ => XS.lloadN X3.here hx rfl (hb hby at_48) rfl kt_) ?_
      show Go _ _ _ _ _ _ _ _ T3 (mkF m 49 #[.val (.long x0), .second, .val (.long x1), .second, .val (.int x2), .val (.int (0 : Int32)), .val (.ref sA), .val (.ref bA), .unset, .unset, .unset, .unset, .unset, .unset, .unset] [(.long x0), (.ref sA)])
      refine Go.step (fun _ kt_ => XS.lloadN X3.here hx rfl (hb hby at_49) rfl kt_) ?_
      show Go _ _ _ _ _ _ _ _ T3 (mkF m 50 #[.val (.long x0), .second, .val (.long x1), .second, .val (.int x2), .val (.int (0 : Int32)), .val (.ref sA), .val (.ref bA), .unset, .unset, .unset, .unset, .unset, .unset, .unset] [(.long x1), (.long x0), (.ref sA)])
      obtain ⟨cq4, kq4, q4a, q4b, q4c⟩ := isOf hZ e3 (Exa.ext O0 X_S)
      obtain ⟨_, _, ⟨T4, L4, k4, n4⟩, -, X4, ⟨Lc4, hQ4, l4, y4, z4⟩, st4⟩ := X3.virtualBack hx (y := (⟨"org/matchstone/engine/Side", "better", "(JJ)Z"⟩ : MethodName)) (z := (⟨"org/matchstone/engine/Side", "better", "(JJ)Z"⟩ : MethodName)) hown (mvT hZ (hw _ (List.mem_of_getElem? (i := 5) rfl))) (mvT hZ (hw _ (List.mem_of_getElem? (i := 6) rfl))) (notFace_of_selects (args := #[]) (mvT hZ (hw _ (List.mem_of_getElem? (i := 8) rfl)))) (mvT hZ (hw _ (List.mem_of_getElem? (i := 8) rfl))) (mvT hZ (hw _ (List.mem_of_getElem? (i := 7) rfl))) (by decide) (backOf (W := 0) (rm_1 l Z a0 hw [] sA x0 x1 bA (1 : Int32) h0 O0 S_B (by simp [hne, Ne.symm hne, h1, h2, h3, h4])) hZ (hw _ (List.mem_of_getElem? (i := 9) rfl)) (hw _ (List.mem_of_getElem? (i := 1) rfl)) (by decide) (by decide)) q4a q4c (g := (mkF m 50 #[.val (.long x0), .second, .val (.long x1), .second, .val (.int x2), .val (.int (0 : Int32)), .val (.ref sA), .val (.ref bA), .unset, .unset, .unset, .unset, .unset, .unset, .unset] [(.long x1), (.long x0), (.ref sA)])) rfl (by rw [hml]; rfl) (Steps.refl _) (argsL := [(.long x0), (.long x1)]) (rest := []) (lenOf pd_LJJRZ rfl) rfl (by show 2 * 0 + _ ≤ _; exact Nat.le_of_eq rfl) (hb hby at_50) (fun _ _ => ⟨rfl, e3, (by decide : 0 + 0 ≤ _), (by decide : 0 + 0 ≤ _)⟩)
      dsimp only [Pt.U, Pt.locs, Pt.cells, Pt.slots] at X4 l4 y4 z4 st4 hQ4
      subst l4 y4 z4
      obtain ⟨rfl, Nq4, e4⟩ := hQ4
      have N4_ := Fr.app N0 Nq4
      refine Go.trans st4 ?_
      show Go _ _ _ _ _ _ _ _ T4 (mkF m 53 #[.val (.long x0), .second, .val (.long x1), .second, .val (.int x2), .val (.int (0 : Int32)), .val (.ref sA), .val (.ref bA), .unset, .unset, .unset, .unset, .unset, .unset, .unset] [(.int (1 : Int32))])
      refine Go.step (fun _ kt_ => XS.istore X4.here hx rfl (hb hby at_53) rfl (l' := #[.val (.long x0), .second, .val (.long x1), .second, .val (.int x2), .val (.int (0 : Int32)), .val (.ref sA), .val (.ref bA), .val (.int (1 : Int32)), .unset, .unset, .unset, .unset, .unset, .unset]) rfl kt_) ?_
      show Go _ _ _ _ _ _ _ _ T4 (mkF m 55 #[.val (.long x0), .second, .val (.long x1), .second, .val (.int x2), .val (.int (0 : Int32)), .val (.ref sA), .val (.ref bA), .val (.int (1 : Int32)), .unset, .unset, .unset, .unset, .unset, .unset] [])
      refine Go.step (fun _ kt_ => XS.aload X4.here hx rfl (hb hby at_55) rfl rfl kt_) ?_
      show Go _ _ _ _ _ _ _ _ T4 (mkF m 57 #[.val (.long x0), .second, .val (.long x1), .second, .val (.int x2), .val (.int (0 : Int32)), .val (.ref sA), .val (.ref bA), .val (.int (1 : Int32)), .unset, .unset, .unset, .unset, .unset, .unset] [(.ref bA)])
      refine Go.step (fun _ kt_ => XS.lloadN X4.here hx rfl (hb hby at_57) rfl kt_) ?_
      show Go _ _ _ _ _ _ _ _ T4 (mkF m 58 #[.val (.long x0), .second, .val (.long x1), .second, .val (.int x2), .val (.int (0 : Int32)), .val (.ref sA), .val (.ref bA), .val (.int (1 : Int32)), .unset, .unset, .unset, .unset, .unset, .unset] [(.long x1), (.ref bA)])
      refine Go.step (fun _ kt_ => XS.lloadN X4.here hx rfl (hb hby at_58) rfl kt_) ?_
      show Go _ _ _ _ _ _ _ _ T4 (mkF m 59 #[.val (.long x0), .second, .val (.long x1), .second, .val (.int x2), .val (.int (0 : Int32)), .val (.ref sA), .val (.ref bA), .val (.int (1 : Int32)), .unset, .unset, .unset, .unset, .unset, .unset] [(.long x0), (.long x1), (.ref bA)])
      obtain ⟨cq5, kq5, q5a, q5b, q5c⟩ := isOf hZ e4 (Exa.ext O0 X_B)
      obtain ⟨_, _, ⟨T5, L5, k5, n5⟩, -, X5, ⟨Lc5, hQ5, l5, y5, z5⟩, st5⟩ := X4.virtualBack hx (y := (⟨"org/matchstone/engine/Side", "better", "(JJ)Z"⟩ : MethodName)) (z := (⟨"org/matchstone/engine/Side", "better", "(JJ)Z"⟩ : MethodName)) hown (mvT hZ (hw _ (List.mem_of_getElem? (i := 5) rfl))) (mvT hZ (hw _ (List.mem_of_getElem? (i := 6) rfl))) (notFace_of_selects (args := #[]) (mvT hZ (hw _ (List.mem_of_getElem? (i := 8) rfl)))) (mvT hZ (hw _ (List.mem_of_getElem? (i := 8) rfl))) (mvT hZ (hw _ (List.mem_of_getElem? (i := 7) rfl))) (by decide) (backOf (W := 0) (rm_1 l Z a0 hw [] bA x1 x0 bA (1 : Int32) h0 O0 S_B (by simp [hne, Ne.symm hne, h1, h2, h3, h4])) hZ (hw _ (List.mem_of_getElem? (i := 9) rfl)) (hw _ (List.mem_of_getElem? (i := 1) rfl)) (by decide) (by decide)) q5a q5c (g := (mkF m 59 #[.val (.long x0), .second, .val (.long x1), .second, .val (.int x2), .val (.int (0 : Int32)), .val (.ref sA), .val (.ref bA), .val (.int (1 : Int32)), .unset, .unset, .unset, .unset, .unset, .unset] [(.long x0), (.long x1), (.ref bA)])) rfl (by rw [hml]; rfl) (Steps.refl _) (argsL := [(.long x1), (.long x0)]) (rest := []) (lenOf pd_LJJRZ rfl) rfl (by show 2 * 0 + _ ≤ _; exact Nat.le_of_eq rfl) (hb hby at_59) (fun _ _ => ⟨rfl, e4, (by decide : 0 + 0 ≤ _), (by decide : 0 + 0 ≤ _)⟩)
      dsimp only [Pt.U, Pt.locs, Pt.cells, Pt.slots] at X5 l5 y5 z5 st5 hQ5
      subst l5 y5 z5
      obtain ⟨rfl, Nq5, e5⟩ := hQ5
      have N5_ := Fr.app N4_ Nq5
      refine Go.trans st5 ?_
      show Go _ _ _ _ _ _ _ _ T5 (mkF m 62 #[.val (.long x0), .second, .val (.long x1), .second, .val (.int x2), .val (.int (0 : Int32)), .val (.ref sA), .val (.ref bA), .val (.int (1 : Int32)), .unset, .unset, .unset, .unset, .unset, .unset] [(.int (1 : Int32))])
      refine Go.step (fun _ kt_ => XS.istore X5.here hx rfl (hb hby at_62) rfl (l' := #[.val (.long x0), .second, .val (.long x1), .second, .val (.int x2), .val (.int (0 : Int32)), .val (.ref sA), .val (.ref bA), .val (.int (1 : Int32)), .val (.int (1 : Int32)), .unset, .unset, .unset, .unset, .unset]) rfl kt_) ?_
      show Go _ _ _ _ _ _ _ _ T5 (mkF m 64 #[.val (.long x0), .second, .val (.long x1), .second, .val (.int x2), .val (.int (0 : Int32)), .val (.ref sA), .val (.ref bA), .val (.int (1 : Int32)), .val (.int (1 : Int32)), .unset, .unset, .unset, .unset, .unset] [])
      refine Go.step (fun _ kt_ => XS.lloadN X5.here hx rfl (hb hby at_64) rfl kt_) ?_
      show Go _ _ _ _ _ _ _ _ T5 (mkF m 65 #[.val (.long x0), .second, .val (.long x1), .second, .val (.int x2), .val (.int (0 : Int32)), .val (.ref sA), .val (.ref bA), .val (.int (1 : Int32)), .val (.int (1 : Int32)), .unset, .unset, .unset, .unset, .unset] [(.long x0)])
      refine Go.step (fun _ kt_ => XS.lloadN X5.here hx rfl (hb hby at_65) rfl kt_) ?_
      show Go _ _ _ _ _ _ _ _ T5 (mkF m 66 #[.val (.long x0), .second, .val (.long x1), .second, .val (.int x2), .val (.int (0 : Int32)), .val (.ref sA), .val (.ref bA), .val (.int (1 : Int32)), .val (.int (1 : Int32)), .unset, .unset, .unset, .unset, .unset] [(.long x1), (.long x0)])
      obtain ⟨_, _, ⟨T6, L6, k6, n6⟩, -, X6, ⟨Lc6, hQ6, l6, y6, z6⟩, st6⟩ := Jvm.LawKit.callS X5 hx (y := (⟨"java/lang/Math", "max", "(JJ)J"⟩ : MethodName)) hown (mvT hZ (hw _ (List.mem_of_getElem? (i := 11) rfl))) (mvT hZ (hw _ (List.mem_of_getElem? (i := 12) rfl))) (mvT hZ (hw _ (List.mem_of_getElem? (i := 13) rfl))) (mvT hZ (hw _ (List.mem_of_getElem? (i := 14) rfl))) (by decide) (backOf (W := 0) (rm_2 l Z a0 hw [] x0 x1 x1 h0 O0 (by simp [hne, Ne.symm hne, h1, h2, h3, h4])) hZ (hw _ (List.mem_of_getElem? (i := 14) rfl)) (hw _ (List.mem_of_getElem? (i := 13) rfl)) (by decide) (by decide)) (g := (mkF m 66 #[.val (.long x0), .second, .val (.long x1), .second, .val (.int x2), .val (.int (0 : Int32)), .val (.ref sA), .val (.ref bA), .val (.int (1 : Int32)), .val (.int (1 : Int32)), .unset, .unset, .unset, .unset, .unset] [(.long x1), (.long x0)])) rfl (by rw [hml]; rfl) (argsL := [(.long x0), (.long x1)]) (rest := []) (lenOf pd_LJJRJ rfl) rfl (by show 2 * 0 + _ ≤ _; exact Nat.le_of_eq rfl) (hb hby at_66) (fun _ _ => ⟨rfl, e5, (by decide : 0 + 0 ≤ _), (by decide : 0 + 0 ≤ _)⟩)
      dsimp only [Pt.U, Pt.locs, Pt.cells, Pt.slots] at X6 l6 y6 z6 st6 hQ6
      subst l6 y6 z6
      obtain ⟨rfl, Nq6, e6⟩ := hQ6
      have N6_ := Fr.app N5_ Nq6
      refine Go.step st6 ?_
      show Go _ _ _ _ _ _ _ _ T6 (mkF m 69 #[.val (.long x0), .second, .val (.long x1), .second, .val (.int x2), .val (.int (0 : Int32)), .val (.ref sA), .val (.ref bA), .val (.int (1 : Int32)), .val (.int (1 : Int32)), .unset, .unset, .unset, .unset, .unset] [(.long x1)])
      refine Go.step (fun _ kt_ => XS.lstore X6.here hx rfl (hb hby at_69) rfl (l' := #[.val (.long x0), .second, .val (.long x1), .second, .val (.int x2), .val (.int (0 : Int32)), .val (.ref sA), .val (.ref bA), .val (.int (1 : Int32)), .val (.int (1 : Int32)), .val (.long x1), .second, .unset, .unset, .unset]) rfl kt_) ?_
      show Go _ _ _ _ _ _ _ _ T6 (mkF m 71 #[.val (.long x0), .second, .val (.long x1), .second, .val (.int x2), .val (.int (0 : Int32)), .val (.ref sA), .val (.ref bA), .val (.int (1 : Int32)), .val (.int (1 : Int32)), .val (.long x1), .second, .unset, .unset, .unset] [])
      refine Go.step (fun _ kt_ => XS.lloadN X6.here hx rfl (hb hby at_71) rfl kt_) ?_
      show Go _ _ _ _ _ _ _ _ T6 (mkF m 72 #[.val (.long x0), .second, .val (.long x1), .second, .val (.int x2), .val (.int (0 : Int32)), .val (.ref sA), .val (.ref bA), .val (.int (1 : Int32)), .val (.int (1 : Int32)), .val (.long x1), .second, .unset, .unset, .unset] [(.long x0)])
      refine Go.step (fun _ kt_ => XS.lloadN X6.here hx rfl (hb hby at_72) rfl kt_) ?_
      show Go _ _ _ _ _ _ _ _ T6 (mkF m 73 #[.val (.long x0), .second, .val (.long x1), .second, .val (.int x2), .val (.int (0 : Int32)), .val (.ref sA), .val (.ref bA), .val (.int (1 : Int32)), .val (.int (1 : Int32)), .val (.long x1), .second, .unset, .unset, .unset] [(.long x1), (.long x0)])
      obtain ⟨_, _, ⟨T7, L7, k7, n7⟩, -, X7, ⟨Lc7, hQ7, l7, y7, z7⟩, st7⟩ := Jvm.LawKit.callS X6 hx (y := (⟨"java/lang/Math", "min", "(JJ)J"⟩ : MethodName)) hown (mvT hZ (hw _ (List.mem_of_getElem? (i := 15) rfl))) (mvT hZ (hw _ (List.mem_of_getElem? (i := 16) rfl))) (mvT hZ (hw _ (List.mem_of_getElem? (i := 13) rfl))) (mvT hZ (hw _ (List.mem_of_getElem? (i := 17) rfl))) (by decide) (backOf (W := 0) (rm_3 l Z a0 hw [] x0 x1 x0 h0 O0 (by simp [hne, Ne.symm hne, h1, h2, h3, h4])) hZ (hw _ (List.mem_of_getElem? (i := 17) rfl)) (hw _ (List.mem_of_getElem? (i := 13) rfl)) (by decide) (by decide)) (g := (mkF m 73 #[.val (.long x0), .second, .val (.long x1), .second, .val (.int x2), .val (.int (0 : Int32)), .val (.ref sA), .val (.ref bA), .val (.int (1 : Int32)), .val (.int (1 : Int32)), .val (.long x1), .second, .unset, .unset, .unset] [(.long x1), (.long x0)])) rfl (by rw [hml]; rfl) (argsL := [(.long x0), (.long x1)]) (rest := []) (lenOf pd_LJJRJ rfl) rfl (by show 2 * 0 + _ ≤ _; exact Nat.le_of_eq rfl) (hb hby at_73) (fun _ _ => ⟨rfl, e6, (by decide : 0 + 0 ≤ _), (by decide : 0 + 0 ≤ _)⟩)
      dsimp only [Pt.U, Pt.locs, Pt.cells, Pt.slots] at X7 l7 y7 z7 st7 hQ7
      subst l7 y7 z7
      obtain ⟨rfl, Nq7, e7⟩ := hQ7
      have N7_ := Fr.app N6_ Nq7
      refine Go.step st7 ?_
      show Go _ _ _ _ _ _ _ _ T7 (mkF m 76 #[.val (.long x0), .second, .val (.long x1), .second, .val (.int x2), .val (.int (0 : Int32)), .val (.ref sA), .val (.ref bA), .val (.int (1 : Int32)), .val (.int (1 : Int32)), .val (.long x1), .second, .unset, .unset, .unset] [(.long x0)])
      refine Go.step (fun _ kt_ => XS.lstore X7.here hx rfl (hb hby at_76) rfl (l' := #[.val (.long x0), .second, .val (.long x1), .second, .val (.int x2), .val (.int (0 : Int32)), .val (.ref sA), .val (.ref bA), .val (.int (1 : Int32)), .val (.int (1 : Int32)), .val (.long x1), .second, .val (.long x0), .second, .unset]) rfl kt_) ?_
      show Go _ _ _ _ _ _ _ _ T7 (mkF m 78 #[.val (.long x0), .second, .val (.long x1), .second, .val (.int x2), .val (.int (0 : Int32)), .val (.ref sA), .val (.ref bA), .val (.int (1 : Int32)), .val (.int (1 : Int32)), .val (.long x1), .second, .val (.long x0), .second, .unset] [])
      refine Go.step (fun _ kt_ => XS.iload X7.here hx rfl (hb hby at_78) rfl kt_) ?_
      show Go _ _ _ _ _ _ _ _ T7 (mkF m 80 #[.val (.long x0), .second, .val (.long x1), .second, .val (.int x2), .val (.int (0 : Int32)), .val (.ref sA), .val (.ref bA), .val (.int (1 : Int32)), .val (.int (1 : Int32)), .val (.long x1), .second, .val (.long x0), .second, .unset] [(.int (0 : Int32))])
      refine Go.step (fun _ kt_ => XS.ifYes X7.here hx rfl (pc0 := 80) (pc' := 106) rfl (hb hby at_80) rfl ((if0 _ _).trans (teq (by decide : (0 : Int32) = (0 : Int32))).1) (by decide) (by decide) kt_) ?_
      show Go _ _ _ _ _ _ _ _ T7 (mkF m 106 #[.val (.long x0), .second, .val (.long x1), .second, .val (.int x2), .val (.int (0 : Int32)), .val (.ref sA), .val (.ref bA), .val (.int (1 : Int32)), .val (.int (1 : Int32)), .val (.long x1), .second, .val (.long x0), .second, .unset] [])
      refine Go.step (fun _ kt_ => XS.lloadN X7.here hx rfl (hb hby at_106) rfl kt_) ?_
      show Go _ _ _ _ _ _ _ _ T7 (mkF m 107 #[.val (.long x0), .second, .val (.long x1), .second, .val (.int x2), .val (.int (0 : Int32)), .val (.ref sA), .val (.ref bA), .val (.int (1 : Int32)), .val (.int (1 : Int32)), .val (.long x1), .second, .val (.long x0), .second, .unset] [(.long x0)])
      refine Go.step (fun _ kt_ => XS.lloadN X7.here hx rfl (hb hby at_107) rfl kt_) ?_
      show Go _ _ _ _ _ _ _ _ T7 (mkF m 108 #[.val (.long x0), .second, .val (.long x1), .second, .val (.int x2), .val (.int (0 : Int32)), .val (.ref sA), .val (.ref bA), .val (.int (1 : Int32)), .val (.int (1 : Int32)), .val (.long x1), .second, .val (.long x0), .second, .unset] [(.long x1), (.long x0)])
      refine Go.step (fun _ kt_ => XS.lcmp X7.here hx rfl (hb hby at_108) rfl kt_) ?_
      show Go _ _ _ _ _ _ _ _ T7 (mkF m 109 #[.val (.long x0), .second, .val (.long x1), .second, .val (.int x2), .val (.int (0 : Int32)), .val (.ref sA), .val (.ref bA), .val (.int (1 : Int32)), .val (.int (1 : Int32)), .val (.long x1), .second, .val (.long x0), .second, .unset] [(.int (lcmpW x0 x1))])
      refine Go.step (fun _ kt_ => XS.ifNo X7.here hx rfl (hb hby at_109) rfl ((if0 _ _).trans (feq (fun q => h3 ((lw_eq _ _).mp q))).1) kt_) ?_
      show Go _ _ _ _ _ _ _ _ T7 (mkF m 112 #[.val (.long x0), .second, .val (.long x1), .second, .val (.int x2), .val (.int (0 : Int32)), .val (.ref sA), .val (.ref bA), .val (.int (1 : Int32)), .val (.int (1 : Int32)), .val (.long x1), .second, .val (.long x0), .second, .unset] [])
      refine Go.step (fun _ kt_ => XS.lloadN X7.here hx rfl (hb hby at_112) rfl kt_) ?_
      show Go _ _ _ _ _ _ _ _ T7 (mkF m 113 #[.val (.long x0), .second, .val (.long x1), .second, .val (.int x2), .val (.int (0 : Int32)), .val (.ref sA), .val (.ref bA), .val (.int (1 : Int32)), .val (.int (1 : Int32)), .val (.long x1), .second, .val (.long x0), .second, .unset] [(.long x0)])
      refine Go.step (fun _ kt_ => XS.lload X7.here hx rfl (hb hby at_113) rfl kt_) ?_
      show Go _ _ _ _ _ _ _ _ T7 (mkF m 115 #[.val (.long x0), .second, .val (.long x1), .second, .val (.int x2), .val (.int (0 : Int32)), .val (.ref sA), .val (.ref bA), .val (.int (1 : Int32)), .val (.int (1 : Int32)), .val (.long x1), .second, .val (.long x0), .second, .unset] [(.long x0), (.long x0)])
      refine Go.step (fun _ kt_ => XS.lcmp X7.here hx rfl (hb hby at_115) rfl kt_) ?_
      show Go _ _ _ _ _ _ _ _ T7 (mkF m 116 #[.val (.long x0), .second, .val (.long x1), .second, .val (.int x2), .val (.int (0 : Int32)), .val (.ref sA), .val (.ref bA), .val (.int (1 : Int32)), .val (.int (1 : Int32)), .val (.long x1), .second, .val (.long x0), .second, .unset] [(.int (lcmpW x0 x0))])
      refine Go.step (fun _ kt_ => XS.ifNo X7.here hx rfl (hb hby at_116) rfl ((if0 _ _).trans (teq ((lw_eq _ _).mpr rfl)).2) kt_) ?_
      show Go _ _ _ _ _ _ _ _ T7 (mkF m 119 #[.val (.long x0), .second, .val (.long x1), .second, .val (.int x2), .val (.int (0 : Int32)), .val (.ref sA), .val (.ref bA), .val (.int (1 : Int32)), .val (.int (1 : Int32)), .val (.long x1), .second, .val (.long x0), .second, .unset] [])
      refine Go.step (fun _ kt_ => XS.iconst X7.here hx rfl (hb hby at_119)  kt_) ?_
      show Go _ _ _ _ _ _ _ _ T7 (mkF m 120 #[.val (.long x0), .second, .val (.long x1), .second, .val (.int x2), .val (.int (0 : Int32)), .val (.ref sA), .val (.ref bA), .val (.int (1 : Int32)), .val (.int (1 : Int32)), .val (.long x1), .second, .val (.long x0), .second, .unset] [(.int (1 : Int32))])
      refine Go.step (fun _ kt_ => XS.goto X7.here hx rfl (pc0 := 120) (pc' := 124) rfl (hb hby at_120) (by decide) (by decide) kt_) ?_
      show Go _ _ _ _ _ _ _ _ T7 (mkF m 124 #[.val (.long x0), .second, .val (.long x1), .second, .val (.int x2), .val (.int (0 : Int32)), .val (.ref sA), .val (.ref bA), .val (.int (1 : Int32)), .val (.int (1 : Int32)), .val (.long x1), .second, .val (.long x0), .second, .unset] [(.int (1 : Int32))])
      refine Go.step (fun _ kt_ => XS.istore X7.here hx rfl (hb hby at_124) rfl (l' := #[.val (.long x0), .second, .val (.long x1), .second, .val (.int x2), .val (.int (0 : Int32)), .val (.ref sA), .val (.ref bA), .val (.int (1 : Int32)), .val (.int (1 : Int32)), .val (.long x1), .second, .val (.long x0), .second, .val (.int (1 : Int32))]) rfl kt_) ?_
      show Go _ _ _ _ _ _ _ _ T7 (mkF m 126 #[.val (.long x0), .second, .val (.long x1), .second, .val (.int x2), .val (.int (0 : Int32)), .val (.ref sA), .val (.ref bA), .val (.int (1 : Int32)), .val (.int (1 : Int32)), .val (.long x1), .second, .val (.long x0), .second, .val (.int (1 : Int32))] [])
      refine Go.step (fun _ kt_ => XS.iload X7.here hx rfl (hb hby at_126) rfl kt_) ?_
      show Go _ _ _ _ _ _ _ _ T7 (mkF m 128 #[.val (.long x0), .second, .val (.long x1), .second, .val (.int x2), .val (.int (0 : Int32)), .val (.ref sA), .val (.ref bA), .val (.int (1 : Int32)), .val (.int (1 : Int32)), .val (.long x1), .second, .val (.long x0), .second, .val (.int (1 : Int32))] [(.int (1 : Int32))])
      refine Go.step (fun _ kt_ => XS.iload X7.here hx rfl (hb hby at_128) rfl kt_) ?_
      show Go _ _ _ _ _ _ _ _ T7 (mkF m 130 #[.val (.long x0), .second, .val (.long x1), .second, .val (.int x2), .val (.int (0 : Int32)), .val (.ref sA), .val (.ref bA), .val (.int (1 : Int32)), .val (.int (1 : Int32)), .val (.long x1), .second, .val (.long x0), .second, .val (.int (1 : Int32))] [(.int (1 : Int32)), (.int (1 : Int32))])
      refine Go.step (fun _ kt_ => XS.icmpNo X7.here hx rfl (hb hby at_130) rfl (teq (by decide : (1 : Int32) = (1 : Int32))).2 kt_) ?_
      show Go _ _ _ _ _ _ _ _ T7 (mkF m 133 #[.val (.long x0), .second, .val (.long x1), .second, .val (.int x2), .val (.int (0 : Int32)), .val (.ref sA), .val (.ref bA), .val (.int (1 : Int32)), .val (.int (1 : Int32)), .val (.long x1), .second, .val (.long x0), .second, .val (.int (1 : Int32))] [])
      refine Go.step (fun _ kt_ => XS.iload X7.here hx rfl (hb hby at_133) rfl kt_) ?_
      show Go _ _ _ _ _ _ _ _ T7 (mkF m 135 #[.val (.long x0), .second, .val (.long x1), .second, .val (.int x2), .val (.int (0 : Int32)), .val (.ref sA), .val (.ref bA), .val (.int (1 : Int32)), .val (.int (1 : Int32)), .val (.long x1), .second, .val (.long x0), .second, .val (.int (1 : Int32))] [(.int (1 : Int32))])
      refine Go.step (fun _ kt_ => XS.iload X7.here hx rfl (hb hby at_135) rfl kt_) ?_
      show Go _ _ _ _ _ _ _ _ T7 (mkF m 137 #[.val (.long x0), .second, .val (.long x1), .second, .val (.int x2), .val (.int (0 : Int32)), .val (.ref sA), .val (.ref bA), .val (.int (1 : Int32)), .val (.int (1 : Int32)), .val (.long x1), .second, .val (.long x0), .second, .val (.int (1 : Int32))] [(.int (1 : Int32)), (.int (1 : Int32))])
      refine Go.step (fun _ kt_ => XS.icmpNo X7.here hx rfl (hb hby at_137) rfl (teq (by decide : (1 : Int32) = (1 : Int32))).2 kt_) ?_
      show Go _ _ _ _ _ _ _ _ T7 (mkF m 140 #[.val (.long x0), .second, .val (.long x1), .second, .val (.int x2), .val (.int (0 : Int32)), .val (.ref sA), .val (.ref bA), .val (.int (1 : Int32)), .val (.int (1 : Int32)), .val (.long x1), .second, .val (.long x0), .second, .val (.int (1 : Int32))] [])
      refine Go.step (fun _ kt_ => XS.iconst X7.here hx rfl (hb hby at_140)  kt_) ?_
      show Go _ _ _ _ _ _ _ _ T7 (mkF m 141 #[.val (.long x0), .second, .val (.long x1), .second, .val (.int x2), .val (.int (0 : Int32)), .val (.ref sA), .val (.ref bA), .val (.int (1 : Int32)), .val (.int (1 : Int32)), .val (.long x1), .second, .val (.long x0), .second, .val (.int (1 : Int32))] [(.int (1 : Int32))])
      refine Go.step (fun _ kt_ => XS.goto X7.here hx rfl (pc0 := 141) (pc' := 145) rfl (hb hby at_141) (by decide) (by decide) kt_) ?_
      show Go _ _ _ _ _ _ _ _ T7 (mkF m 145 #[.val (.long x0), .second, .val (.long x1), .second, .val (.int x2), .val (.int (0 : Int32)), .val (.ref sA), .val (.ref bA), .val (.int (1 : Int32)), .val (.int (1 : Int32)), .val (.long x1), .second, .val (.long x0), .second, .val (.int (1 : Int32))] [(.int (1 : Int32))])
      exact Go.retN X7 hx (t := .boolean) Bd.returns (by simp) hlk (hb hby at_145) (by decide) (by decide) (by show _ ∧ _ ∧ _; rw [e7]; exact ⟨rfl, N7_, rfl⟩)
    · refine Go.step (fun _ kt_ => XS.ifNo X0.here hx rfl (hb hby at_4) rfl ((if0 _ _).trans (feq hc4_1).1) kt_) ?_
      show Go _ _ _ _ _ _ _ _ s₁ (mkF m 7 #[.val (.long x0), .second, .val (.long x1), .second, .val (.int x2), .unset, .unset, .unset, .unset, .unset, .unset, .unset, .unset, .unset, .unset] [])
      refine Go.step (fun _ kt_ => XS.iconst X0.here hx rfl (hb hby at_7)  kt_) ?_
      show Go _ _ _ _ _ _ _ _ s₁ (mkF m 8 #[.val (.long x0), .second, .val (.long x1), .second, .val (.int x2), .unset, .unset, .unset, .unset, .unset, .unset, .unset, .unset, .unset, .unset] [(.int (1 : Int32))])
      refine Go.step (fun _ kt_ => XS.goto X0.here hx rfl (pc0 := 8) (pc' := 12) rfl (hb hby at_8) (by decide) (by decide) kt_) ?_
      show Go _ _ _ _ _ _ _ _ s₁ (mkF m 12 #[.val (.long x0), .second, .val (.long x1), .second, .val (.int x2), .unset, .unset, .unset, .unset, .unset, .unset, .unset, .unset, .unset, .unset] [(.int (1 : Int32))])
      refine Go.step (fun _ kt_ => XS.istore X0.here hx rfl (hb hby at_12) rfl (l' := #[.val (.long x0), .second, .val (.long x1), .second, .val (.int x2), .val (.int (1 : Int32)), .unset, .unset, .unset, .unset, .unset, .unset, .unset, .unset, .unset]) rfl kt_) ?_
      show Go _ _ _ _ _ _ _ _ s₁ (mkF m 14 #[.val (.long x0), .second, .val (.long x1), .second, .val (.int x2), .val (.int (1 : Int32)), .unset, .unset, .unset, .unset, .unset, .unset, .unset, .unset, .unset] [])
      refine Go.step (fun _ kt_ => XS.iload X0.here hx rfl (hb hby at_14) rfl kt_) ?_
      show Go _ _ _ _ _ _ _ _ s₁ (mkF m 16 #[.val (.long x0), .second, .val (.long x1), .second, .val (.int x2), .val (.int (1 : Int32)), .unset, .unset, .unset, .unset, .unset, .unset, .unset, .unset, .unset] [(.int (1 : Int32))])
      refine Go.step (fun _ kt_ => XS.ifNo X0.here hx rfl (hb hby at_16) rfl ((if0 _ _).trans (feq (by decide : ¬ ((1 : Int32) = (0 : Int32)))).1) kt_) ?_
      show Go _ _ _ _ _ _ _ _ s₁ (mkF m 19 #[.val (.long x0), .second, .val (.long x1), .second, .val (.int x2), .val (.int (1 : Int32)), .unset, .unset, .unset, .unset, .unset, .unset, .unset, .unset, .unset] [])
      obtain ⟨T8, X8, e8, st8⟩ := getS2 X0 hx hZ hown (host := "") (Or.inl (hw _ (List.mem_of_getElem? (i := 3) rfl))) Via.refl e0 (Sta.ext O0 S_B) (g := (mkF m 19 #[.val (.long x0), .second, .val (.long x1), .second, .val (.int x2), .val (.int (1 : Int32)), .unset, .unset, .unset, .unset, .unset, .unset, .unset, .unset, .unset] [])) rfl (hb hby at_19)
      refine Go.step st8 ?_
      show Go _ _ _ _ _ _ _ _ T8 (mkF m 22 #[.val (.long x0), .second, .val (.long x1), .second, .val (.int x2), .val (.int (1 : Int32)), .unset, .unset, .unset, .unset, .unset, .unset, .unset, .unset, .unset] [(.ref bA)])
      refine Go.step (fun _ kt_ => XS.goto X8.here hx rfl (pc0 := 22) (pc' := 28) rfl (hb hby at_22) (by decide) (by decide) kt_) ?_
      show Go _ _ _ _ _ _ _ _ T8 (mkF m 28 #[.val (.long x0), .second, .val (.long x1), .second, .val (.int x2), .val (.int (1 : Int32)), .unset, .unset, .unset, .unset, .unset, .unset, .unset, .unset, .unset] [(.ref bA)])
      refine Go.step (fun _ kt_ => XS.astore X8.here hx rfl (hb hby at_28) rfl rfl (l' := #[.val (.long x0), .second, .val (.long x1), .second, .val (.int x2), .val (.int (1 : Int32)), .val (.ref bA), .unset, .unset, .unset, .unset, .unset, .unset, .unset, .unset]) rfl kt_) ?_
      show Go _ _ _ _ _ _ _ _ T8 (mkF m 30 #[.val (.long x0), .second, .val (.long x1), .second, .val (.int x2), .val (.int (1 : Int32)), .val (.ref bA), .unset, .unset, .unset, .unset, .unset, .unset, .unset, .unset] [])
      refine Go.step (fun _ kt_ => XS.iload X8.here hx rfl (hb hby at_30) rfl kt_) ?_
      show Go _ _ _ _ _ _ _ _ T8 (mkF m 32 #[.val (.long x0), .second, .val (.long x1), .second, .val (.int x2), .val (.int (1 : Int32)), .val (.ref bA), .unset, .unset, .unset, .unset, .unset, .unset, .unset, .unset] [(.int (1 : Int32))])
      refine Go.step (fun _ kt_ => XS.ifNo X8.here hx rfl (hb hby at_32) rfl ((if0 _ _).trans (feq (by decide : ¬ ((1 : Int32) = (0 : Int32)))).1) kt_) ?_
      show Go _ _ _ _ _ _ _ _ T8 (mkF m 35 #[.val (.long x0), .second, .val (.long x1), .second, .val (.int x2), .val (.int (1 : Int32)), .val (.ref bA), .unset, .unset, .unset, .unset, .unset, .unset, .unset, .unset] [])
      obtain ⟨T9, X9, e9, st9⟩ := getS2 X8 hx hZ hown (host := "") (Or.inl (hw _ (List.mem_of_getElem? (i := 0) rfl))) Via.refl e8 (Sta.ext O0 S_S) (g := (mkF m 35 #[.val (.long x0), .second, .val (.long x1), .second, .val (.int x2), .val (.int (1 : Int32)), .val (.ref bA), .unset, .unset, .unset, .unset, .unset, .unset, .unset, .unset] [])) rfl (hb hby at_35)
      refine Go.step st9 ?_
      show Go _ _ _ _ _ _ _ _ T9 (mkF m 38 #[.val (.long x0), .second, .val (.long x1), .second, .val (.int x2), .val (.int (1 : Int32)), .val (.ref bA), .unset, .unset, .unset, .unset, .unset, .unset, .unset, .unset] [(.ref sA)])
      refine Go.step (fun _ kt_ => XS.goto X9.here hx rfl (pc0 := 38) (pc' := 44) rfl (hb hby at_38) (by decide) (by decide) kt_) ?_
      show Go _ _ _ _ _ _ _ _ T9 (mkF m 44 #[.val (.long x0), .second, .val (.long x1), .second, .val (.int x2), .val (.int (1 : Int32)), .val (.ref bA), .unset, .unset, .unset, .unset, .unset, .unset, .unset, .unset] [(.ref sA)])
      refine Go.step (fun _ kt_ => XS.astore X9.here hx rfl (hb hby at_44) rfl rfl (l' := #[.val (.long x0), .second, .val (.long x1), .second, .val (.int x2), .val (.int (1 : Int32)), .val (.ref bA), .val (.ref sA), .unset, .unset, .unset, .unset, .unset, .unset, .unset]) rfl kt_) ?_
      show Go _ _ _ _ _ _ _ _ T9 (mkF m 46 #[.val (.long x0), .second, .val (.long x1), .second, .val (.int x2), .val (.int (1 : Int32)), .val (.ref bA), .val (.ref sA), .unset, .unset, .unset, .unset, .unset, .unset, .unset] [])
      refine Go.step (fun _ kt_ => XS.aload X9.here hx rfl (hb hby at_46) rfl rfl kt_) ?_
      show Go _ _ _ _ _ _ _ _ T9 (mkF m 48 #[.val (.long x0), .second, .val (.long x1), .second, .val (.int x2), .val (.int (1 : Int32)), .val (.ref bA), .val (.ref sA), .unset, .unset, .unset, .unset, .unset, .unset, .unset] [(.ref bA)])
      refine Go.step (fun _ kt_ => XS.lloadN X9.here hx rfl (hb hby at_48) rfl kt_) ?_
      show Go _ _ _ _ _ _ _ _ T9 (mkF m 49 #[.val (.long x0), .second, .val (.long x1), .second, .val (.int x2), .val (.int (1 : Int32)), .val (.ref bA), .val (.ref sA), .unset, .unset, .unset, .unset, .unset, .unset, .unset] [(.long x0), (.ref bA)])
      refine Go.step (fun _ kt_ => XS.lloadN X9.here hx rfl (hb hby at_49) rfl kt_) ?_
      show Go _ _ _ _ _ _ _ _ T9 (mkF m 50 #[.val (.long x0), .second, .val (.long x1), .second, .val (.int x2), .val (.int (1 : Int32)), .val (.ref bA), .val (.ref sA), .unset, .unset, .unset, .unset, .unset, .unset, .unset] [(.long x1), (.long x0), (.ref bA)])
      obtain ⟨cq10, kq10, q10a, q10b, q10c⟩ := isOf hZ e9 (Exa.ext O0 X_B)
      obtain ⟨_, _, ⟨T10, L10, k10, n10⟩, -, X10, ⟨Lc10, hQ10, l10, y10, z10⟩, st10⟩ := X9.virtualBack hx (y := (⟨"org/matchstone/engine/Side", "better", "(JJ)Z"⟩ : MethodName)) (z := (⟨"org/matchstone/engine/Side", "better", "(JJ)Z"⟩ : MethodName)) hown (mvT hZ (hw _ (List.mem_of_getElem? (i := 5) rfl))) (mvT hZ (hw _ (List.mem_of_getElem? (i := 6) rfl))) (notFace_of_selects (args := #[]) (mvT hZ (hw _ (List.mem_of_getElem? (i := 8) rfl)))) (mvT hZ (hw _ (List.mem_of_getElem? (i := 8) rfl))) (mvT hZ (hw _ (List.mem_of_getElem? (i := 7) rfl))) (by decide) (backOf (W := 0) (rm_1 l Z a0 hw [] bA x0 x1 bA (0 : Int32) h0 O0 S_B (by simp [hne, Ne.symm hne, h1, h2, h3, h4])) hZ (hw _ (List.mem_of_getElem? (i := 9) rfl)) (hw _ (List.mem_of_getElem? (i := 1) rfl)) (by decide) (by decide)) q10a q10c (g := (mkF m 50 #[.val (.long x0), .second, .val (.long x1), .second, .val (.int x2), .val (.int (1 : Int32)), .val (.ref bA), .val (.ref sA), .unset, .unset, .unset, .unset, .unset, .unset, .unset] [(.long x1), (.long x0), (.ref bA)])) rfl (by rw [hml]; rfl) (Steps.refl _) (argsL := [(.long x0), (.long x1)]) (rest := []) (lenOf pd_LJJRZ rfl) rfl (by show 2 * 0 + _ ≤ _; exact Nat.le_of_eq rfl) (hb hby at_50) (fun _ _ => ⟨rfl, e9, (by decide : 0 + 0 ≤ _), (by decide : 0 + 0 ≤ _)⟩)
      dsimp only [Pt.U, Pt.locs, Pt.cells, Pt.slots] at X10 l10 y10 z10 st10 hQ10
      subst l10 y10 z10
      obtain ⟨rfl, Nq10, e10⟩ := hQ10
      have N10_ := Fr.app N0 Nq10
      refine Go.trans st10 ?_
      show Go _ _ _ _ _ _ _ _ T10 (mkF m 53 #[.val (.long x0), .second, .val (.long x1), .second, .val (.int x2), .val (.int (1 : Int32)), .val (.ref bA), .val (.ref sA), .unset, .unset, .unset, .unset, .unset, .unset, .unset] [(.int (0 : Int32))])
      refine Go.step (fun _ kt_ => XS.istore X10.here hx rfl (hb hby at_53) rfl (l' := #[.val (.long x0), .second, .val (.long x1), .second, .val (.int x2), .val (.int (1 : Int32)), .val (.ref bA), .val (.ref sA), .val (.int (0 : Int32)), .unset, .unset, .unset, .unset, .unset, .unset]) rfl kt_) ?_
      show Go _ _ _ _ _ _ _ _ T10 (mkF m 55 #[.val (.long x0), .second, .val (.long x1), .second, .val (.int x2), .val (.int (1 : Int32)), .val (.ref bA), .val (.ref sA), .val (.int (0 : Int32)), .unset, .unset, .unset, .unset, .unset, .unset] [])
      refine Go.step (fun _ kt_ => XS.aload X10.here hx rfl (hb hby at_55) rfl rfl kt_) ?_
      show Go _ _ _ _ _ _ _ _ T10 (mkF m 57 #[.val (.long x0), .second, .val (.long x1), .second, .val (.int x2), .val (.int (1 : Int32)), .val (.ref bA), .val (.ref sA), .val (.int (0 : Int32)), .unset, .unset, .unset, .unset, .unset, .unset] [(.ref sA)])
      refine Go.step (fun _ kt_ => XS.lloadN X10.here hx rfl (hb hby at_57) rfl kt_) ?_
      show Go _ _ _ _ _ _ _ _ T10 (mkF m 58 #[.val (.long x0), .second, .val (.long x1), .second, .val (.int x2), .val (.int (1 : Int32)), .val (.ref bA), .val (.ref sA), .val (.int (0 : Int32)), .unset, .unset, .unset, .unset, .unset, .unset] [(.long x1), (.ref sA)])
      refine Go.step (fun _ kt_ => XS.lloadN X10.here hx rfl (hb hby at_58) rfl kt_) ?_
      show Go _ _ _ _ _ _ _ _ T10 (mkF m 59 #[.val (.long x0), .second, .val (.long x1), .second, .val (.int x2), .val (.int (1 : Int32)), .val (.ref bA), .val (.ref sA), .val (.int (0 : Int32)), .unset, .unset, .unset, .unset, .unset, .unset] [(.long x0), (.long x1), (.ref sA)])
      obtain ⟨cq11, kq11, q11a, q11b, q11c⟩ := isOf hZ e10 (Exa.ext O0 X_S)
      obtain ⟨_, _, ⟨T11, L11, k11, n11⟩, -, X11, ⟨Lc11, hQ11, l11, y11, z11⟩, st11⟩ := X10.virtualBack hx (y := (⟨"org/matchstone/engine/Side", "better", "(JJ)Z"⟩ : MethodName)) (z := (⟨"org/matchstone/engine/Side", "better", "(JJ)Z"⟩ : MethodName)) hown (mvT hZ (hw _ (List.mem_of_getElem? (i := 5) rfl))) (mvT hZ (hw _ (List.mem_of_getElem? (i := 6) rfl))) (notFace_of_selects (args := #[]) (mvT hZ (hw _ (List.mem_of_getElem? (i := 8) rfl)))) (mvT hZ (hw _ (List.mem_of_getElem? (i := 8) rfl))) (mvT hZ (hw _ (List.mem_of_getElem? (i := 7) rfl))) (by decide) (backOf (W := 0) (rm_1 l Z a0 hw [] sA x1 x0 bA (0 : Int32) h0 O0 S_B (by simp [hne, Ne.symm hne, h1, h2, h3, h4])) hZ (hw _ (List.mem_of_getElem? (i := 9) rfl)) (hw _ (List.mem_of_getElem? (i := 1) rfl)) (by decide) (by decide)) q11a q11c (g := (mkF m 59 #[.val (.long x0), .second, .val (.long x1), .second, .val (.int x2), .val (.int (1 : Int32)), .val (.ref bA), .val (.ref sA), .val (.int (0 : Int32)), .unset, .unset, .unset, .unset, .unset, .unset] [(.long x0), (.long x1), (.ref sA)])) rfl (by rw [hml]; rfl) (Steps.refl _) (argsL := [(.long x1), (.long x0)]) (rest := []) (lenOf pd_LJJRZ rfl) rfl (by show 2 * 0 + _ ≤ _; exact Nat.le_of_eq rfl) (hb hby at_59) (fun _ _ => ⟨rfl, e10, (by decide : 0 + 0 ≤ _), (by decide : 0 + 0 ≤ _)⟩)
      dsimp only [Pt.U, Pt.locs, Pt.cells, Pt.slots] at X11 l11 y11 z11 st11 hQ11
      subst l11 y11 z11
      obtain ⟨rfl, Nq11, e11⟩ := hQ11
      have N11_ := Fr.app N10_ Nq11
      refine Go.trans st11 ?_
      show Go _ _ _ _ _ _ _ _ T11 (mkF m 62 #[.val (.long x0), .second, .val (.long x1), .second, .val (.int x2), .val (.int (1 : Int32)), .val (.ref bA), .val (.ref sA), .val (.int (0 : Int32)), .unset, .unset, .unset, .unset, .unset, .unset] [(.int (0 : Int32))])
      refine Go.step (fun _ kt_ => XS.istore X11.here hx rfl (hb hby at_62) rfl (l' := #[.val (.long x0), .second, .val (.long x1), .second, .val (.int x2), .val (.int (1 : Int32)), .val (.ref bA), .val (.ref sA), .val (.int (0 : Int32)), .val (.int (0 : Int32)), .unset, .unset, .unset, .unset, .unset]) rfl kt_) ?_
      show Go _ _ _ _ _ _ _ _ T11 (mkF m 64 #[.val (.long x0), .second, .val (.long x1), .second, .val (.int x2), .val (.int (1 : Int32)), .val (.ref bA), .val (.ref sA), .val (.int (0 : Int32)), .val (.int (0 : Int32)), .unset, .unset, .unset, .unset, .unset] [])
      refine Go.step (fun _ kt_ => XS.lloadN X11.here hx rfl (hb hby at_64) rfl kt_) ?_
      show Go _ _ _ _ _ _ _ _ T11 (mkF m 65 #[.val (.long x0), .second, .val (.long x1), .second, .val (.int x2), .val (.int (1 : Int32)), .val (.ref bA), .val (.ref sA), .val (.int (0 : Int32)), .val (.int (0 : Int32)), .unset, .unset, .unset, .unset, .unset] [(.long x0)])
      refine Go.step (fun _ kt_ => XS.lloadN X11.here hx rfl (hb hby at_65) rfl kt_) ?_
      show Go _ _ _ _ _ _ _ _ T11 (mkF m 66 #[.val (.long x0), .second, .val (.long x1), .second, .val (.int x2), .val (.int (1 : Int32)), .val (.ref bA), .val (.ref sA), .val (.int (0 : Int32)), .val (.int (0 : Int32)), .unset, .unset, .unset, .unset, .unset] [(.long x1), (.long x0)])
      obtain ⟨_, _, ⟨T12, L12, k12, n12⟩, -, X12, ⟨Lc12, hQ12, l12, y12, z12⟩, st12⟩ := Jvm.LawKit.callS X11 hx (y := (⟨"java/lang/Math", "max", "(JJ)J"⟩ : MethodName)) hown (mvT hZ (hw _ (List.mem_of_getElem? (i := 11) rfl))) (mvT hZ (hw _ (List.mem_of_getElem? (i := 12) rfl))) (mvT hZ (hw _ (List.mem_of_getElem? (i := 13) rfl))) (mvT hZ (hw _ (List.mem_of_getElem? (i := 14) rfl))) (by decide) (backOf (W := 0) (rm_2 l Z a0 hw [] x0 x1 x1 h0 O0 (by simp [hne, Ne.symm hne, h1, h2, h3, h4])) hZ (hw _ (List.mem_of_getElem? (i := 14) rfl)) (hw _ (List.mem_of_getElem? (i := 13) rfl)) (by decide) (by decide)) (g := (mkF m 66 #[.val (.long x0), .second, .val (.long x1), .second, .val (.int x2), .val (.int (1 : Int32)), .val (.ref bA), .val (.ref sA), .val (.int (0 : Int32)), .val (.int (0 : Int32)), .unset, .unset, .unset, .unset, .unset] [(.long x1), (.long x0)])) rfl (by rw [hml]; rfl) (argsL := [(.long x0), (.long x1)]) (rest := []) (lenOf pd_LJJRJ rfl) rfl (by show 2 * 0 + _ ≤ _; exact Nat.le_of_eq rfl) (hb hby at_66) (fun _ _ => ⟨rfl, e11, (by decide : 0 + 0 ≤ _), (by decide : 0 + 0 ≤ _)⟩)
      dsimp only [Pt.U, Pt.locs, Pt.cells, Pt.slots] at X12 l12 y12 z12 st12 hQ12
      subst l12 y12 z12
      obtain ⟨rfl, Nq12, e12⟩ := hQ12
      have N12_ := Fr.app N11_ Nq12
      refine Go.step st12 ?_
      show Go _ _ _ _ _ _ _ _ T12 (mkF m 69 #[.val (.long x0), .second, .val (.long x1), .second, .val (.int x2), .val (.int (1 : Int32)), .val (.ref bA), .val (.ref sA), .val (.int (0 : Int32)), .val (.int (0 : Int32)), .unset, .unset, .unset, .unset, .unset] [(.long x1)])
      refine Go.step (fun _ kt_ => XS.lstore X12.here hx rfl (hb hby at_69) rfl (l' := #[.val (.long x0), .second, .val (.long x1), .second, .val (.int x2), .val (.int (1 : Int32)), .val (.ref bA), .val (.ref sA), .val (.int (0 : Int32)), .val (.int (0 : Int32)), .val (.long x1), .second, .unset, .unset, .unset]) rfl kt_) ?_
      show Go _ _ _ _ _ _ _ _ T12 (mkF m 71 #[.val (.long x0), .second, .val (.long x1), .second, .val (.int x2), .val (.int (1 : Int32)), .val (.ref bA), .val (.ref sA), .val (.int (0 : Int32)), .val (.int (0 : Int32)), .val (.long x1), .second, .unset, .unset, .unset] [])
      refine Go.step (fun _ kt_ => XS.lloadN X12.here hx rfl (hb hby at_71) rfl kt_) ?_
      show Go _ _ _ _ _ _ _ _ T12 (mkF m 72 #[.val (.long x0), .second, .val (.long x1), .second, .val (.int x2), .val (.int (1 : Int32)), .val (.ref bA), .val (.ref sA), .val (.int (0 : Int32)), .val (.int (0 : Int32)), .val (.long x1), .second, .unset, .unset, .unset] [(.long x0)])
      refine Go.step (fun _ kt_ => XS.lloadN X12.here hx rfl (hb hby at_72) rfl kt_) ?_
      show Go _ _ _ _ _ _ _ _ T12 (mkF m 73 #[.val (.long x0), .second, .val (.long x1), .second, .val (.int x2), .val (.int (1 : Int32)), .val (.ref bA), .val (.ref sA), .val (.int (0 : Int32)), .val (.int (0 : Int32)), .val (.long x1), .second, .unset, .unset, .unset] [(.long x1), (.long x0)])
      obtain ⟨_, _, ⟨T13, L13, k13, n13⟩, -, X13, ⟨Lc13, hQ13, l13, y13, z13⟩, st13⟩ := Jvm.LawKit.callS X12 hx (y := (⟨"java/lang/Math", "min", "(JJ)J"⟩ : MethodName)) hown (mvT hZ (hw _ (List.mem_of_getElem? (i := 15) rfl))) (mvT hZ (hw _ (List.mem_of_getElem? (i := 16) rfl))) (mvT hZ (hw _ (List.mem_of_getElem? (i := 13) rfl))) (mvT hZ (hw _ (List.mem_of_getElem? (i := 17) rfl))) (by decide) (backOf (W := 0) (rm_3 l Z a0 hw [] x0 x1 x0 h0 O0 (by simp [hne, Ne.symm hne, h1, h2, h3, h4])) hZ (hw _ (List.mem_of_getElem? (i := 17) rfl)) (hw _ (List.mem_of_getElem? (i := 13) rfl)) (by decide) (by decide)) (g := (mkF m 73 #[.val (.long x0), .second, .val (.long x1), .second, .val (.int x2), .val (.int (1 : Int32)), .val (.ref bA), .val (.ref sA), .val (.int (0 : Int32)), .val (.int (0 : Int32)), .val (.long x1), .second, .unset, .unset, .unset] [(.long x1), (.long x0)])) rfl (by rw [hml]; rfl) (argsL := [(.long x0), (.long x1)]) (rest := []) (lenOf pd_LJJRJ rfl) rfl (by show 2 * 0 + _ ≤ _; exact Nat.le_of_eq rfl) (hb hby at_73) (fun _ _ => ⟨rfl, e12, (by decide : 0 + 0 ≤ _), (by decide : 0 + 0 ≤ _)⟩)
      dsimp only [Pt.U, Pt.locs, Pt.cells, Pt.slots] at X13 l13 y13 z13 st13 hQ13
      subst l13 y13 z13
      obtain ⟨rfl, Nq13, e13⟩ := hQ13
      have N13_ := Fr.app N12_ Nq13
      refine Go.step st13 ?_
      show Go _ _ _ _ _ _ _ _ T13 (mkF m 76 #[.val (.long x0), .second, .val (.long x1), .second, .val (.int x2), .val (.int (1 : Int32)), .val (.ref bA), .val (.ref sA), .val (.int (0 : Int32)), .val (.int (0 : Int32)), .val (.long x1), .second, .unset, .unset, .unset] [(.long x0)])
      refine Go.step (fun _ kt_ => XS.lstore X13.here hx rfl (hb hby at_76) rfl (l' := #[.val (.long x0), .second, .val (.long x1), .second, .val (.int x2), .val (.int (1 : Int32)), .val (.ref bA), .val (.ref sA), .val (.int (0 : Int32)), .val (.int (0 : Int32)), .val (.long x1), .second, .val (.long x0), .second, .unset]) rfl kt_) ?_
      show Go _ _ _ _ _ _ _ _ T13 (mkF m 78 #[.val (.long x0), .second, .val (.long x1), .second, .val (.int x2), .val (.int (1 : Int32)), .val (.ref bA), .val (.ref sA), .val (.int (0 : Int32)), .val (.int (0 : Int32)), .val (.long x1), .second, .val (.long x0), .second, .unset] [])
      refine Go.step (fun _ kt_ => XS.iload X13.here hx rfl (hb hby at_78) rfl kt_) ?_
      show Go _ _ _ _ _ _ _ _ T13 (mkF m 80 #[.val (.long x0), .second, .val (.long x1), .second, .val (.int x2), .val (.int (1 : Int32)), .val (.ref bA), .val (.ref sA), .val (.int (0 : Int32)), .val (.int (0 : Int32)), .val (.long x1), .second, .val (.long x0), .second, .unset] [(.int (1 : Int32))])
      refine Go.step (fun _ kt_ => XS.ifNo X13.here hx rfl (hb hby at_80) rfl ((if0 _ _).trans (feq (by decide : ¬ ((1 : Int32) = (0 : Int32)))).1) kt_) ?_
      show Go _ _ _ _ _ _ _ _ T13 (mkF m 83 #[.val (.long x0), .second, .val (.long x1), .second, .val (.int x2), .val (.int (1 : Int32)), .val (.ref bA), .val (.ref sA), .val (.int (0 : Int32)), .val (.int (0 : Int32)), .val (.long x1), .second, .val (.long x0), .second, .unset] [])
      refine Go.step (fun _ kt_ => XS.lloadN X13.here hx rfl (hb hby at_83) rfl kt_) ?_
      show Go _ _ _ _ _ _ _ _ T13 (mkF m 84 #[.val (.long x0), .second, .val (.long x1), .second, .val (.int x2), .val (.int (1 : Int32)), .val (.ref bA), .val (.ref sA), .val (.int (0 : Int32)), .val (.int (0 : Int32)), .val (.long x1), .second, .val (.long x0), .second, .unset] [(.long x0)])
      refine Go.step (fun _ kt_ => XS.lloadN X13.here hx rfl (hb hby at_84) rfl kt_) ?_
      show Go _ _ _ _ _ _ _ _ T13 (mkF m 85 #[.val (.long x0), .second, .val (.long x1), .second, .val (.int x2), .val (.int (1 : Int32)), .val (.ref bA), .val (.ref sA), .val (.int (0 : Int32)), .val (.int (0 : Int32)), .val (.long x1), .second, .val (.long x0), .second, .unset] [(.long x1), (.long x0)])
      refine Go.step (fun _ kt_ => XS.lcmp X13.here hx rfl (hb hby at_85) rfl kt_) ?_
      show Go _ _ _ _ _ _ _ _ T13 (mkF m 86 #[.val (.long x0), .second, .val (.long x1), .second, .val (.int x2), .val (.int (1 : Int32)), .val (.ref bA), .val (.ref sA), .val (.int (0 : Int32)), .val (.int (0 : Int32)), .val (.long x1), .second, .val (.long x0), .second, .unset] [(.int (lcmpW x0 x1))])
      refine Go.step (fun _ kt_ => XS.ifNo X13.here hx rfl (hb hby at_86) rfl ((if0 _ _).trans (feq (fun q => h3 ((lw_eq _ _).mp q))).1) kt_) ?_
      show Go _ _ _ _ _ _ _ _ T13 (mkF m 89 #[.val (.long x0), .second, .val (.long x1), .second, .val (.int x2), .val (.int (1 : Int32)), .val (.ref bA), .val (.ref sA), .val (.int (0 : Int32)), .val (.int (0 : Int32)), .val (.long x1), .second, .val (.long x0), .second, .unset] [])
      refine Go.step (fun _ kt_ => XS.lloadN X13.here hx rfl (hb hby at_89) rfl kt_) ?_
      show Go _ _ _ _ _ _ _ _ T13 (mkF m 90 #[.val (.long x0), .second, .val (.long x1), .second, .val (.int x2), .val (.int (1 : Int32)), .val (.ref bA), .val (.ref sA), .val (.int (0 : Int32)), .val (.int (0 : Int32)), .val (.long x1), .second, .val (.long x0), .second, .unset] [(.long x0)])
      refine Go.step (fun _ kt_ => XS.lload X13.here hx rfl (hb hby at_90) rfl kt_) ?_
      show Go _ _ _ _ _ _ _ _ T13 (mkF m 92 #[.val (.long x0), .second, .val (.long x1), .second, .val (.int x2), .val (.int (1 : Int32)), .val (.ref bA), .val (.ref sA), .val (.int (0 : Int32)), .val (.int (0 : Int32)), .val (.long x1), .second, .val (.long x0), .second, .unset] [(.long x1), (.long x0)])
      refine Go.step (fun _ kt_ => XS.lcmp X13.here hx rfl (hb hby at_92) rfl kt_) ?_
      show Go _ _ _ _ _ _ _ _ T13 (mkF m 93 #[.val (.long x0), .second, .val (.long x1), .second, .val (.int x2), .val (.int (1 : Int32)), .val (.ref bA), .val (.ref sA), .val (.int (0 : Int32)), .val (.int (0 : Int32)), .val (.long x1), .second, .val (.long x0), .second, .unset] [(.int (lcmpW x0 x1))])
      refine Go.step (fun _ kt_ => XS.ifYes X13.here hx rfl (pc0 := 93) (pc' := 100) rfl (hb hby at_93) rfl ((if0 _ _).trans (feq (fun q => h3 ((lw_eq _ _).mp q))).2) (by decide) (by decide) kt_) ?_
      show Go _ _ _ _ _ _ _ _ T13 (mkF m 100 #[.val (.long x0), .second, .val (.long x1), .second, .val (.int x2), .val (.int (1 : Int32)), .val (.ref bA), .val (.ref sA), .val (.int (0 : Int32)), .val (.int (0 : Int32)), .val (.long x1), .second, .val (.long x0), .second, .unset] [])
      refine Go.step (fun _ kt_ => XS.iconst X13.here hx rfl (hb hby at_100)  kt_) ?_
      show Go _ _ _ _ _ _ _ _ T13 (mkF m 101 #[.val (.long x0), .second, .val (.long x1), .second, .val (.int x2), .val (.int (1 : Int32)), .val (.ref bA), .val (.ref sA), .val (.int (0 : Int32)), .val (.int (0 : Int32)), .val (.long x1), .second, .val (.long x0), .second, .unset] [(.int (0 : Int32))])
      refine Go.step (fun _ kt_ => XS.istore X13.here hx rfl (hb hby at_101) rfl (l' := #[.val (.long x0), .second, .val (.long x1), .second, .val (.int x2), .val (.int (1 : Int32)), .val (.ref bA), .val (.ref sA), .val (.int (0 : Int32)), .val (.int (0 : Int32)), .val (.long x1), .second, .val (.long x0), .second, .val (.int (0 : Int32))]) rfl kt_) ?_
      show Go _ _ _ _ _ _ _ _ T13 (mkF m 103 #[.val (.long x0), .second, .val (.long x1), .second, .val (.int x2), .val (.int (1 : Int32)), .val (.ref bA), .val (.ref sA), .val (.int (0 : Int32)), .val (.int (0 : Int32)), .val (.long x1), .second, .val (.long x0), .second, .val (.int (0 : Int32))] [])
      refine Go.step (fun _ kt_ => XS.goto X13.here hx rfl (pc0 := 103) (pc' := 126) rfl (hb hby at_103) (by decide) (by decide) kt_) ?_
      show Go _ _ _ _ _ _ _ _ T13 (mkF m 126 #[.val (.long x0), .second, .val (.long x1), .second, .val (.int x2), .val (.int (1 : Int32)), .val (.ref bA), .val (.ref sA), .val (.int (0 : Int32)), .val (.int (0 : Int32)), .val (.long x1), .second, .val (.long x0), .second, .val (.int (0 : Int32))] [])
      refine Go.step (fun _ kt_ => XS.iload X13.here hx rfl (hb hby at_126) rfl kt_) ?_
      show Go _ _ _ _ _ _ _ _ T13 (mkF m 128 #[.val (.long x0), .second, .val (.long x1), .second, .val (.int x2), .val (.int (1 : Int32)), .val (.ref bA), .val (.ref sA), .val (.int (0 : Int32)), .val (.int (0 : Int32)), .val (.long x1), .second, .val (.long x0), .second, .val (.int (0 : Int32))] [(.int (0 : Int32))])
      refine Go.step (fun _ kt_ => XS.iload X13.here hx rfl (hb hby at_128) rfl kt_) ?_
      show Go _ _ _ _ _ _ _ _ T13 (mkF m 130 #[.val (.long x0), .second, .val (.long x1), .second, .val (.int x2), .val (.int (1 : Int32)), .val (.ref bA), .val (.ref sA), .val (.int (0 : Int32)), .val (.int (0 : Int32)), .val (.long x1), .second, .val (.long x0), .second, .val (.int (0 : Int32))] [(.int (0 : Int32)), (.int (0 : Int32))])
      refine Go.step (fun _ kt_ => XS.icmpNo X13.here hx rfl (hb hby at_130) rfl (teq (by decide : (0 : Int32) = (0 : Int32))).2 kt_) ?_
      show Go _ _ _ _ _ _ _ _ T13 (mkF m 133 #[.val (.long x0), .second, .val (.long x1), .second, .val (.int x2), .val (.int (1 : Int32)), .val (.ref bA), .val (.ref sA), .val (.int (0 : Int32)), .val (.int (0 : Int32)), .val (.long x1), .second, .val (.long x0), .second, .val (.int (0 : Int32))] [])
      refine Go.step (fun _ kt_ => XS.iload X13.here hx rfl (hb hby at_133) rfl kt_) ?_
      show Go _ _ _ _ _ _ _ _ T13 (mkF m 135 #[.val (.long x0), .second, .val (.long x1), .second, .val (.int x2), .val (.int (1 : Int32)), .val (.ref bA), .val (.ref sA), .val (.int (0 : Int32)), .val (.int (0 : Int32)), .val (.long x1), .second, .val (.long x0), .second, .val (.int (0 : Int32))] [(.int (0 : Int32))])
      refine Go.step (fun _ kt_ => XS.iload X13.here hx rfl (hb hby at_135) rfl kt_) ?_
      show Go _ _ _ _ _ _ _ _ T13 (mkF m 137 #[.val (.long x0), .second, .val (.long x1), .second, .val (.int x2), .val (.int (1 : Int32)), .val (.ref bA), .val (.ref sA), .val (.int (0 : Int32)), .val (.int (0 : Int32)), .val (.long x1), .second, .val (.long x0), .second, .val (.int (0 : Int32))] [(.int (0 : Int32)), (.int (0 : Int32))])
      refine Go.step (fun _ kt_ => XS.icmpNo X13.here hx rfl (hb hby at_137) rfl (teq (by decide : (0 : Int32) = (0 : Int32))).2 kt_) ?_
      show Go _ _ _ _ _ _ _ _ T13 (mkF m 140 #[.val (.long x0), .second, .val (.long x1), .second, .val (.int x2), .val (.int (1 : Int32)), .val (.ref bA), .val (.ref sA), .val (.int (0 : Int32)), .val (.int (0 : Int32)), .val (.long x1), .second, .val (.long x0), .second, .val (.int (0 : Int32))] [])
      refine Go.step (fun _ kt_ => XS.iconst X13.here hx rfl (hb hby at_140)  kt_) ?_
      show Go _ _ _ _ _ _ _ _ T13 (mkF m 141 #[.val (.long x0), .second, .val (.long x1), .second, .val (.int x2), .val (.int (1 : Int32)), .val (.ref bA), .val (.ref sA), .val (.int (0 : Int32)), .val (.int (0 : Int32)), .val (.long x1), .second, .val (.long x0), .second, .val (.int (0 : Int32))] [(.int (1 : Int32))])
      refine Go.step (fun _ kt_ => XS.goto X13.here hx rfl (pc0 := 141) (pc' := 145) rfl (hb hby at_141) (by decide) (by decide) kt_) ?_
      show Go _ _ _ _ _ _ _ _ T13 (mkF m 145 #[.val (.long x0), .second, .val (.long x1), .second, .val (.int x2), .val (.int (1 : Int32)), .val (.ref bA), .val (.ref sA), .val (.int (0 : Int32)), .val (.int (0 : Int32)), .val (.long x1), .second, .val (.long x0), .second, .val (.int (0 : Int32))] [(.int (1 : Int32))])
      exact Go.retN X13 hx (t := .boolean) Bd.returns (by simp) hlk (hb hby at_145) (by decide) (by decide) (by show _ ∧ _ ∧ _; rw [e13]; exact ⟨rfl, N13_, rfl⟩)
  · obtain ⟨h1, h2, h3⟩ := hk
    show Go _ _ _ _ _ _ _ _ s₁ (mkF m 0 #[.val (.long x0), .second, .val (.long x1), .second, .val (.int x2), .unset, .unset, .unset, .unset, .unset, .unset, .unset, .unset, .unset, .unset] [])
    refine Go.step (fun _ kt_ => XS.iload X0.here hx rfl (hb hby at_0) rfl kt_) ?_
    show Go _ _ _ _ _ _ _ _ s₁ (mkF m 2 #[.val (.long x0), .second, .val (.long x1), .second, .val (.int x2), .unset, .unset, .unset, .unset, .unset, .unset, .unset, .unset, .unset, .unset] [(.int x2)])
    refine Go.step (fun _ kt_ => XS.iconst X0.here hx rfl (hb hby at_2)  kt_) ?_
    show Go _ _ _ _ _ _ _ _ s₁ (mkF m 3 #[.val (.long x0), .second, .val (.long x1), .second, .val (.int x2), .unset, .unset, .unset, .unset, .unset, .unset, .unset, .unset, .unset, .unset] [(.int (1 : Int32)), (.int x2)])
    refine Go.step (fun _ kt_ => XS.iand X0.here hx rfl (hb hby at_3) rfl kt_) ?_
    show Go _ _ _ _ _ _ _ _ s₁ (mkF m 4 #[.val (.long x0), .second, .val (.long x1), .second, .val (.int x2), .unset, .unset, .unset, .unset, .unset, .unset, .unset, .unset, .unset, .unset] [(.int (x2 &&& (1 : Int32)))])
    by_cases hc4_14 : (x2 &&& (1 : Int32)) = (0 : Int32)
    · refine Go.step (fun _ kt_ => XS.ifYes X0.here hx rfl (pc0 := 4) (pc' := 11) rfl (hb hby at_4) rfl ((if0 _ _).trans (teq hc4_14).1) (by decide) (by decide) kt_) ?_
      show Go _ _ _ _ _ _ _ _ s₁ (mkF m 11 #[.val (.long x0), .second, .val (.long x1), .second, .val (.int x2), .unset, .unset, .unset, .unset, .unset, .unset, .unset, .unset, .unset, .unset] [])
      refine Go.step (fun _ kt_ => XS.iconst X0.here hx rfl (hb hby at_11)  kt_) ?_
      show Go _ _ _ _ _ _ _ _ s₁ (mkF m 12 #[.val (.long x0), .second, .val (.long x1), .second, .val (.int x2), .unset, .unset, .unset, .unset, .unset, .unset, .unset, .unset, .unset, .unset] [(.int (0 : Int32))])
      refine Go.step (fun _ kt_ => XS.istore X0.here hx rfl (hb hby at_12) rfl (l' := #[.val (.long x0), .second, .val (.long x1), .second, .val (.int x2), .val (.int (0 : Int32)), .unset, .unset, .unset, .unset, .unset, .unset, .unset, .unset, .unset]) rfl kt_) ?_
      show Go _ _ _ _ _ _ _ _ s₁ (mkF m 14 #[.val (.long x0), .second, .val (.long x1), .second, .val (.int x2), .val (.int (0 : Int32)), .unset, .unset, .unset, .unset, .unset, .unset, .unset, .unset, .unset] [])
      refine Go.step (fun _ kt_ => XS.iload X0.here hx rfl (hb hby at_14) rfl kt_) ?_
      show Go _ _ _ _ _ _ _ _ s₁ (mkF m 16 #[.val (.long x0), .second, .val (.long x1), .second, .val (.int x2), .val (.int (0 : Int32)), .unset, .unset, .unset, .unset, .unset, .unset, .unset, .unset, .unset] [(.int (0 : Int32))])
      refine Go.step (fun _ kt_ => XS.ifYes X0.here hx rfl (pc0 := 16) (pc' := 25) rfl (hb hby at_16) rfl ((if0 _ _).trans (teq (by decide : (0 : Int32) = (0 : Int32))).1) (by decide) (by decide) kt_) ?_
      show Go _ _ _ _ _ _ _ _ s₁ (mkF m 25 #[.val (.long x0), .second, .val (.long x1), .second, .val (.int x2), .val (.int (0 : Int32)), .unset, .unset, .unset, .unset, .unset, .unset, .unset, .unset, .unset] [])
      obtain ⟨T15, X15, e15, st15⟩ := getS2 X0 hx hZ hown (host := "") (Or.inl (hw _ (List.mem_of_getElem? (i := 0) rfl))) Via.refl e0 (Sta.ext O0 S_S) (g := (mkF m 25 #[.val (.long x0), .second, .val (.long x1), .second, .val (.int x2), .val (.int (0 : Int32)), .unset, .unset, .unset, .unset, .unset, .unset, .unset, .unset, .unset] [])) rfl (hb hby at_25)
      refine Go.step st15 ?_
      show Go _ _ _ _ _ _ _ _ T15 (mkF m 28 #[.val (.long x0), .second, .val (.long x1), .second, .val (.int x2), .val (.int (0 : Int32)), .unset, .unset, .unset, .unset, .unset, .unset, .unset, .unset, .unset] [(.ref sA)])
      refine Go.step (fun _ kt_ => XS.astore X15.here hx rfl (hb hby at_28) rfl rfl (l' := #[.val (.long x0), .second, .val (.long x1), .second, .val (.int x2), .val (.int (0 : Int32)), .val (.ref sA), .unset, .unset, .unset, .unset, .unset, .unset, .unset, .unset]) rfl kt_) ?_
      show Go _ _ _ _ _ _ _ _ T15 (mkF m 30 #[.val (.long x0), .second, .val (.long x1), .second, .val (.int x2), .val (.int (0 : Int32)), .val (.ref sA), .unset, .unset, .unset, .unset, .unset, .unset, .unset, .unset] [])
      refine Go.step (fun _ kt_ => XS.iload X15.here hx rfl (hb hby at_30) rfl kt_) ?_
      show Go _ _ _ _ _ _ _ _ T15 (mkF m 32 #[.val (.long x0), .second, .val (.long x1), .second, .val (.int x2), .val (.int (0 : Int32)), .val (.ref sA), .unset, .unset, .unset, .unset, .unset, .unset, .unset, .unset] [(.int (0 : Int32))])
      refine Go.step (fun _ kt_ => XS.ifYes X15.here hx rfl (pc0 := 32) (pc' := 41) rfl (hb hby at_32) rfl ((if0 _ _).trans (teq (by decide : (0 : Int32) = (0 : Int32))).1) (by decide) (by decide) kt_) ?_
      show Go _ _ _ _ _ _ _ _ T15 (mkF m 41 #[.val (.long x0), .second, .val (.long x1), .second, .val (.int x2), .val (.int (0 : Int32)), .val (.ref sA), .unset, .unset, .unset, .unset, .unset, .unset, .unset, .unset] [])
      obtain ⟨T16, X16, e16, st16⟩ := getS2 X15 hx hZ hown (host := "") (Or.inl (hw _ (List.mem_of_getElem? (i := 3) rfl))) Via.refl e15 (Sta.ext O0 S_B) (g := (mkF m 41 #[.val (.long x0), .second, .val (.long x1), .second, .val (.int x2), .val (.int (0 : Int32)), .val (.ref sA), .unset, .unset, .unset, .unset, .unset, .unset, .unset, .unset] [])) rfl (hb hby at_41)
      refine Go.step st16 ?_
      show Go _ _ _ _ _ _ _ _ T16 (mkF m 44 #[.val (.long x0), .second, .val (.long x1), .second, .val (.int x2), .val (.int (0 : Int32)), .val (.ref sA), .unset, .unset, .unset, .unset, .unset, .unset, .unset, .unset] [(.ref bA)])
      refine Go.step (fun _ kt_ => XS.astore X16.here hx rfl (hb hby at_44) rfl rfl (l' := #[.val (.long x0), .second, .val (.long x1), .second, .val (.int x2), .val (.int (0 : Int32)), .val (.ref sA), .val (.ref bA), .unset, .unset, .unset, .unset, .unset, .unset, .unset]) rfl kt_) ?_
      show Go _ _ _ _ _ _ _ _ T16 (mkF m 46 #[.val (.long x0), .second, .val (.long x1), .second, .val (.int x2), .val (.int (0 : Int32)), .val (.ref sA), .val (.ref bA), .unset, .unset, .unset, .unset, .unset, .unset, .unset] [])
      refine Go.step (fun _ kt_ => XS.aload X16.here hx rfl (hb hby at_46) rfl rfl kt_) ?_
      show Go _ _ _ _ _ _ _ _ T16 (mkF m 48 #[.val (.long x0), .second, .val (.long x1), .second, .val (.int x2), .val (.int (0 : Int32)), .val (.ref sA), .val (.ref bA), .unset, .unset, .unset, .unset, .unset, .unset, .unset] [(.ref sA)])
      refine Go.step (fun _ kt_ => XS.lloadN X16.here hx rfl (hb hby at_48) rfl kt_) ?_
      show Go _ _ _ _ _ _ _ _ T16 (mkF m 49 #[.val (.long x0), .second, .val (.long x1), .second, .val (.int x2), .val (.int (0 : Int32)), .val (.ref sA), .val (.ref bA), .unset, .unset, .unset, .unset, .unset, .unset, .unset] [(.long x0), (.ref sA)])
      refine Go.step (fun _ kt_ => XS.lloadN X16.here hx rfl (hb hby at_49) rfl kt_) ?_
      show Go _ _ _ _ _ _ _ _ T16 (mkF m 50 #[.val (.long x0), .second, .val (.long x1), .second, .val (.int x2), .val (.int (0 : Int32)), .val (.ref sA), .val (.ref bA), .unset, .unset, .unset, .unset, .unset, .unset, .unset] [(.long x1), (.long x0), (.ref sA)])
      obtain ⟨cq17, kq17, q17a, q17b, q17c⟩ := isOf hZ e16 (Exa.ext O0 X_S)
      obtain ⟨_, _, ⟨T17, L17, k17, n17⟩, -, X17, ⟨Lc17, hQ17, l17, y17, z17⟩, st17⟩ := X16.virtualBack hx (y := (⟨"org/matchstone/engine/Side", "better", "(JJ)Z"⟩ : MethodName)) (z := (⟨"org/matchstone/engine/Side", "better", "(JJ)Z"⟩ : MethodName)) hown (mvT hZ (hw _ (List.mem_of_getElem? (i := 5) rfl))) (mvT hZ (hw _ (List.mem_of_getElem? (i := 6) rfl))) (notFace_of_selects (args := #[]) (mvT hZ (hw _ (List.mem_of_getElem? (i := 8) rfl)))) (mvT hZ (hw _ (List.mem_of_getElem? (i := 8) rfl))) (mvT hZ (hw _ (List.mem_of_getElem? (i := 7) rfl))) (by decide) (backOf (W := 0) (rm_1 l Z a0 hw [] sA x0 x1 bA (0 : Int32) h0 O0 S_B (by simp [hne, Ne.symm hne, h1, h2, h3])) hZ (hw _ (List.mem_of_getElem? (i := 9) rfl)) (hw _ (List.mem_of_getElem? (i := 1) rfl)) (by decide) (by decide)) q17a q17c (g := (mkF m 50 #[.val (.long x0), .second, .val (.long x1), .second, .val (.int x2), .val (.int (0 : Int32)), .val (.ref sA), .val (.ref bA), .unset, .unset, .unset, .unset, .unset, .unset, .unset] [(.long x1), (.long x0), (.ref sA)])) rfl (by rw [hml]; rfl) (Steps.refl _) (argsL := [(.long x0), (.long x1)]) (rest := []) (lenOf pd_LJJRZ rfl) rfl (by show 2 * 0 + _ ≤ _; exact Nat.le_of_eq rfl) (hb hby at_50) (fun _ _ => ⟨rfl, e16, (by decide : 0 + 0 ≤ _), (by decide : 0 + 0 ≤ _)⟩)
      dsimp only [Pt.U, Pt.locs, Pt.cells, Pt.slots] at X17 l17 y17 z17 st17 hQ17
      subst l17 y17 z17
      obtain ⟨rfl, Nq17, e17⟩ := hQ17
      have N17_ := Fr.app N0 Nq17
      refine Go.trans st17 ?_
      show Go _ _ _ _ _ _ _ _ T17 (mkF m 53 #[.val (.long x0), .second, .val (.long x1), .second, .val (.int x2), .val (.int (0 : Int32)), .val (.ref sA), .val (.ref bA), .unset, .unset, .unset, .unset, .unset, .unset, .unset] [(.int (0 : Int32))])
      refine Go.step (fun _ kt_ => XS.istore X17.here hx rfl (hb hby at_53) rfl (l' := #[.val (.long x0), .second, .val (.long x1), .second, .val (.int x2), .val (.int (0 : Int32)), .val (.ref sA), .val (.ref bA), .val (.int (0 : Int32)), .unset, .unset, .unset, .unset, .unset, .unset]) rfl kt_) ?_
      show Go _ _ _ _ _ _ _ _ T17 (mkF m 55 #[.val (.long x0), .second, .val (.long x1), .second, .val (.int x2), .val (.int (0 : Int32)), .val (.ref sA), .val (.ref bA), .val (.int (0 : Int32)), .unset, .unset, .unset, .unset, .unset, .unset] [])
      refine Go.step (fun _ kt_ => XS.aload X17.here hx rfl (hb hby at_55) rfl rfl kt_) ?_
      show Go _ _ _ _ _ _ _ _ T17 (mkF m 57 #[.val (.long x0), .second, .val (.long x1), .second, .val (.int x2), .val (.int (0 : Int32)), .val (.ref sA), .val (.ref bA), .val (.int (0 : Int32)), .unset, .unset, .unset, .unset, .unset, .unset] [(.ref bA)])
      refine Go.step (fun _ kt_ => XS.lloadN X17.here hx rfl (hb hby at_57) rfl kt_) ?_
      show Go _ _ _ _ _ _ _ _ T17 (mkF m 58 #[.val (.long x0), .second, .val (.long x1), .second, .val (.int x2), .val (.int (0 : Int32)), .val (.ref sA), .val (.ref bA), .val (.int (0 : Int32)), .unset, .unset, .unset, .unset, .unset, .unset] [(.long x1), (.ref bA)])
      refine Go.step (fun _ kt_ => XS.lloadN X17.here hx rfl (hb hby at_58) rfl kt_) ?_
      show Go _ _ _ _ _ _ _ _ T17 (mkF m 59 #[.val (.long x0), .second, .val (.long x1), .second, .val (.int x2), .val (.int (0 : Int32)), .val (.ref sA), .val (.ref bA), .val (.int (0 : Int32)), .unset, .unset, .unset, .unset, .unset, .unset] [(.long x0), (.long x1), (.ref bA)])
      obtain ⟨cq18, kq18, q18a, q18b, q18c⟩ := isOf hZ e17 (Exa.ext O0 X_B)
      obtain ⟨_, _, ⟨T18, L18, k18, n18⟩, -, X18, ⟨Lc18, hQ18, l18, y18, z18⟩, st18⟩ := X17.virtualBack hx (y := (⟨"org/matchstone/engine/Side", "better", "(JJ)Z"⟩ : MethodName)) (z := (⟨"org/matchstone/engine/Side", "better", "(JJ)Z"⟩ : MethodName)) hown (mvT hZ (hw _ (List.mem_of_getElem? (i := 5) rfl))) (mvT hZ (hw _ (List.mem_of_getElem? (i := 6) rfl))) (notFace_of_selects (args := #[]) (mvT hZ (hw _ (List.mem_of_getElem? (i := 8) rfl)))) (mvT hZ (hw _ (List.mem_of_getElem? (i := 8) rfl))) (mvT hZ (hw _ (List.mem_of_getElem? (i := 7) rfl))) (by decide) (backOf (W := 0) (rm_1 l Z a0 hw [] bA x1 x0 bA (0 : Int32) h0 O0 S_B (by simp [hne, Ne.symm hne, h1, h2, h3])) hZ (hw _ (List.mem_of_getElem? (i := 9) rfl)) (hw _ (List.mem_of_getElem? (i := 1) rfl)) (by decide) (by decide)) q18a q18c (g := (mkF m 59 #[.val (.long x0), .second, .val (.long x1), .second, .val (.int x2), .val (.int (0 : Int32)), .val (.ref sA), .val (.ref bA), .val (.int (0 : Int32)), .unset, .unset, .unset, .unset, .unset, .unset] [(.long x0), (.long x1), (.ref bA)])) rfl (by rw [hml]; rfl) (Steps.refl _) (argsL := [(.long x1), (.long x0)]) (rest := []) (lenOf pd_LJJRZ rfl) rfl (by show 2 * 0 + _ ≤ _; exact Nat.le_of_eq rfl) (hb hby at_59) (fun _ _ => ⟨rfl, e17, (by decide : 0 + 0 ≤ _), (by decide : 0 + 0 ≤ _)⟩)
      dsimp only [Pt.U, Pt.locs, Pt.cells, Pt.slots] at X18 l18 y18 z18 st18 hQ18
      subst l18 y18 z18
      obtain ⟨rfl, Nq18, e18⟩ := hQ18
      have N18_ := Fr.app N17_ Nq18
      refine Go.trans st18 ?_
      show Go _ _ _ _ _ _ _ _ T18 (mkF m 62 #[.val (.long x0), .second, .val (.long x1), .second, .val (.int x2), .val (.int (0 : Int32)), .val (.ref sA), .val (.ref bA), .val (.int (0 : Int32)), .unset, .unset, .unset, .unset, .unset, .unset] [(.int (0 : Int32))])
      refine Go.step (fun _ kt_ => XS.istore X18.here hx rfl (hb hby at_62) rfl (l' := #[.val (.long x0), .second, .val (.long x1), .second, .val (.int x2), .val (.int (0 : Int32)), .val (.ref sA), .val (.ref bA), .val (.int (0 : Int32)), .val (.int (0 : Int32)), .unset, .unset, .unset, .unset, .unset]) rfl kt_) ?_
      show Go _ _ _ _ _ _ _ _ T18 (mkF m 64 #[.val (.long x0), .second, .val (.long x1), .second, .val (.int x2), .val (.int (0 : Int32)), .val (.ref sA), .val (.ref bA), .val (.int (0 : Int32)), .val (.int (0 : Int32)), .unset, .unset, .unset, .unset, .unset] [])
      refine Go.step (fun _ kt_ => XS.lloadN X18.here hx rfl (hb hby at_64) rfl kt_) ?_
      show Go _ _ _ _ _ _ _ _ T18 (mkF m 65 #[.val (.long x0), .second, .val (.long x1), .second, .val (.int x2), .val (.int (0 : Int32)), .val (.ref sA), .val (.ref bA), .val (.int (0 : Int32)), .val (.int (0 : Int32)), .unset, .unset, .unset, .unset, .unset] [(.long x0)])
      refine Go.step (fun _ kt_ => XS.lloadN X18.here hx rfl (hb hby at_65) rfl kt_) ?_
      show Go _ _ _ _ _ _ _ _ T18 (mkF m 66 #[.val (.long x0), .second, .val (.long x1), .second, .val (.int x2), .val (.int (0 : Int32)), .val (.ref sA), .val (.ref bA), .val (.int (0 : Int32)), .val (.int (0 : Int32)), .unset, .unset, .unset, .unset, .unset] [(.long x1), (.long x0)])
      obtain ⟨_, _, ⟨T19, L19, k19, n19⟩, -, X19, ⟨Lc19, hQ19, l19, y19, z19⟩, st19⟩ := Jvm.LawKit.callS X18 hx (y := (⟨"java/lang/Math", "max", "(JJ)J"⟩ : MethodName)) hown (mvT hZ (hw _ (List.mem_of_getElem? (i := 11) rfl))) (mvT hZ (hw _ (List.mem_of_getElem? (i := 12) rfl))) (mvT hZ (hw _ (List.mem_of_getElem? (i := 13) rfl))) (mvT hZ (hw _ (List.mem_of_getElem? (i := 14) rfl))) (by decide) (backOf (W := 0) (rm_2 l Z a0 hw [] x0 x1 x0 h0 O0 (by simp [hne, Ne.symm hne, h1, h2, h3])) hZ (hw _ (List.mem_of_getElem? (i := 14) rfl)) (hw _ (List.mem_of_getElem? (i := 13) rfl)) (by decide) (by decide)) (g := (mkF m 66 #[.val (.long x0), .second, .val (.long x1), .second, .val (.int x2), .val (.int (0 : Int32)), .val (.ref sA), .val (.ref bA), .val (.int (0 : Int32)), .val (.int (0 : Int32)), .unset, .unset, .unset, .unset, .unset] [(.long x1), (.long x0)])) rfl (by rw [hml]; rfl) (argsL := [(.long x0), (.long x1)]) (rest := []) (lenOf pd_LJJRJ rfl) rfl (by show 2 * 0 + _ ≤ _; exact Nat.le_of_eq rfl) (hb hby at_66) (fun _ _ => ⟨rfl, e18, (by decide : 0 + 0 ≤ _), (by decide : 0 + 0 ≤ _)⟩)
      dsimp only [Pt.U, Pt.locs, Pt.cells, Pt.slots] at X19 l19 y19 z19 st19 hQ19
      subst l19 y19 z19
      obtain ⟨rfl, Nq19, e19⟩ := hQ19
      have N19_ := Fr.app N18_ Nq19
      refine Go.step st19 ?_
      show Go _ _ _ _ _ _ _ _ T19 (mkF m 69 #[.val (.long x0), .second, .val (.long x1), .second, .val (.int x2), .val (.int (0 : Int32)), .val (.ref sA), .val (.ref bA), .val (.int (0 : Int32)), .val (.int (0 : Int32)), .unset, .unset, .unset, .unset, .unset] [(.long x0)])
      refine Go.step (fun _ kt_ => XS.lstore X19.here hx rfl (hb hby at_69) rfl (l' := #[.val (.long x0), .second, .val (.long x1), .second, .val (.int x2), .val (.int (0 : Int32)), .val (.ref sA), .val (.ref bA), .val (.int (0 : Int32)), .val (.int (0 : Int32)), .val (.long x0), .second, .unset, .unset, .unset]) rfl kt_) ?_
      show Go _ _ _ _ _ _ _ _ T19 (mkF m 71 #[.val (.long x0), .second, .val (.long x1), .second, .val (.int x2), .val (.int (0 : Int32)), .val (.ref sA), .val (.ref bA), .val (.int (0 : Int32)), .val (.int (0 : Int32)), .val (.long x0), .second, .unset, .unset, .unset] [])
      refine Go.step (fun _ kt_ => XS.lloadN X19.here hx rfl (hb hby at_71) rfl kt_) ?_
      show Go _ _ _ _ _ _ _ _ T19 (mkF m 72 #[.val (.long x0), .second, .val (.long x1), .second, .val (.int x2), .val (.int (0 : Int32)), .val (.ref sA), .val (.ref bA), .val (.int (0 : Int32)), .val (.int (0 : Int32)), .val (.long x0), .second, .unset, .unset, .unset] [(.long x0)])
      refine Go.step (fun _ kt_ => XS.lloadN X19.here hx rfl (hb hby at_72) rfl kt_) ?_
      show Go _ _ _ _ _ _ _ _ T19 (mkF m 73 #[.val (.long x0), .second, .val (.long x1), .second, .val (.int x2), .val (.int (0 : Int32)), .val (.ref sA), .val (.ref bA), .val (.int (0 : Int32)), .val (.int (0 : Int32)), .val (.long x0), .second, .unset, .unset, .unset] [(.long x1), (.long x0)])
      obtain ⟨_, _, ⟨T20, L20, k20, n20⟩, -, X20, ⟨Lc20, hQ20, l20, y20, z20⟩, st20⟩ := Jvm.LawKit.callS X19 hx (y := (⟨"java/lang/Math", "min", "(JJ)J"⟩ : MethodName)) hown (mvT hZ (hw _ (List.mem_of_getElem? (i := 15) rfl))) (mvT hZ (hw _ (List.mem_of_getElem? (i := 16) rfl))) (mvT hZ (hw _ (List.mem_of_getElem? (i := 13) rfl))) (mvT hZ (hw _ (List.mem_of_getElem? (i := 17) rfl))) (by decide) (backOf (W := 0) (rm_3 l Z a0 hw [] x0 x1 x0 h0 O0 (by simp [hne, Ne.symm hne, h1, h2, h3])) hZ (hw _ (List.mem_of_getElem? (i := 17) rfl)) (hw _ (List.mem_of_getElem? (i := 13) rfl)) (by decide) (by decide)) (g := (mkF m 73 #[.val (.long x0), .second, .val (.long x1), .second, .val (.int x2), .val (.int (0 : Int32)), .val (.ref sA), .val (.ref bA), .val (.int (0 : Int32)), .val (.int (0 : Int32)), .val (.long x0), .second, .unset, .unset, .unset] [(.long x1), (.long x0)])) rfl (by rw [hml]; rfl) (argsL := [(.long x0), (.long x1)]) (rest := []) (lenOf pd_LJJRJ rfl) rfl (by show 2 * 0 + _ ≤ _; exact Nat.le_of_eq rfl) (hb hby at_73) (fun _ _ => ⟨rfl, e19, (by decide : 0 + 0 ≤ _), (by decide : 0 + 0 ≤ _)⟩)
      dsimp only [Pt.U, Pt.locs, Pt.cells, Pt.slots] at X20 l20 y20 z20 st20 hQ20
      subst l20 y20 z20
      obtain ⟨rfl, Nq20, e20⟩ := hQ20
      have N20_ := Fr.app N19_ Nq20
      refine Go.step st20 ?_
      show Go _ _ _ _ _ _ _ _ T20 (mkF m 76 #[.val (.long x0), .second, .val (.long x1), .second, .val (.int x2), .val (.int (0 : Int32)), .val (.ref sA), .val (.ref bA), .val (.int (0 : Int32)), .val (.int (0 : Int32)), .val (.long x0), .second, .unset, .unset, .unset] [(.long x0)])
      refine Go.step (fun _ kt_ => XS.lstore X20.here hx rfl (hb hby at_76) rfl (l' := #[.val (.long x0), .second, .val (.long x1), .second, .val (.int x2), .val (.int (0 : Int32)), .val (.ref sA), .val (.ref bA), .val (.int (0 : Int32)), .val (.int (0 : Int32)), .val (.long x0), .second, .val (.long x0), .second, .unset]) rfl kt_) ?_
      show Go _ _ _ _ _ _ _ _ T20 (mkF m 78 #[.val (.long x0), .second, .val (.long x1), .second, .val (.int x2), .val (.int (0 : Int32)), .val (.ref sA), .val (.ref bA), .val (.int (0 : Int32)), .val (.int (0 : Int32)), .val (.long x0), .second, .val (.long x0), .second, .unset] [])
      refine Go.step (fun _ kt_ => XS.iload X20.here hx rfl (hb hby at_78) rfl kt_) ?_
      show Go _ _ _ _ _ _ _ _ T20 (mkF m 80 #[.val (.long x0), .second, .val (.long x1), .second, .val (.int x2), .val (.int (0 : Int32)), .val (.ref sA), .val (.ref bA), .val (.int (0 : Int32)), .val (.int (0 : Int32)), .val (.long x0), .second, .val (.long x0), .second, .unset] [(.int (0 : Int32))])
      refine Go.step (fun _ kt_ => XS.ifYes X20.here hx rfl (pc0 := 80) (pc' := 106) rfl (hb hby at_80) rfl ((if0 _ _).trans (teq (by decide : (0 : Int32) = (0 : Int32))).1) (by decide) (by decide) kt_) ?_
      show Go _ _ _ _ _ _ _ _ T20 (mkF m 106 #[.val (.long x0), .second, .val (.long x1), .second, .val (.int x2), .val (.int (0 : Int32)), .val (.ref sA), .val (.ref bA), .val (.int (0 : Int32)), .val (.int (0 : Int32)), .val (.long x0), .second, .val (.long x0), .second, .unset] [])
      refine Go.step (fun _ kt_ => XS.lloadN X20.here hx rfl (hb hby at_106) rfl kt_) ?_
      show Go _ _ _ _ _ _ _ _ T20 (mkF m 107 #[.val (.long x0), .second, .val (.long x1), .second, .val (.int x2), .val (.int (0 : Int32)), .val (.ref sA), .val (.ref bA), .val (.int (0 : Int32)), .val (.int (0 : Int32)), .val (.long x0), .second, .val (.long x0), .second, .unset] [(.long x0)])
      refine Go.step (fun _ kt_ => XS.lloadN X20.here hx rfl (hb hby at_107) rfl kt_) ?_
      show Go _ _ _ _ _ _ _ _ T20 (mkF m 108 #[.val (.long x0), .second, .val (.long x1), .second, .val (.int x2), .val (.int (0 : Int32)), .val (.ref sA), .val (.ref bA), .val (.int (0 : Int32)), .val (.int (0 : Int32)), .val (.long x0), .second, .val (.long x0), .second, .unset] [(.long x1), (.long x0)])
      refine Go.step (fun _ kt_ => XS.lcmp X20.here hx rfl (hb hby at_108) rfl kt_) ?_
      show Go _ _ _ _ _ _ _ _ T20 (mkF m 109 #[.val (.long x0), .second, .val (.long x1), .second, .val (.int x2), .val (.int (0 : Int32)), .val (.ref sA), .val (.ref bA), .val (.int (0 : Int32)), .val (.int (0 : Int32)), .val (.long x0), .second, .val (.long x0), .second, .unset] [(.int (lcmpW x0 x1))])
      refine Go.step (fun _ kt_ => XS.ifYes X20.here hx rfl (pc0 := 109) (pc' := 123) rfl (hb hby at_109) rfl ((if0 _ _).trans (teq ((lw_eq _ _).mpr h1)).1) (by decide) (by decide) kt_) ?_
      show Go _ _ _ _ _ _ _ _ T20 (mkF m 123 #[.val (.long x0), .second, .val (.long x1), .second, .val (.int x2), .val (.int (0 : Int32)), .val (.ref sA), .val (.ref bA), .val (.int (0 : Int32)), .val (.int (0 : Int32)), .val (.long x0), .second, .val (.long x0), .second, .unset] [])
      refine Go.step (fun _ kt_ => XS.iconst X20.here hx rfl (hb hby at_123)  kt_) ?_
      show Go _ _ _ _ _ _ _ _ T20 (mkF m 124 #[.val (.long x0), .second, .val (.long x1), .second, .val (.int x2), .val (.int (0 : Int32)), .val (.ref sA), .val (.ref bA), .val (.int (0 : Int32)), .val (.int (0 : Int32)), .val (.long x0), .second, .val (.long x0), .second, .unset] [(.int (0 : Int32))])
      refine Go.step (fun _ kt_ => XS.istore X20.here hx rfl (hb hby at_124) rfl (l' := #[.val (.long x0), .second, .val (.long x1), .second, .val (.int x2), .val (.int (0 : Int32)), .val (.ref sA), .val (.ref bA), .val (.int (0 : Int32)), .val (.int (0 : Int32)), .val (.long x0), .second, .val (.long x0), .second, .val (.int (0 : Int32))]) rfl kt_) ?_
      show Go _ _ _ _ _ _ _ _ T20 (mkF m 126 #[.val (.long x0), .second, .val (.long x1), .second, .val (.int x2), .val (.int (0 : Int32)), .val (.ref sA), .val (.ref bA), .val (.int (0 : Int32)), .val (.int (0 : Int32)), .val (.long x0), .second, .val (.long x0), .second, .val (.int (0 : Int32))] [])
      refine Go.step (fun _ kt_ => XS.iload X20.here hx rfl (hb hby at_126) rfl kt_) ?_
      show Go _ _ _ _ _ _ _ _ T20 (mkF m 128 #[.val (.long x0), .second, .val (.long x1), .second, .val (.int x2), .val (.int (0 : Int32)), .val (.ref sA), .val (.ref bA), .val (.int (0 : Int32)), .val (.int (0 : Int32)), .val (.long x0), .second, .val (.long x0), .second, .val (.int (0 : Int32))] [(.int (0 : Int32))])
      refine Go.step (fun _ kt_ => XS.iload X20.here hx rfl (hb hby at_128) rfl kt_) ?_
      show Go _ _ _ _ _ _ _ _ T20 (mkF m 130 #[.val (.long x0), .second, .val (.long x1), .second, .val (.int x2), .val (.int (0 : Int32)), .val (.ref sA), .val (.ref bA), .val (.int (0 : Int32)), .val (.int (0 : Int32)), .val (.long x0), .second, .val (.long x0), .second, .val (.int (0 : Int32))] [(.int (0 : Int32)), (.int (0 : Int32))])
      refine Go.step (fun _ kt_ => XS.icmpNo X20.here hx rfl (hb hby at_130) rfl (teq (by decide : (0 : Int32) = (0 : Int32))).2 kt_) ?_
      show Go _ _ _ _ _ _ _ _ T20 (mkF m 133 #[.val (.long x0), .second, .val (.long x1), .second, .val (.int x2), .val (.int (0 : Int32)), .val (.ref sA), .val (.ref bA), .val (.int (0 : Int32)), .val (.int (0 : Int32)), .val (.long x0), .second, .val (.long x0), .second, .val (.int (0 : Int32))] [])
      refine Go.step (fun _ kt_ => XS.iload X20.here hx rfl (hb hby at_133) rfl kt_) ?_
      show Go _ _ _ _ _ _ _ _ T20 (mkF m 135 #[.val (.long x0), .second, .val (.long x1), .second, .val (.int x2), .val (.int (0 : Int32)), .val (.ref sA), .val (.ref bA), .val (.int (0 : Int32)), .val (.int (0 : Int32)), .val (.long x0), .second, .val (.long x0), .second, .val (.int (0 : Int32))] [(.int (0 : Int32))])
      refine Go.step (fun _ kt_ => XS.iload X20.here hx rfl (hb hby at_135) rfl kt_) ?_
      show Go _ _ _ _ _ _ _ _ T20 (mkF m 137 #[.val (.long x0), .second, .val (.long x1), .second, .val (.int x2), .val (.int (0 : Int32)), .val (.ref sA), .val (.ref bA), .val (.int (0 : Int32)), .val (.int (0 : Int32)), .val (.long x0), .second, .val (.long x0), .second, .val (.int (0 : Int32))] [(.int (0 : Int32)), (.int (0 : Int32))])
      refine Go.step (fun _ kt_ => XS.icmpNo X20.here hx rfl (hb hby at_137) rfl (teq (by decide : (0 : Int32) = (0 : Int32))).2 kt_) ?_
      show Go _ _ _ _ _ _ _ _ T20 (mkF m 140 #[.val (.long x0), .second, .val (.long x1), .second, .val (.int x2), .val (.int (0 : Int32)), .val (.ref sA), .val (.ref bA), .val (.int (0 : Int32)), .val (.int (0 : Int32)), .val (.long x0), .second, .val (.long x0), .second, .val (.int (0 : Int32))] [])
      refine Go.step (fun _ kt_ => XS.iconst X20.here hx rfl (hb hby at_140)  kt_) ?_
      show Go _ _ _ _ _ _ _ _ T20 (mkF m 141 #[.val (.long x0), .second, .val (.long x1), .second, .val (.int x2), .val (.int (0 : Int32)), .val (.ref sA), .val (.ref bA), .val (.int (0 : Int32)), .val (.int (0 : Int32)), .val (.long x0), .second, .val (.long x0), .second, .val (.int (0 : Int32))] [(.int (1 : Int32))])
      refine Go.step (fun _ kt_ => XS.goto X20.here hx rfl (pc0 := 141) (pc' := 145) rfl (hb hby at_141) (by decide) (by decide) kt_) ?_
      show Go _ _ _ _ _ _ _ _ T20 (mkF m 145 #[.val (.long x0), .second, .val (.long x1), .second, .val (.int x2), .val (.int (0 : Int32)), .val (.ref sA), .val (.ref bA), .val (.int (0 : Int32)), .val (.int (0 : Int32)), .val (.long x0), .second, .val (.long x0), .second, .val (.int (0 : Int32))] [(.int (1 : Int32))])
      exact Go.retN X20 hx (t := .boolean) Bd.returns (by simp) hlk (hb hby at_145) (by decide) (by decide) (by show _ ∧ _ ∧ _; rw [e20]; exact ⟨rfl, N20_, rfl⟩)
    · refine Go.step (fun _ kt_ => XS.ifNo X0.here hx rfl (hb hby at_4) rfl ((if0 _ _).trans (feq hc4_14).1) kt_) ?_
      show Go _ _ _ _ _ _ _ _ s₁ (mkF m 7 #[.val (.long x0), .second, .val (.long x1), .second, .val (.int x2), .unset, .unset, .unset, .unset, .unset, .unset, .unset, .unset, .unset, .unset] [])
      refine Go.step (fun _ kt_ => XS.iconst X0.here hx rfl (hb hby at_7)  kt_) ?_
      show Go _ _ _ _ _ _ _ _ s₁ (mkF m 8 #[.val (.long x0), .second, .val (.long x1), .second, .val (.int x2), .unset, .unset, .unset, .unset, .unset, .unset, .unset, .unset, .unset, .unset] [(.int (1 : Int32))])
      refine Go.step (fun _ kt_ => XS.goto X0.here hx rfl (pc0 := 8) (pc' := 12) rfl (hb hby at_8) (by decide) (by decide) kt_) ?_
      show Go _ _ _ _ _ _ _ _ s₁ (mkF m 12 #[.val (.long x0), .second, .val (.long x1), .second, .val (.int x2), .unset, .unset, .unset, .unset, .unset, .unset, .unset, .unset, .unset, .unset] [(.int (1 : Int32))])
      refine Go.step (fun _ kt_ => XS.istore X0.here hx rfl (hb hby at_12) rfl (l' := #[.val (.long x0), .second, .val (.long x1), .second, .val (.int x2), .val (.int (1 : Int32)), .unset, .unset, .unset, .unset, .unset, .unset, .unset, .unset, .unset]) rfl kt_) ?_
      show Go _ _ _ _ _ _ _ _ s₁ (mkF m 14 #[.val (.long x0), .second, .val (.long x1), .second, .val (.int x2), .val (.int (1 : Int32)), .unset, .unset, .unset, .unset, .unset, .unset, .unset, .unset, .unset] [])
      refine Go.step (fun _ kt_ => XS.iload X0.here hx rfl (hb hby at_14) rfl kt_) ?_
      show Go _ _ _ _ _ _ _ _ s₁ (mkF m 16 #[.val (.long x0), .second, .val (.long x1), .second, .val (.int x2), .val (.int (1 : Int32)), .unset, .unset, .unset, .unset, .unset, .unset, .unset, .unset, .unset] [(.int (1 : Int32))])
      refine Go.step (fun _ kt_ => XS.ifNo X0.here hx rfl (hb hby at_16) rfl ((if0 _ _).trans (feq (by decide : ¬ ((1 : Int32) = (0 : Int32)))).1) kt_) ?_
      show Go _ _ _ _ _ _ _ _ s₁ (mkF m 19 #[.val (.long x0), .second, .val (.long x1), .second, .val (.int x2), .val (.int (1 : Int32)), .unset, .unset, .unset, .unset, .unset, .unset, .unset, .unset, .unset] [])
      obtain ⟨T21, X21, e21, st21⟩ := getS2 X0 hx hZ hown (host := "") (Or.inl (hw _ (List.mem_of_getElem? (i := 3) rfl))) Via.refl e0 (Sta.ext O0 S_B) (g := (mkF m 19 #[.val (.long x0), .second, .val (.long x1), .second, .val (.int x2), .val (.int (1 : Int32)), .unset, .unset, .unset, .unset, .unset, .unset, .unset, .unset, .unset] [])) rfl (hb hby at_19)
      refine Go.step st21 ?_
      show Go _ _ _ _ _ _ _ _ T21 (mkF m 22 #[.val (.long x0), .second, .val (.long x1), .second, .val (.int x2), .val (.int (1 : Int32)), .unset, .unset, .unset, .unset, .unset, .unset, .unset, .unset, .unset] [(.ref bA)])
      refine Go.step (fun _ kt_ => XS.goto X21.here hx rfl (pc0 := 22) (pc' := 28) rfl (hb hby at_22) (by decide) (by decide) kt_) ?_
      show Go _ _ _ _ _ _ _ _ T21 (mkF m 28 #[.val (.long x0), .second, .val (.long x1), .second, .val (.int x2), .val (.int (1 : Int32)), .unset, .unset, .unset, .unset, .unset, .unset, .unset, .unset, .unset] [(.ref bA)])
      refine Go.step (fun _ kt_ => XS.astore X21.here hx rfl (hb hby at_28) rfl rfl (l' := #[.val (.long x0), .second, .val (.long x1), .second, .val (.int x2), .val (.int (1 : Int32)), .val (.ref bA), .unset, .unset, .unset, .unset, .unset, .unset, .unset, .unset]) rfl kt_) ?_
      show Go _ _ _ _ _ _ _ _ T21 (mkF m 30 #[.val (.long x0), .second, .val (.long x1), .second, .val (.int x2), .val (.int (1 : Int32)), .val (.ref bA), .unset, .unset, .unset, .unset, .unset, .unset, .unset, .unset] [])
      refine Go.step (fun _ kt_ => XS.iload X21.here hx rfl (hb hby at_30) rfl kt_) ?_
      show Go _ _ _ _ _ _ _ _ T21 (mkF m 32 #[.val (.long x0), .second, .val (.long x1), .second, .val (.int x2), .val (.int (1 : Int32)), .val (.ref bA), .unset, .unset, .unset, .unset, .unset, .unset, .unset, .unset] [(.int (1 : Int32))])
      refine Go.step (fun _ kt_ => XS.ifNo X21.here hx rfl (hb hby at_32) rfl ((if0 _ _).trans (feq (by decide : ¬ ((1 : Int32) = (0 : Int32)))).1) kt_) ?_
      show Go _ _ _ _ _ _ _ _ T21 (mkF m 35 #[.val (.long x0), .second, .val (.long x1), .second, .val (.int x2), .val (.int (1 : Int32)), .val (.ref bA), .unset, .unset, .unset, .unset, .unset, .unset, .unset, .unset] [])
      obtain ⟨T22, X22, e22, st22⟩ := getS2 X21 hx hZ hown (host := "") (Or.inl (hw _ (List.mem_of_getElem? (i := 0) rfl))) Via.refl e21 (Sta.ext O0 S_S) (g := (mkF m 35 #[.val (.long x0), .second, .val (.long x1), .second, .val (.int x2), .val (.int (1 : Int32)), .val (.ref bA), .unset, .unset, .unset, .unset, .unset, .unset, .unset, .unset] [])) rfl (hb hby at_35)
      refine Go.step st22 ?_
      show Go _ _ _ _ _ _ _ _ T22 (mkF m 38 #[.val (.long x0), .second, .val (.long x1), .second, .val (.int x2), .val (.int (1 : Int32)), .val (.ref bA), .unset, .unset, .unset, .unset, .unset, .unset, .unset, .unset] [(.ref sA)])
      refine Go.step (fun _ kt_ => XS.goto X22.here hx rfl (pc0 := 38) (pc' := 44) rfl (hb hby at_38) (by decide) (by decide) kt_) ?_
      show Go _ _ _ _ _ _ _ _ T22 (mkF m 44 #[.val (.long x0), .second, .val (.long x1), .second, .val (.int x2), .val (.int (1 : Int32)), .val (.ref bA), .unset, .unset, .unset, .unset, .unset, .unset, .unset, .unset] [(.ref sA)])
      refine Go.step (fun _ kt_ => XS.astore X22.here hx rfl (hb hby at_44) rfl rfl (l' := #[.val (.long x0), .second, .val (.long x1), .second, .val (.int x2), .val (.int (1 : Int32)), .val (.ref bA), .val (.ref sA), .unset, .unset, .unset, .unset, .unset, .unset, .unset]) rfl kt_) ?_
      show Go _ _ _ _ _ _ _ _ T22 (mkF m 46 #[.val (.long x0), .second, .val (.long x1), .second, .val (.int x2), .val (.int (1 : Int32)), .val (.ref bA), .val (.ref sA), .unset, .unset, .unset, .unset, .unset, .unset, .unset] [])
      refine Go.step (fun _ kt_ => XS.aload X22.here hx rfl (hb hby at_46) rfl rfl kt_) ?_
      show Go _ _ _ _ _ _ _ _ T22 (mkF m 48 #[.val (.long x0), .second, .val (.long x1), .second, .val (.int x2), .val (.int (1 : Int32)), .val (.ref bA), .val (.ref sA), .unset, .unset, .unset, .unset, .unset, .unset, .unset] [(.ref bA)])
      refine Go.step (fun _ kt_ => XS.lloadN X22.here hx rfl (hb hby at_48) rfl kt_) ?_
      show Go _ _ _ _ _ _ _ _ T22 (mkF m 49 #[.val (.long x0), .second, .val (.long x1), .second, .val (.int x2), .val (.int (1 : Int32)), .val (.ref bA), .val (.ref sA), .unset, .unset, .unset, .unset, .unset, .unset, .unset] [(.long x0), (.ref bA)])
      refine Go.step (fun _ kt_ => XS.lloadN X22.here hx rfl (hb hby at_49) rfl kt_) ?_
      show Go _ _ _ _ _ _ _ _ T22 (mkF m 50 #[.val (.long x0), .second, .val (.long x1), .second, .val (.int x2), .val (.int (1 : Int32)), .val (.ref bA), .val (.ref sA), .unset, .unset, .unset, .unset, .unset, .unset, .unset] [(.long x1), (.long x0), (.ref bA)])
      obtain ⟨cq23, kq23, q23a, q23b, q23c⟩ := isOf hZ e22 (Exa.ext O0 X_B)
      obtain ⟨_, _, ⟨T23, L23, k23, n23⟩, -, X23, ⟨Lc23, hQ23, l23, y23, z23⟩, st23⟩ := X22.virtualBack hx (y := (⟨"org/matchstone/engine/Side", "better", "(JJ)Z"⟩ : MethodName)) (z := (⟨"org/matchstone/engine/Side", "better", "(JJ)Z"⟩ : MethodName)) hown (mvT hZ (hw _ (List.mem_of_getElem? (i := 5) rfl))) (mvT hZ (hw _ (List.mem_of_getElem? (i := 6) rfl))) (notFace_of_selects (args := #[]) (mvT hZ (hw _ (List.mem_of_getElem? (i := 8) rfl)))) (mvT hZ (hw _ (List.mem_of_getElem? (i := 8) rfl))) (mvT hZ (hw _ (List.mem_of_getElem? (i := 7) rfl))) (by decide) (backOf (W := 0) (rm_1 l Z a0 hw [] bA x0 x1 bA (0 : Int32) h0 O0 S_B (by simp [hne, Ne.symm hne, h1, h2, h3])) hZ (hw _ (List.mem_of_getElem? (i := 9) rfl)) (hw _ (List.mem_of_getElem? (i := 1) rfl)) (by decide) (by decide)) q23a q23c (g := (mkF m 50 #[.val (.long x0), .second, .val (.long x1), .second, .val (.int x2), .val (.int (1 : Int32)), .val (.ref bA), .val (.ref sA), .unset, .unset, .unset, .unset, .unset, .unset, .unset] [(.long x1), (.long x0), (.ref bA)])) rfl (by rw [hml]; rfl) (Steps.refl _) (argsL := [(.long x0), (.long x1)]) (rest := []) (lenOf pd_LJJRZ rfl) rfl (by show 2 * 0 + _ ≤ _; exact Nat.le_of_eq rfl) (hb hby at_50) (fun _ _ => ⟨rfl, e22, (by decide : 0 + 0 ≤ _), (by decide : 0 + 0 ≤ _)⟩)
      dsimp only [Pt.U, Pt.locs, Pt.cells, Pt.slots] at X23 l23 y23 z23 st23 hQ23
      subst l23 y23 z23
      obtain ⟨rfl, Nq23, e23⟩ := hQ23
      have N23_ := Fr.app N0 Nq23
      refine Go.trans st23 ?_
      show Go _ _ _ _ _ _ _ _ T23 (mkF m 53 #[.val (.long x0), .second, .val (.long x1), .second, .val (.int x2), .val (.int (1 : Int32)), .val (.ref bA), .val (.ref sA), .unset, .unset, .unset, .unset, .unset, .unset, .unset] [(.int (0 : Int32))])
      refine Go.step (fun _ kt_ => XS.istore X23.here hx rfl (hb hby at_53) rfl (l' := #[.val (.long x0), .second, .val (.long x1), .second, .val (.int x2), .val (.int (1 : Int32)), .val (.ref bA), .val (.ref sA), .val (.int (0 : Int32)), .unset, .unset, .unset, .unset, .unset, .unset]) rfl kt_) ?_
      show Go _ _ _ _ _ _ _ _ T23 (mkF m 55 #[.val (.long x0), .second, .val (.long x1), .second, .val (.int x2), .val (.int (1 : Int32)), .val (.ref bA), .val (.ref sA), .val (.int (0 : Int32)), .unset, .unset, .unset, .unset, .unset, .unset] [])
      refine Go.step (fun _ kt_ => XS.aload X23.here hx rfl (hb hby at_55) rfl rfl kt_) ?_
      show Go _ _ _ _ _ _ _ _ T23 (mkF m 57 #[.val (.long x0), .second, .val (.long x1), .second, .val (.int x2), .val (.int (1 : Int32)), .val (.ref bA), .val (.ref sA), .val (.int (0 : Int32)), .unset, .unset, .unset, .unset, .unset, .unset] [(.ref sA)])
      refine Go.step (fun _ kt_ => XS.lloadN X23.here hx rfl (hb hby at_57) rfl kt_) ?_
      show Go _ _ _ _ _ _ _ _ T23 (mkF m 58 #[.val (.long x0), .second, .val (.long x1), .second, .val (.int x2), .val (.int (1 : Int32)), .val (.ref bA), .val (.ref sA), .val (.int (0 : Int32)), .unset, .unset, .unset, .unset, .unset, .unset] [(.long x1), (.ref sA)])
      refine Go.step (fun _ kt_ => XS.lloadN X23.here hx rfl (hb hby at_58) rfl kt_) ?_
      show Go _ _ _ _ _ _ _ _ T23 (mkF m 59 #[.val (.long x0), .second, .val (.long x1), .second, .val (.int x2), .val (.int (1 : Int32)), .val (.ref bA), .val (.ref sA), .val (.int (0 : Int32)), .unset, .unset, .unset, .unset, .unset, .unset] [(.long x0), (.long x1), (.ref sA)])
      obtain ⟨cq24, kq24, q24a, q24b, q24c⟩ := isOf hZ e23 (Exa.ext O0 X_S)
      obtain ⟨_, _, ⟨T24, L24, k24, n24⟩, -, X24, ⟨Lc24, hQ24, l24, y24, z24⟩, st24⟩ := X23.virtualBack hx (y := (⟨"org/matchstone/engine/Side", "better", "(JJ)Z"⟩ : MethodName)) (z := (⟨"org/matchstone/engine/Side", "better", "(JJ)Z"⟩ : MethodName)) hown (mvT hZ (hw _ (List.mem_of_getElem? (i := 5) rfl))) (mvT hZ (hw _ (List.mem_of_getElem? (i := 6) rfl))) (notFace_of_selects (args := #[]) (mvT hZ (hw _ (List.mem_of_getElem? (i := 8) rfl)))) (mvT hZ (hw _ (List.mem_of_getElem? (i := 8) rfl))) (mvT hZ (hw _ (List.mem_of_getElem? (i := 7) rfl))) (by decide) (backOf (W := 0) (rm_1 l Z a0 hw [] sA x1 x0 bA (0 : Int32) h0 O0 S_B (by simp [hne, Ne.symm hne, h1, h2, h3])) hZ (hw _ (List.mem_of_getElem? (i := 9) rfl)) (hw _ (List.mem_of_getElem? (i := 1) rfl)) (by decide) (by decide)) q24a q24c (g := (mkF m 59 #[.val (.long x0), .second, .val (.long x1), .second, .val (.int x2), .val (.int (1 : Int32)), .val (.ref bA), .val (.ref sA), .val (.int (0 : Int32)), .unset, .unset, .unset, .unset, .unset, .unset] [(.long x0), (.long x1), (.ref sA)])) rfl (by rw [hml]; rfl) (Steps.refl _) (argsL := [(.long x1), (.long x0)]) (rest := []) (lenOf pd_LJJRZ rfl) rfl (by show 2 * 0 + _ ≤ _; exact Nat.le_of_eq rfl) (hb hby at_59) (fun _ _ => ⟨rfl, e23, (by decide : 0 + 0 ≤ _), (by decide : 0 + 0 ≤ _)⟩)
      dsimp only [Pt.U, Pt.locs, Pt.cells, Pt.slots] at X24 l24 y24 z24 st24 hQ24
      subst l24 y24 z24
      obtain ⟨rfl, Nq24, e24⟩ := hQ24
      have N24_ := Fr.app N23_ Nq24
      refine Go.trans st24 ?_
      show Go _ _ _ _ _ _ _ _ T24 (mkF m 62 #[.val (.long x0), .second, .val (.long x1), .second, .val (.int x2), .val (.int (1 : Int32)), .val (.ref bA), .val (.ref sA), .val (.int (0 : Int32)), .unset, .unset, .unset, .unset, .unset, .unset] [(.int (0 : Int32))])
      refine Go.step (fun _ kt_ => XS.istore X24.here hx rfl (hb hby at_62) rfl (l' := #[.val (.long x0), .second, .val (.long x1), .second, .val (.int x2), .val (.int (1 : Int32)), .val (.ref bA), .val (.ref sA), .val (.int (0 : Int32)), .val (.int (0 : Int32)), .unset, .unset, .unset, .unset, .unset]) rfl kt_) ?_
      show Go _ _ _ _ _ _ _ _ T24 (mkF m 64 #[.val (.long x0), .second, .val (.long x1), .second, .val (.int x2), .val (.int (1 : Int32)), .val (.ref bA), .val (.ref sA), .val (.int (0 : Int32)), .val (.int (0 : Int32)), .unset, .unset, .unset, .unset, .unset] [])
      refine Go.step (fun _ kt_ => XS.lloadN X24.here hx rfl (hb hby at_64) rfl kt_) ?_
      show Go _ _ _ _ _ _ _ _ T24 (mkF m 65 #[.val (.long x0), .second, .val (.long x1), .second, .val (.int x2), .val (.int (1 : Int32)), .val (.ref bA), .val (.ref sA), .val (.int (0 : Int32)), .val (.int (0 : Int32)), .unset, .unset, .unset, .unset, .unset] [(.long x0)])
      refine Go.step (fun _ kt_ => XS.lloadN X24.here hx rfl (hb hby at_65) rfl kt_) ?_
      show Go _ _ _ _ _ _ _ _ T24 (mkF m 66 #[.val (.long x0), .second, .val (.long x1), .second, .val (.int x2), .val (.int (1 : Int32)), .val (.ref bA), .val (.ref sA), .val (.int (0 : Int32)), .val (.int (0 : Int32)), .unset, .unset, .unset, .unset, .unset] [(.long x1), (.long x0)])
      obtain ⟨_, _, ⟨T25, L25, k25, n25⟩, -, X25, ⟨Lc25, hQ25, l25, y25, z25⟩, st25⟩ := Jvm.LawKit.callS X24 hx (y := (⟨"java/lang/Math", "max", "(JJ)J"⟩ : MethodName)) hown (mvT hZ (hw _ (List.mem_of_getElem? (i := 11) rfl))) (mvT hZ (hw _ (List.mem_of_getElem? (i := 12) rfl))) (mvT hZ (hw _ (List.mem_of_getElem? (i := 13) rfl))) (mvT hZ (hw _ (List.mem_of_getElem? (i := 14) rfl))) (by decide) (backOf (W := 0) (rm_2 l Z a0 hw [] x0 x1 x0 h0 O0 (by simp [hne, Ne.symm hne, h1, h2, h3])) hZ (hw _ (List.mem_of_getElem? (i := 14) rfl)) (hw _ (List.mem_of_getElem? (i := 13) rfl)) (by decide) (by decide)) (g := (mkF m 66 #[.val (.long x0), .second, .val (.long x1), .second, .val (.int x2), .val (.int (1 : Int32)), .val (.ref bA), .val (.ref sA), .val (.int (0 : Int32)), .val (.int (0 : Int32)), .unset, .unset, .unset, .unset, .unset] [(.long x1), (.long x0)])) rfl (by rw [hml]; rfl) (argsL := [(.long x0), (.long x1)]) (rest := []) (lenOf pd_LJJRJ rfl) rfl (by show 2 * 0 + _ ≤ _; exact Nat.le_of_eq rfl) (hb hby at_66) (fun _ _ => ⟨rfl, e24, (by decide : 0 + 0 ≤ _), (by decide : 0 + 0 ≤ _)⟩)
      dsimp only [Pt.U, Pt.locs, Pt.cells, Pt.slots] at X25 l25 y25 z25 st25 hQ25
      subst l25 y25 z25
      obtain ⟨rfl, Nq25, e25⟩ := hQ25
      have N25_ := Fr.app N24_ Nq25
      refine Go.step st25 ?_
      show Go _ _ _ _ _ _ _ _ T25 (mkF m 69 #[.val (.long x0), .second, .val (.long x1), .second, .val (.int x2), .val (.int (1 : Int32)), .val (.ref bA), .val (.ref sA), .val (.int (0 : Int32)), .val (.int (0 : Int32)), .unset, .unset, .unset, .unset, .unset] [(.long x0)])
      refine Go.step (fun _ kt_ => XS.lstore X25.here hx rfl (hb hby at_69) rfl (l' := #[.val (.long x0), .second, .val (.long x1), .second, .val (.int x2), .val (.int (1 : Int32)), .val (.ref bA), .val (.ref sA), .val (.int (0 : Int32)), .val (.int (0 : Int32)), .val (.long x0), .second, .unset, .unset, .unset]) rfl kt_) ?_
      show Go _ _ _ _ _ _ _ _ T25 (mkF m 71 #[.val (.long x0), .second, .val (.long x1), .second, .val (.int x2), .val (.int (1 : Int32)), .val (.ref bA), .val (.ref sA), .val (.int (0 : Int32)), .val (.int (0 : Int32)), .val (.long x0), .second, .unset, .unset, .unset] [])
      refine Go.step (fun _ kt_ => XS.lloadN X25.here hx rfl (hb hby at_71) rfl kt_) ?_
      show Go _ _ _ _ _ _ _ _ T25 (mkF m 72 #[.val (.long x0), .second, .val (.long x1), .second, .val (.int x2), .val (.int (1 : Int32)), .val (.ref bA), .val (.ref sA), .val (.int (0 : Int32)), .val (.int (0 : Int32)), .val (.long x0), .second, .unset, .unset, .unset] [(.long x0)])
      refine Go.step (fun _ kt_ => XS.lloadN X25.here hx rfl (hb hby at_72) rfl kt_) ?_
      show Go _ _ _ _ _ _ _ _ T25 (mkF m 73 #[.val (.long x0), .second, .val (.long x1), .second, .val (.int x2), .val (.int (1 : Int32)), .val (.ref bA), .val (.ref sA), .val (.int (0 : Int32)), .val (.int (0 : Int32)), .val (.long x0), .second, .unset, .unset, .unset] [(.long x1), (.long x0)])
      obtain ⟨_, _, ⟨T26, L26, k26, n26⟩, -, X26, ⟨Lc26, hQ26, l26, y26, z26⟩, st26⟩ := Jvm.LawKit.callS X25 hx (y := (⟨"java/lang/Math", "min", "(JJ)J"⟩ : MethodName)) hown (mvT hZ (hw _ (List.mem_of_getElem? (i := 15) rfl))) (mvT hZ (hw _ (List.mem_of_getElem? (i := 16) rfl))) (mvT hZ (hw _ (List.mem_of_getElem? (i := 13) rfl))) (mvT hZ (hw _ (List.mem_of_getElem? (i := 17) rfl))) (by decide) (backOf (W := 0) (rm_3 l Z a0 hw [] x0 x1 x0 h0 O0 (by simp [hne, Ne.symm hne, h1, h2, h3])) hZ (hw _ (List.mem_of_getElem? (i := 17) rfl)) (hw _ (List.mem_of_getElem? (i := 13) rfl)) (by decide) (by decide)) (g := (mkF m 73 #[.val (.long x0), .second, .val (.long x1), .second, .val (.int x2), .val (.int (1 : Int32)), .val (.ref bA), .val (.ref sA), .val (.int (0 : Int32)), .val (.int (0 : Int32)), .val (.long x0), .second, .unset, .unset, .unset] [(.long x1), (.long x0)])) rfl (by rw [hml]; rfl) (argsL := [(.long x0), (.long x1)]) (rest := []) (lenOf pd_LJJRJ rfl) rfl (by show 2 * 0 + _ ≤ _; exact Nat.le_of_eq rfl) (hb hby at_73) (fun _ _ => ⟨rfl, e25, (by decide : 0 + 0 ≤ _), (by decide : 0 + 0 ≤ _)⟩)
      dsimp only [Pt.U, Pt.locs, Pt.cells, Pt.slots] at X26 l26 y26 z26 st26 hQ26
      subst l26 y26 z26
      obtain ⟨rfl, Nq26, e26⟩ := hQ26
      have N26_ := Fr.app N25_ Nq26
      refine Go.step st26 ?_
      show Go _ _ _ _ _ _ _ _ T26 (mkF m 76 #[.val (.long x0), .second, .val (.long x1), .second, .val (.int x2), .val (.int (1 : Int32)), .val (.ref bA), .val (.ref sA), .val (.int (0 : Int32)), .val (.int (0 : Int32)), .val (.long x0), .second, .unset, .unset, .unset] [(.long x0)])
      refine Go.step (fun _ kt_ => XS.lstore X26.here hx rfl (hb hby at_76) rfl (l' := #[.val (.long x0), .second, .val (.long x1), .second, .val (.int x2), .val (.int (1 : Int32)), .val (.ref bA), .val (.ref sA), .val (.int (0 : Int32)), .val (.int (0 : Int32)), .val (.long x0), .second, .val (.long x0), .second, .unset]) rfl kt_) ?_
      show Go _ _ _ _ _ _ _ _ T26 (mkF m 78 #[.val (.long x0), .second, .val (.long x1), .second, .val (.int x2), .val (.int (1 : Int32)), .val (.ref bA), .val (.ref sA), .val (.int (0 : Int32)), .val (.int (0 : Int32)), .val (.long x0), .second, .val (.long x0), .second, .unset] [])
      refine Go.step (fun _ kt_ => XS.iload X26.here hx rfl (hb hby at_78) rfl kt_) ?_
      show Go _ _ _ _ _ _ _ _ T26 (mkF m 80 #[.val (.long x0), .second, .val (.long x1), .second, .val (.int x2), .val (.int (1 : Int32)), .val (.ref bA), .val (.ref sA), .val (.int (0 : Int32)), .val (.int (0 : Int32)), .val (.long x0), .second, .val (.long x0), .second, .unset] [(.int (1 : Int32))])
      refine Go.step (fun _ kt_ => XS.ifNo X26.here hx rfl (hb hby at_80) rfl ((if0 _ _).trans (feq (by decide : ¬ ((1 : Int32) = (0 : Int32)))).1) kt_) ?_
      show Go _ _ _ _ _ _ _ _ T26 (mkF m 83 #[.val (.long x0), .second, .val (.long x1), .second, .val (.int x2), .val (.int (1 : Int32)), .val (.ref bA), .val (.ref sA), .val (.int (0 : Int32)), .val (.int (0 : Int32)), .val (.long x0), .second, .val (.long x0), .second, .unset] [])
      refine Go.step (fun _ kt_ => XS.lloadN X26.here hx rfl (hb hby at_83) rfl kt_) ?_
      show Go _ _ _ _ _ _ _ _ T26 (mkF m 84 #[.val (.long x0), .second, .val (.long x1), .second, .val (.int x2), .val (.int (1 : Int32)), .val (.ref bA), .val (.ref sA), .val (.int (0 : Int32)), .val (.int (0 : Int32)), .val (.long x0), .second, .val (.long x0), .second, .unset] [(.long x0)])
      refine Go.step (fun _ kt_ => XS.lloadN X26.here hx rfl (hb hby at_84) rfl kt_) ?_
      show Go _ _ _ _ _ _ _ _ T26 (mkF m 85 #[.val (.long x0), .second, .val (.long x1), .second, .val (.int x2), .val (.int (1 : Int32)), .val (.ref bA), .val (.ref sA), .val (.int (0 : Int32)), .val (.int (0 : Int32)), .val (.long x0), .second, .val (.long x0), .second, .unset] [(.long x1), (.long x0)])
      refine Go.step (fun _ kt_ => XS.lcmp X26.here hx rfl (hb hby at_85) rfl kt_) ?_
      show Go _ _ _ _ _ _ _ _ T26 (mkF m 86 #[.val (.long x0), .second, .val (.long x1), .second, .val (.int x2), .val (.int (1 : Int32)), .val (.ref bA), .val (.ref sA), .val (.int (0 : Int32)), .val (.int (0 : Int32)), .val (.long x0), .second, .val (.long x0), .second, .unset] [(.int (lcmpW x0 x1))])
      refine Go.step (fun _ kt_ => XS.ifYes X26.here hx rfl (pc0 := 86) (pc' := 100) rfl (hb hby at_86) rfl ((if0 _ _).trans (teq ((lw_eq _ _).mpr h1)).1) (by decide) (by decide) kt_) ?_
      show Go _ _ _ _ _ _ _ _ T26 (mkF m 100 #[.val (.long x0), .second, .val (.long x1), .second, .val (.int x2), .val (.int (1 : Int32)), .val (.ref bA), .val (.ref sA), .val (.int (0 : Int32)), .val (.int (0 : Int32)), .val (.long x0), .second, .val (.long x0), .second, .unset] [])
      refine Go.step (fun _ kt_ => XS.iconst X26.here hx rfl (hb hby at_100)  kt_) ?_
      show Go _ _ _ _ _ _ _ _ T26 (mkF m 101 #[.val (.long x0), .second, .val (.long x1), .second, .val (.int x2), .val (.int (1 : Int32)), .val (.ref bA), .val (.ref sA), .val (.int (0 : Int32)), .val (.int (0 : Int32)), .val (.long x0), .second, .val (.long x0), .second, .unset] [(.int (0 : Int32))])
      refine Go.step (fun _ kt_ => XS.istore X26.here hx rfl (hb hby at_101) rfl (l' := #[.val (.long x0), .second, .val (.long x1), .second, .val (.int x2), .val (.int (1 : Int32)), .val (.ref bA), .val (.ref sA), .val (.int (0 : Int32)), .val (.int (0 : Int32)), .val (.long x0), .second, .val (.long x0), .second, .val (.int (0 : Int32))]) rfl kt_) ?_
      show Go _ _ _ _ _ _ _ _ T26 (mkF m 103 #[.val (.long x0), .second, .val (.long x1), .second, .val (.int x2), .val (.int (1 : Int32)), .val (.ref bA), .val (.ref sA), .val (.int (0 : Int32)), .val (.int (0 : Int32)), .val (.long x0), .second, .val (.long x0), .second, .val (.int (0 : Int32))] [])
      refine Go.step (fun _ kt_ => XS.goto X26.here hx rfl (pc0 := 103) (pc' := 126) rfl (hb hby at_103) (by decide) (by decide) kt_) ?_
      show Go _ _ _ _ _ _ _ _ T26 (mkF m 126 #[.val (.long x0), .second, .val (.long x1), .second, .val (.int x2), .val (.int (1 : Int32)), .val (.ref bA), .val (.ref sA), .val (.int (0 : Int32)), .val (.int (0 : Int32)), .val (.long x0), .second, .val (.long x0), .second, .val (.int (0 : Int32))] [])
      refine Go.step (fun _ kt_ => XS.iload X26.here hx rfl (hb hby at_126) rfl kt_) ?_
      show Go _ _ _ _ _ _ _ _ T26 (mkF m 128 #[.val (.long x0), .second, .val (.long x1), .second, .val (.int x2), .val (.int (1 : Int32)), .val (.ref bA), .val (.ref sA), .val (.int (0 : Int32)), .val (.int (0 : Int32)), .val (.long x0), .second, .val (.long x0), .second, .val (.int (0 : Int32))] [(.int (0 : Int32))])
      refine Go.step (fun _ kt_ => XS.iload X26.here hx rfl (hb hby at_128) rfl kt_) ?_
      show Go _ _ _ _ _ _ _ _ T26 (mkF m 130 #[.val (.long x0), .second, .val (.long x1), .second, .val (.int x2), .val (.int (1 : Int32)), .val (.ref bA), .val (.ref sA), .val (.int (0 : Int32)), .val (.int (0 : Int32)), .val (.long x0), .second, .val (.long x0), .second, .val (.int (0 : Int32))] [(.int (0 : Int32)), (.int (0 : Int32))])
      refine Go.step (fun _ kt_ => XS.icmpNo X26.here hx rfl (hb hby at_130) rfl (teq (by decide : (0 : Int32) = (0 : Int32))).2 kt_) ?_
      show Go _ _ _ _ _ _ _ _ T26 (mkF m 133 #[.val (.long x0), .second, .val (.long x1), .second, .val (.int x2), .val (.int (1 : Int32)), .val (.ref bA), .val (.ref sA), .val (.int (0 : Int32)), .val (.int (0 : Int32)), .val (.long x0), .second, .val (.long x0), .second, .val (.int (0 : Int32))] [])
      refine Go.step (fun _ kt_ => XS.iload X26.here hx rfl (hb hby at_133) rfl kt_) ?_
      show Go _ _ _ _ _ _ _ _ T26 (mkF m 135 #[.val (.long x0), .second, .val (.long x1), .second, .val (.int x2), .val (.int (1 : Int32)), .val (.ref bA), .val (.ref sA), .val (.int (0 : Int32)), .val (.int (0 : Int32)), .val (.long x0), .second, .val (.long x0), .second, .val (.int (0 : Int32))] [(.int (0 : Int32))])
      refine Go.step (fun _ kt_ => XS.iload X26.here hx rfl (hb hby at_135) rfl kt_) ?_
      show Go _ _ _ _ _ _ _ _ T26 (mkF m 137 #[.val (.long x0), .second, .val (.long x1), .second, .val (.int x2), .val (.int (1 : Int32)), .val (.ref bA), .val (.ref sA), .val (.int (0 : Int32)), .val (.int (0 : Int32)), .val (.long x0), .second, .val (.long x0), .second, .val (.int (0 : Int32))] [(.int (0 : Int32)), (.int (0 : Int32))])
      refine Go.step (fun _ kt_ => XS.icmpNo X26.here hx rfl (hb hby at_137) rfl (teq (by decide : (0 : Int32) = (0 : Int32))).2 kt_) ?_
      show Go _ _ _ _ _ _ _ _ T26 (mkF m 140 #[.val (.long x0), .second, .val (.long x1), .second, .val (.int x2), .val (.int (1 : Int32)), .val (.ref bA), .val (.ref sA), .val (.int (0 : Int32)), .val (.int (0 : Int32)), .val (.long x0), .second, .val (.long x0), .second, .val (.int (0 : Int32))] [])
      refine Go.step (fun _ kt_ => XS.iconst X26.here hx rfl (hb hby at_140)  kt_) ?_
      show Go _ _ _ _ _ _ _ _ T26 (mkF m 141 #[.val (.long x0), .second, .val (.long x1), .second, .val (.int x2), .val (.int (1 : Int32)), .val (.ref bA), .val (.ref sA), .val (.int (0 : Int32)), .val (.int (0 : Int32)), .val (.long x0), .second, .val (.long x0), .second, .val (.int (0 : Int32))] [(.int (1 : Int32))])
      refine Go.step (fun _ kt_ => XS.goto X26.here hx rfl (pc0 := 141) (pc' := 145) rfl (hb hby at_141) (by decide) (by decide) kt_) ?_
      show Go _ _ _ _ _ _ _ _ T26 (mkF m 145 #[.val (.long x0), .second, .val (.long x1), .second, .val (.int x2), .val (.int (1 : Int32)), .val (.ref bA), .val (.ref sA), .val (.int (0 : Int32)), .val (.int (0 : Int32)), .val (.long x0), .second, .val (.long x0), .second, .val (.int (0 : Int32))] [(.int (1 : Int32))])
      exact Go.retN X26 hx (t := .boolean) Bd.returns (by simp) hlk (hb hby at_145) (by decide) (by decide) (by show _ ∧ _ ∧ _; rw [e26]; exact ⟨rfl, N26_, rfl⟩)
  · obtain ⟨h1, h2, h3, h4⟩ := hk
    show Go _ _ _ _ _ _ _ _ s₁ (mkF m 0 #[.val (.long x0), .second, .val (.long x1), .second, .val (.int x2), .unset, .unset, .unset, .unset, .unset, .unset, .unset, .unset, .unset, .unset] [])
    refine Go.step (fun _ kt_ => XS.iload X0.here hx rfl (hb hby at_0) rfl kt_) ?_
    show Go _ _ _ _ _ _ _ _ s₁ (mkF m 2 #[.val (.long x0), .second, .val (.long x1), .second, .val (.int x2), .unset, .unset, .unset, .unset, .unset, .unset, .unset, .unset, .unset, .unset] [(.int x2)])
    refine Go.step (fun _ kt_ => XS.iconst X0.here hx rfl (hb hby at_2)  kt_) ?_
    show Go _ _ _ _ _ _ _ _ s₁ (mkF m 3 #[.val (.long x0), .second, .val (.long x1), .second, .val (.int x2), .unset, .unset, .unset, .unset, .unset, .unset, .unset, .unset, .unset, .unset] [(.int (1 : Int32)), (.int x2)])
    refine Go.step (fun _ kt_ => XS.iand X0.here hx rfl (hb hby at_3) rfl kt_) ?_
    show Go _ _ _ _ _ _ _ _ s₁ (mkF m 4 #[.val (.long x0), .second, .val (.long x1), .second, .val (.int x2), .unset, .unset, .unset, .unset, .unset, .unset, .unset, .unset, .unset, .unset] [(.int (x2 &&& (1 : Int32)))])
    by_cases hc4_27 : (x2 &&& (1 : Int32)) = (0 : Int32)
    · refine Go.step (fun _ kt_ => XS.ifYes X0.here hx rfl (pc0 := 4) (pc' := 11) rfl (hb hby at_4) rfl ((if0 _ _).trans (teq hc4_27).1) (by decide) (by decide) kt_) ?_
      show Go _ _ _ _ _ _ _ _ s₁ (mkF m 11 #[.val (.long x0), .second, .val (.long x1), .second, .val (.int x2), .unset, .unset, .unset, .unset, .unset, .unset, .unset, .unset, .unset, .unset] [])
      refine Go.step (fun _ kt_ => XS.iconst X0.here hx rfl (hb hby at_11)  kt_) ?_
      show Go _ _ _ _ _ _ _ _ s₁ (mkF m 12 #[.val (.long x0), .second, .val (.long x1), .second, .val (.int x2), .unset, .unset, .unset, .unset, .unset, .unset, .unset, .unset, .unset, .unset] [(.int (0 : Int32))])
      refine Go.step (fun _ kt_ => XS.istore X0.here hx rfl (hb hby at_12) rfl (l' := #[.val (.long x0), .second, .val (.long x1), .second, .val (.int x2), .val (.int (0 : Int32)), .unset, .unset, .unset, .unset, .unset, .unset, .unset, .unset, .unset]) rfl kt_) ?_
      show Go _ _ _ _ _ _ _ _ s₁ (mkF m 14 #[.val (.long x0), .second, .val (.long x1), .second, .val (.int x2), .val (.int (0 : Int32)), .unset, .unset, .unset, .unset, .unset, .unset, .unset, .unset, .unset] [])
      refine Go.step (fun _ kt_ => XS.iload X0.here hx rfl (hb hby at_14) rfl kt_) ?_
      show Go _ _ _ _ _ _ _ _ s₁ (mkF m 16 #[.val (.long x0), .second, .val (.long x1), .second, .val (.int x2), .val (.int (0 : Int32)), .unset, .unset, .unset, .unset, .unset, .unset, .unset, .unset, .unset] [(.int (0 : Int32))])
      refine Go.step (fun _ kt_ => XS.ifYes X0.here hx rfl (pc0 := 16) (pc' := 25) rfl (hb hby at_16) rfl ((if0 _ _).trans (teq (by decide : (0 : Int32) = (0 : Int32))).1) (by decide) (by decide) kt_) ?_
      show Go _ _ _ _ _ _ _ _ s₁ (mkF m 25 #[.val (.long x0), .second, .val (.long x1), .second, .val (.int x2), .val (.int (0 : Int32)), .unset, .unset, .unset, .unset, .unset, .unset, .unset, .unset, .unset] [])
      obtain ⟨T28, X28, e28, st28⟩ := getS2 X0 hx hZ hown (host := "") (Or.inl (hw _ (List.mem_of_getElem? (i := 0) rfl))) Via.refl e0 (Sta.ext O0 S_S) (g := (mkF m 25 #[.val (.long x0), .second, .val (.long x1), .second, .val (.int x2), .val (.int (0 : Int32)), .unset, .unset, .unset, .unset, .unset, .unset, .unset, .unset, .unset] [])) rfl (hb hby at_25)
      refine Go.step st28 ?_
      show Go _ _ _ _ _ _ _ _ T28 (mkF m 28 #[.val (.long x0), .second, .val (.long x1), .second, .val (.int x2), .val (.int (0 : Int32)), .unset, .unset, .unset, .unset, .unset, .unset, .unset, .unset, .unset] [(.ref sA)])
      refine Go.step (fun _ kt_ => XS.astore X28.here hx rfl (hb hby at_28) rfl rfl (l' := #[.val (.long x0), .second, .val (.long x1), .second, .val (.int x2), .val (.int (0 : Int32)), .val (.ref sA), .unset, .unset, .unset, .unset, .unset, .unset, .unset, .unset]) rfl kt_) ?_
      show Go _ _ _ _ _ _ _ _ T28 (mkF m 30 #[.val (.long x0), .second, .val (.long x1), .second, .val (.int x2), .val (.int (0 : Int32)), .val (.ref sA), .unset, .unset, .unset, .unset, .unset, .unset, .unset, .unset] [])
      refine Go.step (fun _ kt_ => XS.iload X28.here hx rfl (hb hby at_30) rfl kt_) ?_
      show Go _ _ _ _ _ _ _ _ T28 (mkF m 32 #[.val (.long x0), .second, .val (.long x1), .second, .val (.int x2), .val (.int (0 : Int32)), .val (.ref sA), .unset, .unset, .unset, .unset, .unset, .unset, .unset, .unset] [(.int (0 : Int32))])
      refine Go.step (fun _ kt_ => XS.ifYes X28.here hx rfl (pc0 := 32) (pc' := 41) rfl (hb hby at_32) rfl ((if0 _ _).trans (teq (by decide : (0 : Int32) = (0 : Int32))).1) (by decide) (by decide) kt_) ?_
      show Go _ _ _ _ _ _ _ _ T28 (mkF m 41 #[.val (.long x0), .second, .val (.long x1), .second, .val (.int x2), .val (.int (0 : Int32)), .val (.ref sA), .unset, .unset, .unset, .unset, .unset, .unset, .unset, .unset] [])
      obtain ⟨T29, X29, e29, st29⟩ := getS2 X28 hx hZ hown (host := "") (Or.inl (hw _ (List.mem_of_getElem? (i := 3) rfl))) Via.refl e28 (Sta.ext O0 S_B) (g := (mkF m 41 #[.val (.long x0), .second, .val (.long x1), .second, .val (.int x2), .val (.int (0 : Int32)), .val (.ref sA), .unset, .unset, .unset, .unset, .unset, .unset, .unset, .unset] [])) rfl (hb hby at_41)
      refine Go.step st29 ?_
      show Go _ _ _ _ _ _ _ _ T29 (mkF m 44 #[.val (.long x0), .second, .val (.long x1), .second, .val (.int x2), .val (.int (0 : Int32)), .val (.ref sA), .unset, .unset, .unset, .unset, .unset, .unset, .unset, .unset] [(.ref bA)])
      refine Go.step (fun _ kt_ => XS.astore X29.here hx rfl (hb hby at_44) rfl rfl (l' := #[.val (.long x0), .second, .val (.long x1), .second, .val (.int x2), .val (.int (0 : Int32)), .val (.ref sA), .val (.ref bA), .unset, .unset, .unset, .unset, .unset, .unset, .unset]) rfl kt_) ?_
      show Go _ _ _ _ _ _ _ _ T29 (mkF m 46 #[.val (.long x0), .second, .val (.long x1), .second, .val (.int x2), .val (.int (0 : Int32)), .val (.ref sA), .val (.ref bA), .unset, .unset, .unset, .unset, .unset, .unset, .unset] [])
      refine Go.step (fun _ kt_ => XS.aload X29.here hx rfl (hb hby at_46) rfl rfl kt_) ?_
      show Go _ _ _ _ _ _ _ _ T29 (mkF m 48 #[.val (.long x0), .second, .val (.long x1), .second, .val (.int x2), .val (.int (0 : Int32)), .val (.ref sA), .val (.ref bA), .unset, .unset, .unset, .unset, .unset, .unset, .unset] [(.ref sA)])
      refine Go.step (fun _ kt_ => XS.lloadN X29.here hx rfl (hb hby at_48) rfl kt_) ?_
      show Go _ _ _ _ _ _ _ _ T29 (mkF m 49 #[.val (.long x0), .second, .val (.long x1), .second, .val (.int x2), .val (.int (0 : Int32)), .val (.ref sA), .val (.ref bA), .unset, .unset, .unset, .unset, .unset, .unset, .unset] [(.long x0), (.ref sA)])
      refine Go.step (fun _ kt_ => XS.lloadN X29.here hx rfl (hb hby at_49) rfl kt_) ?_
      show Go _ _ _ _ _ _ _ _ T29 (mkF m 50 #[.val (.long x0), .second, .val (.long x1), .second, .val (.int x2), .val (.int (0 : Int32)), .val (.ref sA), .val (.ref bA), .unset, .unset, .unset, .unset, .unset, .unset, .unset] [(.long x1), (.long x0), (.ref sA)])
      obtain ⟨cq30, kq30, q30a, q30b, q30c⟩ := isOf hZ e29 (Exa.ext O0 X_S)
      obtain ⟨_, _, ⟨T30, L30, k30, n30⟩, -, X30, ⟨Lc30, hQ30, l30, y30, z30⟩, st30⟩ := X29.virtualBack hx (y := (⟨"org/matchstone/engine/Side", "better", "(JJ)Z"⟩ : MethodName)) (z := (⟨"org/matchstone/engine/Side", "better", "(JJ)Z"⟩ : MethodName)) hown (mvT hZ (hw _ (List.mem_of_getElem? (i := 5) rfl))) (mvT hZ (hw _ (List.mem_of_getElem? (i := 6) rfl))) (notFace_of_selects (args := #[]) (mvT hZ (hw _ (List.mem_of_getElem? (i := 8) rfl)))) (mvT hZ (hw _ (List.mem_of_getElem? (i := 8) rfl))) (mvT hZ (hw _ (List.mem_of_getElem? (i := 7) rfl))) (by decide) (backOf (W := 0) (rm_1 l Z a0 hw [] sA x0 x1 bA (0 : Int32) h0 O0 S_B (by simp [hne, Ne.symm hne, h1, h2, h3, h4])) hZ (hw _ (List.mem_of_getElem? (i := 9) rfl)) (hw _ (List.mem_of_getElem? (i := 1) rfl)) (by decide) (by decide)) q30a q30c (g := (mkF m 50 #[.val (.long x0), .second, .val (.long x1), .second, .val (.int x2), .val (.int (0 : Int32)), .val (.ref sA), .val (.ref bA), .unset, .unset, .unset, .unset, .unset, .unset, .unset] [(.long x1), (.long x0), (.ref sA)])) rfl (by rw [hml]; rfl) (Steps.refl _) (argsL := [(.long x0), (.long x1)]) (rest := []) (lenOf pd_LJJRZ rfl) rfl (by show 2 * 0 + _ ≤ _; exact Nat.le_of_eq rfl) (hb hby at_50) (fun _ _ => ⟨rfl, e29, (by decide : 0 + 0 ≤ _), (by decide : 0 + 0 ≤ _)⟩)
      dsimp only [Pt.U, Pt.locs, Pt.cells, Pt.slots] at X30 l30 y30 z30 st30 hQ30
      subst l30 y30 z30
      obtain ⟨rfl, Nq30, e30⟩ := hQ30
      have N30_ := Fr.app N0 Nq30
      refine Go.trans st30 ?_
      show Go _ _ _ _ _ _ _ _ T30 (mkF m 53 #[.val (.long x0), .second, .val (.long x1), .second, .val (.int x2), .val (.int (0 : Int32)), .val (.ref sA), .val (.ref bA), .unset, .unset, .unset, .unset, .unset, .unset, .unset] [(.int (0 : Int32))])
      refine Go.step (fun _ kt_ => XS.istore X30.here hx rfl (hb hby at_53) rfl (l' := #[.val (.long x0), .second, .val (.long x1), .second, .val (.int x2), .val (.int (0 : Int32)), .val (.ref sA), .val (.ref bA), .val (.int (0 : Int32)), .unset, .unset, .unset, .unset, .unset, .unset]) rfl kt_) ?_
      show Go _ _ _ _ _ _ _ _ T30 (mkF m 55 #[.val (.long x0), .second, .val (.long x1), .second, .val (.int x2), .val (.int (0 : Int32)), .val (.ref sA), .val (.ref bA), .val (.int (0 : Int32)), .unset, .unset, .unset, .unset, .unset, .unset] [])
      refine Go.step (fun _ kt_ => XS.aload X30.here hx rfl (hb hby at_55) rfl rfl kt_) ?_
      show Go _ _ _ _ _ _ _ _ T30 (mkF m 57 #[.val (.long x0), .second, .val (.long x1), .second, .val (.int x2), .val (.int (0 : Int32)), .val (.ref sA), .val (.ref bA), .val (.int (0 : Int32)), .unset, .unset, .unset, .unset, .unset, .unset] [(.ref bA)])
      refine Go.step (fun _ kt_ => XS.lloadN X30.here hx rfl (hb hby at_57) rfl kt_) ?_
      show Go _ _ _ _ _ _ _ _ T30 (mkF m 58 #[.val (.long x0), .second, .val (.long x1), .second, .val (.int x2), .val (.int (0 : Int32)), .val (.ref sA), .val (.ref bA), .val (.int (0 : Int32)), .unset, .unset, .unset, .unset, .unset, .unset] [(.long x1), (.ref bA)])
      refine Go.step (fun _ kt_ => XS.lloadN X30.here hx rfl (hb hby at_58) rfl kt_) ?_
      show Go _ _ _ _ _ _ _ _ T30 (mkF m 59 #[.val (.long x0), .second, .val (.long x1), .second, .val (.int x2), .val (.int (0 : Int32)), .val (.ref sA), .val (.ref bA), .val (.int (0 : Int32)), .unset, .unset, .unset, .unset, .unset, .unset] [(.long x0), (.long x1), (.ref bA)])
      obtain ⟨cq31, kq31, q31a, q31b, q31c⟩ := isOf hZ e30 (Exa.ext O0 X_B)
      obtain ⟨_, _, ⟨T31, L31, k31, n31⟩, -, X31, ⟨Lc31, hQ31, l31, y31, z31⟩, st31⟩ := X30.virtualBack hx (y := (⟨"org/matchstone/engine/Side", "better", "(JJ)Z"⟩ : MethodName)) (z := (⟨"org/matchstone/engine/Side", "better", "(JJ)Z"⟩ : MethodName)) hown (mvT hZ (hw _ (List.mem_of_getElem? (i := 5) rfl))) (mvT hZ (hw _ (List.mem_of_getElem? (i := 6) rfl))) (notFace_of_selects (args := #[]) (mvT hZ (hw _ (List.mem_of_getElem? (i := 8) rfl)))) (mvT hZ (hw _ (List.mem_of_getElem? (i := 8) rfl))) (mvT hZ (hw _ (List.mem_of_getElem? (i := 7) rfl))) (by decide) (backOf (W := 0) (rm_1 l Z a0 hw [] bA x1 x0 bA (0 : Int32) h0 O0 S_B (by simp [hne, Ne.symm hne, h1, h2, h3, h4])) hZ (hw _ (List.mem_of_getElem? (i := 9) rfl)) (hw _ (List.mem_of_getElem? (i := 1) rfl)) (by decide) (by decide)) q31a q31c (g := (mkF m 59 #[.val (.long x0), .second, .val (.long x1), .second, .val (.int x2), .val (.int (0 : Int32)), .val (.ref sA), .val (.ref bA), .val (.int (0 : Int32)), .unset, .unset, .unset, .unset, .unset, .unset] [(.long x0), (.long x1), (.ref bA)])) rfl (by rw [hml]; rfl) (Steps.refl _) (argsL := [(.long x1), (.long x0)]) (rest := []) (lenOf pd_LJJRZ rfl) rfl (by show 2 * 0 + _ ≤ _; exact Nat.le_of_eq rfl) (hb hby at_59) (fun _ _ => ⟨rfl, e30, (by decide : 0 + 0 ≤ _), (by decide : 0 + 0 ≤ _)⟩)
      dsimp only [Pt.U, Pt.locs, Pt.cells, Pt.slots] at X31 l31 y31 z31 st31 hQ31
      subst l31 y31 z31
      obtain ⟨rfl, Nq31, e31⟩ := hQ31
      have N31_ := Fr.app N30_ Nq31
      refine Go.trans st31 ?_
      show Go _ _ _ _ _ _ _ _ T31 (mkF m 62 #[.val (.long x0), .second, .val (.long x1), .second, .val (.int x2), .val (.int (0 : Int32)), .val (.ref sA), .val (.ref bA), .val (.int (0 : Int32)), .unset, .unset, .unset, .unset, .unset, .unset] [(.int (0 : Int32))])
      refine Go.step (fun _ kt_ => XS.istore X31.here hx rfl (hb hby at_62) rfl (l' := #[.val (.long x0), .second, .val (.long x1), .second, .val (.int x2), .val (.int (0 : Int32)), .val (.ref sA), .val (.ref bA), .val (.int (0 : Int32)), .val (.int (0 : Int32)), .unset, .unset, .unset, .unset, .unset]) rfl kt_) ?_
      show Go _ _ _ _ _ _ _ _ T31 (mkF m 64 #[.val (.long x0), .second, .val (.long x1), .second, .val (.int x2), .val (.int (0 : Int32)), .val (.ref sA), .val (.ref bA), .val (.int (0 : Int32)), .val (.int (0 : Int32)), .unset, .unset, .unset, .unset, .unset] [])
      refine Go.step (fun _ kt_ => XS.lloadN X31.here hx rfl (hb hby at_64) rfl kt_) ?_
      show Go _ _ _ _ _ _ _ _ T31 (mkF m 65 #[.val (.long x0), .second, .val (.long x1), .second, .val (.int x2), .val (.int (0 : Int32)), .val (.ref sA), .val (.ref bA), .val (.int (0 : Int32)), .val (.int (0 : Int32)), .unset, .unset, .unset, .unset, .unset] [(.long x0)])
      refine Go.step (fun _ kt_ => XS.lloadN X31.here hx rfl (hb hby at_65) rfl kt_) ?_
      show Go _ _ _ _ _ _ _ _ T31 (mkF m 66 #[.val (.long x0), .second, .val (.long x1), .second, .val (.int x2), .val (.int (0 : Int32)), .val (.ref sA), .val (.ref bA), .val (.int (0 : Int32)), .val (.int (0 : Int32)), .unset, .unset, .unset, .unset, .unset] [(.long x1), (.long x0)])
      obtain ⟨_, _, ⟨T32, L32, k32, n32⟩, -, X32, ⟨Lc32, hQ32, l32, y32, z32⟩, st32⟩ := Jvm.LawKit.callS X31 hx (y := (⟨"java/lang/Math", "max", "(JJ)J"⟩ : MethodName)) hown (mvT hZ (hw _ (List.mem_of_getElem? (i := 11) rfl))) (mvT hZ (hw _ (List.mem_of_getElem? (i := 12) rfl))) (mvT hZ (hw _ (List.mem_of_getElem? (i := 13) rfl))) (mvT hZ (hw _ (List.mem_of_getElem? (i := 14) rfl))) (by decide) (backOf (W := 0) (rm_2 l Z a0 hw [] x0 x1 x0 h0 O0 (by simp [hne, Ne.symm hne, h1, h2, h3, h4])) hZ (hw _ (List.mem_of_getElem? (i := 14) rfl)) (hw _ (List.mem_of_getElem? (i := 13) rfl)) (by decide) (by decide)) (g := (mkF m 66 #[.val (.long x0), .second, .val (.long x1), .second, .val (.int x2), .val (.int (0 : Int32)), .val (.ref sA), .val (.ref bA), .val (.int (0 : Int32)), .val (.int (0 : Int32)), .unset, .unset, .unset, .unset, .unset] [(.long x1), (.long x0)])) rfl (by rw [hml]; rfl) (argsL := [(.long x0), (.long x1)]) (rest := []) (lenOf pd_LJJRJ rfl) rfl (by show 2 * 0 + _ ≤ _; exact Nat.le_of_eq rfl) (hb hby at_66) (fun _ _ => ⟨rfl, e31, (by decide : 0 + 0 ≤ _), (by decide : 0 + 0 ≤ _)⟩)
      dsimp only [Pt.U, Pt.locs, Pt.cells, Pt.slots] at X32 l32 y32 z32 st32 hQ32
      subst l32 y32 z32
      obtain ⟨rfl, Nq32, e32⟩ := hQ32
      have N32_ := Fr.app N31_ Nq32
      refine Go.step st32 ?_
      show Go _ _ _ _ _ _ _ _ T32 (mkF m 69 #[.val (.long x0), .second, .val (.long x1), .second, .val (.int x2), .val (.int (0 : Int32)), .val (.ref sA), .val (.ref bA), .val (.int (0 : Int32)), .val (.int (0 : Int32)), .unset, .unset, .unset, .unset, .unset] [(.long x0)])
      refine Go.step (fun _ kt_ => XS.lstore X32.here hx rfl (hb hby at_69) rfl (l' := #[.val (.long x0), .second, .val (.long x1), .second, .val (.int x2), .val (.int (0 : Int32)), .val (.ref sA), .val (.ref bA), .val (.int (0 : Int32)), .val (.int (0 : Int32)), .val (.long x0), .second, .unset, .unset, .unset]) rfl kt_) ?_
      show Go _ _ _ _ _ _ _ _ T32 (mkF m 71 #[.val (.long x0), .second, .val (.long x1), .second, .val (.int x2), .val (.int (0 : Int32)), .val (.ref sA), .val (.ref bA), .val (.int (0 : Int32)), .val (.int (0 : Int32)), .val (.long x0), .second, .unset, .unset, .unset] [])
      refine Go.step (fun _ kt_ => XS.lloadN X32.here hx rfl (hb hby at_71) rfl kt_) ?_
      show Go _ _ _ _ _ _ _ _ T32 (mkF m 72 #[.val (.long x0), .second, .val (.long x1), .second, .val (.int x2), .val (.int (0 : Int32)), .val (.ref sA), .val (.ref bA), .val (.int (0 : Int32)), .val (.int (0 : Int32)), .val (.long x0), .second, .unset, .unset, .unset] [(.long x0)])
      refine Go.step (fun _ kt_ => XS.lloadN X32.here hx rfl (hb hby at_72) rfl kt_) ?_
      show Go _ _ _ _ _ _ _ _ T32 (mkF m 73 #[.val (.long x0), .second, .val (.long x1), .second, .val (.int x2), .val (.int (0 : Int32)), .val (.ref sA), .val (.ref bA), .val (.int (0 : Int32)), .val (.int (0 : Int32)), .val (.long x0), .second, .unset, .unset, .unset] [(.long x1), (.long x0)])
      obtain ⟨_, _, ⟨T33, L33, k33, n33⟩, -, X33, ⟨Lc33, hQ33, l33, y33, z33⟩, st33⟩ := Jvm.LawKit.callS X32 hx (y := (⟨"java/lang/Math", "min", "(JJ)J"⟩ : MethodName)) hown (mvT hZ (hw _ (List.mem_of_getElem? (i := 15) rfl))) (mvT hZ (hw _ (List.mem_of_getElem? (i := 16) rfl))) (mvT hZ (hw _ (List.mem_of_getElem? (i := 13) rfl))) (mvT hZ (hw _ (List.mem_of_getElem? (i := 17) rfl))) (by decide) (backOf (W := 0) (rm_3 l Z a0 hw [] x0 x1 x1 h0 O0 (by simp [hne, Ne.symm hne, h1, h2, h3, h4])) hZ (hw _ (List.mem_of_getElem? (i := 17) rfl)) (hw _ (List.mem_of_getElem? (i := 13) rfl)) (by decide) (by decide)) (g := (mkF m 73 #[.val (.long x0), .second, .val (.long x1), .second, .val (.int x2), .val (.int (0 : Int32)), .val (.ref sA), .val (.ref bA), .val (.int (0 : Int32)), .val (.int (0 : Int32)), .val (.long x0), .second, .unset, .unset, .unset] [(.long x1), (.long x0)])) rfl (by rw [hml]; rfl) (argsL := [(.long x0), (.long x1)]) (rest := []) (lenOf pd_LJJRJ rfl) rfl (by show 2 * 0 + _ ≤ _; exact Nat.le_of_eq rfl) (hb hby at_73) (fun _ _ => ⟨rfl, e32, (by decide : 0 + 0 ≤ _), (by decide : 0 + 0 ≤ _)⟩)
      dsimp only [Pt.U, Pt.locs, Pt.cells, Pt.slots] at X33 l33 y33 z33 st33 hQ33
      subst l33 y33 z33
      obtain ⟨rfl, Nq33, e33⟩ := hQ33
      have N33_ := Fr.app N32_ Nq33
      refine Go.step st33 ?_
      show Go _ _ _ _ _ _ _ _ T33 (mkF m 76 #[.val (.long x0), .second, .val (.long x1), .second, .val (.int x2), .val (.int (0 : Int32)), .val (.ref sA), .val (.ref bA), .val (.int (0 : Int32)), .val (.int (0 : Int32)), .val (.long x0), .second, .unset, .unset, .unset] [(.long x1)])
      refine Go.step (fun _ kt_ => XS.lstore X33.here hx rfl (hb hby at_76) rfl (l' := #[.val (.long x0), .second, .val (.long x1), .second, .val (.int x2), .val (.int (0 : Int32)), .val (.ref sA), .val (.ref bA), .val (.int (0 : Int32)), .val (.int (0 : Int32)), .val (.long x0), .second, .val (.long x1), .second, .unset]) rfl kt_) ?_
      show Go _ _ _ _ _ _ _ _ T33 (mkF m 78 #[.val (.long x0), .second, .val (.long x1), .second, .val (.int x2), .val (.int (0 : Int32)), .val (.ref sA), .val (.ref bA), .val (.int (0 : Int32)), .val (.int (0 : Int32)), .val (.long x0), .second, .val (.long x1), .second, .unset] [])
      refine Go.step (fun _ kt_ => XS.iload X33.here hx rfl (hb hby at_78) rfl kt_) ?_
      show Go _ _ _ _ _ _ _ _ T33 (mkF m 80 #[.val (.long x0), .second, .val (.long x1), .second, .val (.int x2), .val (.int (0 : Int32)), .val (.ref sA), .val (.ref bA), .val (.int (0 : Int32)), .val (.int (0 : Int32)), .val (.long x0), .second, .val (.long x1), .second, .unset] [(.int (0 : Int32))])
      refine Go.step (fun _ kt_ => XS.ifYes X33.here hx rfl (pc0 := 80) (pc' := 106) rfl (hb hby at_80) rfl ((if0 _ _).trans (teq (by decide : (0 : Int32) = (0 : Int32))).1) (by decide) (by decide) kt_) ?_
      show Go _ _ _ _ _ _ _ _ T33 (mkF m 106 #[.val (.long x0), .second, .val (.long x1), .second, .val (.int x2), .val (.int (0 : Int32)), .val (.ref sA), .val (.ref bA), .val (.int (0 : Int32)), .val (.int (0 : Int32)), .val (.long x0), .second, .val (.long x1), .second, .unset] [])
      refine Go.step (fun _ kt_ => XS.lloadN X33.here hx rfl (hb hby at_106) rfl kt_) ?_
      show Go _ _ _ _ _ _ _ _ T33 (mkF m 107 #[.val (.long x0), .second, .val (.long x1), .second, .val (.int x2), .val (.int (0 : Int32)), .val (.ref sA), .val (.ref bA), .val (.int (0 : Int32)), .val (.int (0 : Int32)), .val (.long x0), .second, .val (.long x1), .second, .unset] [(.long x0)])
      refine Go.step (fun _ kt_ => XS.lloadN X33.here hx rfl (hb hby at_107) rfl kt_) ?_
      show Go _ _ _ _ _ _ _ _ T33 (mkF m 108 #[.val (.long x0), .second, .val (.long x1), .second, .val (.int x2), .val (.int (0 : Int32)), .val (.ref sA), .val (.ref bA), .val (.int (0 : Int32)), .val (.int (0 : Int32)), .val (.long x0), .second, .val (.long x1), .second, .unset] [(.long x1), (.long x0)])
      refine Go.step (fun _ kt_ => XS.lcmp X33.here hx rfl (hb hby at_108) rfl kt_) ?_
      show Go _ _ _ _ _ _ _ _ T33 (mkF m 109 #[.val (.long x0), .second, .val (.long x1), .second, .val (.int x2), .val (.int (0 : Int32)), .val (.ref sA), .val (.ref bA), .val (.int (0 : Int32)), .val (.int (0 : Int32)), .val (.long x0), .second, .val (.long x1), .second, .unset] [(.int (lcmpW x0 x1))])
      refine Go.step (fun _ kt_ => XS.ifNo X33.here hx rfl (hb hby at_109) rfl ((if0 _ _).trans (feq (fun q => h3 ((lw_eq _ _).mp q))).1) kt_) ?_
      show Go _ _ _ _ _ _ _ _ T33 (mkF m 112 #[.val (.long x0), .second, .val (.long x1), .second, .val (.int x2), .val (.int (0 : Int32)), .val (.ref sA), .val (.ref bA), .val (.int (0 : Int32)), .val (.int (0 : Int32)), .val (.long x0), .second, .val (.long x1), .second, .unset] [])
      refine Go.step (fun _ kt_ => XS.lloadN X33.here hx rfl (hb hby at_112) rfl kt_) ?_
      show Go _ _ _ _ _ _ _ _ T33 (mkF m 113 #[.val (.long x0), .second, .val (.long x1), .second, .val (.int x2), .val (.int (0 : Int32)), .val (.ref sA), .val (.ref bA), .val (.int (0 : Int32)), .val (.int (0 : Int32)), .val (.long x0), .second, .val (.long x1), .second, .unset] [(.long x0)])
      refine Go.step (fun _ kt_ => XS.lload X33.here hx rfl (hb hby at_113) rfl kt_) ?_
      show Go _ _ _ _ _ _ _ _ T33 (mkF m 115 #[.val (.long x0), .second, .val (.long x1), .second, .val (.int x2), .val (.int (0 : Int32)), .val (.ref sA), .val (.ref bA), .val (.int (0 : Int32)), .val (.int (0 : Int32)), .val (.long x0), .second, .val (.long x1), .second, .unset] [(.long x1), (.long x0)])
      refine Go.step (fun _ kt_ => XS.lcmp X33.here hx rfl (hb hby at_115) rfl kt_) ?_
      show Go _ _ _ _ _ _ _ _ T33 (mkF m 116 #[.val (.long x0), .second, .val (.long x1), .second, .val (.int x2), .val (.int (0 : Int32)), .val (.ref sA), .val (.ref bA), .val (.int (0 : Int32)), .val (.int (0 : Int32)), .val (.long x0), .second, .val (.long x1), .second, .unset] [(.int (lcmpW x0 x1))])
      refine Go.step (fun _ kt_ => XS.ifYes X33.here hx rfl (pc0 := 116) (pc' := 123) rfl (hb hby at_116) rfl ((if0 _ _).trans (feq (fun q => h3 ((lw_eq _ _).mp q))).2) (by decide) (by decide) kt_) ?_
      show Go _ _ _ _ _ _ _ _ T33 (mkF m 123 #[.val (.long x0), .second, .val (.long x1), .second, .val (.int x2), .val (.int (0 : Int32)), .val (.ref sA), .val (.ref bA), .val (.int (0 : Int32)), .val (.int (0 : Int32)), .val (.long x0), .second, .val (.long x1), .second, .unset] [])
      refine Go.step (fun _ kt_ => XS.iconst X33.here hx rfl (hb hby at_123)  kt_) ?_
      show Go _ _ _ _ _ _ _ _ T33 (mkF m 124 #[.val (.long x0), .second, .val (.long x1), .second, .val (.int x2), .val (.int (0 : Int32)), .val (.ref sA), .val (.ref bA), .val (.int (0 : Int32)), .val (.int (0 : Int32)), .val (.long x0), .second, .val (.long x1), .second, .unset] [(.int (0 : Int32))])
      refine Go.step (fun _ kt_ => XS.istore X33.here hx rfl (hb hby at_124) rfl (l' := #[.val (.long x0), .second, .val (.long x1), .second, .val (.int x2), .val (.int (0 : Int32)), .val (.ref sA), .val (.ref bA), .val (.int (0 : Int32)), .val (.int (0 : Int32)), .val (.long x0), .second, .val (.long x1), .second, .val (.int (0 : Int32))]) rfl kt_) ?_
      show Go _ _ _ _ _ _ _ _ T33 (mkF m 126 #[.val (.long x0), .second, .val (.long x1), .second, .val (.int x2), .val (.int (0 : Int32)), .val (.ref sA), .val (.ref bA), .val (.int (0 : Int32)), .val (.int (0 : Int32)), .val (.long x0), .second, .val (.long x1), .second, .val (.int (0 : Int32))] [])
      refine Go.step (fun _ kt_ => XS.iload X33.here hx rfl (hb hby at_126) rfl kt_) ?_
      show Go _ _ _ _ _ _ _ _ T33 (mkF m 128 #[.val (.long x0), .second, .val (.long x1), .second, .val (.int x2), .val (.int (0 : Int32)), .val (.ref sA), .val (.ref bA), .val (.int (0 : Int32)), .val (.int (0 : Int32)), .val (.long x0), .second, .val (.long x1), .second, .val (.int (0 : Int32))] [(.int (0 : Int32))])
      refine Go.step (fun _ kt_ => XS.iload X33.here hx rfl (hb hby at_128) rfl kt_) ?_
      show Go _ _ _ _ _ _ _ _ T33 (mkF m 130 #[.val (.long x0), .second, .val (.long x1), .second, .val (.int x2), .val (.int (0 : Int32)), .val (.ref sA), .val (.ref bA), .val (.int (0 : Int32)), .val (.int (0 : Int32)), .val (.long x0), .second, .val (.long x1), .second, .val (.int (0 : Int32))] [(.int (0 : Int32)), (.int (0 : Int32))])
      refine Go.step (fun _ kt_ => XS.icmpNo X33.here hx rfl (hb hby at_130) rfl (teq (by decide : (0 : Int32) = (0 : Int32))).2 kt_) ?_
      show Go _ _ _ _ _ _ _ _ T33 (mkF m 133 #[.val (.long x0), .second, .val (.long x1), .second, .val (.int x2), .val (.int (0 : Int32)), .val (.ref sA), .val (.ref bA), .val (.int (0 : Int32)), .val (.int (0 : Int32)), .val (.long x0), .second, .val (.long x1), .second, .val (.int (0 : Int32))] [])
      refine Go.step (fun _ kt_ => XS.iload X33.here hx rfl (hb hby at_133) rfl kt_) ?_
      show Go _ _ _ _ _ _ _ _ T33 (mkF m 135 #[.val (.long x0), .second, .val (.long x1), .second, .val (.int x2), .val (.int (0 : Int32)), .val (.ref sA), .val (.ref bA), .val (.int (0 : Int32)), .val (.int (0 : Int32)), .val (.long x0), .second, .val (.long x1), .second, .val (.int (0 : Int32))] [(.int (0 : Int32))])
      refine Go.step (fun _ kt_ => XS.iload X33.here hx rfl (hb hby at_135) rfl kt_) ?_
      show Go _ _ _ _ _ _ _ _ T33 (mkF m 137 #[.val (.long x0), .second, .val (.long x1), .second, .val (.int x2), .val (.int (0 : Int32)), .val (.ref sA), .val (.ref bA), .val (.int (0 : Int32)), .val (.int (0 : Int32)), .val (.long x0), .second, .val (.long x1), .second, .val (.int (0 : Int32))] [(.int (0 : Int32)), (.int (0 : Int32))])
      refine Go.step (fun _ kt_ => XS.icmpNo X33.here hx rfl (hb hby at_137) rfl (teq (by decide : (0 : Int32) = (0 : Int32))).2 kt_) ?_
      show Go _ _ _ _ _ _ _ _ T33 (mkF m 140 #[.val (.long x0), .second, .val (.long x1), .second, .val (.int x2), .val (.int (0 : Int32)), .val (.ref sA), .val (.ref bA), .val (.int (0 : Int32)), .val (.int (0 : Int32)), .val (.long x0), .second, .val (.long x1), .second, .val (.int (0 : Int32))] [])
      refine Go.step (fun _ kt_ => XS.iconst X33.here hx rfl (hb hby at_140)  kt_) ?_
      show Go _ _ _ _ _ _ _ _ T33 (mkF m 141 #[.val (.long x0), .second, .val (.long x1), .second, .val (.int x2), .val (.int (0 : Int32)), .val (.ref sA), .val (.ref bA), .val (.int (0 : Int32)), .val (.int (0 : Int32)), .val (.long x0), .second, .val (.long x1), .second, .val (.int (0 : Int32))] [(.int (1 : Int32))])
      refine Go.step (fun _ kt_ => XS.goto X33.here hx rfl (pc0 := 141) (pc' := 145) rfl (hb hby at_141) (by decide) (by decide) kt_) ?_
      show Go _ _ _ _ _ _ _ _ T33 (mkF m 145 #[.val (.long x0), .second, .val (.long x1), .second, .val (.int x2), .val (.int (0 : Int32)), .val (.ref sA), .val (.ref bA), .val (.int (0 : Int32)), .val (.int (0 : Int32)), .val (.long x0), .second, .val (.long x1), .second, .val (.int (0 : Int32))] [(.int (1 : Int32))])
      exact Go.retN X33 hx (t := .boolean) Bd.returns (by simp) hlk (hb hby at_145) (by decide) (by decide) (by show _ ∧ _ ∧ _; rw [e33]; exact ⟨rfl, N33_, rfl⟩)
    · refine Go.step (fun _ kt_ => XS.ifNo X0.here hx rfl (hb hby at_4) rfl ((if0 _ _).trans (feq hc4_27).1) kt_) ?_
      show Go _ _ _ _ _ _ _ _ s₁ (mkF m 7 #[.val (.long x0), .second, .val (.long x1), .second, .val (.int x2), .unset, .unset, .unset, .unset, .unset, .unset, .unset, .unset, .unset, .unset] [])
      refine Go.step (fun _ kt_ => XS.iconst X0.here hx rfl (hb hby at_7)  kt_) ?_
      show Go _ _ _ _ _ _ _ _ s₁ (mkF m 8 #[.val (.long x0), .second, .val (.long x1), .second, .val (.int x2), .unset, .unset, .unset, .unset, .unset, .unset, .unset, .unset, .unset, .unset] [(.int (1 : Int32))])
      refine Go.step (fun _ kt_ => XS.goto X0.here hx rfl (pc0 := 8) (pc' := 12) rfl (hb hby at_8) (by decide) (by decide) kt_) ?_
      show Go _ _ _ _ _ _ _ _ s₁ (mkF m 12 #[.val (.long x0), .second, .val (.long x1), .second, .val (.int x2), .unset, .unset, .unset, .unset, .unset, .unset, .unset, .unset, .unset, .unset] [(.int (1 : Int32))])
      refine Go.step (fun _ kt_ => XS.istore X0.here hx rfl (hb hby at_12) rfl (l' := #[.val (.long x0), .second, .val (.long x1), .second, .val (.int x2), .val (.int (1 : Int32)), .unset, .unset, .unset, .unset, .unset, .unset, .unset, .unset, .unset]) rfl kt_) ?_
      show Go _ _ _ _ _ _ _ _ s₁ (mkF m 14 #[.val (.long x0), .second, .val (.long x1), .second, .val (.int x2), .val (.int (1 : Int32)), .unset, .unset, .unset, .unset, .unset, .unset, .unset, .unset, .unset] [])
      refine Go.step (fun _ kt_ => XS.iload X0.here hx rfl (hb hby at_14) rfl kt_) ?_
      show Go _ _ _ _ _ _ _ _ s₁ (mkF m 16 #[.val (.long x0), .second, .val (.long x1), .second, .val (.int x2), .val (.int (1 : Int32)), .unset, .unset, .unset, .unset, .unset, .unset, .unset, .unset, .unset] [(.int (1 : Int32))])
      refine Go.step (fun _ kt_ => XS.ifNo X0.here hx rfl (hb hby at_16) rfl ((if0 _ _).trans (feq (by decide : ¬ ((1 : Int32) = (0 : Int32)))).1) kt_) ?_
      show Go _ _ _ _ _ _ _ _ s₁ (mkF m 19 #[.val (.long x0), .second, .val (.long x1), .second, .val (.int x2), .val (.int (1 : Int32)), .unset, .unset, .unset, .unset, .unset, .unset, .unset, .unset, .unset] [])
      obtain ⟨T34, X34, e34, st34⟩ := getS2 X0 hx hZ hown (host := "") (Or.inl (hw _ (List.mem_of_getElem? (i := 3) rfl))) Via.refl e0 (Sta.ext O0 S_B) (g := (mkF m 19 #[.val (.long x0), .second, .val (.long x1), .second, .val (.int x2), .val (.int (1 : Int32)), .unset, .unset, .unset, .unset, .unset, .unset, .unset, .unset, .unset] [])) rfl (hb hby at_19)
      refine Go.step st34 ?_
      show Go _ _ _ _ _ _ _ _ T34 (mkF m 22 #[.val (.long x0), .second, .val (.long x1), .second, .val (.int x2), .val (.int (1 : Int32)), .unset, .unset, .unset, .unset, .unset, .unset, .unset, .unset, .unset] [(.ref bA)])
      refine Go.step (fun _ kt_ => XS.goto X34.here hx rfl (pc0 := 22) (pc' := 28) rfl (hb hby at_22) (by decide) (by decide) kt_) ?_
      show Go _ _ _ _ _ _ _ _ T34 (mkF m 28 #[.val (.long x0), .second, .val (.long x1), .second, .val (.int x2), .val (.int (1 : Int32)), .unset, .unset, .unset, .unset, .unset, .unset, .unset, .unset, .unset] [(.ref bA)])
      refine Go.step (fun _ kt_ => XS.astore X34.here hx rfl (hb hby at_28) rfl rfl (l' := #[.val (.long x0), .second, .val (.long x1), .second, .val (.int x2), .val (.int (1 : Int32)), .val (.ref bA), .unset, .unset, .unset, .unset, .unset, .unset, .unset, .unset]) rfl kt_) ?_
      show Go _ _ _ _ _ _ _ _ T34 (mkF m 30 #[.val (.long x0), .second, .val (.long x1), .second, .val (.int x2), .val (.int (1 : Int32)), .val (.ref bA), .unset, .unset, .unset, .unset, .unset, .unset, .unset, .unset] [])
      refine Go.step (fun _ kt_ => XS.iload X34.here hx rfl (hb hby at_30) rfl kt_) ?_
      show Go _ _ _ _ _ _ _ _ T34 (mkF m 32 #[.val (.long x0), .second, .val (.long x1), .second, .val (.int x2), .val (.int (1 : Int32)), .val (.ref bA), .unset, .unset, .unset, .unset, .unset, .unset, .unset, .unset] [(.int (1 : Int32))])
      refine Go.step (fun _ kt_ => XS.ifNo X34.here hx rfl (hb hby at_32) rfl ((if0 _ _).trans (feq (by decide : ¬ ((1 : Int32) = (0 : Int32)))).1) kt_) ?_
      show Go _ _ _ _ _ _ _ _ T34 (mkF m 35 #[.val (.long x0), .second, .val (.long x1), .second, .val (.int x2), .val (.int (1 : Int32)), .val (.ref bA), .unset, .unset, .unset, .unset, .unset, .unset, .unset, .unset] [])
      obtain ⟨T35, X35, e35, st35⟩ := getS2 X34 hx hZ hown (host := "") (Or.inl (hw _ (List.mem_of_getElem? (i := 0) rfl))) Via.refl e34 (Sta.ext O0 S_S) (g := (mkF m 35 #[.val (.long x0), .second, .val (.long x1), .second, .val (.int x2), .val (.int (1 : Int32)), .val (.ref bA), .unset, .unset, .unset, .unset, .unset, .unset, .unset, .unset] [])) rfl (hb hby at_35)
      refine Go.step st35 ?_
      show Go _ _ _ _ _ _ _ _ T35 (mkF m 38 #[.val (.long x0), .second, .val (.long x1), .second, .val (.int x2), .val (.int (1 : Int32)), .val (.ref bA), .unset, .unset, .unset, .unset, .unset, .unset, .unset, .unset] [(.ref sA)])
      refine Go.step (fun _ kt_ => XS.goto X35.here hx rfl (pc0 := 38) (pc' := 44) rfl (hb hby at_38) (by decide) (by decide) kt_) ?_
      show Go _ _ _ _ _ _ _ _ T35 (mkF m 44 #[.val (.long x0), .second, .val (.long x1), .second, .val (.int x2), .val (.int (1 : Int32)), .val (.ref bA), .unset, .unset, .unset, .unset, .unset, .unset, .unset, .unset] [(.ref sA)])
      refine Go.step (fun _ kt_ => XS.astore X35.here hx rfl (hb hby at_44) rfl rfl (l' := #[.val (.long x0), .second, .val (.long x1), .second, .val (.int x2), .val (.int (1 : Int32)), .val (.ref bA), .val (.ref sA), .unset, .unset, .unset, .unset, .unset, .unset, .unset]) rfl kt_) ?_
      show Go _ _ _ _ _ _ _ _ T35 (mkF m 46 #[.val (.long x0), .second, .val (.long x1), .second, .val (.int x2), .val (.int (1 : Int32)), .val (.ref bA), .val (.ref sA), .unset, .unset, .unset, .unset, .unset, .unset, .unset] [])
      refine Go.step (fun _ kt_ => XS.aload X35.here hx rfl (hb hby at_46) rfl rfl kt_) ?_
      show Go _ _ _ _ _ _ _ _ T35 (mkF m 48 #[.val (.long x0), .second, .val (.long x1), .second, .val (.int x2), .val (.int (1 : Int32)), .val (.ref bA), .val (.ref sA), .unset, .unset, .unset, .unset, .unset, .unset, .unset] [(.ref bA)])
      refine Go.step (fun _ kt_ => XS.lloadN X35.here hx rfl (hb hby at_48) rfl kt_) ?_
      show Go _ _ _ _ _ _ _ _ T35 (mkF m 49 #[.val (.long x0), .second, .val (.long x1), .second, .val (.int x2), .val (.int (1 : Int32)), .val (.ref bA), .val (.ref sA), .unset, .unset, .unset, .unset, .unset, .unset, .unset] [(.long x0), (.ref bA)])
      refine Go.step (fun _ kt_ => XS.lloadN X35.here hx rfl (hb hby at_49) rfl kt_) ?_
      show Go _ _ _ _ _ _ _ _ T35 (mkF m 50 #[.val (.long x0), .second, .val (.long x1), .second, .val (.int x2), .val (.int (1 : Int32)), .val (.ref bA), .val (.ref sA), .unset, .unset, .unset, .unset, .unset, .unset, .unset] [(.long x1), (.long x0), (.ref bA)])
      obtain ⟨cq36, kq36, q36a, q36b, q36c⟩ := isOf hZ e35 (Exa.ext O0 X_B)
      obtain ⟨_, _, ⟨T36, L36, k36, n36⟩, -, X36, ⟨Lc36, hQ36, l36, y36, z36⟩, st36⟩ := X35.virtualBack hx (y := (⟨"org/matchstone/engine/Side", "better", "(JJ)Z"⟩ : MethodName)) (z := (⟨"org/matchstone/engine/Side", "better", "(JJ)Z"⟩ : MethodName)) hown (mvT hZ (hw _ (List.mem_of_getElem? (i := 5) rfl))) (mvT hZ (hw _ (List.mem_of_getElem? (i := 6) rfl))) (notFace_of_selects (args := #[]) (mvT hZ (hw _ (List.mem_of_getElem? (i := 8) rfl)))) (mvT hZ (hw _ (List.mem_of_getElem? (i := 8) rfl))) (mvT hZ (hw _ (List.mem_of_getElem? (i := 7) rfl))) (by decide) (backOf (W := 0) (rm_1 l Z a0 hw [] bA x0 x1 bA (1 : Int32) h0 O0 S_B (by simp [hne, Ne.symm hne, h1, h2, h3, h4])) hZ (hw _ (List.mem_of_getElem? (i := 9) rfl)) (hw _ (List.mem_of_getElem? (i := 1) rfl)) (by decide) (by decide)) q36a q36c (g := (mkF m 50 #[.val (.long x0), .second, .val (.long x1), .second, .val (.int x2), .val (.int (1 : Int32)), .val (.ref bA), .val (.ref sA), .unset, .unset, .unset, .unset, .unset, .unset, .unset] [(.long x1), (.long x0), (.ref bA)])) rfl (by rw [hml]; rfl) (Steps.refl _) (argsL := [(.long x0), (.long x1)]) (rest := []) (lenOf pd_LJJRZ rfl) rfl (by show 2 * 0 + _ ≤ _; exact Nat.le_of_eq rfl) (hb hby at_50) (fun _ _ => ⟨rfl, e35, (by decide : 0 + 0 ≤ _), (by decide : 0 + 0 ≤ _)⟩)
      dsimp only [Pt.U, Pt.locs, Pt.cells, Pt.slots] at X36 l36 y36 z36 st36 hQ36
      subst l36 y36 z36
      obtain ⟨rfl, Nq36, e36⟩ := hQ36
      have N36_ := Fr.app N0 Nq36
      refine Go.trans st36 ?_
      show Go _ _ _ _ _ _ _ _ T36 (mkF m 53 #[.val (.long x0), .second, .val (.long x1), .second, .val (.int x2), .val (.int (1 : Int32)), .val (.ref bA), .val (.ref sA), .unset, .unset, .unset, .unset, .unset, .unset, .unset] [(.int (1 : Int32))])
      refine Go.step (fun _ kt_ => XS.istore X36.here hx rfl (hb hby at_53) rfl (l' := #[.val (.long x0), .second, .val (.long x1), .second, .val (.int x2), .val (.int (1 : Int32)), .val (.ref bA), .val (.ref sA), .val (.int (1 : Int32)), .unset, .unset, .unset, .unset, .unset, .unset]) rfl kt_) ?_
      show Go _ _ _ _ _ _ _ _ T36 (mkF m 55 #[.val (.long x0), .second, .val (.long x1), .second, .val (.int x2), .val (.int (1 : Int32)), .val (.ref bA), .val (.ref sA), .val (.int (1 : Int32)), .unset, .unset, .unset, .unset, .unset, .unset] [])
      refine Go.step (fun _ kt_ => XS.aload X36.here hx rfl (hb hby at_55) rfl rfl kt_) ?_
      show Go _ _ _ _ _ _ _ _ T36 (mkF m 57 #[.val (.long x0), .second, .val (.long x1), .second, .val (.int x2), .val (.int (1 : Int32)), .val (.ref bA), .val (.ref sA), .val (.int (1 : Int32)), .unset, .unset, .unset, .unset, .unset, .unset] [(.ref sA)])
      refine Go.step (fun _ kt_ => XS.lloadN X36.here hx rfl (hb hby at_57) rfl kt_) ?_
      show Go _ _ _ _ _ _ _ _ T36 (mkF m 58 #[.val (.long x0), .second, .val (.long x1), .second, .val (.int x2), .val (.int (1 : Int32)), .val (.ref bA), .val (.ref sA), .val (.int (1 : Int32)), .unset, .unset, .unset, .unset, .unset, .unset] [(.long x1), (.ref sA)])
      refine Go.step (fun _ kt_ => XS.lloadN X36.here hx rfl (hb hby at_58) rfl kt_) ?_
      show Go _ _ _ _ _ _ _ _ T36 (mkF m 59 #[.val (.long x0), .second, .val (.long x1), .second, .val (.int x2), .val (.int (1 : Int32)), .val (.ref bA), .val (.ref sA), .val (.int (1 : Int32)), .unset, .unset, .unset, .unset, .unset, .unset] [(.long x0), (.long x1), (.ref sA)])
      obtain ⟨cq37, kq37, q37a, q37b, q37c⟩ := isOf hZ e36 (Exa.ext O0 X_S)
      obtain ⟨_, _, ⟨T37, L37, k37, n37⟩, -, X37, ⟨Lc37, hQ37, l37, y37, z37⟩, st37⟩ := X36.virtualBack hx (y := (⟨"org/matchstone/engine/Side", "better", "(JJ)Z"⟩ : MethodName)) (z := (⟨"org/matchstone/engine/Side", "better", "(JJ)Z"⟩ : MethodName)) hown (mvT hZ (hw _ (List.mem_of_getElem? (i := 5) rfl))) (mvT hZ (hw _ (List.mem_of_getElem? (i := 6) rfl))) (notFace_of_selects (args := #[]) (mvT hZ (hw _ (List.mem_of_getElem? (i := 8) rfl)))) (mvT hZ (hw _ (List.mem_of_getElem? (i := 8) rfl))) (mvT hZ (hw _ (List.mem_of_getElem? (i := 7) rfl))) (by decide) (backOf (W := 0) (rm_1 l Z a0 hw [] sA x1 x0 bA (1 : Int32) h0 O0 S_B (by simp [hne, Ne.symm hne, h1, h2, h3, h4])) hZ (hw _ (List.mem_of_getElem? (i := 9) rfl)) (hw _ (List.mem_of_getElem? (i := 1) rfl)) (by decide) (by decide)) q37a q37c (g := (mkF m 59 #[.val (.long x0), .second, .val (.long x1), .second, .val (.int x2), .val (.int (1 : Int32)), .val (.ref bA), .val (.ref sA), .val (.int (1 : Int32)), .unset, .unset, .unset, .unset, .unset, .unset] [(.long x0), (.long x1), (.ref sA)])) rfl (by rw [hml]; rfl) (Steps.refl _) (argsL := [(.long x1), (.long x0)]) (rest := []) (lenOf pd_LJJRZ rfl) rfl (by show 2 * 0 + _ ≤ _; exact Nat.le_of_eq rfl) (hb hby at_59) (fun _ _ => ⟨rfl, e36, (by decide : 0 + 0 ≤ _), (by decide : 0 + 0 ≤ _)⟩)
      dsimp only [Pt.U, Pt.locs, Pt.cells, Pt.slots] at X37 l37 y37 z37 st37 hQ37
      subst l37 y37 z37
      obtain ⟨rfl, Nq37, e37⟩ := hQ37
      have N37_ := Fr.app N36_ Nq37
      refine Go.trans st37 ?_
      show Go _ _ _ _ _ _ _ _ T37 (mkF m 62 #[.val (.long x0), .second, .val (.long x1), .second, .val (.int x2), .val (.int (1 : Int32)), .val (.ref bA), .val (.ref sA), .val (.int (1 : Int32)), .unset, .unset, .unset, .unset, .unset, .unset] [(.int (1 : Int32))])
      refine Go.step (fun _ kt_ => XS.istore X37.here hx rfl (hb hby at_62) rfl (l' := #[.val (.long x0), .second, .val (.long x1), .second, .val (.int x2), .val (.int (1 : Int32)), .val (.ref bA), .val (.ref sA), .val (.int (1 : Int32)), .val (.int (1 : Int32)), .unset, .unset, .unset, .unset, .unset]) rfl kt_) ?_
      show Go _ _ _ _ _ _ _ _ T37 (mkF m 64 #[.val (.long x0), .second, .val (.long x1), .second, .val (.int x2), .val (.int (1 : Int32)), .val (.ref bA), .val (.ref sA), .val (.int (1 : Int32)), .val (.int (1 : Int32)), .unset, .unset, .unset, .unset, .unset] [])
      refine Go.step (fun _ kt_ => XS.lloadN X37.here hx rfl (hb hby at_64) rfl kt_) ?_
      show Go _ _ _ _ _ _ _ _ T37 (mkF m 65 #[.val (.long x0), .second, .val (.long x1), .second, .val (.int x2), .val (.int (1 : Int32)), .val (.ref bA), .val (.ref sA), .val (.int (1 : Int32)), .val (.int (1 : Int32)), .unset, .unset, .unset, .unset, .unset] [(.long x0)])
      refine Go.step (fun _ kt_ => XS.lloadN X37.here hx rfl (hb hby at_65) rfl kt_) ?_
      show Go _ _ _ _ _ _ _ _ T37 (mkF m 66 #[.val (.long x0), .second, .val (.long x1), .second, .val (.int x2), .val (.int (1 : Int32)), .val (.ref bA), .val (.ref sA), .val (.int (1 : Int32)), .val (.int (1 : Int32)), .unset, .unset, .unset, .unset, .unset] [(.long x1), (.long x0)])
      obtain ⟨_, _, ⟨T38, L38, k38, n38⟩, -, X38, ⟨Lc38, hQ38, l38, y38, z38⟩, st38⟩ := Jvm.LawKit.callS X37 hx (y := (⟨"java/lang/Math", "max", "(JJ)J"⟩ : MethodName)) hown (mvT hZ (hw _ (List.mem_of_getElem? (i := 11) rfl))) (mvT hZ (hw _ (List.mem_of_getElem? (i := 12) rfl))) (mvT hZ (hw _ (List.mem_of_getElem? (i := 13) rfl))) (mvT hZ (hw _ (List.mem_of_getElem? (i := 14) rfl))) (by decide) (backOf (W := 0) (rm_2 l Z a0 hw [] x0 x1 x0 h0 O0 (by simp [hne, Ne.symm hne, h1, h2, h3, h4])) hZ (hw _ (List.mem_of_getElem? (i := 14) rfl)) (hw _ (List.mem_of_getElem? (i := 13) rfl)) (by decide) (by decide)) (g := (mkF m 66 #[.val (.long x0), .second, .val (.long x1), .second, .val (.int x2), .val (.int (1 : Int32)), .val (.ref bA), .val (.ref sA), .val (.int (1 : Int32)), .val (.int (1 : Int32)), .unset, .unset, .unset, .unset, .unset] [(.long x1), (.long x0)])) rfl (by rw [hml]; rfl) (argsL := [(.long x0), (.long x1)]) (rest := []) (lenOf pd_LJJRJ rfl) rfl (by show 2 * 0 + _ ≤ _; exact Nat.le_of_eq rfl) (hb hby at_66) (fun _ _ => ⟨rfl, e37, (by decide : 0 + 0 ≤ _), (by decide : 0 + 0 ≤ _)⟩)
      dsimp only [Pt.U, Pt.locs, Pt.cells, Pt.slots] at X38 l38 y38 z38 st38 hQ38
      subst l38 y38 z38
      obtain ⟨rfl, Nq38, e38⟩ := hQ38
      have N38_ := Fr.app N37_ Nq38
      refine Go.step st38 ?_
      show Go _ _ _ _ _ _ _ _ T38 (mkF m 69 #[.val (.long x0), .second, .val (.long x1), .second, .val (.int x2), .val (.int (1 : Int32)), .val (.ref bA), .val (.ref sA), .val (.int (1 : Int32)), .val (.int (1 : Int32)), .unset, .unset, .unset, .unset, .unset] [(.long x0)])
      refine Go.step (fun _ kt_ => XS.lstore X38.here hx rfl (hb hby at_69) rfl (l' := #[.val (.long x0), .second, .val (.long x1), .second, .val (.int x2), .val (.int (1 : Int32)), .val (.ref bA), .val (.ref sA), .val (.int (1 : Int32)), .val (.int (1 : Int32)), .val (.long x0), .second, .unset, .unset, .unset]) rfl kt_) ?_
      show Go _ _ _ _ _ _ _ _ T38 (mkF m 71 #[.val (.long x0), .second, .val (.long x1), .second, .val (.int x2), .val (.int (1 : Int32)), .val (.ref bA), .val (.ref sA), .val (.int (1 : Int32)), .val (.int (1 : Int32)), .val (.long x0), .second, .unset, .unset, .unset] [])
      refine Go.step (fun _ kt_ => XS.lloadN X38.here hx rfl (hb hby at_71) rfl kt_) ?_
      show Go _ _ _ _ _ _ _ _ T38 (mkF m 72 #[.val (.long x0), .second, .val (.long x1), .second, .val (.int x2), .val (.int (1 : Int32)), .val (.ref bA), .val (.ref sA), .val (.int (1 : Int32)), .val (.int (1 : Int32)), .val (.long x0), .second, .unset, .unset, .unset] [(.long x0)])
      refine Go.step (fun _ kt_ => XS.lloadN X38.here hx rfl (hb hby at_72) rfl kt_) ?_
      show Go _ _ _ _ _ _ _ _ T38 (mkF m 73 #[.val (.long x0), .second, .val (.long x1), .second, .val (.int x2), .val (.int (1 : Int32)), .val (.ref bA), .val (.ref sA), .val (.int (1 : Int32)), .val (.int (1 : Int32)), .val (.long x0), .second, .unset, .unset, .unset] [(.long x1), (.long x0)])
      obtain ⟨_, _, ⟨T39, L39, k39, n39⟩, -, X39, ⟨Lc39, hQ39, l39, y39, z39⟩, st39⟩ := Jvm.LawKit.callS X38 hx (y := (⟨"java/lang/Math", "min", "(JJ)J"⟩ : MethodName)) hown (mvT hZ (hw _ (List.mem_of_getElem? (i := 15) rfl))) (mvT hZ (hw _ (List.mem_of_getElem? (i := 16) rfl))) (mvT hZ (hw _ (List.mem_of_getElem? (i := 13) rfl))) (mvT hZ (hw _ (List.mem_of_getElem? (i := 17) rfl))) (by decide) (backOf (W := 0) (rm_3 l Z a0 hw [] x0 x1 x1 h0 O0 (by simp [hne, Ne.symm hne, h1, h2, h3, h4])) hZ (hw _ (List.mem_of_getElem? (i := 17) rfl)) (hw _ (List.mem_of_getElem? (i := 13) rfl)) (by decide) (by decide)) (g := (mkF m 73 #[.val (.long x0), .second, .val (.long x1), .second, .val (.int x2), .val (.int (1 : Int32)), .val (.ref bA), .val (.ref sA), .val (.int (1 : Int32)), .val (.int (1 : Int32)), .val (.long x0), .second, .unset, .unset, .unset] [(.long x1), (.long x0)])) rfl (by rw [hml]; rfl) (argsL := [(.long x0), (.long x1)]) (rest := []) (lenOf pd_LJJRJ rfl) rfl (by show 2 * 0 + _ ≤ _; exact Nat.le_of_eq rfl) (hb hby at_73) (fun _ _ => ⟨rfl, e38, (by decide : 0 + 0 ≤ _), (by decide : 0 + 0 ≤ _)⟩)
      dsimp only [Pt.U, Pt.locs, Pt.cells, Pt.slots] at X39 l39 y39 z39 st39 hQ39
      subst l39 y39 z39
      obtain ⟨rfl, Nq39, e39⟩ := hQ39
      have N39_ := Fr.app N38_ Nq39
      refine Go.step st39 ?_
      show Go _ _ _ _ _ _ _ _ T39 (mkF m 76 #[.val (.long x0), .second, .val (.long x1), .second, .val (.int x2), .val (.int (1 : Int32)), .val (.ref bA), .val (.ref sA), .val (.int (1 : Int32)), .val (.int (1 : Int32)), .val (.long x0), .second, .unset, .unset, .unset] [(.long x1)])
      refine Go.step (fun _ kt_ => XS.lstore X39.here hx rfl (hb hby at_76) rfl (l' := #[.val (.long x0), .second, .val (.long x1), .second, .val (.int x2), .val (.int (1 : Int32)), .val (.ref bA), .val (.ref sA), .val (.int (1 : Int32)), .val (.int (1 : Int32)), .val (.long x0), .second, .val (.long x1), .second, .unset]) rfl kt_) ?_
      show Go _ _ _ _ _ _ _ _ T39 (mkF m 78 #[.val (.long x0), .second, .val (.long x1), .second, .val (.int x2), .val (.int (1 : Int32)), .val (.ref bA), .val (.ref sA), .val (.int (1 : Int32)), .val (.int (1 : Int32)), .val (.long x0), .second, .val (.long x1), .second, .unset] [])
      refine Go.step (fun _ kt_ => XS.iload X39.here hx rfl (hb hby at_78) rfl kt_) ?_
      show Go _ _ _ _ _ _ _ _ T39 (mkF m 80 #[.val (.long x0), .second, .val (.long x1), .second, .val (.int x2), .val (.int (1 : Int32)), .val (.ref bA), .val (.ref sA), .val (.int (1 : Int32)), .val (.int (1 : Int32)), .val (.long x0), .second, .val (.long x1), .second, .unset] [(.int (1 : Int32))])
      refine Go.step (fun _ kt_ => XS.ifNo X39.here hx rfl (hb hby at_80) rfl ((if0 _ _).trans (feq (by decide : ¬ ((1 : Int32) = (0 : Int32)))).1) kt_) ?_
      show Go _ _ _ _ _ _ _ _ T39 (mkF m 83 #[.val (.long x0), .second, .val (.long x1), .second, .val (.int x2), .val (.int (1 : Int32)), .val (.ref bA), .val (.ref sA), .val (.int (1 : Int32)), .val (.int (1 : Int32)), .val (.long x0), .second, .val (.long x1), .second, .unset] [])
      refine Go.step (fun _ kt_ => XS.lloadN X39.here hx rfl (hb hby at_83) rfl kt_) ?_
      show Go _ _ _ _ _ _ _ _ T39 (mkF m 84 #[.val (.long x0), .second, .val (.long x1), .second, .val (.int x2), .val (.int (1 : Int32)), .val (.ref bA), .val (.ref sA), .val (.int (1 : Int32)), .val (.int (1 : Int32)), .val (.long x0), .second, .val (.long x1), .second, .unset] [(.long x0)])
      refine Go.step (fun _ kt_ => XS.lloadN X39.here hx rfl (hb hby at_84) rfl kt_) ?_
      show Go _ _ _ _ _ _ _ _ T39 (mkF m 85 #[.val (.long x0), .second, .val (.long x1), .second, .val (.int x2), .val (.int (1 : Int32)), .val (.ref bA), .val (.ref sA), .val (.int (1 : Int32)), .val (.int (1 : Int32)), .val (.long x0), .second, .val (.long x1), .second, .unset] [(.long x1), (.long x0)])
      refine Go.step (fun _ kt_ => XS.lcmp X39.here hx rfl (hb hby at_85) rfl kt_) ?_
      show Go _ _ _ _ _ _ _ _ T39 (mkF m 86 #[.val (.long x0), .second, .val (.long x1), .second, .val (.int x2), .val (.int (1 : Int32)), .val (.ref bA), .val (.ref sA), .val (.int (1 : Int32)), .val (.int (1 : Int32)), .val (.long x0), .second, .val (.long x1), .second, .unset] [(.int (lcmpW x0 x1))])
      refine Go.step (fun _ kt_ => XS.ifNo X39.here hx rfl (hb hby at_86) rfl ((if0 _ _).trans (feq (fun q => h3 ((lw_eq _ _).mp q))).1) kt_) ?_
      show Go _ _ _ _ _ _ _ _ T39 (mkF m 89 #[.val (.long x0), .second, .val (.long x1), .second, .val (.int x2), .val (.int (1 : Int32)), .val (.ref bA), .val (.ref sA), .val (.int (1 : Int32)), .val (.int (1 : Int32)), .val (.long x0), .second, .val (.long x1), .second, .unset] [])
      refine Go.step (fun _ kt_ => XS.lloadN X39.here hx rfl (hb hby at_89) rfl kt_) ?_
      show Go _ _ _ _ _ _ _ _ T39 (mkF m 90 #[.val (.long x0), .second, .val (.long x1), .second, .val (.int x2), .val (.int (1 : Int32)), .val (.ref bA), .val (.ref sA), .val (.int (1 : Int32)), .val (.int (1 : Int32)), .val (.long x0), .second, .val (.long x1), .second, .unset] [(.long x0)])
      refine Go.step (fun _ kt_ => XS.lload X39.here hx rfl (hb hby at_90) rfl kt_) ?_
      show Go _ _ _ _ _ _ _ _ T39 (mkF m 92 #[.val (.long x0), .second, .val (.long x1), .second, .val (.int x2), .val (.int (1 : Int32)), .val (.ref bA), .val (.ref sA), .val (.int (1 : Int32)), .val (.int (1 : Int32)), .val (.long x0), .second, .val (.long x1), .second, .unset] [(.long x0), (.long x0)])
      refine Go.step (fun _ kt_ => XS.lcmp X39.here hx rfl (hb hby at_92) rfl kt_) ?_
      show Go _ _ _ _ _ _ _ _ T39 (mkF m 93 #[.val (.long x0), .second, .val (.long x1), .second, .val (.int x2), .val (.int (1 : Int32)), .val (.ref bA), .val (.ref sA), .val (.int (1 : Int32)), .val (.int (1 : Int32)), .val (.long x0), .second, .val (.long x1), .second, .unset] [(.int (lcmpW x0 x0))])
      refine Go.step (fun _ kt_ => XS.ifNo X39.here hx rfl (hb hby at_93) rfl ((if0 _ _).trans (teq ((lw_eq _ _).mpr rfl)).2) kt_) ?_
      show Go _ _ _ _ _ _ _ _ T39 (mkF m 96 #[.val (.long x0), .second, .val (.long x1), .second, .val (.int x2), .val (.int (1 : Int32)), .val (.ref bA), .val (.ref sA), .val (.int (1 : Int32)), .val (.int (1 : Int32)), .val (.long x0), .second, .val (.long x1), .second, .unset] [])
      refine Go.step (fun _ kt_ => XS.iconst X39.here hx rfl (hb hby at_96)  kt_) ?_
      show Go _ _ _ _ _ _ _ _ T39 (mkF m 97 #[.val (.long x0), .second, .val (.long x1), .second, .val (.int x2), .val (.int (1 : Int32)), .val (.ref bA), .val (.ref sA), .val (.int (1 : Int32)), .val (.int (1 : Int32)), .val (.long x0), .second, .val (.long x1), .second, .unset] [(.int (1 : Int32))])
      refine Go.step (fun _ kt_ => XS.goto X39.here hx rfl (pc0 := 97) (pc' := 101) rfl (hb hby at_97) (by decide) (by decide) kt_) ?_
      show Go _ _ _ _ _ _ _ _ T39 (mkF m 101 #[.val (.long x0), .second, .val (.long x1), .second, .val (.int x2), .val (.int (1 : Int32)), .val (.ref bA), .val (.ref sA), .val (.int (1 : Int32)), .val (.int (1 : Int32)), .val (.long x0), .second, .val (.long x1), .second, .unset] [(.int (1 : Int32))])
      refine Go.step (fun _ kt_ => XS.istore X39.here hx rfl (hb hby at_101) rfl (l' := #[.val (.long x0), .second, .val (.long x1), .second, .val (.int x2), .val (.int (1 : Int32)), .val (.ref bA), .val (.ref sA), .val (.int (1 : Int32)), .val (.int (1 : Int32)), .val (.long x0), .second, .val (.long x1), .second, .val (.int (1 : Int32))]) rfl kt_) ?_
      show Go _ _ _ _ _ _ _ _ T39 (mkF m 103 #[.val (.long x0), .second, .val (.long x1), .second, .val (.int x2), .val (.int (1 : Int32)), .val (.ref bA), .val (.ref sA), .val (.int (1 : Int32)), .val (.int (1 : Int32)), .val (.long x0), .second, .val (.long x1), .second, .val (.int (1 : Int32))] [])
      refine Go.step (fun _ kt_ => XS.goto X39.here hx rfl (pc0 := 103) (pc' := 126) rfl (hb hby at_103) (by decide) (by decide) kt_) ?_
      show Go _ _ _ _ _ _ _ _ T39 (mkF m 126 #[.val (.long x0), .second, .val (.long x1), .second, .val (.int x2), .val (.int (1 : Int32)), .val (.ref bA), .val (.ref sA), .val (.int (1 : Int32)), .val (.int (1 : Int32)), .val (.long x0), .second, .val (.long x1), .second, .val (.int (1 : Int32))] [])
      refine Go.step (fun _ kt_ => XS.iload X39.here hx rfl (hb hby at_126) rfl kt_) ?_
      show Go _ _ _ _ _ _ _ _ T39 (mkF m 128 #[.val (.long x0), .second, .val (.long x1), .second, .val (.int x2), .val (.int (1 : Int32)), .val (.ref bA), .val (.ref sA), .val (.int (1 : Int32)), .val (.int (1 : Int32)), .val (.long x0), .second, .val (.long x1), .second, .val (.int (1 : Int32))] [(.int (1 : Int32))])
      refine Go.step (fun _ kt_ => XS.iload X39.here hx rfl (hb hby at_128) rfl kt_) ?_
      show Go _ _ _ _ _ _ _ _ T39 (mkF m 130 #[.val (.long x0), .second, .val (.long x1), .second, .val (.int x2), .val (.int (1 : Int32)), .val (.ref bA), .val (.ref sA), .val (.int (1 : Int32)), .val (.int (1 : Int32)), .val (.long x0), .second, .val (.long x1), .second, .val (.int (1 : Int32))] [(.int (1 : Int32)), (.int (1 : Int32))])
      refine Go.step (fun _ kt_ => XS.icmpNo X39.here hx rfl (hb hby at_130) rfl (teq (by decide : (1 : Int32) = (1 : Int32))).2 kt_) ?_
      show Go _ _ _ _ _ _ _ _ T39 (mkF m 133 #[.val (.long x0), .second, .val (.long x1), .second, .val (.int x2), .val (.int (1 : Int32)), .val (.ref bA), .val (.ref sA), .val (.int (1 : Int32)), .val (.int (1 : Int32)), .val (.long x0), .second, .val (.long x1), .second, .val (.int (1 : Int32))] [])
      refine Go.step (fun _ kt_ => XS.iload X39.here hx rfl (hb hby at_133) rfl kt_) ?_
      show Go _ _ _ _ _ _ _ _ T39 (mkF m 135 #[.val (.long x0), .second, .val (.long x1), .second, .val (.int x2), .val (.int (1 : Int32)), .val (.ref bA), .val (.ref sA), .val (.int (1 : Int32)), .val (.int (1 : Int32)), .val (.long x0), .second, .val (.long x1), .second, .val (.int (1 : Int32))] [(.int (1 : Int32))])
      refine Go.step (fun _ kt_ => XS.iload X39.here hx rfl (hb hby at_135) rfl kt_) ?_
      show Go _ _ _ _ _ _ _ _ T39 (mkF m 137 #[.val (.long x0), .second, .val (.long x1), .second, .val (.int x2), .val (.int (1 : Int32)), .val (.ref bA), .val (.ref sA), .val (.int (1 : Int32)), .val (.int (1 : Int32)), .val (.long x0), .second, .val (.long x1), .second, .val (.int (1 : Int32))] [(.int (1 : Int32)), (.int (1 : Int32))])
      refine Go.step (fun _ kt_ => XS.icmpNo X39.here hx rfl (hb hby at_137) rfl (teq (by decide : (1 : Int32) = (1 : Int32))).2 kt_) ?_
      show Go _ _ _ _ _ _ _ _ T39 (mkF m 140 #[.val (.long x0), .second, .val (.long x1), .second, .val (.int x2), .val (.int (1 : Int32)), .val (.ref bA), .val (.ref sA), .val (.int (1 : Int32)), .val (.int (1 : Int32)), .val (.long x0), .second, .val (.long x1), .second, .val (.int (1 : Int32))] [])
      refine Go.step (fun _ kt_ => XS.iconst X39.here hx rfl (hb hby at_140)  kt_) ?_
      show Go _ _ _ _ _ _ _ _ T39 (mkF m 141 #[.val (.long x0), .second, .val (.long x1), .second, .val (.int x2), .val (.int (1 : Int32)), .val (.ref bA), .val (.ref sA), .val (.int (1 : Int32)), .val (.int (1 : Int32)), .val (.long x0), .second, .val (.long x1), .second, .val (.int (1 : Int32))] [(.int (1 : Int32))])
      refine Go.step (fun _ kt_ => XS.goto X39.here hx rfl (pc0 := 141) (pc' := 145) rfl (hb hby at_141) (by decide) (by decide) kt_) ?_
      show Go _ _ _ _ _ _ _ _ T39 (mkF m 145 #[.val (.long x0), .second, .val (.long x1), .second, .val (.int x2), .val (.int (1 : Int32)), .val (.ref bA), .val (.ref sA), .val (.int (1 : Int32)), .val (.int (1 : Int32)), .val (.long x0), .second, .val (.long x1), .second, .val (.int (1 : Int32))] [(.int (1 : Int32))])
      exact Go.retN X39 hx (t := .boolean) Bd.returns (by simp) hlk (hb hby at_145) (by decide) (by decide) (by show _ ∧ _ ∧ _; rw [e39]; exact ⟨rfl, N39_, rfl⟩)
set_option maxRecDepth 65536 in
set_option maxHeartbeats 40000000 in
theorem comes_1 {Post : Tables → Env → Array Value → State → Outcome → State → Prop} (hpost : ∀ tb e args s v u, (limb_1_1.after args s (.returned v) u = true ∧ limb_1_2.after args s (.returned v) u = true ∧ True) → FrameEnd s (.returned v) u (Jvm.fieldLocs frame_1_writes args s ++ Jvm.arrayLocs frame_1_arrays args s ++ Jvm.staticLocs frame_1_statics s) 0 0 → Post tb e args s (.returned v) u) :
    ArmFor flags0 classFile x code maxLocals ret World_1 tables_1 room_1 Calls_1 rest_1 Pre_1 Post := by
  intro l hfl _ _ p e ha hc hk s m args below hf hA hF happ hP
  obtain ⟨hcalls, hrest, hpre⟩ := hP
  obtain ⟨-, -, -, hnamed, -, -, -, hat⟩ := (Spec.applies_iff hf).mp happ
  obtain ⟨hg, hn⟩ := and_e (Cond.before_iff.mp (show (Jvm.Cond.and given_1 narrow_1).before args s = true from hpre))
  obtain ⟨hcount, gr0⟩ := and_e hg
  obtain ⟨ga0, gr1⟩ := and_e gr0
  obtain ⟨ga1, gr2⟩ := and_e gr1
  have ga2 := gr2
  obtain ⟨w0, w1, w2, rfl⟩ : ∃ w0 w1 w2 : Value, args = #[w0, w1, w2] := by
    have hs : args.size = 3 := by simpa [Cond.value, given_1] using hcount
    obtain ⟨L⟩ := args
    match L, hs with
    | [w0, w1, w2], _ => exact ⟨w0, w1, w2, rfl⟩
  have hw := fun d (hd : d ∈ tables_1) => atoms_spec (ws := Jvm.Cond.code x code maxLocals ret :: tables_1) hat d (List.mem_cons_of_mem _ hd)
  have hfit : Fit s := fun {y c} hc i hi => by
    obtain ⟨ha, rfl⟩ := Array.getElem?_eq_some_iff.mp hc
    have q := List.all_eq_true.mp ((Array.all_eq_true_iff_forall_mem.mp hF) _ (Array.getElem_mem ha)) i (List.mem_range.mpr hi)
    simpa [Array.getElem?_eq_getElem hi] using q
  obtain ⟨i0, ei0⟩ := isL_v ga0
  obtain rfl : w0 = (.long i0) := Option.some.inj ei0
  obtain ⟨i1, ei1⟩ := isL_v ga1
  obtain rfl : w1 = (.long i1) := Option.some.inj ei1
  obtain ⟨i2, ei2⟩ := is_v ga2
  obtain rfl : w2 = (.int i2) := Option.some.inj ei2
  obtain ⟨nw0, nr0⟩ := and_e hn
  obtain ⟨nw1, nr1⟩ := and_e nr0
  obtain ⟨nw2, nr2⟩ := and_e nr1
  have nw3 := nr2
  obtain ⟨a_0, ev_0⟩ := exa_v nw0
  have S_0 : Sta s s.heap "org/matchstone/engine/Side" "SELL" "Lorg/matchstone/engine/Side;" (.ref a_0) := Sta.start ev_0 (Or.inr ⟨(hw _ (List.mem_of_getElem? (i := 1) rfl)), (hw _ (List.mem_of_getElem? (i := 2) rfl))⟩)
  have X_0 : Exa s s.heap a_0 "org/matchstone/engine/Side" := Exa.start ev_0 nw0
  obtain ⟨a_1, ev_1⟩ := exa_v nw1
  have S_1 : Sta s s.heap "org/matchstone/engine/Side" "BUY" "Lorg/matchstone/engine/Side;" (.ref a_1) := Sta.start ev_1 (Or.inr ⟨(hw _ (List.mem_of_getElem? (i := 1) rfl)), (hw _ (List.mem_of_getElem? (i := 4) rfl))⟩)
  have X_1 : Exa s s.heap a_1 "org/matchstone/engine/Side" := Exa.start ev_1 nw1
  have F_2 : Fld s s.heap a_0 "java/lang/Enum" "ordinal" "I" (.int (1 : Int32)) := fldStart ev_0 nw2
  have F_3 : Fld s s.heap a_1 "java/lang/Enum" "ordinal" "I" (.int (0 : Int32)) := fldStart ev_1 nw3
  obtain ⟨n, o, h1, h2, h3, _, L, rfl, ⟨rfl, N, -⟩, hq⟩ := rm_0 l s _ hw tables_1 i0 i1 i2 a_1 a_0 s.heap (extRfl _) S_1 S_0 X_1 X_0 (Fld.ne F_2 F_3 (by decide)) p e ha hc hk s m _ below hf ((Spec.applies_iff_loose hf).mp happ).1 ⟨rfl, State.Warmed39.refl s, rfl⟩ trivial
  refine ⟨n, _, h1, h2, h3, hpost _ _ _ _ _ _ ⟨Cond.after_iff.mpr rfl, Cond.after_iff.mpr (eq_i res_at (Term.int_eval (1)) rfl), trivial⟩ ⟨hq.1, hq.2.1, (hq.2.2.sift fun y hy => Or.inr (N y hy)).mono (by decide) (by decide)⟩⟩
theorem main_1_1 : Claimed_1_1 := comes_1 fun _ _ _ _ _ _ h hF => ⟨h.1, hF⟩
theorem main_1_2 : Claimed_1_2 := comes_1 fun _ _ _ _ _ _ h hF => ⟨h.2.1, hF⟩
end Jvm.Pilot.@@N@@
namespace Jvm.Pilot.@@N@@
open Jvm Jvm.ClassFile Sem Op Lib Jvm.Free Jvm.Stand Jvm.Pilot.@@N@@.Jvm.D
/-! MADE BY PROGRAM (witnessworld.py) out of the Statement's table words and the real class files: 13 classes; the members and pool entries that the words name. The judged class is class 1, her method 1. -/
namespace start1
open Jvm.ClassFile
def u (s : String) : CpInfo := .utf8 (stringToUtf16 s)
/-- a pool by its gaps: so many unusable entries, then the entry; so many at the end -/
def gap : Nat → List CpInfo → List CpInfo
  | 0, r => r
  | n + 1, r => .unusable :: gap n r
def poolList (es : List (Nat × CpInfo)) (last : Nat) : List CpInfo := es.foldr (fun e r => gap e.1 (e.2 :: r)) (gap last [])
def pool (es : List (Nat × CpInfo)) (last : Nat) : Array CpInfo := ⟨poolList es last⟩
def fileOf (pool : Array CpInfo) (this : Nat) (attrs : Array Attribute := #[]) (ms : Array MethodInfo := #[]) (fl : Nat := 33) (sup : Nat := 0) (ifs : Array Nat := #[]) (fds : Array FieldInfo := #[]) : ClassFile where
  minorVersion := 0
  majorVersion := 65
  constantPool := pool
  accessFlags := fl
  thisClass := this
  superClass := sup
  interfaces := ifs
  fields := fds
  methods := ms
  attributes := attrs
def plain (name : String) (sup : Option ClassId) : Class where
  name := name
  kind := .ordinary
  loader := none
  accessFlags := 33
  super := sup
  interfaces := #[]
  cf := none
  fields := #[]
  methods := #[]
  instanceTypes := #[]
  staticTypes := #[]
  resolved := #[]
  callSites := []
  init := .initialized
  statics := none
  mirror := none

def pool0 : Array CpInfo := pool [(5, u "<init>"), (0, u "()V"), (1, .class_ 10), (1, u "java/lang/Object")] 113

def k0m0 : Method := { name := "<init>", desc := "()V", sig := { parameters := [], returnType := none }, accessFlags := 1, code := none }
/-- java/lang/Object -/
def k0 : Class := { plain "java/lang/Object" none with
  accessFlags := 33
  interfaces := #[]
  cf := some (fileOf pool0 8 #[] #[{ accessFlags := 1, nameIndex := 5, descriptorIndex := 6, attributes := #[] }] 33 0 #[] #[])
  fields := #[]
  methods := #[k0m0]
  instanceTypes := #[]
  staticTypes := #[]
  resolved := Array.replicate 124 none
  statics := none }

def pool1 : Array CpInfo := pool [(2, .class_ 4), (1, u "java/lang/Object"), (0, u "<init>"), (0, u "()V"), (0, .fieldref 8 9), (0, .class_ 10), (0, .nameAndType 11 12), (0, u "org/matchstone/engine/Side"), (0, u "BUY"), (0, u "Lorg/matchstone/engine/Side;"), (0, .fieldref 8 14), (0, .nameAndType 15 12), (0, u "SELL"), (0, .methodref 8 17), (0, .nameAndType 18 19), (0, u "better"), (0, u "(JJ)Z"), (0, .methodref 21 22), (0, .class_ 23), (0, .nameAndType 24 25), (0, u "java/lang/Math"), (0, u "max"), (0, u "(JJ)J"), (0, .methodref 21 27), (0, .nameAndType 28 25), (0, u "min"), (0, .class_ 30), (0, u "org/matchstone/engine/SideBetterPinLaw"), (2, u "law"), (0, u "(JJI)Z")] 3

def k1m0 : Method := { name := "<init>", desc := "()V", sig := { parameters := [], returnType := none }, accessFlags := 1, code := none }
def k1c1 : Code := { maxStack := 5, maxLocals := 15, code := code, exceptionTable := #[], attributes := #[] }
def k1m1 : Method := { name := "law", desc := "(JJI)Z", sig := { parameters := [.long, .long, .int], returnType := some .boolean }, accessFlags := 9, code := some k1c1 }
/-- org/matchstone/engine/SideBetterPinLaw -/
def k1 : Class := { plain "org/matchstone/engine/SideBetterPinLaw" (some 0) with
  accessFlags := 49
  interfaces := #[]
  cf := some (fileOf pool1 29 #[] #[{ accessFlags := 1, nameIndex := 5, descriptorIndex := 6, attributes := #[] }, { accessFlags := 9, nameIndex := 33, descriptorIndex := 34, attributes := #[] }] 49 2 #[] #[])
  fields := #[]
  methods := #[k1m0, k1m1]
  instanceTypes := #[]
  staticTypes := #[]
  resolved := Array.replicate 38 none
  statics := none }

def pool2 : Array CpInfo := pool [(1, .class_ 2), (0, u "java/lang/constant/Constable"), (0, .class_ 4), (0, u "java/lang/Object")] 6

/-- java/lang/constant/Constable -/
def k2 : Class := { plain "java/lang/constant/Constable" (some 0) with
  accessFlags := 1537
  interfaces := #[]
  cf := some (fileOf pool2 1 #[] #[] 1537 3 #[] #[])
  fields := #[]
  methods := #[]
  instanceTypes := #[]
  staticTypes := #[]
  resolved := Array.replicate 11 none
  statics := none }

def pool3 : Array CpInfo := pool [(1, .class_ 2), (0, u "java/lang/Comparable"), (0, .class_ 4), (0, u "java/lang/Object")] 7

/-- java/lang/Comparable -/
def k3 : Class := { plain "java/lang/Comparable" (some 0) with
  accessFlags := 1537
  interfaces := #[]
  cf := some (fileOf pool3 1 #[] #[] 1537 3 #[] #[])
  fields := #[]
  methods := #[]
  instanceTypes := #[]
  staticTypes := #[]
  resolved := Array.replicate 12 none
  statics := none }

def pool4 : Array CpInfo := pool [(1, .class_ 2), (0, u "java/io/Serializable"), (0, .class_ 4), (0, u "java/lang/Object")] 2

/-- java/io/Serializable -/
def k4 : Class := { plain "java/io/Serializable" (some 0) with
  accessFlags := 1537
  interfaces := #[]
  cf := some (fileOf pool4 1 #[] #[] 1537 3 #[] #[])
  fields := #[]
  methods := #[]
  instanceTypes := #[]
  staticTypes := #[]
  resolved := Array.replicate 7 none
  statics := none }

def pool5 : Array CpInfo := pool [(2, .class_ 4), (1, u "java/lang/Enum"), (0, u "name"), (0, u "Ljava/lang/String;"), (2, u "ordinal"), (0, u "I"), (1, .class_ 14), (1, u "java/lang/Object"), (4, u "hash"), (86, .class_ 108), (1, u "java/lang/Enum$EnumDesc"), (2, .class_ 112), (0, u "java/lang/constant/Constable"), (0, .class_ 114), (0, u "java/lang/Comparable"), (0, .class_ 116), (0, u "java/io/Serializable")] 87

/-- java/lang/Enum -/
def k5 : Class := { plain "java/lang/Enum" (some 0) with
  accessFlags := 1057
  interfaces := #[2, 3, 4]
  cf := some (fileOf pool5 2 #[.nestMembers #[106]] #[] 1057 12 #[111, 113, 115] #[{ accessFlags := 18, nameIndex := 5, descriptorIndex := 6, attributes := #[] }, { accessFlags := 18, nameIndex := 9, descriptorIndex := 10, attributes := #[] }, { accessFlags := 2, nameIndex := 19, descriptorIndex := 10, attributes := #[] }])
  fields := #[{ name := "name", type := (.object "java/lang/String"), accessFlags := 18, slot := 0, constantValue := 0 }, { name := "ordinal", type := .int, accessFlags := 18, slot := 1, constantValue := 0 }, { name := "hash", type := .int, accessFlags := 2, slot := 2, constantValue := 0 }]
  methods := #[]
  instanceTypes := #[(.object "java/lang/String"), .int, .int]
  staticTypes := #[]
  resolved := Array.replicate 204 none
  statics := none }

def pool6 : Array CpInfo := pool [(1, .class_ 2), (0, u "org/matchstone/engine/Side"), (0, .fieldref 1 4), (0, .nameAndType 5 6), (0, u "BUY"), (0, u "Lorg/matchstone/engine/Side;"), (2, u "SELL"), (2, u "$VALUES"), (0, u "[Lorg/matchstone/engine/Side;"), (6, .class_ 22), (1, u "java/lang/Enum"), (8, u "code"), (0, u "Ljava/lang/String;"), (24, u "better"), (0, u "(JJ)Z")] 5

def k6c0 : Code := { maxStack := 4, maxLocals := 5, code := prog_38_method_6_code, exceptionTable := #[], attributes := #[] }
def k6m0 : Method := { name := "better", desc := "(JJ)Z", sig := { parameters := [.long, .long], returnType := some .boolean }, accessFlags := 0, code := some k6c0 }
/-- org/matchstone/engine/Side -/
def k6 : Class := { plain "org/matchstone/engine/Side" (some 5) with
  accessFlags := 16433
  interfaces := #[]
  cf := some (fileOf pool6 1 #[] #[{ accessFlags := 0, nameIndex := 57, descriptorIndex := 58, attributes := #[] }] 16433 20 #[] #[{ accessFlags := 16409, nameIndex := 5, descriptorIndex := 6, attributes := #[] }, { accessFlags := 16409, nameIndex := 9, descriptorIndex := 6, attributes := #[] }, { accessFlags := 18, nameIndex := 31, descriptorIndex := 32, attributes := #[] }, { accessFlags := 4122, nameIndex := 12, descriptorIndex := 13, attributes := #[] }])
  fields := #[{ name := "BUY", type := (.object "org/matchstone/engine/Side"), accessFlags := 16409, slot := 0, constantValue := 0 }, { name := "SELL", type := (.object "org/matchstone/engine/Side"), accessFlags := 16409, slot := 1, constantValue := 0 }, { name := "code", type := (.object "java/lang/String"), accessFlags := 18, slot := 3, constantValue := 0 }, { name := "$VALUES", type := (.array (.object "org/matchstone/engine/Side")), accessFlags := 4122, slot := 2, constantValue := 0 }]
  methods := #[k6m0]
  instanceTypes := #[(.object "java/lang/String"), .int, .int, (.object "java/lang/String")]
  staticTypes := #[(.object "org/matchstone/engine/Side"), (.object "org/matchstone/engine/Side"), (.array (.object "org/matchstone/engine/Side"))]
  resolved := Array.replicate 64 none
  statics := some 0 }

def pool7 : Array CpInfo := pool [(1, .class_ 2), (0, u "java/lang/Math"), (1, .class_ 6), (1, u "java/lang/Object"), (0, u "<init>"), (0, u "()V"), (89, .class_ 100), (1, u "java/lang/Math$RandomNumberGeneratorHolder"), (20, u "(JJ)J"), (50, u "negativeZeroFloatBits"), (0, u "J"), (2, u "negativeZeroDoubleBits"), (21, u "max"), (2, u "min"), (43, u "$assertionsDisabled"), (0, u "Z"), (91, u "twoToTheDoubleScaleDown"), (0, u "D"), (4, u "twoToTheDoubleScaleUp"), (9, u "E"), (3, u "PI"), (2, u "TAU"), (2, u "DEGREES_TO_RADIANS"), (0, u "RADIANS_TO_DEGREES")] 94

def k7m0 : Method := { name := "<init>", desc := "()V", sig := { parameters := [], returnType := none }, accessFlags := 2, code := none }
def k7c1 : Code := { maxStack := 4, maxLocals := 4, code := jdk_29_method_66_code, exceptionTable := #[], attributes := #[] }
def k7m1 : Method := { name := "max", desc := "(JJ)J", sig := { parameters := [.long, .long], returnType := some .long }, accessFlags := 9, code := some k7c1 }
def k7c2 : Code := { maxStack := 4, maxLocals := 4, code := jdk_29_method_70_code, exceptionTable := #[], attributes := #[] }
def k7m2 : Method := { name := "min", desc := "(JJ)J", sig := { parameters := [.long, .long], returnType := some .long }, accessFlags := 9, code := some k7c2 }
/-- java/lang/Math -/
def k7 : Class := { plain "java/lang/Math" (some 0) with
  accessFlags := 49
  interfaces := #[]
  cf := some (fileOf pool7 1 #[.nestMembers #[98]] #[{ accessFlags := 2, nameIndex := 7, descriptorIndex := 8, attributes := #[] }, { accessFlags := 9, nameIndex := 198, descriptorIndex := 121, attributes := #[] }, { accessFlags := 9, nameIndex := 201, descriptorIndex := 121, attributes := #[] }] 49 4 #[] #[{ accessFlags := 25, nameIndex := 354, descriptorIndex := 339, attributes := #[] }, { accessFlags := 25, nameIndex := 358, descriptorIndex := 339, attributes := #[] }, { accessFlags := 25, nameIndex := 361, descriptorIndex := 339, attributes := #[] }, { accessFlags := 26, nameIndex := 364, descriptorIndex := 339, attributes := #[] }, { accessFlags := 26, nameIndex := 365, descriptorIndex := 339, attributes := #[] }, { accessFlags := 26, nameIndex := 172, descriptorIndex := 173, attributes := #[] }, { accessFlags := 26, nameIndex := 176, descriptorIndex := 173, attributes := #[] }, { accessFlags := 8, nameIndex := 344, descriptorIndex := 339, attributes := #[] }, { accessFlags := 8, nameIndex := 338, descriptorIndex := 339, attributes := #[] }, { accessFlags := 4120, nameIndex := 245, descriptorIndex := 246, attributes := #[] }])
  fields := #[{ name := "E", type := .double, accessFlags := 25, slot := 0, constantValue := 0 }, { name := "PI", type := .double, accessFlags := 25, slot := 1, constantValue := 0 }, { name := "TAU", type := .double, accessFlags := 25, slot := 2, constantValue := 0 }, { name := "DEGREES_TO_RADIANS", type := .double, accessFlags := 26, slot := 3, constantValue := 0 }, { name := "RADIANS_TO_DEGREES", type := .double, accessFlags := 26, slot := 4, constantValue := 0 }, { name := "negativeZeroFloatBits", type := .long, accessFlags := 26, slot := 5, constantValue := 0 }, { name := "negativeZeroDoubleBits", type := .long, accessFlags := 26, slot := 6, constantValue := 0 }, { name := "twoToTheDoubleScaleUp", type := .double, accessFlags := 8, slot := 7, constantValue := 0 }, { name := "twoToTheDoubleScaleDown", type := .double, accessFlags := 8, slot := 8, constantValue := 0 }, { name := "$assertionsDisabled", type := .boolean, accessFlags := 4120, slot := 9, constantValue := 0 }]
  methods := #[k7m0, k7m1, k7m2]
  instanceTypes := #[]
  staticTypes := #[.double, .double, .double, .double, .double, .long, .long, .double, .double, .boolean]
  resolved := Array.replicate 460 none
  statics := none }

def pool8 : Array CpInfo := pool [(1, u "java/lang/Cloneable"), (0, .class_ 1), (0, u "java/lang/Object"), (0, .class_ 3)] 3

/-- java/lang/Cloneable -/
def k8 : Class := { plain "java/lang/Cloneable" (some 0) with
  accessFlags := 1537
  interfaces := #[]
  cf := some (fileOf pool8 2 #[] #[] 1537 4 #[] #[])
  fields := #[]
  methods := #[]
  instanceTypes := #[]
  staticTypes := #[]
  resolved := Array.replicate 8 none
  statics := none }

/-- the primitive byte -/
def k9 : Class := { plain "byte" none with kind := .primitive 'B', accessFlags := 0x411 }
/-- [B -/
def k10 : Class := { plain "[B" (some 0) with kind := .array 9 .byte, interfaces := #[8, 4], accessFlags := 1041 }

/-- the primitive int -/
def k11 : Class := { plain "int" none with kind := .primitive 'I', accessFlags := 0x411 }
/-- [I -/
def k12 : Class := { plain "[I" (some 0) with kind := .array 11 .int, interfaces := #[8, 4], accessFlags := 1041 }

def heap : Heap := #[{ cls := 6, slots := #[.ref 1, .ref 2, .null], vm := .statics 6 },
  { cls := 6, slots := #[.null, .int 0, .int 0, .null], vm := .none },
  { cls := 6, slots := #[.null, .int 1, .int 0, .null], vm := .none }]
def classes : Array Class := #[k0, k1, k2, k3, k4, k5, k6, k7, k8, k9, k10, k11, k12]
def interned : List (Array UInt16 × Addr) := []
def slotsUsed : Nat := 11
def theMethod : MethodId := ⟨1, 1⟩
def args0 : Array Value := #[.long 5, .long 6, .int 1]
def aboutOver (below : List Frame) : State where
  vm := { classes := classes, interned := interned.toArray }
  heap := heap
  slotsUsed := slotsUsed
  threads := #[{ frames := .invoking theMethod args0 :: below }]
def below0 : List Frame := [.native { method := ⟨0, 0⟩, args := #[] }]
def about1 : State := aboutOver below0
def p0 : Program := .bare "" "" ""
def e0 : Env := launch0.env 0 0 0
theorem w_frames : about1.frames = Frame.invoking theMethod args0 :: below0 := rfl
set_option maxRecDepth 65536 in
theorem w_args : argsFit about1.vm theMethod args0 = true := by decide +kernel
set_option maxRecDepth 65536 in
theorem w_heap : heapFits about1 = true := by decide +kernel
set_option maxRecDepth 65536 in
theorem w_runnable : about1.curStatus? = some .runnable := by decide +kernel
set_option maxRecDepth 65536 in
theorem w_alone : about1.alone = true := by decide +kernel
set_option maxRecDepth 65536 in
theorem w_named : about1.methodNamed? x = some theMethod := by decide +kernel
set_option maxRecDepth 65536 in
theorem w_hears : about1.hears theMethod below0 = true := by decide +kernel
set_option maxRecDepth 65536 in
theorem w_ripe : about1.ripe theMethod args0 below0 = true := by decide +kernel
theorem w_running : about1.status = .running := rfl
set_option maxRecDepth 65536 in
theorem w_room : about1.hasRoom e0.platform room_1 = true :=
  launch0.hasRoom_least _ room_1 (by decide +kernel) (by decide +kernel) (by decide +kernel) (by decide +kernel) (by decide +kernel) (by decide +kernel)
theorem allAtoms_all (ts : List Jvm.Cond) (a : Array Jvm.Value) (st : Jvm.State) : (allAtoms ts).before a st = ts.all (fun c => c.before a st) := by
  induction ts with
  | nil => rfl
  | cons c t ih =>
    show (Jvm.Cond.and c (allAtoms t)).before a st = _
    rw [Jvm.Cond.before_and, ih, List.all_cons]
def words1 : List Jvm.Cond := Jvm.Cond.code x code maxLocals ret :: tables_1
/-- a 'code' word, met by the world's own term for the bytes: nothing is compared byte by byte -/
theorem code_word {y : MethodName} {bytes : ByteArray} {mx : Nat} {rt : Option FieldType} {a : Array Value} {s : State} {m : MethodId} {meth : Method} {c : Code} (h1 : s.methodNamed? y = some m) (h2 : s.vm.method? m = some meth) (h3 : meth.code = some c) (h4 : c.code = bytes)
    (h5 : (c.maxLocals == mx && c.exceptionTable.isEmpty && decide (c.maxStack ≤ mostOperands) && decide (meth.sig.returnType = rt) && !meth.locks && decide (parseMethodDescriptor y.desc = some meth.sig)) = true) : (Jvm.Cond.code y bytes mx rt).before a s = true := by
  simp only [Bool.and_eq_true, beq_iff_eq, Bool.not_eq_true', decide_eq_true_eq] at h5
  obtain ⟨⟨⟨⟨⟨g1, g2⟩, g3⟩, g4⟩, g5⟩, g6⟩ := h5
  simp [Cond.before, Cond.holds, Cond.value, h1, h2, h3, h4, g1, g2, g3, g4, g5, g6]
def isCode : Jvm.Cond → Bool
  | .code _ _ _ _ => true
  | _ => false
theorem all_split {L : List Jvm.Cond} {P : Jvm.Cond → Bool} (h1 : L.all (fun c => isCode c || P c) = true) (h2 : ∀ c ∈ L.filter isCode, P c = true) : L.all P = true := by
  refine List.all_eq_true.mpr fun c hc => ?_
  have h := List.all_eq_true.mp h1 c hc
  rcases Bool.eq_false_or_eq_true (isCode c) with hi | hi
  · exact h2 c (List.mem_filter.mpr ⟨hc, hi⟩)
  · simpa [hi] using h
set_option maxRecDepth 65536 in
theorem w_c0 : (Jvm.Cond.code x code maxLocals ret).before args0 about1 = true := code_word (m := ⟨1, 1⟩) (meth := k1m1) (c := k1c1) (by decide +kernel) rfl rfl rfl (by decide +kernel)
set_option maxRecDepth 65536 in
theorem w_c1 : (Jvm.Cond.code ({ cls := "org/matchstone/engine/Side", name := "better", desc := "(JJ)Z" } : Jvm.MethodName) prog_38_method_6_code (5 : Nat) (Option.some Jvm.ClassFile.FieldType.boolean)).before args0 about1 = true := code_word (m := ⟨6, 0⟩) (meth := k6m0) (c := k6c0) (by decide +kernel) rfl rfl rfl (by decide +kernel)
set_option maxRecDepth 65536 in
theorem w_c2 : (Jvm.Cond.code ({ cls := "java/lang/Math", name := "max", desc := "(JJ)J" } : Jvm.MethodName) jdk_29_method_66_code (4 : Nat) (Option.some Jvm.ClassFile.FieldType.long)).before args0 about1 = true := code_word (m := ⟨7, 1⟩) (meth := k7m1) (c := k7c1) (by decide +kernel) rfl rfl rfl (by decide +kernel)
set_option maxRecDepth 65536 in
theorem w_c3 : (Jvm.Cond.code ({ cls := "java/lang/Math", name := "min", desc := "(JJ)J" } : Jvm.MethodName) jdk_29_method_70_code (4 : Nat) (Option.some Jvm.ClassFile.FieldType.long)).before args0 about1 = true := code_word (m := ⟨7, 2⟩) (meth := k7m2) (c := k7c2) (by decide +kernel) rfl rfl rfl (by decide +kernel)
def codes1 : List Jvm.Cond := [Jvm.Cond.code x code maxLocals ret, Jvm.Cond.code ({ cls := "org/matchstone/engine/Side", name := "better", desc := "(JJ)Z" } : Jvm.MethodName) prog_38_method_6_code (5 : Nat) (Option.some Jvm.ClassFile.FieldType.boolean), Jvm.Cond.code ({ cls := "java/lang/Math", name := "max", desc := "(JJ)J" } : Jvm.MethodName) jdk_29_method_66_code (4 : Nat) (Option.some Jvm.ClassFile.FieldType.long), Jvm.Cond.code ({ cls := "java/lang/Math", name := "min", desc := "(JJ)J" } : Jvm.MethodName) jdk_29_method_70_code (4 : Nat) (Option.some Jvm.ClassFile.FieldType.long)]
set_option maxRecDepth 65536 in
theorem codes_eq : words1.filter isCode = codes1 := rfl
theorem w_codes : ∀ c ∈ words1.filter isCode, c.before args0 about1 = true := by
  rw [codes_eq]
  intro c hc
  simp only [codes1, List.mem_cons, List.not_mem_nil, or_false] at hc
  rcases hc with rfl | rfl | rfl | rfl
  · exact w_c0
  · exact w_c1
  · exact w_c2
  · exact w_c3
set_option maxRecDepth 65536 in
theorem w_t1 : words1.all (fun c => isCode c || c.before args0 about1) = true := by decide +kernel
theorem w_tables : (allAtoms (Jvm.Cond.code x code maxLocals ret :: tables_1)).before args0 about1 = true := by
  rw [allAtoms_all]
  show words1.all (fun c => c.before args0 about1) = true
  refine all_split ?_ w_codes
  rw [w_t1]
set_option maxRecDepth 65536 in
theorem w_case : (Jvm.Cond.and given_1 narrow_1).before args0 about1 = true := by decide +kernel
theorem w_applies : (headSpec (Jvm.Cond.code x code maxLocals ret :: tables_1) room_1).applies x e0.platform about1 = true :=
  (Spec.applies_iff w_frames).mpr ⟨w_running, w_runnable, w_alone, w_named, w_hears, w_ripe, w_room, w_tables⟩
theorem atStart : AtStart classFile x code maxLocals ret World_1 tables_1 room_1 Calls_1 rest_1 Pre_1 launch0 p0 e0 about1 theMethod args0 below0 :=
  ⟨lists_1, trivial, launch0.admits_env _ _ _, launch0.least_env, fairChoices_fair.cas, fairChoices_fair.clock, w_frames, w_args, w_heap, w_applies, trivial, trivial, w_case⟩
end start1
theorem witness_1 : WitnessClaimed_1 := ⟨start1.p0, start1.e0, start1.about1, start1.theMethod, start1.args0, start1.below0, start1.atStart⟩
end Jvm.Pilot.@@N@@
