import JvmDerived
import JvmDerived.Pilot.@@N@@Statement
import JvmDerived.Pilot.@@N@@Code
set_option linter.unusedVariables false
set_option linter.unusedSimpArgs false
namespace Jvm.Pilot.@@N@@
open Jvm Jvm.ClassFile Sem Op Lib Jvm.Free Jvm.Stand Jvm.LawKit Jvm.RoadKit Bundle Jvm.Pilot.@@N@@.Jvm.D
/-! the walk in continuation form: 'Go' says that from here the body comes to its end with Q -/
def Go (EN : State → Outcome → State → List Loc → Nat → Nat → Prop) (p : Program) (e : Env) (below : List Frame) (s : State) (kc ks : Nat) (Q : Option Value → Heap → List Loc → Prop) (T : State) (g : JFrame) : Prop :=
  ∃ s₂ o, Steps p.tables e below (T.setTop g) s₂ ∧ s₂.status = .running ∧ Ended s₂ below o ∧ ∃ v L, o = .returned v ∧ Q v s₂.heap L ∧ EN s o s₂ L kc ks
section GoLaws
variable {p : Program} {l : Launch} {e : Env} {R : Room} {s : State} {m : MethodId} {args : Array Value} {below : List Frame} {meth : Method} {c : Code} {T T' : State} {locs : List Loc} {cells slots kc ks : Nat} {Q : Option Value → Heap → List Loc → Prop} {g g' : JFrame} {EN : State → Outcome → State → List Loc → Nat → Nat → Prop}
theorem Go.step (st : ∀ t, Steps p.tables e below (T'.setTop g') t → Steps p.tables e below (T.setTop g) t) (k : Go EN p e below s kc ks Q T' g') : Go EN p e below s kc ks Q T g := by
  obtain ⟨a, b, h1, h2⟩ := k
  exact ⟨a, b, st _ h1, h2⟩
theorem Go.trans (st : Steps p.tables e below (T.setTop g) (T'.setTop g')) (k : Go EN p e below s kc ks Q T' g') : Go EN p e below s kc ks Q T g := by
  obtain ⟨a, b, h1, h2⟩ := k
  exact ⟨a, b, st.trans h1, h2⟩
theorem Go.cast (q : g = g') (k : Go EN p e below s kc ks Q T g') : Go EN p e below s kc ks Q T g := q ▸ k
theorem Go.retN (X : Stand p l e R s m args below meth c T locs cells slots) (hx : p.tables.exec = Jvm.exec) {pc : Nat} {Ls : Array Slot} {z : Int32} {t : FieldType} {rest : List Value} (hret : meth.sig.returnType = some t) (ht : t = .boolean ∨ t = .byte ∨ t = .char ∨ t = .short) (hlk : meth.locks = false)
    (hd : decode c.code pc = .ok (.ireturn, 1)) (hc : cells ≤ kc) (hs : slots ≤ ks) (q : Q (some (.int (nar t z))) T.heap locs) : Go FrameEnd p e below s kc ks Q T (mkF m pc Ls (.int z :: rest)) := by
  obtain ⟨fs, hr, hrun, hended, hW, hsame⟩ := X.leave (v := some (.int (nar t z))) (fun h => by rw [hret] at h; cases h) hlk
  exact ⟨_, _, RoadKit.retN X hx hret ht hd hr, hrun, hended, _, _, rfl, q, ⟨_, rfl⟩, hW, hsame.mono hc hs⟩
theorem Go.retI (X : Stand p l e R s m args below meth c T locs cells slots) (hx : p.tables.exec = Jvm.exec) {pc : Nat} {Ls : Array Slot} {z : Int32} {rest : List Value} (hret : meth.sig.returnType = some .int) (hlk : meth.locks = false)
    (hd : decode c.code pc = .ok (.ireturn, 1)) (hc : cells ≤ kc) (hs : slots ≤ ks) (q : Q (some (.int z)) T.heap locs) : Go FrameEnd p e below s kc ks Q T (mkF m pc Ls (.int z :: rest)) := by
  obtain ⟨fs, hr, hrun, hended, hW, hsame⟩ := X.leave (v := some (.int z)) (fun h => by rw [hret] at h; cases h) hlk
  exact ⟨_, _, RoadKit.retOut X hx hret rfl (Or.inl ⟨rfl, Or.inl rfl, _, rfl⟩) hd hr, hrun, hended, _, _, rfl, q, ⟨_, rfl⟩, hW, hsame.mono hc hs⟩
theorem Go.retJ (X : Stand p l e R s m args below meth c T locs cells slots) (hx : p.tables.exec = Jvm.exec) {pc : Nat} {Ls : Array Slot} {z : Int64} {rest : List Value} (hret : meth.sig.returnType = some .long) (hlk : meth.locks = false)
    (hd : decode c.code pc = .ok (.lreturn, 1)) (hc : cells ≤ kc) (hs : slots ≤ ks) (q : Q (some (.long z)) T.heap locs) : Go FrameEnd p e below s kc ks Q T (mkF m pc Ls (.long z :: rest)) := by
  obtain ⟨fs, hr, hrun, hended, hW, hsame⟩ := X.leave (v := some (.long z)) (fun h => by rw [hret] at h; cases h) hlk
  exact ⟨_, _, RoadKit.retOut X hx hret rfl (Or.inr (Or.inl ⟨rfl, rfl, _, rfl⟩)) hd hr, hrun, hended, _, _, rfl, q, ⟨_, rfl⟩, hW, hsame.mono hc hs⟩
theorem Go.retA (X : Stand p l e R s m args below meth c T locs cells slots) (hx : p.tables.exec = Jvm.exec) {pc : Nat} {Ls : Array Slot} {z : Value} {t : FieldType} {rest : List Value} (hret : meth.sig.returnType = some t) (ht : t.isReference = true) (hz : z.isRef = true) (hlk : meth.locks = false)
    (hd : decode c.code pc = .ok (.areturn, 1)) (hc : cells ≤ kc) (hs : slots ≤ ks) (q : Q (some z) T.heap locs) : Go FrameEnd p e below s kc ks Q T (mkF m pc Ls (z :: rest)) := by
  obtain ⟨fs, hr, hrun, hended, hW, hsame⟩ := X.leave (v := some z) (fun h => by rw [hret] at h; cases h) hlk
  exact ⟨_, _, RoadKit.retOut X hx hret (by cases t <;> cases z <;> first | rfl | (cases ht; done) | (cases hz; done)) (Or.inr (Or.inr (Or.inr (Or.inr ⟨rfl, ht, hz⟩)))) hd hr, hrun, hended, _, _, rfl, q, ⟨_, rfl⟩, hW, hsame.mono hc hs⟩
theorem Go.retV (X : Stand p l e R s m args below meth c T locs cells slots) (hx : p.tables.exec = Jvm.exec) {pc : Nat} {Ls : Array Slot} (hret : meth.sig.returnType = none) (hlk : meth.locks = false)
    (hd : decode c.code pc = .ok (.return_, 1)) (hc : cells ≤ kc) (hs : slots ≤ ks) (q : Q none T.heap locs) : Go FrameEnd p e below s kc ks Q T (mkF m pc Ls []) := by
  obtain ⟨fs, hr, hrun, hended, hW, hsame⟩ := X.leave (v := none) (fun _ => rfl) hlk
  exact ⟨_, _, X.returnOut hx hret hd hr, hrun, hended, _, _, rfl, q, ⟨_, rfl⟩, hW, hsame.mono hc hs⟩
theorem rewMono {s t : State} {o : Outcome} {L : List Loc} {k n k' n' : Nat} (h : ReturnedEndW s o t L k n) (hk : k ≤ k') (hn : n ≤ n') : ReturnedEndW s o t L k' n' := ⟨h.1, h.2.1, h.2.2.1, h.2.2.2.mono hk hn⟩
theorem Go.retNW {vm0 : Vm} {k0 : Nat} (X : Stand p l e R (s.setVm vm0) m args below meth c T locs cells slots) (hS : s.Since vm0 k0) (hk : k0 ≤ T.heap.size) (hx : p.tables.exec = Jvm.exec) {pc : Nat} {Ls : Array Slot} {z : Int32} {t : FieldType} {rest : List Value} (hret : meth.sig.returnType = some t) (ht : t = .boolean ∨ t = .byte ∨ t = .char ∨ t = .short) (hlk : meth.locks = false)
    (hd : decode c.code pc = .ok (.ireturn, 1)) (hc : cells ≤ kc) (hs : slots ≤ ks) (q : Q (some (.int (nar t z))) T.heap locs) : Go ReturnedEndW p e below s kc ks Q T (mkF m pc Ls (.int z :: rest)) := by
  obtain ⟨fs, hr, hrun, hended, hW⟩ := X.leaveW hS hk (v := some (.int (nar t z))) (fun h => by rw [hret] at h; cases h) hlk
  exact ⟨_, _, RoadKit.retN X hx hret ht hd hr, hrun, hended, _, _, rfl, q, rewMono hW hc hs⟩
theorem Go.retIW {vm0 : Vm} {k0 : Nat} (X : Stand p l e R (s.setVm vm0) m args below meth c T locs cells slots) (hS : s.Since vm0 k0) (hk : k0 ≤ T.heap.size) (hx : p.tables.exec = Jvm.exec) {pc : Nat} {Ls : Array Slot} {z : Int32} {rest : List Value} (hret : meth.sig.returnType = some .int) (hlk : meth.locks = false)
    (hd : decode c.code pc = .ok (.ireturn, 1)) (hc : cells ≤ kc) (hs : slots ≤ ks) (q : Q (some (.int z)) T.heap locs) : Go ReturnedEndW p e below s kc ks Q T (mkF m pc Ls (.int z :: rest)) := by
  obtain ⟨fs, hr, hrun, hended, hW⟩ := X.leaveW hS hk (v := some (.int z)) (fun h => by rw [hret] at h; cases h) hlk
  exact ⟨_, _, RoadKit.retOut X hx hret rfl (Or.inl ⟨rfl, Or.inl rfl, _, rfl⟩) hd hr, hrun, hended, _, _, rfl, q, rewMono hW hc hs⟩
theorem Go.retJW {vm0 : Vm} {k0 : Nat} (X : Stand p l e R (s.setVm vm0) m args below meth c T locs cells slots) (hS : s.Since vm0 k0) (hk : k0 ≤ T.heap.size) (hx : p.tables.exec = Jvm.exec) {pc : Nat} {Ls : Array Slot} {z : Int64} {rest : List Value} (hret : meth.sig.returnType = some .long) (hlk : meth.locks = false)
    (hd : decode c.code pc = .ok (.lreturn, 1)) (hc : cells ≤ kc) (hs : slots ≤ ks) (q : Q (some (.long z)) T.heap locs) : Go ReturnedEndW p e below s kc ks Q T (mkF m pc Ls (.long z :: rest)) := by
  obtain ⟨fs, hr, hrun, hended, hW⟩ := X.leaveW hS hk (v := some (.long z)) (fun h => by rw [hret] at h; cases h) hlk
  exact ⟨_, _, RoadKit.retOut X hx hret rfl (Or.inr (Or.inl ⟨rfl, rfl, _, rfl⟩)) hd hr, hrun, hended, _, _, rfl, q, rewMono hW hc hs⟩
theorem Go.retAW {vm0 : Vm} {k0 : Nat} (X : Stand p l e R (s.setVm vm0) m args below meth c T locs cells slots) (hS : s.Since vm0 k0) (hk : k0 ≤ T.heap.size) (hx : p.tables.exec = Jvm.exec) {pc : Nat} {Ls : Array Slot} {z : Value} {t : FieldType} {rest : List Value} (hret : meth.sig.returnType = some t) (ht : t.isReference = true) (hz : z.isRef = true) (hlk : meth.locks = false)
    (hd : decode c.code pc = .ok (.areturn, 1)) (hc : cells ≤ kc) (hs : slots ≤ ks) (q : Q (some z) T.heap locs) : Go ReturnedEndW p e below s kc ks Q T (mkF m pc Ls (z :: rest)) := by
  obtain ⟨fs, hr, hrun, hended, hW⟩ := X.leaveW hS hk (v := some z) (fun h => by rw [hret] at h; cases h) hlk
  exact ⟨_, _, RoadKit.retOut X hx hret (by cases t <;> cases z <;> first | rfl | (cases ht; done) | (cases hz; done)) (Or.inr (Or.inr (Or.inr (Or.inr ⟨rfl, ht, hz⟩)))) hd hr, hrun, hended, _, _, rfl, q, rewMono hW hc hs⟩
theorem Go.retVW {vm0 : Vm} {k0 : Nat} (X : Stand p l e R (s.setVm vm0) m args below meth c T locs cells slots) (hS : s.Since vm0 k0) (hk : k0 ≤ T.heap.size) (hx : p.tables.exec = Jvm.exec) {pc : Nat} {Ls : Array Slot} (hret : meth.sig.returnType = none) (hlk : meth.locks = false)
    (hd : decode c.code pc = .ok (.return_, 1)) (hc : cells ≤ kc) (hs : slots ≤ ks) (q : Q none T.heap locs) : Go ReturnedEndW p e below s kc ks Q T (mkF m pc Ls []) := by
  obtain ⟨fs, hr, hrun, hended, hW⟩ := X.leaveW hS hk (v := none) (fun _ => rfl) hlk
  exact ⟨_, _, X.returnOut hx hret hd hr, hrun, hended, _, _, rfl, q, rewMono hW hc hs⟩
theorem extRfl (h : Heap) : Ext h h := ⟨Nat.le_refl _, fun _ _ q => q⟩
theorem extTr {h1 h2 h3 : Heap} (A : Ext h1 h2) (B : Ext h2 h3) : Ext h1 h3 := ⟨Nat.le_trans A.1 B.1, fun a c q => B.2 a c (A.2 a c q)⟩
theorem extKeep {h1 h2 h3 : Heap} {ws : List Addr} (A : Ext h1 h2) (K : Keep h2 h3 ws) (q : ∀ x ∈ ws, h1.size ≤ x) : Ext h1 h3 := ⟨Nat.le_trans A.1 K.1, fun a c r => K.2.1 a c (A.2 a c r) fun z => absurd (Array.getElem?_eq_some_iff.mp r).1 (Nat.not_lt.mpr (q a z))⟩
theorem extWr {h1 h2 h3 : Heap} {a : Addr} {sl : Nat} {v : Value} (A : Ext h1 h2) (W : Wr h2 h3 a sl v) (q : h1.size ≤ a) : Ext h1 h3 := extKeep A (Keep.of_wr W) (allS q all0)
end GoLaws
theorem fldStart {Z : State} {args : Array Value} {t : Jvm.Term} {a : Addr} {C n d : String} {k : Int32} (ev : t.eval args Z none [] Z = some (.ref a)) (h : (Jvm.Cond.eq (.field t C n d) (.int k)).value args Z none Z [] = some true) : Fld Z Z.heap a C n d (.int k) :=
  Fld.start ((fld_at ev).symm.trans (eqv_i (Term.int_eval k) h))
/-- putfield through an entry that the sheet says resolved -/
theorem putRdy {p : Program} {l : Launch} {e : Env} {R : Room} {s : State} {m : MethodId} {args : Array Value} {below : List Frame} {meth : Method} {c : Code} {T : State} {locs : List Loc} {cells slots : Nat} {Z : State} {a0 : Array Value} {h : Heap}
    (X : Stand p l e R s m args below meth c T locs cells slots) (hx : p.tables.exec = Jvm.exec) (hZ : Z.Warmed39 s.vm) {own O n d C : String} {index kk : Nat} {ty : FieldType} (hown : s.vm.findClass own = some m.cls) (w : (Jvm.Cond.fieldRef own index O n d).before a0 Z = true)
    (eT : T.heap = h) {a : Addr} {v old : Value} (F : Fld Z h a O n d old) (E : Exa Z h a C) (L : (Jvm.Cond.lays C O n d).before a0 Z = true) (wi : (Jvm.Cond.instantiable C kk).before a0 Z = true)
    (hty : parseFieldDescriptor d = some ty) (hn : narrow ty v = v) (hf : fits ty v = true) {g : JFrame} (hg : g.method = m) {rest : List Value} (hs : g.stack = v :: .ref a :: rest) (hd : decode c.code g.pc = .ok (.putfield index, 3)) :
    ∃ T' h', Stand p l e R s m args below meth c T' (locs ++ [⟨a, Jvm.RoadKit.slotOf Z O n d⟩]) cells slots ∧ T'.heap = h' ∧ Wr h h' a (Jvm.RoadKit.slotOf Z O n d) v ∧ ∀ target, Steps p.tables e below (T'.setTop { g with pc := g.pc + 3, stack := rest }) target → Steps p.tables e below (T.setTop g) target := by
  have hT : Z.Warmed39 T.vm := wtrans hZ X.warmed
  obtain ⟨cell, cf, k, i, f, h1, h2, h3, h4, h5, -, h7⟩ := F
  obtain ⟨cell', kc, e1, e2, e3, -⟩ := E
  cases h1.symm.trans e1
  obtain ⟨c1, k1, cf1, kf1, i1, f1, a1, a2, a3, -, -, a6, -⟩ := Laid.spec (Or.inl L)
  cases h2.symm.trans a3
  cases e2.symm.trans a1
  obtain ⟨c2, k2, i1, i2, i3, -⟩ := Cond.instantiable_spec wi
  cases e2.symm.trans i1
  cases a2.symm.trans i2
  have ht := (State.fieldFound?_type h2 hty).2
  have hfit : Z.fitsSlot cell.cls cell.vm f.slot v = true := by
    have q : Z.slotType? cell.cls cell.vm f.slot = some ty := by
      simp only [State.slotType?, a2, Option.bind_eq_bind, Option.bind_some, i3]
      cases hq : cell.vm <;> first | (rw [hq] at h5; exact Bool.noConfusion h5) | (rw [a6, ht])
    simp [State.fitsSlot, q, hf]
  have hfitT : T.fitsSlot cell.cls cell.vm f.slot v = true := by rw [← State.fitsSlot_setVm hT.alike] at hfit; exact hfit
  obtain ⟨_, _, _, _, _, _, -, -, b3, -, b5, -⟩ := Cond.lays_spec L
  cases h2.symm.trans b3
  have hcur : (Z.setVm T.vm).vm.findClass own = some m.cls := by
    show T.vm.findClass own = _
    rw [hT.alike.findClass, ← hZ.alike.findClass]; exact hown
  obtain ⟨cq, kq, iq, fq, q1, q2⟩ := Cond.fieldRef_spec hcur (Cond.fieldRef_warmed39 hT w)
  obtain ⟨k', q3, -⟩ := State.fieldFound?_setVm (s := Z) hT.alike h2
  cases q1.symm.trans q3
  have hlt := (Array.getElem?_eq_some_iff.mp h7).1
  have es : Jvm.RoadKit.slotOf Z O n d = f.slot := by simp [Jvm.RoadKit.slotOf, h2]
  rw [es]
  obtain ⟨X', st⟩ := X.putfieldReady hx q2 h3 (Or.inl b5) (by rw [eT]; exact h1) h4 hlt (by rw [ht]; exact hn) hfitT hg hs hd
  exact ⟨_, _, X', rfl, ⟨cell, h1, h5, hlt, by rw [← eT]; rfl⟩, st⟩
theorem own_mod (x y : Int32) (d : Int) (hy : y.toInt = d) (hd : 0 < d) : 0 ≤ ((x &&& 2147483647) % y).toInt ∧ ((x &&& 2147483647) % y).toInt < d := by
  have h1 := c_mask x 2147483647 31 (by decide) (by decide)
  have h2 := (c_irem (x &&& 2147483647) y d hy).1 (by rw [h1]; omega)
  rw [h2]
  exact ⟨Int.emod_nonneg _ (by omega), Int.emod_lt_of_pos _ hd⟩
theorem d1_0 : decode prog_53_method_6_code 0 = .ok (.aload_n 0, 1) := by decide +kernel
theorem d1_1 : decode prog_53_method_6_code 1 = .ok (.getfield 57, 3) := by decide +kernel
theorem d1_4 : decode prog_53_method_6_code 4 = .ok (.iconst 3, 1) := by decide +kernel
theorem d1_5 : decode prog_53_method_6_code 5 = .ok (.if_icmp .ne 7, 3) := by decide +kernel
theorem d1_8 : decode prog_53_method_6_code 8 = .ok (.iconst 1, 1) := by decide +kernel
theorem d1_9 : decode prog_53_method_6_code 9 = .ok (.goto 4, 3) := by decide +kernel
theorem d1_13 : decode prog_53_method_6_code 13 = .ok (.ireturn, 1) := by decide +kernel
theorem d1_12 : decode prog_53_method_6_code 12 = .ok (.iconst 0, 1) := by decide +kernel
theorem pn_1 : plainName "com/example/distinguo/distinguo/model/Expr$BinaryOp" = true := by first | (simp [plainName, overriddenIn]; done) | decide +kernel
theorem ef_1 (m : MethodId) (y0 : Addr) : entryFrame m #[(.ref y0)] 1 = mkF m 0 #[.val (.ref y0)] [] := by first | (simp [entryFrame, mkF, argsToLocals, Value.category]; done) | rfl
def Q_1 (Z : State) (x0 : Addr) (bi : Int32) (r : Int32) (h0 : Heap) (v : Option Value) (h : Heap) (L : List Loc) : Prop := v = some (.int r) ∧ Fr Z.heap.size L ∧ h = h0
set_option maxRecDepth 65536 in
set_option maxHeartbeats 40000000 in
theorem rm_1 (l : Launch) (Z : State) (a0 : Array Value) (hw : ∀ d ∈ tables_1, d.before a0 Z = true) (ws : List Jvm.Cond) (x0 : Addr) (bi : Int32) (r : Int32) (h0 : Heap) (O0 : Ext Z.heap h0) (F_b : Fld Z Z.heap x0 "com/example/distinguo/distinguo/model/Expr$BinaryOp" "binding" "I" (.int bi)) (hr : r = if bi = 3 then 1 else 0) :
    MetFree l (⟨"com/example/distinguo/distinguo/model/Expr$BinaryOp", "isComparison", "()Z"⟩ : MethodName) (head1 (Jvm.Cond.code (⟨"com/example/distinguo/distinguo/model/Expr$BinaryOp", "isComparison", "()Z"⟩ : MethodName) prog_53_method_6_code 1 (some .boolean) :: ws) ({ frames := 0, cells := 0, slots := 0, locals := 0 } : Room)) (fun a U => a = #[(.ref x0)] ∧ Z.Warmed39 U.vm ∧ U.heap = h0) (fun _ _ _ _ _ => True) (fun _ U o U' => ∃ v L, o = .returned v ∧ Q_1 Z x0 bi r h0 v U'.heap L ∧ FrameEnd U o U' L ({ frames := 0, cells := 0, slots := 0, locals := 0 } : Room).cells ({ frames := 0, cells := 0, slots := 0, locals := 0 } : Room).slots) := by
  refine MetFree.of_bodySF (plainFor_of_name pn_1) hisR ?_
  intro p e s m args below meth c s₁ Bd hml0 hP hK
  obtain ⟨rfl, hZ, hh⟩ := hP
  have hx := Bd.exec
  have hby := Bd.bytes
  have hlk := Bd.notSynchronized
  have hml : c.maxLocals = 1 := hml0
  have hown : s.vm.findClass "com/example/distinguo/distinguo/model/Expr$BinaryOp" = some m.cls := findClass_of_methodNamed Bd.named
  have hnm := (name_of_methodNamed Bd.named Bd.method).1
  have X0 : Stand p l e ({ frames := 0, cells := 0, slots := 0, locals := 0 } : Room) s m #[(.ref x0)] below meth c s₁ [] 0 0 := Stand.of_body Bd
  have e0 : s₁.heap = h0 := by rw [← hh, Bd.state]; rfl
  have N0 := Fr.nil Z.heap.size
  show Go FrameEnd p e below s ({ frames := 0, cells := 0, slots := 0, locals := 0 } : Room).cells ({ frames := 0, cells := 0, slots := 0, locals := 0 } : Room).slots (Q_1 Z x0 bi r h0) s₁ (entryFrame m #[(.ref x0)] 1)
  refine Go.cast (ef_1 m x0) ?_
  show Go _ _ _ _ _ _ _ _ s₁ (mkF m 0 #[.val (.ref x0)] [])
  refine Go.step (fun _ kt_ => XS.aloadN X0.here hx rfl (hb hby d1_0) rfl rfl kt_) ?_
  show Go _ _ _ _ _ _ _ _ s₁ (mkF m 1 #[.val (.ref x0)] [(.ref x0)])
  obtain ⟨T1, X1, e1, st1⟩ := getF X0 hx hZ hown (host := "") (Or.inl (hw _ (List.mem_of_getElem? (i := 31) rfl))) Via.refl e0 (Fld.ext O0 F_b) (g := (mkF m 1 #[.val (.ref x0)] [(.ref x0)])) rfl rfl (hb hby d1_1)
  refine Go.step st1 ?_
  show Go _ _ _ _ _ _ _ _ T1 (mkF m 4 #[.val (.ref x0)] [(.int bi)])
  refine Go.step (fun _ kt_ => XS.iconst X1.here hx rfl (hb hby d1_4)  kt_) ?_
  show Go _ _ _ _ _ _ _ _ T1 (mkF m 5 #[.val (.ref x0)] [(.int (3 : Int32)), (.int bi)])
  by_cases hc5_2 : bi = (3 : Int32)
  · refine Go.step (fun _ kt_ => XS.icmpNo X1.here hx rfl (hb hby d1_5) rfl (teq hc5_2).2 kt_) ?_
    show Go _ _ _ _ _ _ _ _ T1 (mkF m 8 #[.val (.ref x0)] [])
    refine Go.step (fun _ kt_ => XS.iconst X1.here hx rfl (hb hby d1_8)  kt_) ?_
    show Go _ _ _ _ _ _ _ _ T1 (mkF m 9 #[.val (.ref x0)] [(.int (1 : Int32))])
    refine Go.step (fun _ kt_ => XS.goto X1.here hx rfl (pc0 := 9) (pc' := 13) rfl (hb hby d1_9) (by decide) (by decide) kt_) ?_
    show Go _ _ _ _ _ _ _ _ T1 (mkF m 13 #[.val (.ref x0)] [(.int (1 : Int32))])
    exact Go.retN X1 hx (t := .boolean) Bd.returns (by simp) hlk (hb hby d1_13) (by decide) (by decide) (by show _ ∧ _ ∧ _; rw [e1]; refine ⟨congrArg (fun z => some (Value.int z)) ?_, N0, rfl⟩; rw [hr]; ((try simp only [lw_lt, lw_gt, lw_eq] at hc5_2); simp only [hc5_2, if_true, if_false, ite_self, eq_self, not_false_eq_true, true_or, or_true, false_or, or_false, or_self]); try rfl)
  · refine Go.step (fun _ kt_ => XS.icmpYes X1.here hx rfl (pc0 := 5) (pc' := 12) rfl (hb hby d1_5) rfl (feq hc5_2).2 (by decide) (by decide) kt_) ?_
    show Go _ _ _ _ _ _ _ _ T1 (mkF m 12 #[.val (.ref x0)] [])
    refine Go.step (fun _ kt_ => XS.iconst X1.here hx rfl (hb hby d1_12)  kt_) ?_
    show Go _ _ _ _ _ _ _ _ T1 (mkF m 13 #[.val (.ref x0)] [(.int (0 : Int32))])
    exact Go.retN X1 hx (t := .boolean) Bd.returns (by simp) hlk (hb hby d1_13) (by decide) (by decide) (by show _ ∧ _ ∧ _; rw [e1]; refine ⟨congrArg (fun z => some (Value.int z)) ?_, N0, rfl⟩; rw [hr]; ((try simp only [lw_lt, lw_gt, lw_eq] at hc5_2); simp only [hc5_2, if_true, if_false, ite_self, eq_self, not_false_eq_true, true_or, or_true, false_or, or_false, or_self]); try rfl)
theorem pd_LRZ : parseMethodDescriptor "()Z" = some ⟨[], some .boolean⟩ := by decide +kernel
theorem pn_0 : plainName "com/example/distinguo/distinguo/model/BinaryOpIsComparisonPinLaw" = true := by first | (simp [plainName, overriddenIn]; done) | decide +kernel
theorem ef_0 (m : MethodId) (y0 : Int32) : entryFrame m #[(.int y0)] maxLocals = mkF m 0 #[.val (.int y0), .unset, .unset, .unset] [] := by first | (simp [entryFrame, mkF, argsToLocals, Value.category, maxLocals]; done) | rfl
def Q_0 (Z : State) (x0 : Int32) (cOR : Addr) (cAND : Addr) (cEQ : Addr) (cNE : Addr) (cLT : Addr) (cLE : Addr) (cGT : Addr) (cGE : Addr) (cADD : Addr) (cSUB : Addr) (h0 : Heap) (v : Option Value) (h : Heap) (L : List Loc) : Prop := v = some (.int 1) ∧ Fr Z.heap.size L ∧ True
set_option maxRecDepth 65536 in
set_option maxHeartbeats 40000000 in
theorem rm_0 (l : Launch) (Z : State) (a0 : Array Value) (hw : ∀ d ∈ tables_1, d.before a0 Z = true) (ws : List Jvm.Cond) (x0 : Int32) (cOR : Addr) (cAND : Addr) (cEQ : Addr) (cNE : Addr) (cLT : Addr) (cLE : Addr) (cGT : Addr) (cGE : Addr) (cADD : Addr) (cSUB : Addr) (h0 : Heap) (O0 : Ext Z.heap h0) (S_OR : Sta Z Z.heap "com/example/distinguo/distinguo/model/Expr$BinaryOp" "OR" "Lcom/example/distinguo/distinguo/model/Expr$BinaryOp;" (.ref cOR)) (S_AND : Sta Z Z.heap "com/example/distinguo/distinguo/model/Expr$BinaryOp" "AND" "Lcom/example/distinguo/distinguo/model/Expr$BinaryOp;" (.ref cAND)) (S_EQ : Sta Z Z.heap "com/example/distinguo/distinguo/model/Expr$BinaryOp" "EQ" "Lcom/example/distinguo/distinguo/model/Expr$BinaryOp;" (.ref cEQ)) (S_NE : Sta Z Z.heap "com/example/distinguo/distinguo/model/Expr$BinaryOp" "NE" "Lcom/example/distinguo/distinguo/model/Expr$BinaryOp;" (.ref cNE)) (S_LT : Sta Z Z.heap "com/example/distinguo/distinguo/model/Expr$BinaryOp" "LT" "Lcom/example/distinguo/distinguo/model/Expr$BinaryOp;" (.ref cLT)) (S_LE : Sta Z Z.heap "com/example/distinguo/distinguo/model/Expr$BinaryOp" "LE" "Lcom/example/distinguo/distinguo/model/Expr$BinaryOp;" (.ref cLE)) (S_GT : Sta Z Z.heap "com/example/distinguo/distinguo/model/Expr$BinaryOp" "GT" "Lcom/example/distinguo/distinguo/model/Expr$BinaryOp;" (.ref cGT)) (S_GE : Sta Z Z.heap "com/example/distinguo/distinguo/model/Expr$BinaryOp" "GE" "Lcom/example/distinguo/distinguo/model/Expr$BinaryOp;" (.ref cGE)) (S_ADD : Sta Z Z.heap "com/example/distinguo/distinguo/model/Expr$BinaryOp" "ADD" "Lcom/example/distinguo/distinguo/model/Expr$BinaryOp;" (.ref cADD)) (S_SUB : Sta Z Z.heap "com/example/distinguo/distinguo/model/Expr$BinaryOp" "SUB" "Lcom/example/distinguo/distinguo/model/Expr$BinaryOp;" (.ref cSUB)) (X_OR : Exa Z Z.heap cOR "com/example/distinguo/distinguo/model/Expr$BinaryOp") (X_AND : Exa Z Z.heap cAND "com/example/distinguo/distinguo/model/Expr$BinaryOp") (X_EQ : Exa Z Z.heap cEQ "com/example/distinguo/distinguo/model/Expr$BinaryOp") (X_NE : Exa Z Z.heap cNE "com/example/distinguo/distinguo/model/Expr$BinaryOp") (X_LT : Exa Z Z.heap cLT "com/example/distinguo/distinguo/model/Expr$BinaryOp") (X_LE : Exa Z Z.heap cLE "com/example/distinguo/distinguo/model/Expr$BinaryOp") (X_GT : Exa Z Z.heap cGT "com/example/distinguo/distinguo/model/Expr$BinaryOp") (X_GE : Exa Z Z.heap cGE "com/example/distinguo/distinguo/model/Expr$BinaryOp") (X_ADD : Exa Z Z.heap cADD "com/example/distinguo/distinguo/model/Expr$BinaryOp") (X_SUB : Exa Z Z.heap cSUB "com/example/distinguo/distinguo/model/Expr$BinaryOp") (F_OR : Fld Z Z.heap cOR "com/example/distinguo/distinguo/model/Expr$BinaryOp" "binding" "I" (.int (1 : Int32))) (F_AND : Fld Z Z.heap cAND "com/example/distinguo/distinguo/model/Expr$BinaryOp" "binding" "I" (.int (2 : Int32))) (F_EQ : Fld Z Z.heap cEQ "com/example/distinguo/distinguo/model/Expr$BinaryOp" "binding" "I" (.int (3 : Int32))) (F_NE : Fld Z Z.heap cNE "com/example/distinguo/distinguo/model/Expr$BinaryOp" "binding" "I" (.int (3 : Int32))) (F_LT : Fld Z Z.heap cLT "com/example/distinguo/distinguo/model/Expr$BinaryOp" "binding" "I" (.int (3 : Int32))) (F_LE : Fld Z Z.heap cLE "com/example/distinguo/distinguo/model/Expr$BinaryOp" "binding" "I" (.int (3 : Int32))) (F_GT : Fld Z Z.heap cGT "com/example/distinguo/distinguo/model/Expr$BinaryOp" "binding" "I" (.int (3 : Int32))) (F_GE : Fld Z Z.heap cGE "com/example/distinguo/distinguo/model/Expr$BinaryOp" "binding" "I" (.int (3 : Int32))) (F_ADD : Fld Z Z.heap cADD "com/example/distinguo/distinguo/model/Expr$BinaryOp" "binding" "I" (.int (4 : Int32))) (F_SUB : Fld Z Z.heap cSUB "com/example/distinguo/distinguo/model/Expr$BinaryOp" "binding" "I" (.int (4 : Int32))) :
    MetFree l x (head1 (Jvm.Cond.code x code maxLocals ret :: ws) room_1) (fun a U => a = #[(.int x0)] ∧ Z.Warmed39 U.vm ∧ U.heap = h0) (fun _ _ _ _ _ => True) (fun _ U o U' => ∃ v L, o = .returned v ∧ Q_0 Z x0 cOR cAND cEQ cNE cLT cLE cGT cGE cADD cSUB h0 v U'.heap L ∧ FrameEnd U o U' L room_1.cells room_1.slots) := by
  refine MetFree.of_bodySF (plainFor_of_name pn_0) hisR ?_
  intro p e s m args below meth c s₁ Bd hml0 hP hK
  obtain ⟨rfl, hZ, hh⟩ := hP
  have hx := Bd.exec
  have hby := Bd.bytes
  have hlk := Bd.notSynchronized
  have hml : c.maxLocals = 4 := hml0
  have hown : s.vm.findClass "com/example/distinguo/distinguo/model/BinaryOpIsComparisonPinLaw" = some m.cls := findClass_of_methodNamed Bd.named
  have hnm := (name_of_methodNamed Bd.named Bd.method).1
  have X0 : Stand p l e room_1 s m #[(.int x0)] below meth c s₁ [] 0 0 := Stand.of_body Bd
  have e0 : s₁.heap = h0 := by rw [← hh, Bd.state]; rfl
  have N0 := Fr.nil Z.heap.size
  show Go FrameEnd p e below s room_1.cells room_1.slots (Q_0 Z x0 cOR cAND cEQ cNE cLT cLE cGT cGE cADD cSUB h0) s₁ (entryFrame m #[(.int x0)] maxLocals)
  refine Go.cast (ef_0 m x0) ?_
  show Go _ _ _ _ _ _ _ _ s₁ (mkF m 0 #[.val (.int x0), .unset, .unset, .unset] [])
  refine Go.step (fun _ kt_ => XS.bipush X0.here hx rfl (hb hby at_0)  kt_) ?_
  show Go _ _ _ _ _ _ _ _ s₁ (mkF m 2 #[.val (.int x0), .unset, .unset, .unset] [(.int (10 : Int32))])
  obtain ⟨T1, h1, k1, X1, e1, E1, A1, B1, O1, st1⟩ := newRE X0 hx hZ hown (hw _ (List.mem_of_getElem? (i := 0) rfl)) (hw _ (List.mem_of_getElem? (i := 1) rfl)) e0 (g := (mkF m 2 #[.val (.int x0), .unset, .unset, .unset] [(.int (10 : Int32))])) rfl (hb hby at_2) rfl (by decide) (cap := 10) (by decide) (by decide) (by decide) (by decide) rfl
  obtain ⟨b1, hb1⟩ : ∃ z, z = h0.size := ⟨_, rfl⟩
  rw [← hb1] at A1 B1 st1
  refine Go.step st1 ?_
  have g_b1 : Z.heap.size ≤ b1 := Nat.le_trans O0.1 (Nat.le_of_eq hb1.symm)
  have O1_ : Ext Z.heap h1 := extTr O0 E1
  have V1 : Arv Z h1 b1 k1 (.object "com/example/distinguo/distinguo/model/Expr$BinaryOp") (10 : Int32) [.null, .null, .null, .null, .null, .null, .null, .null, .null, .null] .null := (Arv.new A1 (by decide)).pad (pad_rep [] .null 10)
  show Go _ _ _ _ _ _ _ _ T1 (mkF m 5 #[.val (.int x0), .unset, .unset, .unset] [(.ref b1)])
  refine Go.step (fun _ kt_ => XS.dup X1.here hx rfl (hb hby at_5) rfl rfl kt_) ?_
  show Go _ _ _ _ _ _ _ _ T1 (mkF m 6 #[.val (.int x0), .unset, .unset, .unset] [(.ref b1), (.ref b1)])
  refine Go.step (fun _ kt_ => XS.iconst X1.here hx rfl (hb hby at_6)  kt_) ?_
  show Go _ _ _ _ _ _ _ _ T1 (mkF m 7 #[.val (.int x0), .unset, .unset, .unset] [(.int (0 : Int32)), (.ref b1), (.ref b1)])
  obtain ⟨T2, X2, e2, st2⟩ := getS2 X1 hx hZ hown (host := "") (Or.inl (hw _ (List.mem_of_getElem? (i := 2) rfl))) Via.refl e1 (Sta.ext O1_ S_OR) (g := (mkF m 7 #[.val (.int x0), .unset, .unset, .unset] [(.int (0 : Int32)), (.ref b1), (.ref b1)])) rfl (hb hby at_7)
  refine Go.step st2 ?_
  show Go _ _ _ _ _ _ _ _ T2 (mkF m 10 #[.val (.int x0), .unset, .unset, .unset] [(.ref cOR), (.int (0 : Int32)), (.ref b1), (.ref b1)])
  obtain ⟨cl3, Ar3, q3, S3, N3, H3, G3⟩ := V1
  have hin3 : ¬ ((0 : Int32) < 0 ∨ cl3.slots.size ≤ ((0 : Int32)).toNatClampNeg) := inb_of S3 ⟨by decide, by decide⟩
  obtain ⟨T3, h3, X3, e3, W3, st3⟩ := stR X2 hx hZ e2 Ar3 (j := (0 : Int32)) hin3 rfl (Sto.ofV Ar3 q3 O1 (Ins.self (Exa.ext O1_ X_OR))) (g := (mkF m 10 #[.val (.int x0), .unset, .unset, .unset] [(.ref cOR), (.int (0 : Int32)), (.ref b1), (.ref b1)])) rfl rfl (hb hby at_10)
  refine Go.step st3 ?_
  have V3 : Arv Z h3 b1 k1 (.object "com/example/distinguo/distinguo/model/Expr$BinaryOp") (10 : Int32) [(.ref cOR), .null, .null, .null, .null, .null, .null, .null, .null, .null] .null := Arv.set Ar3 q3 S3 N3 H3 G3 rfl W3 0 rfl (Nat.le_of_ble_eq_true rfl)
  have N3_ := Fr.snoc X3 N0 g_b1
  have O3_ : Ext Z.heap h3 := extWr O1_ W3 g_b1
  show Go _ _ _ _ _ _ _ _ T3 (mkF m 11 #[.val (.int x0), .unset, .unset, .unset] [(.ref b1)])
  refine Go.step (fun _ kt_ => XS.dup X3.here hx rfl (hb hby at_11) rfl rfl kt_) ?_
  show Go _ _ _ _ _ _ _ _ T3 (mkF m 12 #[.val (.int x0), .unset, .unset, .unset] [(.ref b1), (.ref b1)])
  refine Go.step (fun _ kt_ => XS.iconst X3.here hx rfl (hb hby at_12)  kt_) ?_
  show Go _ _ _ _ _ _ _ _ T3 (mkF m 13 #[.val (.int x0), .unset, .unset, .unset] [(.int (1 : Int32)), (.ref b1), (.ref b1)])
  obtain ⟨T4, X4, e4, st4⟩ := getS2 X3 hx hZ hown (host := "") (Or.inl (hw _ (List.mem_of_getElem? (i := 6) rfl))) Via.refl e3 (Sta.ext O3_ S_AND) (g := (mkF m 13 #[.val (.int x0), .unset, .unset, .unset] [(.int (1 : Int32)), (.ref b1), (.ref b1)])) rfl (hb hby at_13)
  refine Go.step st4 ?_
  show Go _ _ _ _ _ _ _ _ T4 (mkF m 16 #[.val (.int x0), .unset, .unset, .unset] [(.ref cAND), (.int (1 : Int32)), (.ref b1), (.ref b1)])
  obtain ⟨cl5, Ar5, q5, S5, N5, H5, G5⟩ := V3
  have hin5 : ¬ ((1 : Int32) < 0 ∨ cl5.slots.size ≤ ((1 : Int32)).toNatClampNeg) := inb_of S5 ⟨by decide, by decide⟩
  obtain ⟨T5, h5, X5, e5, W5, st5⟩ := stR X4 hx hZ e4 Ar5 (j := (1 : Int32)) hin5 rfl (Sto.ofV Ar5 q5 O1 (Ins.self (Exa.ext O3_ X_AND))) (g := (mkF m 16 #[.val (.int x0), .unset, .unset, .unset] [(.ref cAND), (.int (1 : Int32)), (.ref b1), (.ref b1)])) rfl rfl (hb hby at_16)
  refine Go.step st5 ?_
  have V5 : Arv Z h5 b1 k1 (.object "com/example/distinguo/distinguo/model/Expr$BinaryOp") (10 : Int32) [(.ref cOR), (.ref cAND), .null, .null, .null, .null, .null, .null, .null, .null] .null := Arv.set Ar5 q5 S5 N5 H5 G5 rfl W5 1 rfl (Nat.le_of_ble_eq_true rfl)
  have N5_ := Fr.snoc X5 N3_ g_b1
  have O5_ : Ext Z.heap h5 := extWr O3_ W5 g_b1
  show Go _ _ _ _ _ _ _ _ T5 (mkF m 17 #[.val (.int x0), .unset, .unset, .unset] [(.ref b1)])
  refine Go.step (fun _ kt_ => XS.dup X5.here hx rfl (hb hby at_17) rfl rfl kt_) ?_
  show Go _ _ _ _ _ _ _ _ T5 (mkF m 18 #[.val (.int x0), .unset, .unset, .unset] [(.ref b1), (.ref b1)])
  refine Go.step (fun _ kt_ => XS.iconst X5.here hx rfl (hb hby at_18)  kt_) ?_
  show Go _ _ _ _ _ _ _ _ T5 (mkF m 19 #[.val (.int x0), .unset, .unset, .unset] [(.int (2 : Int32)), (.ref b1), (.ref b1)])
  obtain ⟨T6, X6, e6, st6⟩ := getS2 X5 hx hZ hown (host := "") (Or.inl (hw _ (List.mem_of_getElem? (i := 8) rfl))) Via.refl e5 (Sta.ext O5_ S_EQ) (g := (mkF m 19 #[.val (.int x0), .unset, .unset, .unset] [(.int (2 : Int32)), (.ref b1), (.ref b1)])) rfl (hb hby at_19)
  refine Go.step st6 ?_
  show Go _ _ _ _ _ _ _ _ T6 (mkF m 22 #[.val (.int x0), .unset, .unset, .unset] [(.ref cEQ), (.int (2 : Int32)), (.ref b1), (.ref b1)])
  obtain ⟨cl7, Ar7, q7, S7, N7, H7, G7⟩ := V5
  have hin7 : ¬ ((2 : Int32) < 0 ∨ cl7.slots.size ≤ ((2 : Int32)).toNatClampNeg) := inb_of S7 ⟨by decide, by decide⟩
  obtain ⟨T7, h7, X7, e7, W7, st7⟩ := stR X6 hx hZ e6 Ar7 (j := (2 : Int32)) hin7 rfl (Sto.ofV Ar7 q7 O1 (Ins.self (Exa.ext O5_ X_EQ))) (g := (mkF m 22 #[.val (.int x0), .unset, .unset, .unset] [(.ref cEQ), (.int (2 : Int32)), (.ref b1), (.ref b1)])) rfl rfl (hb hby at_22)
  refine Go.step st7 ?_
  have V7 : Arv Z h7 b1 k1 (.object "com/example/distinguo/distinguo/model/Expr$BinaryOp") (10 : Int32) [(.ref cOR), (.ref cAND), (.ref cEQ), .null, .null, .null, .null, .null, .null, .null] .null := Arv.set Ar7 q7 S7 N7 H7 G7 rfl W7 2 rfl (Nat.le_of_ble_eq_true rfl)
  have N7_ := Fr.snoc X7 N5_ g_b1
  have O7_ : Ext Z.heap h7 := extWr O5_ W7 g_b1
  show Go _ _ _ _ _ _ _ _ T7 (mkF m 23 #[.val (.int x0), .unset, .unset, .unset] [(.ref b1)])
  refine Go.step (fun _ kt_ => XS.dup X7.here hx rfl (hb hby at_23) rfl rfl kt_) ?_
  show Go _ _ _ _ _ _ _ _ T7 (mkF m 24 #[.val (.int x0), .unset, .unset, .unset] [(.ref b1), (.ref b1)])
  refine Go.step (fun _ kt_ => XS.iconst X7.here hx rfl (hb hby at_24)  kt_) ?_
  show Go _ _ _ _ _ _ _ _ T7 (mkF m 25 #[.val (.int x0), .unset, .unset, .unset] [(.int (3 : Int32)), (.ref b1), (.ref b1)])
  obtain ⟨T8, X8, e8, st8⟩ := getS2 X7 hx hZ hown (host := "") (Or.inl (hw _ (List.mem_of_getElem? (i := 10) rfl))) Via.refl e7 (Sta.ext O7_ S_NE) (g := (mkF m 25 #[.val (.int x0), .unset, .unset, .unset] [(.int (3 : Int32)), (.ref b1), (.ref b1)])) rfl (hb hby at_25)
  refine Go.step st8 ?_
  show Go _ _ _ _ _ _ _ _ T8 (mkF m 28 #[.val (.int x0), .unset, .unset, .unset] [(.ref cNE), (.int (3 : Int32)), (.ref b1), (.ref b1)])
  obtain ⟨cl9, Ar9, q9, S9, N9, H9, G9⟩ := V7
  have hin9 : ¬ ((3 : Int32) < 0 ∨ cl9.slots.size ≤ ((3 : Int32)).toNatClampNeg) := inb_of S9 ⟨by decide, by decide⟩
  obtain ⟨T9, h9, X9, e9, W9, st9⟩ := stR X8 hx hZ e8 Ar9 (j := (3 : Int32)) hin9 rfl (Sto.ofV Ar9 q9 O1 (Ins.self (Exa.ext O7_ X_NE))) (g := (mkF m 28 #[.val (.int x0), .unset, .unset, .unset] [(.ref cNE), (.int (3 : Int32)), (.ref b1), (.ref b1)])) rfl rfl (hb hby at_28)
  refine Go.step st9 ?_
  have V9 : Arv Z h9 b1 k1 (.object "com/example/distinguo/distinguo/model/Expr$BinaryOp") (10 : Int32) [(.ref cOR), (.ref cAND), (.ref cEQ), (.ref cNE), .null, .null, .null, .null, .null, .null] .null := Arv.set Ar9 q9 S9 N9 H9 G9 rfl W9 3 rfl (Nat.le_of_ble_eq_true rfl)
  have N9_ := Fr.snoc X9 N7_ g_b1
  have O9_ : Ext Z.heap h9 := extWr O7_ W9 g_b1
  show Go _ _ _ _ _ _ _ _ T9 (mkF m 29 #[.val (.int x0), .unset, .unset, .unset] [(.ref b1)])
  refine Go.step (fun _ kt_ => XS.dup X9.here hx rfl (hb hby at_29) rfl rfl kt_) ?_
  show Go _ _ _ _ _ _ _ _ T9 (mkF m 30 #[.val (.int x0), .unset, .unset, .unset] [(.ref b1), (.ref b1)])
  refine Go.step (fun _ kt_ => XS.iconst X9.here hx rfl (hb hby at_30)  kt_) ?_
  show Go _ _ _ _ _ _ _ _ T9 (mkF m 31 #[.val (.int x0), .unset, .unset, .unset] [(.int (4 : Int32)), (.ref b1), (.ref b1)])
  obtain ⟨T10, X10, e10, st10⟩ := getS2 X9 hx hZ hown (host := "") (Or.inl (hw _ (List.mem_of_getElem? (i := 12) rfl))) Via.refl e9 (Sta.ext O9_ S_LT) (g := (mkF m 31 #[.val (.int x0), .unset, .unset, .unset] [(.int (4 : Int32)), (.ref b1), (.ref b1)])) rfl (hb hby at_31)
  refine Go.step st10 ?_
  show Go _ _ _ _ _ _ _ _ T10 (mkF m 34 #[.val (.int x0), .unset, .unset, .unset] [(.ref cLT), (.int (4 : Int32)), (.ref b1), (.ref b1)])
  obtain ⟨cl11, Ar11, q11, S11, N11, H11, G11⟩ := V9
  have hin11 : ¬ ((4 : Int32) < 0 ∨ cl11.slots.size ≤ ((4 : Int32)).toNatClampNeg) := inb_of S11 ⟨by decide, by decide⟩
  obtain ⟨T11, h11, X11, e11, W11, st11⟩ := stR X10 hx hZ e10 Ar11 (j := (4 : Int32)) hin11 rfl (Sto.ofV Ar11 q11 O1 (Ins.self (Exa.ext O9_ X_LT))) (g := (mkF m 34 #[.val (.int x0), .unset, .unset, .unset] [(.ref cLT), (.int (4 : Int32)), (.ref b1), (.ref b1)])) rfl rfl (hb hby at_34)
  refine Go.step st11 ?_
  have V11 : Arv Z h11 b1 k1 (.object "com/example/distinguo/distinguo/model/Expr$BinaryOp") (10 : Int32) [(.ref cOR), (.ref cAND), (.ref cEQ), (.ref cNE), (.ref cLT), .null, .null, .null, .null, .null] .null := Arv.set Ar11 q11 S11 N11 H11 G11 rfl W11 4 rfl (Nat.le_of_ble_eq_true rfl)
  have N11_ := Fr.snoc X11 N9_ g_b1
  have O11_ : Ext Z.heap h11 := extWr O9_ W11 g_b1
  show Go _ _ _ _ _ _ _ _ T11 (mkF m 35 #[.val (.int x0), .unset, .unset, .unset] [(.ref b1)])
  refine Go.step (fun _ kt_ => XS.dup X11.here hx rfl (hb hby at_35) rfl rfl kt_) ?_
  show Go _ _ _ _ _ _ _ _ T11 (mkF m 36 #[.val (.int x0), .unset, .unset, .unset] [(.ref b1), (.ref b1)])
  refine Go.step (fun _ kt_ => XS.iconst X11.here hx rfl (hb hby at_36)  kt_) ?_
  show Go _ _ _ _ _ _ _ _ T11 (mkF m 37 #[.val (.int x0), .unset, .unset, .unset] [(.int (5 : Int32)), (.ref b1), (.ref b1)])
  obtain ⟨T12, X12, e12, st12⟩ := getS2 X11 hx hZ hown (host := "") (Or.inl (hw _ (List.mem_of_getElem? (i := 14) rfl))) Via.refl e11 (Sta.ext O11_ S_LE) (g := (mkF m 37 #[.val (.int x0), .unset, .unset, .unset] [(.int (5 : Int32)), (.ref b1), (.ref b1)])) rfl (hb hby at_37)
  refine Go.step st12 ?_
  show Go _ _ _ _ _ _ _ _ T12 (mkF m 40 #[.val (.int x0), .unset, .unset, .unset] [(.ref cLE), (.int (5 : Int32)), (.ref b1), (.ref b1)])
  obtain ⟨cl13, Ar13, q13, S13, N13, H13, G13⟩ := V11
  have hin13 : ¬ ((5 : Int32) < 0 ∨ cl13.slots.size ≤ ((5 : Int32)).toNatClampNeg) := inb_of S13 ⟨by decide, by decide⟩
  obtain ⟨T13, h13, X13, e13, W13, st13⟩ := stR X12 hx hZ e12 Ar13 (j := (5 : Int32)) hin13 rfl (Sto.ofV Ar13 q13 O1 (Ins.self (Exa.ext O11_ X_LE))) (g := (mkF m 40 #[.val (.int x0), .unset, .unset, .unset] [(.ref cLE), (.int (5 : Int32)), (.ref b1), (.ref b1)])) rfl rfl (hb hby at_40)
  refine Go.step st13 ?_
  have V13 : Arv Z h13 b1 k1 (.object "com/example/distinguo/distinguo/model/Expr$BinaryOp") (10 : Int32) [(.ref cOR), (.ref cAND), (.ref cEQ), (.ref cNE), (.ref cLT), (.ref cLE), .null, .null, .null, .null] .null := Arv.set Ar13 q13 S13 N13 H13 G13 rfl W13 5 rfl (Nat.le_of_ble_eq_true rfl)
  have N13_ := Fr.snoc X13 N11_ g_b1
  have O13_ : Ext Z.heap h13 := extWr O11_ W13 g_b1
  show Go _ _ _ _ _ _ _ _ T13 (mkF m 41 #[.val (.int x0), .unset, .unset, .unset] [(.ref b1)])
  refine Go.step (fun _ kt_ => XS.dup X13.here hx rfl (hb hby at_41) rfl rfl kt_) ?_
  show Go _ _ _ _ _ _ _ _ T13 (mkF m 42 #[.val (.int x0), .unset, .unset, .unset] [(.ref b1), (.ref b1)])
  refine Go.step (fun _ kt_ => XS.bipush X13.here hx rfl (hb hby at_42)  kt_) ?_
  show Go _ _ _ _ _ _ _ _ T13 (mkF m 44 #[.val (.int x0), .unset, .unset, .unset] [(.int (6 : Int32)), (.ref b1), (.ref b1)])
  obtain ⟨T14, X14, e14, st14⟩ := getS2 X13 hx hZ hown (host := "") (Or.inl (hw _ (List.mem_of_getElem? (i := 16) rfl))) Via.refl e13 (Sta.ext O13_ S_GT) (g := (mkF m 44 #[.val (.int x0), .unset, .unset, .unset] [(.int (6 : Int32)), (.ref b1), (.ref b1)])) rfl (hb hby at_44)
  refine Go.step st14 ?_
  show Go _ _ _ _ _ _ _ _ T14 (mkF m 47 #[.val (.int x0), .unset, .unset, .unset] [(.ref cGT), (.int (6 : Int32)), (.ref b1), (.ref b1)])
  obtain ⟨cl15, Ar15, q15, S15, N15, H15, G15⟩ := V13
  have hin15 : ¬ ((6 : Int32) < 0 ∨ cl15.slots.size ≤ ((6 : Int32)).toNatClampNeg) := inb_of S15 ⟨by decide, by decide⟩
  obtain ⟨T15, h15, X15, e15, W15, st15⟩ := stR X14 hx hZ e14 Ar15 (j := (6 : Int32)) hin15 rfl (Sto.ofV Ar15 q15 O1 (Ins.self (Exa.ext O13_ X_GT))) (g := (mkF m 47 #[.val (.int x0), .unset, .unset, .unset] [(.ref cGT), (.int (6 : Int32)), (.ref b1), (.ref b1)])) rfl rfl (hb hby at_47)
  refine Go.step st15 ?_
  have V15 : Arv Z h15 b1 k1 (.object "com/example/distinguo/distinguo/model/Expr$BinaryOp") (10 : Int32) [(.ref cOR), (.ref cAND), (.ref cEQ), (.ref cNE), (.ref cLT), (.ref cLE), (.ref cGT), .null, .null, .null] .null := Arv.set Ar15 q15 S15 N15 H15 G15 rfl W15 6 rfl (Nat.le_of_ble_eq_true rfl)
  have N15_ := Fr.snoc X15 N13_ g_b1
  have O15_ : Ext Z.heap h15 := extWr O13_ W15 g_b1
  show Go _ _ _ _ _ _ _ _ T15 (mkF m 48 #[.val (.int x0), .unset, .unset, .unset] [(.ref b1)])
  refine Go.step (fun _ kt_ => XS.dup X15.here hx rfl (hb hby at_48) rfl rfl kt_) ?_
  show Go _ _ _ _ _ _ _ _ T15 (mkF m 49 #[.val (.int x0), .unset, .unset, .unset] [(.ref b1), (.ref b1)])
  refine Go.step (fun _ kt_ => XS.bipush X15.here hx rfl (hb hby at_49)  kt_) ?_
  show Go _ _ _ _ _ _ _ _ T15 (mkF m 51 #[.val (.int x0), .unset, .unset, .unset] [(.int (7 : Int32)), (.ref b1), (.ref b1)])
  obtain ⟨T16, X16, e16, st16⟩ := getS2 X15 hx hZ hown (host := "") (Or.inl (hw _ (List.mem_of_getElem? (i := 18) rfl))) Via.refl e15 (Sta.ext O15_ S_GE) (g := (mkF m 51 #[.val (.int x0), .unset, .unset, .unset] [(.int (7 : Int32)), (.ref b1), (.ref b1)])) rfl (hb hby at_51)
  refine Go.step st16 ?_
  show Go _ _ _ _ _ _ _ _ T16 (mkF m 54 #[.val (.int x0), .unset, .unset, .unset] [(.ref cGE), (.int (7 : Int32)), (.ref b1), (.ref b1)])
  obtain ⟨cl17, Ar17, q17, S17, N17, H17, G17⟩ := V15
  have hin17 : ¬ ((7 : Int32) < 0 ∨ cl17.slots.size ≤ ((7 : Int32)).toNatClampNeg) := inb_of S17 ⟨by decide, by decide⟩
  obtain ⟨T17, h17, X17, e17, W17, st17⟩ := stR X16 hx hZ e16 Ar17 (j := (7 : Int32)) hin17 rfl (Sto.ofV Ar17 q17 O1 (Ins.self (Exa.ext O15_ X_GE))) (g := (mkF m 54 #[.val (.int x0), .unset, .unset, .unset] [(.ref cGE), (.int (7 : Int32)), (.ref b1), (.ref b1)])) rfl rfl (hb hby at_54)
  refine Go.step st17 ?_
  have V17 : Arv Z h17 b1 k1 (.object "com/example/distinguo/distinguo/model/Expr$BinaryOp") (10 : Int32) [(.ref cOR), (.ref cAND), (.ref cEQ), (.ref cNE), (.ref cLT), (.ref cLE), (.ref cGT), (.ref cGE), .null, .null] .null := Arv.set Ar17 q17 S17 N17 H17 G17 rfl W17 7 rfl (Nat.le_of_ble_eq_true rfl)
  have N17_ := Fr.snoc X17 N15_ g_b1
  have O17_ : Ext Z.heap h17 := extWr O15_ W17 g_b1
  show Go _ _ _ _ _ _ _ _ T17 (mkF m 55 #[.val (.int x0), .unset, .unset, .unset] [(.ref b1)])
  refine Go.step (fun _ kt_ => XS.dup X17.here hx rfl (hb hby at_55) rfl rfl kt_) ?_
  show Go _ _ _ _ _ _ _ _ T17 (mkF m 56 #[.val (.int x0), .unset, .unset, .unset] [(.ref b1), (.ref b1)])
  refine Go.step (fun _ kt_ => XS.bipush X17.here hx rfl (hb hby at_56)  kt_) ?_
  show Go _ _ _ _ _ _ _ _ T17 (mkF m 58 #[.val (.int x0), .unset, .unset, .unset] [(.int (8 : Int32)), (.ref b1), (.ref b1)])
  obtain ⟨T18, X18, e18, st18⟩ := getS2 X17 hx hZ hown (host := "") (Or.inl (hw _ (List.mem_of_getElem? (i := 20) rfl))) Via.refl e17 (Sta.ext O17_ S_ADD) (g := (mkF m 58 #[.val (.int x0), .unset, .unset, .unset] [(.int (8 : Int32)), (.ref b1), (.ref b1)])) rfl (hb hby at_58)
  refine Go.step st18 ?_
  show Go _ _ _ _ _ _ _ _ T18 (mkF m 61 #[.val (.int x0), .unset, .unset, .unset] [(.ref cADD), (.int (8 : Int32)), (.ref b1), (.ref b1)])
  obtain ⟨cl19, Ar19, q19, S19, N19, H19, G19⟩ := V17
  have hin19 : ¬ ((8 : Int32) < 0 ∨ cl19.slots.size ≤ ((8 : Int32)).toNatClampNeg) := inb_of S19 ⟨by decide, by decide⟩
  obtain ⟨T19, h19, X19, e19, W19, st19⟩ := stR X18 hx hZ e18 Ar19 (j := (8 : Int32)) hin19 rfl (Sto.ofV Ar19 q19 O1 (Ins.self (Exa.ext O17_ X_ADD))) (g := (mkF m 61 #[.val (.int x0), .unset, .unset, .unset] [(.ref cADD), (.int (8 : Int32)), (.ref b1), (.ref b1)])) rfl rfl (hb hby at_61)
  refine Go.step st19 ?_
  have V19 : Arv Z h19 b1 k1 (.object "com/example/distinguo/distinguo/model/Expr$BinaryOp") (10 : Int32) [(.ref cOR), (.ref cAND), (.ref cEQ), (.ref cNE), (.ref cLT), (.ref cLE), (.ref cGT), (.ref cGE), (.ref cADD), .null] .null := Arv.set Ar19 q19 S19 N19 H19 G19 rfl W19 8 rfl (Nat.le_of_ble_eq_true rfl)
  have N19_ := Fr.snoc X19 N17_ g_b1
  have O19_ : Ext Z.heap h19 := extWr O17_ W19 g_b1
  show Go _ _ _ _ _ _ _ _ T19 (mkF m 62 #[.val (.int x0), .unset, .unset, .unset] [(.ref b1)])
  refine Go.step (fun _ kt_ => XS.dup X19.here hx rfl (hb hby at_62) rfl rfl kt_) ?_
  show Go _ _ _ _ _ _ _ _ T19 (mkF m 63 #[.val (.int x0), .unset, .unset, .unset] [(.ref b1), (.ref b1)])
  refine Go.step (fun _ kt_ => XS.bipush X19.here hx rfl (hb hby at_63)  kt_) ?_
  show Go _ _ _ _ _ _ _ _ T19 (mkF m 65 #[.val (.int x0), .unset, .unset, .unset] [(.int (9 : Int32)), (.ref b1), (.ref b1)])
  obtain ⟨T20, X20, e20, st20⟩ := getS2 X19 hx hZ hown (host := "") (Or.inl (hw _ (List.mem_of_getElem? (i := 22) rfl))) Via.refl e19 (Sta.ext O19_ S_SUB) (g := (mkF m 65 #[.val (.int x0), .unset, .unset, .unset] [(.int (9 : Int32)), (.ref b1), (.ref b1)])) rfl (hb hby at_65)
  refine Go.step st20 ?_
  show Go _ _ _ _ _ _ _ _ T20 (mkF m 68 #[.val (.int x0), .unset, .unset, .unset] [(.ref cSUB), (.int (9 : Int32)), (.ref b1), (.ref b1)])
  obtain ⟨cl21, Ar21, q21, S21, N21, H21, G21⟩ := V19
  have hin21 : ¬ ((9 : Int32) < 0 ∨ cl21.slots.size ≤ ((9 : Int32)).toNatClampNeg) := inb_of S21 ⟨by decide, by decide⟩
  obtain ⟨T21, h21, X21, e21, W21, st21⟩ := stR X20 hx hZ e20 Ar21 (j := (9 : Int32)) hin21 rfl (Sto.ofV Ar21 q21 O1 (Ins.self (Exa.ext O19_ X_SUB))) (g := (mkF m 68 #[.val (.int x0), .unset, .unset, .unset] [(.ref cSUB), (.int (9 : Int32)), (.ref b1), (.ref b1)])) rfl rfl (hb hby at_68)
  refine Go.step st21 ?_
  have V21 : Arv Z h21 b1 k1 (.object "com/example/distinguo/distinguo/model/Expr$BinaryOp") (10 : Int32) [(.ref cOR), (.ref cAND), (.ref cEQ), (.ref cNE), (.ref cLT), (.ref cLE), (.ref cGT), (.ref cGE), (.ref cADD), (.ref cSUB)] .null := Arv.set Ar21 q21 S21 N21 H21 G21 rfl W21 9 rfl (Nat.le_of_ble_eq_true rfl)
  have N21_ := Fr.snoc X21 N19_ g_b1
  have O21_ : Ext Z.heap h21 := extWr O19_ W21 g_b1
  show Go _ _ _ _ _ _ _ _ T21 (mkF m 69 #[.val (.int x0), .unset, .unset, .unset] [(.ref b1)])
  refine Go.step (fun _ kt_ => XS.astoreN X21.here hx rfl (hb hby at_69) rfl rfl (l' := #[.val (.int x0), .val (.ref b1), .unset, .unset]) rfl kt_) ?_
  show Go _ _ _ _ _ _ _ _ T21 (mkF m 70 #[.val (.int x0), .val (.ref b1), .unset, .unset] [])
  refine Go.step (fun _ kt_ => XS.bipush X21.here hx rfl (hb hby at_70)  kt_) ?_
  show Go _ _ _ _ _ _ _ _ T21 (mkF m 72 #[.val (.int x0), .val (.ref b1), .unset, .unset] [(.int (10 : Int32))])
  obtain ⟨T22, h22, k22, X22, e22, E22, A22, st22⟩ := newP X21 hx hZ (hw _ (List.mem_of_getElem? (i := 24) rfl)) e21 (g := (mkF m 72 #[.val (.int x0), .val (.ref b1), .unset, .unset] [(.int (10 : Int32))])) rfl (hb hby at_72) rfl (by decide) (cap := 10) (by decide) (by decide) (by decide) (by decide)
  obtain ⟨b22, hb22⟩ : ∃ z, z = h21.size := ⟨_, rfl⟩
  rw [← hb22] at A22 st22
  refine Go.step st22 ?_
  have g_b22 : Z.heap.size ≤ b22 := Nat.le_trans O21_.1 (Nat.le_of_eq hb22.symm)
  have O22_ : Ext Z.heap h22 := extTr O21_ E22
  have V22 : Arv Z h22 b22 k22 .boolean (10 : Int32) [(.int (0 : Int32)), (.int (0 : Int32)), (.int (0 : Int32)), (.int (0 : Int32)), (.int (0 : Int32)), (.int (0 : Int32)), (.int (0 : Int32)), (.int (0 : Int32)), (.int (0 : Int32)), (.int (0 : Int32))] (.int (0 : Int32)) := (Arv.new A22 (by decide)).pad (pad_rep [] (.int (0 : Int32)) 10)
  show Go _ _ _ _ _ _ _ _ T22 (mkF m 74 #[.val (.int x0), .val (.ref b1), .unset, .unset] [(.ref b22)])
  refine Go.step (fun _ kt_ => XS.dup X22.here hx rfl (hb hby at_74) rfl rfl kt_) ?_
  show Go _ _ _ _ _ _ _ _ T22 (mkF m 75 #[.val (.int x0), .val (.ref b1), .unset, .unset] [(.ref b22), (.ref b22)])
  refine Go.step (fun _ kt_ => XS.iconst X22.here hx rfl (hb hby at_75)  kt_) ?_
  show Go _ _ _ _ _ _ _ _ T22 (mkF m 76 #[.val (.int x0), .val (.ref b1), .unset, .unset] [(.int (0 : Int32)), (.ref b22), (.ref b22)])
  refine Go.step (fun _ kt_ => XS.iconst X22.here hx rfl (hb hby at_76)  kt_) ?_
  show Go _ _ _ _ _ _ _ _ T22 (mkF m 77 #[.val (.int x0), .val (.ref b1), .unset, .unset] [(.int (0 : Int32)), (.int (0 : Int32)), (.ref b22), (.ref b22)])
  obtain ⟨cl23, Ar23, q23, S23, N23, H23, G23⟩ := V22
  have hin23 : ¬ ((0 : Int32) < 0 ∨ cl23.slots.size ≤ ((0 : Int32)).toNatClampNeg) := inb_of S23 ⟨by decide, by decide⟩
  obtain ⟨T23, h23, X23, e23, W23, st23⟩ := stZ X22 hx hZ e22 Ar23 (j := (0 : Int32)) hin23 (g := (mkF m 77 #[.val (.int x0), .val (.ref b1), .unset, .unset] [(.int (0 : Int32)), (.int (0 : Int32)), (.ref b22), (.ref b22)])) rfl rfl (hb hby at_77)
  refine Go.step st23 ?_
  have V23 : Arv Z h23 b22 k22 .boolean (10 : Int32) [(.int (0 : Int32)), (.int (0 : Int32)), (.int (0 : Int32)), (.int (0 : Int32)), (.int (0 : Int32)), (.int (0 : Int32)), (.int (0 : Int32)), (.int (0 : Int32)), (.int (0 : Int32)), (.int (0 : Int32))] (.int (0 : Int32)) := Arv.set Ar23 q23 S23 N23 H23 G23 (fits_nar_bool _) W23 0 rfl (Nat.le_of_ble_eq_true rfl)
  have N23_ := Fr.snoc X23 N21_ g_b22
  have O23_ : Ext Z.heap h23 := extWr O22_ W23 g_b22
  show Go _ _ _ _ _ _ _ _ T23 (mkF m 78 #[.val (.int x0), .val (.ref b1), .unset, .unset] [(.ref b22)])
  refine Go.step (fun _ kt_ => XS.dup X23.here hx rfl (hb hby at_78) rfl rfl kt_) ?_
  show Go _ _ _ _ _ _ _ _ T23 (mkF m 79 #[.val (.int x0), .val (.ref b1), .unset, .unset] [(.ref b22), (.ref b22)])
  refine Go.step (fun _ kt_ => XS.iconst X23.here hx rfl (hb hby at_79)  kt_) ?_
  show Go _ _ _ _ _ _ _ _ T23 (mkF m 80 #[.val (.int x0), .val (.ref b1), .unset, .unset] [(.int (1 : Int32)), (.ref b22), (.ref b22)])
  refine Go.step (fun _ kt_ => XS.iconst X23.here hx rfl (hb hby at_80)  kt_) ?_
  show Go _ _ _ _ _ _ _ _ T23 (mkF m 81 #[.val (.int x0), .val (.ref b1), .unset, .unset] [(.int (0 : Int32)), (.int (1 : Int32)), (.ref b22), (.ref b22)])
  obtain ⟨cl24, Ar24, q24, S24, N24, H24, G24⟩ := V23
  have hin24 : ¬ ((1 : Int32) < 0 ∨ cl24.slots.size ≤ ((1 : Int32)).toNatClampNeg) := inb_of S24 ⟨by decide, by decide⟩
  obtain ⟨T24, h24, X24, e24, W24, st24⟩ := stZ X23 hx hZ e23 Ar24 (j := (1 : Int32)) hin24 (g := (mkF m 81 #[.val (.int x0), .val (.ref b1), .unset, .unset] [(.int (0 : Int32)), (.int (1 : Int32)), (.ref b22), (.ref b22)])) rfl rfl (hb hby at_81)
  refine Go.step st24 ?_
  have V24 : Arv Z h24 b22 k22 .boolean (10 : Int32) [(.int (0 : Int32)), (.int (0 : Int32)), (.int (0 : Int32)), (.int (0 : Int32)), (.int (0 : Int32)), (.int (0 : Int32)), (.int (0 : Int32)), (.int (0 : Int32)), (.int (0 : Int32)), (.int (0 : Int32))] (.int (0 : Int32)) := Arv.set Ar24 q24 S24 N24 H24 G24 (fits_nar_bool _) W24 1 rfl (Nat.le_of_ble_eq_true rfl)
  have N24_ := Fr.snoc X24 N23_ g_b22
  have O24_ : Ext Z.heap h24 := extWr O23_ W24 g_b22
  show Go _ _ _ _ _ _ _ _ T24 (mkF m 82 #[.val (.int x0), .val (.ref b1), .unset, .unset] [(.ref b22)])
  refine Go.step (fun _ kt_ => XS.dup X24.here hx rfl (hb hby at_82) rfl rfl kt_) ?_
  show Go _ _ _ _ _ _ _ _ T24 (mkF m 83 #[.val (.int x0), .val (.ref b1), .unset, .unset] [(.ref b22), (.ref b22)])
  refine Go.step (fun _ kt_ => XS.iconst X24.here hx rfl (hb hby at_83)  kt_) ?_
  show Go _ _ _ _ _ _ _ _ T24 (mkF m 84 #[.val (.int x0), .val (.ref b1), .unset, .unset] [(.int (2 : Int32)), (.ref b22), (.ref b22)])
  refine Go.step (fun _ kt_ => XS.iconst X24.here hx rfl (hb hby at_84)  kt_) ?_
  show Go _ _ _ _ _ _ _ _ T24 (mkF m 85 #[.val (.int x0), .val (.ref b1), .unset, .unset] [(.int (1 : Int32)), (.int (2 : Int32)), (.ref b22), (.ref b22)])
  obtain ⟨cl25, Ar25, q25, S25, N25, H25, G25⟩ := V24
  have hin25 : ¬ ((2 : Int32) < 0 ∨ cl25.slots.size ≤ ((2 : Int32)).toNatClampNeg) := inb_of S25 ⟨by decide, by decide⟩
  obtain ⟨T25, h25, X25, e25, W25, st25⟩ := stZ X24 hx hZ e24 Ar25 (j := (2 : Int32)) hin25 (g := (mkF m 85 #[.val (.int x0), .val (.ref b1), .unset, .unset] [(.int (1 : Int32)), (.int (2 : Int32)), (.ref b22), (.ref b22)])) rfl rfl (hb hby at_85)
  refine Go.step st25 ?_
  have V25 : Arv Z h25 b22 k22 .boolean (10 : Int32) [(.int (0 : Int32)), (.int (0 : Int32)), (.int (1 : Int32)), (.int (0 : Int32)), (.int (0 : Int32)), (.int (0 : Int32)), (.int (0 : Int32)), (.int (0 : Int32)), (.int (0 : Int32)), (.int (0 : Int32))] (.int (0 : Int32)) := Arv.set Ar25 q25 S25 N25 H25 G25 (fits_nar_bool _) W25 2 rfl (Nat.le_of_ble_eq_true rfl)
  have N25_ := Fr.snoc X25 N24_ g_b22
  have O25_ : Ext Z.heap h25 := extWr O24_ W25 g_b22
  show Go _ _ _ _ _ _ _ _ T25 (mkF m 86 #[.val (.int x0), .val (.ref b1), .unset, .unset] [(.ref b22)])
  refine Go.step (fun _ kt_ => XS.dup X25.here hx rfl (hb hby at_86) rfl rfl kt_) ?_
  show Go _ _ _ _ _ _ _ _ T25 (mkF m 87 #[.val (.int x0), .val (.ref b1), .unset, .unset] [(.ref b22), (.ref b22)])
  refine Go.step (fun _ kt_ => XS.iconst X25.here hx rfl (hb hby at_87)  kt_) ?_
  show Go _ _ _ _ _ _ _ _ T25 (mkF m 88 #[.val (.int x0), .val (.ref b1), .unset, .unset] [(.int (3 : Int32)), (.ref b22), (.ref b22)])
  refine Go.step (fun _ kt_ => XS.iconst X25.here hx rfl (hb hby at_88)  kt_) ?_
  show Go _ _ _ _ _ _ _ _ T25 (mkF m 89 #[.val (.int x0), .val (.ref b1), .unset, .unset] [(.int (1 : Int32)), (.int (3 : Int32)), (.ref b22), (.ref b22)])
  obtain ⟨cl26, Ar26, q26, S26, N26, H26, G26⟩ := V25
  have hin26 : ¬ ((3 : Int32) < 0 ∨ cl26.slots.size ≤ ((3 : Int32)).toNatClampNeg) := inb_of S26 ⟨by decide, by decide⟩
  obtain ⟨T26, h26, X26, e26, W26, st26⟩ := stZ X25 hx hZ e25 Ar26 (j := (3 : Int32)) hin26 (g := (mkF m 89 #[.val (.int x0), .val (.ref b1), .unset, .unset] [(.int (1 : Int32)), (.int (3 : Int32)), (.ref b22), (.ref b22)])) rfl rfl (hb hby at_89)
  refine Go.step st26 ?_
  have V26 : Arv Z h26 b22 k22 .boolean (10 : Int32) [(.int (0 : Int32)), (.int (0 : Int32)), (.int (1 : Int32)), (.int (1 : Int32)), (.int (0 : Int32)), (.int (0 : Int32)), (.int (0 : Int32)), (.int (0 : Int32)), (.int (0 : Int32)), (.int (0 : Int32))] (.int (0 : Int32)) := Arv.set Ar26 q26 S26 N26 H26 G26 (fits_nar_bool _) W26 3 rfl (Nat.le_of_ble_eq_true rfl)
  have N26_ := Fr.snoc X26 N25_ g_b22
  have O26_ : Ext Z.heap h26 := extWr O25_ W26 g_b22
  show Go _ _ _ _ _ _ _ _ T26 (mkF m 90 #[.val (.int x0), .val (.ref b1), .unset, .unset] [(.ref b22)])
  refine Go.step (fun _ kt_ => XS.dup X26.here hx rfl (hb hby at_90) rfl rfl kt_) ?_
  show Go _ _ _ _ _ _ _ _ T26 (mkF m 91 #[.val (.int x0), .val (.ref b1), .unset, .unset] [(.ref b22), (.ref b22)])
  refine Go.step (fun _ kt_ => XS.iconst X26.here hx rfl (hb hby at_91)  kt_) ?_
  show Go _ _ _ _ _ _ _ _ T26 (mkF m 92 #[.val (.int x0), .val (.ref b1), .unset, .unset] [(.int (4 : Int32)), (.ref b22), (.ref b22)])
  refine Go.step (fun _ kt_ => XS.iconst X26.here hx rfl (hb hby at_92)  kt_) ?_
  show Go _ _ _ _ _ _ _ _ T26 (mkF m 93 #[.val (.int x0), .val (.ref b1), .unset, .unset] [(.int (1 : Int32)), (.int (4 : Int32)), (.ref b22), (.ref b22)])
  obtain ⟨cl27, Ar27, q27, S27, N27, H27, G27⟩ := V26
  have hin27 : ¬ ((4 : Int32) < 0 ∨ cl27.slots.size ≤ ((4 : Int32)).toNatClampNeg) := inb_of S27 ⟨by decide, by decide⟩
  obtain ⟨T27, h27, X27, e27, W27, st27⟩ := stZ X26 hx hZ e26 Ar27 (j := (4 : Int32)) hin27 (g := (mkF m 93 #[.val (.int x0), .val (.ref b1), .unset, .unset] [(.int (1 : Int32)), (.int (4 : Int32)), (.ref b22), (.ref b22)])) rfl rfl (hb hby at_93)
  refine Go.step st27 ?_
  have V27 : Arv Z h27 b22 k22 .boolean (10 : Int32) [(.int (0 : Int32)), (.int (0 : Int32)), (.int (1 : Int32)), (.int (1 : Int32)), (.int (1 : Int32)), (.int (0 : Int32)), (.int (0 : Int32)), (.int (0 : Int32)), (.int (0 : Int32)), (.int (0 : Int32))] (.int (0 : Int32)) := Arv.set Ar27 q27 S27 N27 H27 G27 (fits_nar_bool _) W27 4 rfl (Nat.le_of_ble_eq_true rfl)
  have N27_ := Fr.snoc X27 N26_ g_b22
  have O27_ : Ext Z.heap h27 := extWr O26_ W27 g_b22
  show Go _ _ _ _ _ _ _ _ T27 (mkF m 94 #[.val (.int x0), .val (.ref b1), .unset, .unset] [(.ref b22)])
  refine Go.step (fun _ kt_ => XS.dup X27.here hx rfl (hb hby at_94) rfl rfl kt_) ?_
  show Go _ _ _ _ _ _ _ _ T27 (mkF m 95 #[.val (.int x0), .val (.ref b1), .unset, .unset] [(.ref b22), (.ref b22)])
  refine Go.step (fun _ kt_ => XS.iconst X27.here hx rfl (hb hby at_95)  kt_) ?_
  show Go _ _ _ _ _ _ _ _ T27 (mkF m 96 #[.val (.int x0), .val (.ref b1), .unset, .unset] [(.int (5 : Int32)), (.ref b22), (.ref b22)])
  refine Go.step (fun _ kt_ => XS.iconst X27.here hx rfl (hb hby at_96)  kt_) ?_
  show Go _ _ _ _ _ _ _ _ T27 (mkF m 97 #[.val (.int x0), .val (.ref b1), .unset, .unset] [(.int (1 : Int32)), (.int (5 : Int32)), (.ref b22), (.ref b22)])
  obtain ⟨cl28, Ar28, q28, S28, N28, H28, G28⟩ := V27
  have hin28 : ¬ ((5 : Int32) < 0 ∨ cl28.slots.size ≤ ((5 : Int32)).toNatClampNeg) := inb_of S28 ⟨by decide, by decide⟩
  obtain ⟨T28, h28, X28, e28, W28, st28⟩ := stZ X27 hx hZ e27 Ar28 (j := (5 : Int32)) hin28 (g := (mkF m 97 #[.val (.int x0), .val (.ref b1), .unset, .unset] [(.int (1 : Int32)), (.int (5 : Int32)), (.ref b22), (.ref b22)])) rfl rfl (hb hby at_97)
  refine Go.step st28 ?_
  have V28 : Arv Z h28 b22 k22 .boolean (10 : Int32) [(.int (0 : Int32)), (.int (0 : Int32)), (.int (1 : Int32)), (.int (1 : Int32)), (.int (1 : Int32)), (.int (1 : Int32)), (.int (0 : Int32)), (.int (0 : Int32)), (.int (0 : Int32)), (.int (0 : Int32))] (.int (0 : Int32)) := Arv.set Ar28 q28 S28 N28 H28 G28 (fits_nar_bool _) W28 5 rfl (Nat.le_of_ble_eq_true rfl)
  have N28_ := Fr.snoc X28 N27_ g_b22
  have O28_ : Ext Z.heap h28 := extWr O27_ W28 g_b22
  show Go _ _ _ _ _ _ _ _ T28 (mkF m 98 #[.val (.int x0), .val (.ref b1), .unset, .unset] [(.ref b22)])
  refine Go.step (fun _ kt_ => XS.dup X28.here hx rfl (hb hby at_98) rfl rfl kt_) ?_
  show Go _ _ _ _ _ _ _ _ T28 (mkF m 99 #[.val (.int x0), .val (.ref b1), .unset, .unset] [(.ref b22), (.ref b22)])
  refine Go.step (fun _ kt_ => XS.bipush X28.here hx rfl (hb hby at_99)  kt_) ?_
  show Go _ _ _ _ _ _ _ _ T28 (mkF m 101 #[.val (.int x0), .val (.ref b1), .unset, .unset] [(.int (6 : Int32)), (.ref b22), (.ref b22)])
  refine Go.step (fun _ kt_ => XS.iconst X28.here hx rfl (hb hby at_101)  kt_) ?_
  show Go _ _ _ _ _ _ _ _ T28 (mkF m 102 #[.val (.int x0), .val (.ref b1), .unset, .unset] [(.int (1 : Int32)), (.int (6 : Int32)), (.ref b22), (.ref b22)])
  obtain ⟨cl29, Ar29, q29, S29, N29, H29, G29⟩ := V28
  have hin29 : ¬ ((6 : Int32) < 0 ∨ cl29.slots.size ≤ ((6 : Int32)).toNatClampNeg) := inb_of S29 ⟨by decide, by decide⟩
  obtain ⟨T29, h29, X29, e29, W29, st29⟩ := stZ X28 hx hZ e28 Ar29 (j := (6 : Int32)) hin29 (g := (mkF m 102 #[.val (.int x0), .val (.ref b1), .unset, .unset] [(.int (1 : Int32)), (.int (6 : Int32)), (.ref b22), (.ref b22)])) rfl rfl (hb hby at_102)
  refine Go.step st29 ?_
  have V29 : Arv Z h29 b22 k22 .boolean (10 : Int32) [(.int (0 : Int32)), (.int (0 : Int32)), (.int (1 : Int32)), (.int (1 : Int32)), (.int (1 : Int32)), (.int (1 : Int32)), (.int (1 : Int32)), (.int (0 : Int32)), (.int (0 : Int32)), (.int (0 : Int32))] (.int (0 : Int32)) := Arv.set Ar29 q29 S29 N29 H29 G29 (fits_nar_bool _) W29 6 rfl (Nat.le_of_ble_eq_true rfl)
  have N29_ := Fr.snoc X29 N28_ g_b22
  have O29_ : Ext Z.heap h29 := extWr O28_ W29 g_b22
  show Go _ _ _ _ _ _ _ _ T29 (mkF m 103 #[.val (.int x0), .val (.ref b1), .unset, .unset] [(.ref b22)])
  refine Go.step (fun _ kt_ => XS.dup X29.here hx rfl (hb hby at_103) rfl rfl kt_) ?_
  show Go _ _ _ _ _ _ _ _ T29 (mkF m 104 #[.val (.int x0), .val (.ref b1), .unset, .unset] [(.ref b22), (.ref b22)])
  refine Go.step (fun _ kt_ => XS.bipush X29.here hx rfl (hb hby at_104)  kt_) ?_
  show Go _ _ _ _ _ _ _ _ T29 (mkF m 106 #[.val (.int x0), .val (.ref b1), .unset, .unset] [(.int (7 : Int32)), (.ref b22), (.ref b22)])
  refine Go.step (fun _ kt_ => XS.iconst X29.here hx rfl (hb hby at_106)  kt_) ?_
  show Go _ _ _ _ _ _ _ _ T29 (mkF m 107 #[.val (.int x0), .val (.ref b1), .unset, .unset] [(.int (1 : Int32)), (.int (7 : Int32)), (.ref b22), (.ref b22)])
  obtain ⟨cl30, Ar30, q30, S30, N30, H30, G30⟩ := V29
  have hin30 : ¬ ((7 : Int32) < 0 ∨ cl30.slots.size ≤ ((7 : Int32)).toNatClampNeg) := inb_of S30 ⟨by decide, by decide⟩
  obtain ⟨T30, h30, X30, e30, W30, st30⟩ := stZ X29 hx hZ e29 Ar30 (j := (7 : Int32)) hin30 (g := (mkF m 107 #[.val (.int x0), .val (.ref b1), .unset, .unset] [(.int (1 : Int32)), (.int (7 : Int32)), (.ref b22), (.ref b22)])) rfl rfl (hb hby at_107)
  refine Go.step st30 ?_
  have V30 : Arv Z h30 b22 k22 .boolean (10 : Int32) [(.int (0 : Int32)), (.int (0 : Int32)), (.int (1 : Int32)), (.int (1 : Int32)), (.int (1 : Int32)), (.int (1 : Int32)), (.int (1 : Int32)), (.int (1 : Int32)), (.int (0 : Int32)), (.int (0 : Int32))] (.int (0 : Int32)) := Arv.set Ar30 q30 S30 N30 H30 G30 (fits_nar_bool _) W30 7 rfl (Nat.le_of_ble_eq_true rfl)
  have N30_ := Fr.snoc X30 N29_ g_b22
  have O30_ : Ext Z.heap h30 := extWr O29_ W30 g_b22
  show Go _ _ _ _ _ _ _ _ T30 (mkF m 108 #[.val (.int x0), .val (.ref b1), .unset, .unset] [(.ref b22)])
  refine Go.step (fun _ kt_ => XS.dup X30.here hx rfl (hb hby at_108) rfl rfl kt_) ?_
  show Go _ _ _ _ _ _ _ _ T30 (mkF m 109 #[.val (.int x0), .val (.ref b1), .unset, .unset] [(.ref b22), (.ref b22)])
  refine Go.step (fun _ kt_ => XS.bipush X30.here hx rfl (hb hby at_109)  kt_) ?_
  show Go _ _ _ _ _ _ _ _ T30 (mkF m 111 #[.val (.int x0), .val (.ref b1), .unset, .unset] [(.int (8 : Int32)), (.ref b22), (.ref b22)])
  refine Go.step (fun _ kt_ => XS.iconst X30.here hx rfl (hb hby at_111)  kt_) ?_
  show Go _ _ _ _ _ _ _ _ T30 (mkF m 112 #[.val (.int x0), .val (.ref b1), .unset, .unset] [(.int (0 : Int32)), (.int (8 : Int32)), (.ref b22), (.ref b22)])
  obtain ⟨cl31, Ar31, q31, S31, N31, H31, G31⟩ := V30
  have hin31 : ¬ ((8 : Int32) < 0 ∨ cl31.slots.size ≤ ((8 : Int32)).toNatClampNeg) := inb_of S31 ⟨by decide, by decide⟩
  obtain ⟨T31, h31, X31, e31, W31, st31⟩ := stZ X30 hx hZ e30 Ar31 (j := (8 : Int32)) hin31 (g := (mkF m 112 #[.val (.int x0), .val (.ref b1), .unset, .unset] [(.int (0 : Int32)), (.int (8 : Int32)), (.ref b22), (.ref b22)])) rfl rfl (hb hby at_112)
  refine Go.step st31 ?_
  have V31 : Arv Z h31 b22 k22 .boolean (10 : Int32) [(.int (0 : Int32)), (.int (0 : Int32)), (.int (1 : Int32)), (.int (1 : Int32)), (.int (1 : Int32)), (.int (1 : Int32)), (.int (1 : Int32)), (.int (1 : Int32)), (.int (0 : Int32)), (.int (0 : Int32))] (.int (0 : Int32)) := Arv.set Ar31 q31 S31 N31 H31 G31 (fits_nar_bool _) W31 8 rfl (Nat.le_of_ble_eq_true rfl)
  have N31_ := Fr.snoc X31 N30_ g_b22
  have O31_ : Ext Z.heap h31 := extWr O30_ W31 g_b22
  show Go _ _ _ _ _ _ _ _ T31 (mkF m 113 #[.val (.int x0), .val (.ref b1), .unset, .unset] [(.ref b22)])
  refine Go.step (fun _ kt_ => XS.dup X31.here hx rfl (hb hby at_113) rfl rfl kt_) ?_
  show Go _ _ _ _ _ _ _ _ T31 (mkF m 114 #[.val (.int x0), .val (.ref b1), .unset, .unset] [(.ref b22), (.ref b22)])
  refine Go.step (fun _ kt_ => XS.bipush X31.here hx rfl (hb hby at_114)  kt_) ?_
  show Go _ _ _ _ _ _ _ _ T31 (mkF m 116 #[.val (.int x0), .val (.ref b1), .unset, .unset] [(.int (9 : Int32)), (.ref b22), (.ref b22)])
  refine Go.step (fun _ kt_ => XS.iconst X31.here hx rfl (hb hby at_116)  kt_) ?_
  show Go _ _ _ _ _ _ _ _ T31 (mkF m 117 #[.val (.int x0), .val (.ref b1), .unset, .unset] [(.int (0 : Int32)), (.int (9 : Int32)), (.ref b22), (.ref b22)])
  obtain ⟨cl32, Ar32, q32, S32, N32, H32, G32⟩ := V31
  have hin32 : ¬ ((9 : Int32) < 0 ∨ cl32.slots.size ≤ ((9 : Int32)).toNatClampNeg) := inb_of S32 ⟨by decide, by decide⟩
  obtain ⟨T32, h32, X32, e32, W32, st32⟩ := stZ X31 hx hZ e31 Ar32 (j := (9 : Int32)) hin32 (g := (mkF m 117 #[.val (.int x0), .val (.ref b1), .unset, .unset] [(.int (0 : Int32)), (.int (9 : Int32)), (.ref b22), (.ref b22)])) rfl rfl (hb hby at_117)
  refine Go.step st32 ?_
  have V32 : Arv Z h32 b22 k22 .boolean (10 : Int32) [(.int (0 : Int32)), (.int (0 : Int32)), (.int (1 : Int32)), (.int (1 : Int32)), (.int (1 : Int32)), (.int (1 : Int32)), (.int (1 : Int32)), (.int (1 : Int32)), (.int (0 : Int32)), (.int (0 : Int32))] (.int (0 : Int32)) := Arv.set Ar32 q32 S32 N32 H32 G32 (fits_nar_bool _) W32 9 rfl (Nat.le_of_ble_eq_true rfl)
  have N32_ := Fr.snoc X32 N31_ g_b22
  have O32_ : Ext Z.heap h32 := extWr O31_ W32 g_b22
  show Go _ _ _ _ _ _ _ _ T32 (mkF m 118 #[.val (.int x0), .val (.ref b1), .unset, .unset] [(.ref b22)])
  refine Go.step (fun _ kt_ => XS.astoreN X32.here hx rfl (hb hby at_118) rfl rfl (l' := #[.val (.int x0), .val (.ref b1), .val (.ref b22), .unset]) rfl kt_) ?_
  show Go _ _ _ _ _ _ _ _ T32 (mkF m 119 #[.val (.int x0), .val (.ref b1), .val (.ref b22), .unset] [])
  refine Go.step (fun _ kt_ => XS.iloadN X32.here hx rfl (hb hby at_119) rfl kt_) ?_
  show Go _ _ _ _ _ _ _ _ T32 (mkF m 120 #[.val (.int x0), .val (.ref b1), .val (.ref b22), .unset] [(.int x0)])
  refine Go.step (X32.ldcInt hx hown (mvT hZ (hw _ (List.mem_of_getElem? (i := 25) rfl))) (g := (mkF m 120 #[.val (.int x0), .val (.ref b1), .val (.ref b22), .unset] [(.int x0)])) rfl (hb hby at_120)) ?_
  show Go _ _ _ _ _ _ _ _ T32 (mkF m 122 #[.val (.int x0), .val (.ref b1), .val (.ref b22), .unset] [(.int (2147483647 : Int32)), (.int x0)])
  refine Go.step (fun _ kt_ => XS.iand X32.here hx rfl (hb hby at_122) rfl kt_) ?_
  show Go _ _ _ _ _ _ _ _ T32 (mkF m 123 #[.val (.int x0), .val (.ref b1), .val (.ref b22), .unset] [(.int (x0 &&& (2147483647 : Int32)))])
  refine Go.step (fun _ kt_ => XS.bipush X32.here hx rfl (hb hby at_123)  kt_) ?_
  show Go _ _ _ _ _ _ _ _ T32 (mkF m 125 #[.val (.int x0), .val (.ref b1), .val (.ref b22), .unset] [(.int (10 : Int32)), (.int (x0 &&& (2147483647 : Int32)))])
  refine Go.step (fun _ kt_ => iremM X32 hx rfl (hb hby at_125) rfl (by decide) kt_) ?_
  show Go _ _ _ _ _ _ _ _ T32 (mkF m 126 #[.val (.int x0), .val (.ref b1), .val (.ref b22), .unset] [(.int ((x0 &&& (2147483647 : Int32)) % (10 : Int32)))])
  obtain ⟨hk0, hk1⟩ := own_mod x0 10 10 (by decide) (by decide)
  generalize ((x0 &&& (2147483647 : Int32)) % (10 : Int32)) = k at *
  obtain ⟨ka, bi, r, g1, g2, Xk, Fk, hr⟩ : ∃ (ka : Addr) (bi r : Int32), ([(.ref cOR), (.ref cAND), (.ref cEQ), (.ref cNE), (.ref cLT), (.ref cLE), (.ref cGT), (.ref cGE), (.ref cADD), (.ref cSUB)] : List Value).getD k.toNatClampNeg .null = (.ref ka) ∧ ([(.int (0 : Int32)), (.int (0 : Int32)), (.int (1 : Int32)), (.int (1 : Int32)), (.int (1 : Int32)), (.int (1 : Int32)), (.int (1 : Int32)), (.int (1 : Int32)), (.int (0 : Int32)), (.int (0 : Int32))] : List Value).getD k.toNatClampNeg (.int (0 : Int32)) = (.int r) ∧ Exa Z Z.heap ka "com/example/distinguo/distinguo/model/Expr$BinaryOp" ∧ Fld Z Z.heap ka "com/example/distinguo/distinguo/model/Expr$BinaryOp" "binding" "I" (.int bi) ∧ r = (if bi = 3 then 1 else 0) := by
    rcases (by omega : k.toInt = 0 ∨ k.toInt = 1 ∨ k.toInt = 2 ∨ k.toInt = 3 ∨ k.toInt = 4 ∨ k.toInt = 5 ∨ k.toInt = 6 ∨ k.toInt = 7 ∨ k.toInt = 8 ∨ k.toInt = 9) with q | q | q | q | q | q | q | q | q | q
    · obtain rfl : k = (0 : Int32) := Int32.toInt_inj.mp q
      exact ⟨cOR, (1 : Int32), (0 : Int32), rfl, rfl, X_OR, F_OR, by decide⟩
    · obtain rfl : k = (1 : Int32) := Int32.toInt_inj.mp q
      exact ⟨cAND, (2 : Int32), (0 : Int32), rfl, rfl, X_AND, F_AND, by decide⟩
    · obtain rfl : k = (2 : Int32) := Int32.toInt_inj.mp q
      exact ⟨cEQ, (3 : Int32), (1 : Int32), rfl, rfl, X_EQ, F_EQ, by decide⟩
    · obtain rfl : k = (3 : Int32) := Int32.toInt_inj.mp q
      exact ⟨cNE, (3 : Int32), (1 : Int32), rfl, rfl, X_NE, F_NE, by decide⟩
    · obtain rfl : k = (4 : Int32) := Int32.toInt_inj.mp q
      exact ⟨cLT, (3 : Int32), (1 : Int32), rfl, rfl, X_LT, F_LT, by decide⟩
    · obtain rfl : k = (5 : Int32) := Int32.toInt_inj.mp q
      exact ⟨cLE, (3 : Int32), (1 : Int32), rfl, rfl, X_LE, F_LE, by decide⟩
    · obtain rfl : k = (6 : Int32) := Int32.toInt_inj.mp q
      exact ⟨cGT, (3 : Int32), (1 : Int32), rfl, rfl, X_GT, F_GT, by decide⟩
    · obtain rfl : k = (7 : Int32) := Int32.toInt_inj.mp q
      exact ⟨cGE, (3 : Int32), (1 : Int32), rfl, rfl, X_GE, F_GE, by decide⟩
    · obtain rfl : k = (8 : Int32) := Int32.toInt_inj.mp q
      exact ⟨cADD, (4 : Int32), (0 : Int32), rfl, rfl, X_ADD, F_ADD, by decide⟩
    · obtain rfl : k = (9 : Int32) := Int32.toInt_inj.mp q
      exact ⟨cSUB, (4 : Int32), (0 : Int32), rfl, rfl, X_SUB, F_SUB, by decide⟩
  have hkb : ¬ k < 0 ∧ k < 10 := by rw [Int32.lt_iff_toInt_lt, Int32.lt_iff_toInt_lt]; exact ⟨by show ¬ _ < (0 : Int); omega, hk1⟩
  show Go _ _ _ _ _ _ _ _ T32 (mkF m 126 #[.val (.int x0), .val (.ref b1), .val (.ref b22), .unset] [(.int k)])
  refine Go.step (fun _ kt_ => XS.istoreN X32.here hx rfl (hb hby at_126) rfl (l' := #[.val (.int x0), .val (.ref b1), .val (.ref b22), .val (.int k)]) rfl kt_) ?_
  show Go _ _ _ _ _ _ _ _ T32 (mkF m 127 #[.val (.int x0), .val (.ref b1), .val (.ref b22), .val (.int k)] [])
  refine Go.step (fun _ kt_ => XS.aloadN X32.here hx rfl (hb hby at_127) rfl rfl kt_) ?_
  show Go _ _ _ _ _ _ _ _ T32 (mkF m 128 #[.val (.int x0), .val (.ref b1), .val (.ref b22), .val (.int k)] [(.ref b1)])
  refine Go.step (fun _ kt_ => XS.iloadN X32.here hx rfl (hb hby at_128) rfl kt_) ?_
  show Go _ _ _ _ _ _ _ _ T32 (mkF m 129 #[.val (.int x0), .val (.ref b1), .val (.ref b22), .val (.int k)] [(.int k), (.ref b1)])
  have f34 := (((((((((((V21.ext E22).other W23 (Nat.ne_of_lt (Nat.lt_of_lt_of_le (Exa.wr W21 (Exa.wr W19 (Exa.wr W17 (Exa.wr W15 (Exa.wr W13 (Exa.wr W11 (Exa.wr W9 (Exa.wr W7 (Exa.wr W5 (Exa.wr W3 B1)))))))))).lt (Nat.le_of_eq hb22.symm)))).other W24 (Nat.ne_of_lt (Nat.lt_of_lt_of_le (Exa.wr W21 (Exa.wr W19 (Exa.wr W17 (Exa.wr W15 (Exa.wr W13 (Exa.wr W11 (Exa.wr W9 (Exa.wr W7 (Exa.wr W5 (Exa.wr W3 B1)))))))))).lt (Nat.le_of_eq hb22.symm)))).other W25 (Nat.ne_of_lt (Nat.lt_of_lt_of_le (Exa.wr W21 (Exa.wr W19 (Exa.wr W17 (Exa.wr W15 (Exa.wr W13 (Exa.wr W11 (Exa.wr W9 (Exa.wr W7 (Exa.wr W5 (Exa.wr W3 B1)))))))))).lt (Nat.le_of_eq hb22.symm)))).other W26 (Nat.ne_of_lt (Nat.lt_of_lt_of_le (Exa.wr W21 (Exa.wr W19 (Exa.wr W17 (Exa.wr W15 (Exa.wr W13 (Exa.wr W11 (Exa.wr W9 (Exa.wr W7 (Exa.wr W5 (Exa.wr W3 B1)))))))))).lt (Nat.le_of_eq hb22.symm)))).other W27 (Nat.ne_of_lt (Nat.lt_of_lt_of_le (Exa.wr W21 (Exa.wr W19 (Exa.wr W17 (Exa.wr W15 (Exa.wr W13 (Exa.wr W11 (Exa.wr W9 (Exa.wr W7 (Exa.wr W5 (Exa.wr W3 B1)))))))))).lt (Nat.le_of_eq hb22.symm)))).other W28 (Nat.ne_of_lt (Nat.lt_of_lt_of_le (Exa.wr W21 (Exa.wr W19 (Exa.wr W17 (Exa.wr W15 (Exa.wr W13 (Exa.wr W11 (Exa.wr W9 (Exa.wr W7 (Exa.wr W5 (Exa.wr W3 B1)))))))))).lt (Nat.le_of_eq hb22.symm)))).other W29 (Nat.ne_of_lt (Nat.lt_of_lt_of_le (Exa.wr W21 (Exa.wr W19 (Exa.wr W17 (Exa.wr W15 (Exa.wr W13 (Exa.wr W11 (Exa.wr W9 (Exa.wr W7 (Exa.wr W5 (Exa.wr W3 B1)))))))))).lt (Nat.le_of_eq hb22.symm)))).other W30 (Nat.ne_of_lt (Nat.lt_of_lt_of_le (Exa.wr W21 (Exa.wr W19 (Exa.wr W17 (Exa.wr W15 (Exa.wr W13 (Exa.wr W11 (Exa.wr W9 (Exa.wr W7 (Exa.wr W5 (Exa.wr W3 B1)))))))))).lt (Nat.le_of_eq hb22.symm)))).other W31 (Nat.ne_of_lt (Nat.lt_of_lt_of_le (Exa.wr W21 (Exa.wr W19 (Exa.wr W17 (Exa.wr W15 (Exa.wr W13 (Exa.wr W11 (Exa.wr W9 (Exa.wr W7 (Exa.wr W5 (Exa.wr W3 B1)))))))))).lt (Nat.le_of_eq hb22.symm)))).other W32 (Nat.ne_of_lt (Nat.lt_of_lt_of_le (Exa.wr W21 (Exa.wr W19 (Exa.wr W17 (Exa.wr W15 (Exa.wr W13 (Exa.wr W11 (Exa.wr W9 (Exa.wr W7 (Exa.wr W5 (Exa.wr W3 B1)))))))))).lt (Nat.le_of_eq hb22.symm))))
  obtain ⟨cl33, Ar33, q33, S33, N33, H33, G33⟩ := f34
  have hin33 : ¬ (k < 0 ∨ cl33.slots.size ≤ (k).toNatClampNeg) := inb_of S33 hkb
  refine Go.step (X32.aaload hx (j := k) (v := (.ref ka)) (by rw [e32]; exact Ar33.1) (State.isArrayOf_alike hZ.alike Ar33.2.1) rfl Ar33.2.2 hin33 (Has.at H33 hin33 g1) (g := (mkF m 129 #[.val (.int x0), .val (.ref b1), .val (.ref b22), .val (.int k)] [(.int k), (.ref b1)])) rfl rfl (hb hby at_129)) ?_
  show Go _ _ _ _ _ _ _ _ T32 (mkF m 130 #[.val (.int x0), .val (.ref b1), .val (.ref b22), .val (.int k)] [(.ref ka)])
  obtain ⟨cq35, kq35, q35a, q35b, q35c⟩ := isOf hZ e32 (Exa.ext O32_ Xk)
  obtain ⟨_, _, ⟨T35, L35, k35, n35⟩, -, X35, ⟨Lc35, hQ35, l35, y35, z35⟩, st35⟩ := X32.virtualBack hx (y := (⟨"com/example/distinguo/distinguo/model/Expr$BinaryOp", "isComparison", "()Z"⟩ : MethodName)) (z := (⟨"com/example/distinguo/distinguo/model/Expr$BinaryOp", "isComparison", "()Z"⟩ : MethodName)) hown (mvT hZ (hw _ (List.mem_of_getElem? (i := 26) rfl))) (mvT hZ (hw _ (List.mem_of_getElem? (i := 27) rfl))) (notFace_of_selects (args := #[]) (mvT hZ (hw _ (List.mem_of_getElem? (i := 29) rfl)))) (mvT hZ (hw _ (List.mem_of_getElem? (i := 29) rfl))) (mvT hZ (hw _ (List.mem_of_getElem? (i := 28) rfl))) (by decide) (backOf (W := 0) (rm_1 l Z a0 hw [] ka bi r h32 O32_ Fk hr) hZ (hw _ (List.mem_of_getElem? (i := 30) rfl)) (hw _ (List.mem_of_getElem? (i := 3) rfl)) (by decide) (by decide)) q35a q35c (g := (mkF m 130 #[.val (.int x0), .val (.ref b1), .val (.ref b22), .val (.int k)] [(.ref ka)])) rfl (by rw [hml]; rfl) (Steps.refl _) (argsL := []) (rest := []) (lenOf pd_LRZ rfl) rfl (by show 2 * 0 + _ ≤ _; exact Nat.le_of_eq rfl) (hb hby at_130) (fun _ _ => ⟨rfl, e32, (by decide : 2 + 0 ≤ _), (by decide : 20 + 0 ≤ _)⟩)
  dsimp only [Pt.U, Pt.locs, Pt.cells, Pt.slots] at X35 l35 y35 z35 st35 hQ35
  subst l35 y35 z35
  obtain ⟨rfl, Nq35, e35⟩ := hQ35
  have N35_ := Fr.app N32_ Nq35
  refine Go.trans st35 ?_
  show Go _ _ _ _ _ _ _ _ T35 (mkF m 133 #[.val (.int x0), .val (.ref b1), .val (.ref b22), .val (.int k)] [(.int r)])
  refine Go.step (fun _ kt_ => XS.aloadN X35.here hx rfl (hb hby at_133) rfl rfl kt_) ?_
  show Go _ _ _ _ _ _ _ _ T35 (mkF m 134 #[.val (.int x0), .val (.ref b1), .val (.ref b22), .val (.int k)] [(.ref b22), (.int r)])
  refine Go.step (fun _ kt_ => XS.iloadN X35.here hx rfl (hb hby at_134) rfl kt_) ?_
  show Go _ _ _ _ _ _ _ _ T35 (mkF m 135 #[.val (.int x0), .val (.ref b1), .val (.ref b22), .val (.int k)] [(.int k), (.ref b22), (.int r)])
  obtain ⟨cl36, Ar36, q36, S36, N36, H36, G36⟩ := V32
  have hin36 : ¬ (k < 0 ∨ cl36.slots.size ≤ (k).toNatClampNeg) := inb_of S36 hkb
  refine Go.step (X35.baloadBooleans hx (j := k) (v := (.int r)) (by rw [e35]; exact Ar36.1) (State.isArrayOf_alike hZ.alike Ar36.2.1) Ar36.2.2 hin36 (Has.at H36 hin36 g2) (g := (mkF m 135 #[.val (.int x0), .val (.ref b1), .val (.ref b22), .val (.int k)] [(.int k), (.ref b22), (.int r)])) rfl rfl (hb hby at_135)) ?_
  show Go _ _ _ _ _ _ _ _ T35 (mkF m 136 #[.val (.int x0), .val (.ref b1), .val (.ref b22), .val (.int k)] [(.int r), (.int r)])
  refine Go.step (fun _ kt_ => XS.icmpNo X35.here hx rfl (hb hby at_136) rfl (teq (rfl : r = r)).2 kt_) ?_
  show Go _ _ _ _ _ _ _ _ T35 (mkF m 139 #[.val (.int x0), .val (.ref b1), .val (.ref b22), .val (.int k)] [])
  refine Go.step (fun _ kt_ => XS.iconst X35.here hx rfl (hb hby at_139)  kt_) ?_
  show Go _ _ _ _ _ _ _ _ T35 (mkF m 140 #[.val (.int x0), .val (.ref b1), .val (.ref b22), .val (.int k)] [(.int (1 : Int32))])
  refine Go.step (fun _ kt_ => XS.goto X35.here hx rfl (pc0 := 140) (pc' := 144) rfl (hb hby at_140) (by decide) (by decide) kt_) ?_
  show Go _ _ _ _ _ _ _ _ T35 (mkF m 144 #[.val (.int x0), .val (.ref b1), .val (.ref b22), .val (.int k)] [(.int (1 : Int32))])
  exact Go.retN X35 hx (t := .boolean) Bd.returns (by simp) hlk (hb hby at_144) (by decide) (by decide) (by show _ ∧ _ ∧ _; exact ⟨rfl, N35_, trivial⟩)
set_option maxRecDepth 65536 in
set_option maxHeartbeats 40000000 in
theorem comes_1 {Post : Tables → Env → Array Value → State → Outcome → State → Prop} (hpost : ∀ tb e args s v u, (limb_1_1.after args s (.returned v) u = true ∧ limb_1_2.after args s (.returned v) u = true ∧ True) → FrameEnd s (.returned v) u (Jvm.fieldLocs frame_1_writes args s ++ Jvm.arrayLocs frame_1_arrays args s ++ Jvm.staticLocs frame_1_statics s) 16 128 → Post tb e args s (.returned v) u) :
    ArmFor flags0 classFile x code maxLocals ret World_1 tables_1 room_1 Calls_1 rest_1 Pre_1 Post := by
  intro l hfl _ _ p e ha hc hk s m args below hf hA hF happ hP
  obtain ⟨hcalls, hrest, hpre⟩ := hP
  obtain ⟨-, -, -, hnamed, -, -, -, hat⟩ := (Spec.applies_iff hf).mp happ
  obtain ⟨hg, hn⟩ := and_e (Cond.before_iff.mp (show (Jvm.Cond.and given_1 narrow_1).before args s = true from hpre))
  obtain ⟨hcount, gr0⟩ := and_e hg
  have ga0 := gr0
  obtain ⟨w0, rfl⟩ : ∃ w0 : Value, args = #[w0] := by
    have hs : args.size = 1 := by simpa [Cond.value, given_1] using hcount
    obtain ⟨L⟩ := args
    match L, hs with
    | [w0], _ => exact ⟨w0, rfl⟩
  have hw := fun d (hd : d ∈ tables_1) => atoms_spec (ws := Jvm.Cond.code x code maxLocals ret :: tables_1) hat d (List.mem_cons_of_mem _ hd)
  have hfit : Fit s := fun {y c} hc i hi => by
    obtain ⟨ha, rfl⟩ := Array.getElem?_eq_some_iff.mp hc
    have q := List.all_eq_true.mp ((Array.all_eq_true_iff_forall_mem.mp hF) _ (Array.getElem_mem ha)) i (List.mem_range.mpr hi)
    simpa [Array.getElem?_eq_getElem hi] using q
  obtain ⟨i0, ei0⟩ := is_v ga0
  obtain rfl : w0 = (.int i0) := Option.some.inj ei0
  obtain ⟨nw0, nr0⟩ := and_e hn
  obtain ⟨nw1, nr1⟩ := and_e nr0
  obtain ⟨nw2, nr2⟩ := and_e nr1
  obtain ⟨nw3, nr3⟩ := and_e nr2
  obtain ⟨nw4, nr4⟩ := and_e nr3
  obtain ⟨nw5, nr5⟩ := and_e nr4
  obtain ⟨nw6, nr6⟩ := and_e nr5
  obtain ⟨nw7, nr7⟩ := and_e nr6
  obtain ⟨nw8, nr8⟩ := and_e nr7
  obtain ⟨nw9, nr9⟩ := and_e nr8
  obtain ⟨nw10, nr10⟩ := and_e nr9
  obtain ⟨nw11, nr11⟩ := and_e nr10
  obtain ⟨nw12, nr12⟩ := and_e nr11
  obtain ⟨nw13, nr13⟩ := and_e nr12
  obtain ⟨nw14, nr14⟩ := and_e nr13
  obtain ⟨nw15, nr15⟩ := and_e nr14
  obtain ⟨nw16, nr16⟩ := and_e nr15
  obtain ⟨nw17, nr17⟩ := and_e nr16
  obtain ⟨nw18, nr18⟩ := and_e nr17
  have nw19 := nr18
  obtain ⟨a_0, ev_0⟩ := exa_v nw0
  have S_0 : Sta s s.heap "com/example/distinguo/distinguo/model/Expr$BinaryOp" "OR" "Lcom/example/distinguo/distinguo/model/Expr$BinaryOp;" (.ref a_0) := Sta.start ev_0 (Or.inr ⟨(hw _ (List.mem_of_getElem? (i := 3) rfl)), (hw _ (List.mem_of_getElem? (i := 4) rfl))⟩)
  have X_0 : Exa s s.heap a_0 "com/example/distinguo/distinguo/model/Expr$BinaryOp" := Exa.start ev_0 nw0
  obtain ⟨a_1, ev_1⟩ := exa_v nw1
  have S_1 : Sta s s.heap "com/example/distinguo/distinguo/model/Expr$BinaryOp" "AND" "Lcom/example/distinguo/distinguo/model/Expr$BinaryOp;" (.ref a_1) := Sta.start ev_1 (Or.inr ⟨(hw _ (List.mem_of_getElem? (i := 3) rfl)), (hw _ (List.mem_of_getElem? (i := 7) rfl))⟩)
  have X_1 : Exa s s.heap a_1 "com/example/distinguo/distinguo/model/Expr$BinaryOp" := Exa.start ev_1 nw1
  obtain ⟨a_2, ev_2⟩ := exa_v nw2
  have S_2 : Sta s s.heap "com/example/distinguo/distinguo/model/Expr$BinaryOp" "EQ" "Lcom/example/distinguo/distinguo/model/Expr$BinaryOp;" (.ref a_2) := Sta.start ev_2 (Or.inr ⟨(hw _ (List.mem_of_getElem? (i := 3) rfl)), (hw _ (List.mem_of_getElem? (i := 9) rfl))⟩)
  have X_2 : Exa s s.heap a_2 "com/example/distinguo/distinguo/model/Expr$BinaryOp" := Exa.start ev_2 nw2
  obtain ⟨a_3, ev_3⟩ := exa_v nw3
  have S_3 : Sta s s.heap "com/example/distinguo/distinguo/model/Expr$BinaryOp" "NE" "Lcom/example/distinguo/distinguo/model/Expr$BinaryOp;" (.ref a_3) := Sta.start ev_3 (Or.inr ⟨(hw _ (List.mem_of_getElem? (i := 3) rfl)), (hw _ (List.mem_of_getElem? (i := 11) rfl))⟩)
  have X_3 : Exa s s.heap a_3 "com/example/distinguo/distinguo/model/Expr$BinaryOp" := Exa.start ev_3 nw3
  obtain ⟨a_4, ev_4⟩ := exa_v nw4
  have S_4 : Sta s s.heap "com/example/distinguo/distinguo/model/Expr$BinaryOp" "LT" "Lcom/example/distinguo/distinguo/model/Expr$BinaryOp;" (.ref a_4) := Sta.start ev_4 (Or.inr ⟨(hw _ (List.mem_of_getElem? (i := 3) rfl)), (hw _ (List.mem_of_getElem? (i := 13) rfl))⟩)
  have X_4 : Exa s s.heap a_4 "com/example/distinguo/distinguo/model/Expr$BinaryOp" := Exa.start ev_4 nw4
  obtain ⟨a_5, ev_5⟩ := exa_v nw5
  have S_5 : Sta s s.heap "com/example/distinguo/distinguo/model/Expr$BinaryOp" "LE" "Lcom/example/distinguo/distinguo/model/Expr$BinaryOp;" (.ref a_5) := Sta.start ev_5 (Or.inr ⟨(hw _ (List.mem_of_getElem? (i := 3) rfl)), (hw _ (List.mem_of_getElem? (i := 15) rfl))⟩)
  have X_5 : Exa s s.heap a_5 "com/example/distinguo/distinguo/model/Expr$BinaryOp" := Exa.start ev_5 nw5
  obtain ⟨a_6, ev_6⟩ := exa_v nw6
  have S_6 : Sta s s.heap "com/example/distinguo/distinguo/model/Expr$BinaryOp" "GT" "Lcom/example/distinguo/distinguo/model/Expr$BinaryOp;" (.ref a_6) := Sta.start ev_6 (Or.inr ⟨(hw _ (List.mem_of_getElem? (i := 3) rfl)), (hw _ (List.mem_of_getElem? (i := 17) rfl))⟩)
  have X_6 : Exa s s.heap a_6 "com/example/distinguo/distinguo/model/Expr$BinaryOp" := Exa.start ev_6 nw6
  obtain ⟨a_7, ev_7⟩ := exa_v nw7
  have S_7 : Sta s s.heap "com/example/distinguo/distinguo/model/Expr$BinaryOp" "GE" "Lcom/example/distinguo/distinguo/model/Expr$BinaryOp;" (.ref a_7) := Sta.start ev_7 (Or.inr ⟨(hw _ (List.mem_of_getElem? (i := 3) rfl)), (hw _ (List.mem_of_getElem? (i := 19) rfl))⟩)
  have X_7 : Exa s s.heap a_7 "com/example/distinguo/distinguo/model/Expr$BinaryOp" := Exa.start ev_7 nw7
  obtain ⟨a_8, ev_8⟩ := exa_v nw8
  have S_8 : Sta s s.heap "com/example/distinguo/distinguo/model/Expr$BinaryOp" "ADD" "Lcom/example/distinguo/distinguo/model/Expr$BinaryOp;" (.ref a_8) := Sta.start ev_8 (Or.inr ⟨(hw _ (List.mem_of_getElem? (i := 3) rfl)), (hw _ (List.mem_of_getElem? (i := 21) rfl))⟩)
  have X_8 : Exa s s.heap a_8 "com/example/distinguo/distinguo/model/Expr$BinaryOp" := Exa.start ev_8 nw8
  obtain ⟨a_9, ev_9⟩ := exa_v nw9
  have S_9 : Sta s s.heap "com/example/distinguo/distinguo/model/Expr$BinaryOp" "SUB" "Lcom/example/distinguo/distinguo/model/Expr$BinaryOp;" (.ref a_9) := Sta.start ev_9 (Or.inr ⟨(hw _ (List.mem_of_getElem? (i := 3) rfl)), (hw _ (List.mem_of_getElem? (i := 23) rfl))⟩)
  have X_9 : Exa s s.heap a_9 "com/example/distinguo/distinguo/model/Expr$BinaryOp" := Exa.start ev_9 nw9
  have F_10 : Fld s s.heap a_0 "com/example/distinguo/distinguo/model/Expr$BinaryOp" "binding" "I" (.int (1 : Int32)) := fldStart ev_0 nw10
  have F_11 : Fld s s.heap a_3 "com/example/distinguo/distinguo/model/Expr$BinaryOp" "binding" "I" (.int (3 : Int32)) := fldStart ev_3 nw11
  have F_12 : Fld s s.heap a_1 "com/example/distinguo/distinguo/model/Expr$BinaryOp" "binding" "I" (.int (2 : Int32)) := fldStart ev_1 nw12
  have F_13 : Fld s s.heap a_4 "com/example/distinguo/distinguo/model/Expr$BinaryOp" "binding" "I" (.int (3 : Int32)) := fldStart ev_4 nw13
  have F_14 : Fld s s.heap a_7 "com/example/distinguo/distinguo/model/Expr$BinaryOp" "binding" "I" (.int (3 : Int32)) := fldStart ev_7 nw14
  have F_15 : Fld s s.heap a_2 "com/example/distinguo/distinguo/model/Expr$BinaryOp" "binding" "I" (.int (3 : Int32)) := fldStart ev_2 nw15
  have F_16 : Fld s s.heap a_8 "com/example/distinguo/distinguo/model/Expr$BinaryOp" "binding" "I" (.int (4 : Int32)) := fldStart ev_8 nw16
  have F_17 : Fld s s.heap a_9 "com/example/distinguo/distinguo/model/Expr$BinaryOp" "binding" "I" (.int (4 : Int32)) := fldStart ev_9 nw17
  have F_18 : Fld s s.heap a_5 "com/example/distinguo/distinguo/model/Expr$BinaryOp" "binding" "I" (.int (3 : Int32)) := fldStart ev_5 nw18
  have F_19 : Fld s s.heap a_6 "com/example/distinguo/distinguo/model/Expr$BinaryOp" "binding" "I" (.int (3 : Int32)) := fldStart ev_6 nw19
  obtain ⟨n, o, h1, h2, h3, _, L, rfl, ⟨rfl, N, -⟩, hq⟩ := rm_0 l s _ hw tables_1 i0 a_0 a_1 a_2 a_3 a_4 a_5 a_6 a_7 a_8 a_9 s.heap (extRfl _) S_0 S_1 S_2 S_3 S_4 S_5 S_6 S_7 S_8 S_9 X_0 X_1 X_2 X_3 X_4 X_5 X_6 X_7 X_8 X_9 F_10 F_12 F_15 F_11 F_13 F_18 F_19 F_14 F_16 F_17 p e ha hc hk s m _ below hf ((Spec.applies_iff_loose hf).mp happ).1 ⟨rfl, State.Warmed39.refl s, rfl⟩ trivial
  refine ⟨n, _, h1, h2, h3, hpost _ _ _ _ _ _ ⟨Cond.after_iff.mpr rfl, Cond.after_iff.mpr (eq_i res_at (Term.int_eval (1)) rfl), trivial⟩ ⟨hq.1, hq.2.1, (hq.2.2.sift fun y hy => Or.inr (N y hy)).mono (by decide) (by decide)⟩⟩
theorem main_1_1 : Claimed_1_1 := comes_1 fun _ _ _ _ _ _ h hF => ⟨h.1, hF⟩
theorem main_1_2 : Claimed_1_2 := comes_1 fun _ _ _ _ _ _ h hF => ⟨h.2.1, hF⟩
end Jvm.Pilot.@@N@@
namespace Jvm.Pilot.@@N@@
open Jvm Jvm.ClassFile Sem Op Lib Jvm.Free Jvm.Stand Jvm.Pilot.@@N@@.Jvm.D
/-! MADE BY PROGRAM (witnessworld.py) out of the Statement's table words and the real class files: 15 classes; the members and pool entries that the words name. The judged class is class 1, her method 1. -/
namespace start1
open Jvm.ClassFile
def u (s : String) : CpInfo := .utf8 (stringToUtf16 s)
/-- a pool by its gaps: so many unusable entries, then the entry; so many at the end -/
def gap : Nat → List CpInfo → List CpInfo
  | 0, r => r
  | n + 1, r => .unusable :: gap n r
def poolList (es : List (Nat × CpInfo)) (last : Nat) : List CpInfo := es.foldr (fun e r => gap e.1 (e.2 :: r)) (gap last [])
def pool (es : List (Nat × CpInfo)) (last : Nat) : Array CpInfo := ⟨poolList es last⟩
def fileOf (pool : Array CpInfo) (this : Nat) (attrs : Array Attribute := #[]) (ms : Array MethodInfo := #[]) (fl : Nat := 33) (sup : Nat := 0) (ifs : Array Nat := #[]) (fds : Array FieldInfo := #[]) : ClassFile where
  minorVersion := 0
  majorVersion := 65
  constantPool := pool
  accessFlags := fl
  thisClass := this
  superClass := sup
  interfaces := ifs
  fields := fds
  methods := ms
  attributes := attrs
def plain (name : String) (sup : Option ClassId) : Class where
  name := name
  kind := .ordinary
  loader := none
  accessFlags := 33
  super := sup
  interfaces := #[]
  cf := none
  fields := #[]
  methods := #[]
  instanceTypes := #[]
  staticTypes := #[]
  resolved := #[]
  callSites := []
  init := .initialized
  statics := none
  mirror := none

def pool0 : Array CpInfo := pool [(5, u "<init>"), (0, u "()V"), (1, .class_ 10), (1, u "java/lang/Object")] 113

def k0m0 : Method := { name := "<init>", desc := "()V", sig := { parameters := [], returnType := none }, accessFlags := 1, code := none }
/-- java/lang/Object -/
def k0 : Class := { plain "java/lang/Object" none with
  accessFlags := 33
  interfaces := #[]
  cf := some (fileOf pool0 8 #[] #[{ accessFlags := 1, nameIndex := 5, descriptorIndex := 6, attributes := #[] }] 33 0 #[] #[])
  fields := #[]
  methods := #[k0m0]
  instanceTypes := #[]
  staticTypes := #[]
  resolved := Array.replicate 124 none
  statics := none }

def pool1 : Array CpInfo := pool [(2, .class_ 4), (1, u "java/lang/Object"), (0, u "<init>"), (0, u "()V"), (0, .class_ 8), (0, u "com/example/distinguo/distinguo/model/Expr$BinaryOp"), (0, .fieldref 7 10), (0, .nameAndType 11 12), (0, u "OR"), (0, u "Lcom/example/distinguo/distinguo/model/Expr$BinaryOp;"), (0, .fieldref 7 14), (0, .nameAndType 15 12), (0, u "AND"), (0, .fieldref 7 17), (0, .nameAndType 18 12), (0, u "EQ"), (0, .fieldref 7 20), (0, .nameAndType 21 12), (0, u "NE"), (0, .fieldref 7 23), (0, .nameAndType 24 12), (0, u "LT"), (0, .fieldref 7 26), (0, .nameAndType 27 12), (0, u "LE"), (0, .fieldref 7 29), (0, .nameAndType 30 12), (0, u "GT"), (0, .fieldref 7 32), (0, .nameAndType 33 12), (0, u "GE"), (0, .fieldref 7 35), (0, .nameAndType 36 12), (0, u "ADD"), (0, .fieldref 7 38), (0, .nameAndType 39 12), (0, u "SUB"), (0, .integer 2147483647), (0, .methodref 7 42), (0, .nameAndType 43 44), (0, u "isComparison"), (0, u "()Z"), (0, .class_ 46), (0, u "com/example/distinguo/distinguo/model/BinaryOpIsComparisonPinLaw"), (2, u "law"), (0, u "(I)Z")] 11

def k1m0 : Method := { name := "<init>", desc := "()V", sig := { parameters := [], returnType := none }, accessFlags := 2, code := none }
def k1c1 : Code := { maxStack := 4, maxLocals := 4, code := code, exceptionTable := #[], attributes := #[] }
def k1m1 : Method := { name := "law", desc := "(I)Z", sig := { parameters := [.int], returnType := some .boolean }, accessFlags := 9, code := some k1c1 }
/-- com/example/distinguo/distinguo/model/BinaryOpIsComparisonPinLaw -/
def k1 : Class := { plain "com/example/distinguo/distinguo/model/BinaryOpIsComparisonPinLaw" (some 0) with
  accessFlags := 49
  interfaces := #[]
  cf := some (fileOf pool1 45 #[] #[{ accessFlags := 2, nameIndex := 5, descriptorIndex := 6, attributes := #[] }, { accessFlags := 9, nameIndex := 49, descriptorIndex := 50, attributes := #[] }] 49 2 #[] #[])
  fields := #[]
  methods := #[k1m0, k1m1]
  instanceTypes := #[]
  staticTypes := #[]
  resolved := Array.replicate 62 none
  statics := none }

def pool2 : Array CpInfo := pool [(1, .class_ 2), (0, u "java/lang/constant/Constable"), (0, .class_ 4), (0, u "java/lang/Object")] 6

/-- java/lang/constant/Constable -/
def k2 : Class := { plain "java/lang/constant/Constable" (some 0) with
  accessFlags := 1537
  interfaces := #[]
  cf := some (fileOf pool2 1 #[] #[] 1537 3 #[] #[])
  fields := #[]
  methods := #[]
  instanceTypes := #[]
  staticTypes := #[]
  resolved := Array.replicate 11 none
  statics := none }

def pool3 : Array CpInfo := pool [(1, .class_ 2), (0, u "java/lang/Comparable"), (0, .class_ 4), (0, u "java/lang/Object")] 7

/-- java/lang/Comparable -/
def k3 : Class := { plain "java/lang/Comparable" (some 0) with
  accessFlags := 1537
  interfaces := #[]
  cf := some (fileOf pool3 1 #[] #[] 1537 3 #[] #[])
  fields := #[]
  methods := #[]
  instanceTypes := #[]
  staticTypes := #[]
  resolved := Array.replicate 12 none
  statics := none }

def pool4 : Array CpInfo := pool [(1, .class_ 2), (0, u "java/io/Serializable"), (0, .class_ 4), (0, u "java/lang/Object")] 2

/-- java/io/Serializable -/
def k4 : Class := { plain "java/io/Serializable" (some 0) with
  accessFlags := 1537
  interfaces := #[]
  cf := some (fileOf pool4 1 #[] #[] 1537 3 #[] #[])
  fields := #[]
  methods := #[]
  instanceTypes := #[]
  staticTypes := #[]
  resolved := Array.replicate 7 none
  statics := none }

def pool5 : Array CpInfo := pool [(2, .class_ 4), (1, u "java/lang/Enum"), (0, u "name"), (0, u "Ljava/lang/String;"), (2, u "ordinal"), (0, u "I"), (1, .class_ 14), (1, u "java/lang/Object"), (4, u "hash"), (86, .class_ 108), (1, u "java/lang/Enum$EnumDesc"), (2, .class_ 112), (0, u "java/lang/constant/Constable"), (0, .class_ 114), (0, u "java/lang/Comparable"), (0, .class_ 116), (0, u "java/io/Serializable")] 87

/-- java/lang/Enum -/
def k5 : Class := { plain "java/lang/Enum" (some 0) with
  accessFlags := 1057
  interfaces := #[2, 3, 4]
  cf := some (fileOf pool5 2 #[.nestMembers #[106]] #[] 1057 12 #[111, 113, 115] #[{ accessFlags := 18, nameIndex := 5, descriptorIndex := 6, attributes := #[] }, { accessFlags := 18, nameIndex := 9, descriptorIndex := 10, attributes := #[] }, { accessFlags := 2, nameIndex := 19, descriptorIndex := 10, attributes := #[] }])
  fields := #[{ name := "name", type := (.object "java/lang/String"), accessFlags := 18, slot := 0, constantValue := 0 }, { name := "ordinal", type := .int, accessFlags := 18, slot := 1, constantValue := 0 }, { name := "hash", type := .int, accessFlags := 2, slot := 2, constantValue := 0 }]
  methods := #[]
  instanceTypes := #[(.object "java/lang/String"), .int, .int]
  staticTypes := #[]
  resolved := Array.replicate 204 none
  statics := none }

def pool6 : Array CpInfo := pool [(1, .class_ 2), (0, u "com/example/distinguo/distinguo/model/Expr$BinaryOp"), (2, u "OR"), (0, u "Lcom/example/distinguo/distinguo/model/Expr$BinaryOp;"), (2, u "AND"), (2, u "EQ"), (2, u "NE"), (2, u "LT"), (2, u "LE"), (2, u "GT"), (2, u "GE"), (2, u "ADD"), (2, u "SUB"), (2, u "$VALUES"), (0, u "[Lcom/example/distinguo/distinguo/model/Expr$BinaryOp;"), (6, .class_ 46), (1, u "java/lang/Enum"), (8, u "symbol"), (0, u "Ljava/lang/String;"), (0, .fieldref 1 58), (0, .nameAndType 59 60), (0, u "binding"), (0, u "I"), (2, u "isComparison"), (0, u "()Z"), (37, u "COMPARISON"), (18, .class_ 122), (0, u "com/example/distinguo/distinguo/model/Expr")] 2

def k6c0 : Code := { maxStack := 2, maxLocals := 1, code := prog_53_method_6_code, exceptionTable := #[], attributes := #[] }
def k6m0 : Method := { name := "isComparison", desc := "()Z", sig := { parameters := [], returnType := some .boolean }, accessFlags := 1, code := some k6c0 }
/-- com/example/distinguo/distinguo/model/Expr$BinaryOp -/
def k6 : Class := { plain "com/example/distinguo/distinguo/model/Expr$BinaryOp" (some 5) with
  accessFlags := 16433
  interfaces := #[]
  cf := some (fileOf pool6 1 #[.nestHost 121] #[{ accessFlags := 1, nameIndex := 63, descriptorIndex := 64, attributes := #[] }] 16433 44 #[] #[{ accessFlags := 16409, nameIndex := 5, descriptorIndex := 6, attributes := #[] }, { accessFlags := 16409, nameIndex := 9, descriptorIndex := 6, attributes := #[] }, { accessFlags := 16409, nameIndex := 12, descriptorIndex := 6, attributes := #[] }, { accessFlags := 16409, nameIndex := 15, descriptorIndex := 6, attributes := #[] }, { accessFlags := 16409, nameIndex := 18, descriptorIndex := 6, attributes := #[] }, { accessFlags := 16409, nameIndex := 21, descriptorIndex := 6, attributes := #[] }, { accessFlags := 16409, nameIndex := 24, descriptorIndex := 6, attributes := #[] }, { accessFlags := 16409, nameIndex := 27, descriptorIndex := 6, attributes := #[] }, { accessFlags := 16409, nameIndex := 30, descriptorIndex := 6, attributes := #[] }, { accessFlags := 16409, nameIndex := 33, descriptorIndex := 6, attributes := #[] }, { accessFlags := 24, nameIndex := 102, descriptorIndex := 60, attributes := #[] }, { accessFlags := 18, nameIndex := 55, descriptorIndex := 56, attributes := #[] }, { accessFlags := 18, nameIndex := 59, descriptorIndex := 60, attributes := #[] }, { accessFlags := 4122, nameIndex := 36, descriptorIndex := 37, attributes := #[] }])
  fields := #[{ name := "OR", type := (.object "com/example/distinguo/distinguo/model/Expr$BinaryOp"), accessFlags := 16409, slot := 0, constantValue := 0 }, { name := "AND", type := (.object "com/example/distinguo/distinguo/model/Expr$BinaryOp"), accessFlags := 16409, slot := 1, constantValue := 0 }, { name := "EQ", type := (.object "com/example/distinguo/distinguo/model/Expr$BinaryOp"), accessFlags := 16409, slot := 2, constantValue := 0 }, { name := "NE", type := (.object "com/example/distinguo/distinguo/model/Expr$BinaryOp"), accessFlags := 16409, slot := 3, constantValue := 0 }, { name := "LT", type := (.object "com/example/distinguo/distinguo/model/Expr$BinaryOp"), accessFlags := 16409, slot := 4, constantValue := 0 }, { name := "LE", type := (.object "com/example/distinguo/distinguo/model/Expr$BinaryOp"), accessFlags := 16409, slot := 5, constantValue := 0 }, { name := "GT", type := (.object "com/example/distinguo/distinguo/model/Expr$BinaryOp"), accessFlags := 16409, slot := 6, constantValue := 0 }, { name := "GE", type := (.object "com/example/distinguo/distinguo/model/Expr$BinaryOp"), accessFlags := 16409, slot := 7, constantValue := 0 }, { name := "ADD", type := (.object "com/example/distinguo/distinguo/model/Expr$BinaryOp"), accessFlags := 16409, slot := 8, constantValue := 0 }, { name := "SUB", type := (.object "com/example/distinguo/distinguo/model/Expr$BinaryOp"), accessFlags := 16409, slot := 9, constantValue := 0 }, { name := "COMPARISON", type := .int, accessFlags := 24, slot := 10, constantValue := 0 }, { name := "symbol", type := (.object "java/lang/String"), accessFlags := 18, slot := 3, constantValue := 0 }, { name := "binding", type := .int, accessFlags := 18, slot := 4, constantValue := 0 }, { name := "$VALUES", type := (.array (.object "com/example/distinguo/distinguo/model/Expr$BinaryOp")), accessFlags := 4122, slot := 11, constantValue := 0 }]
  methods := #[k6m0]
  instanceTypes := #[(.object "java/lang/String"), .int, .int, (.object "java/lang/String"), .int]
  staticTypes := #[(.object "com/example/distinguo/distinguo/model/Expr$BinaryOp"), (.object "com/example/distinguo/distinguo/model/Expr$BinaryOp"), (.object "com/example/distinguo/distinguo/model/Expr$BinaryOp"), (.object "com/example/distinguo/distinguo/model/Expr$BinaryOp"), (.object "com/example/distinguo/distinguo/model/Expr$BinaryOp"), (.object "com/example/distinguo/distinguo/model/Expr$BinaryOp"), (.object "com/example/distinguo/distinguo/model/Expr$BinaryOp"), (.object "com/example/distinguo/distinguo/model/Expr$BinaryOp"), (.object "com/example/distinguo/distinguo/model/Expr$BinaryOp"), (.object "com/example/distinguo/distinguo/model/Expr$BinaryOp"), .int, (.array (.object "com/example/distinguo/distinguo/model/Expr$BinaryOp"))]
  resolved := Array.replicate 125 none
  statics := some 0 }

def pool7 : Array CpInfo := pool [(1, u "java/lang/Cloneable"), (0, .class_ 1), (0, u "java/lang/Object"), (0, .class_ 3)] 3

/-- java/lang/Cloneable -/
def k7 : Class := { plain "java/lang/Cloneable" (some 0) with
  accessFlags := 1537
  interfaces := #[]
  cf := some (fileOf pool7 2 #[] #[] 1537 4 #[] #[])
  fields := #[]
  methods := #[]
  instanceTypes := #[]
  staticTypes := #[]
  resolved := Array.replicate 8 none
  statics := none }

/-- the primitive boolean -/
def k8 : Class := { plain "boolean" none with kind := .primitive 'Z', accessFlags := 0x411 }
/-- [Z -/
def k9 : Class := { plain "[Z" (some 0) with kind := .array 8 .boolean, interfaces := #[7, 4], accessFlags := 1041 }

/-- the primitive byte -/
def k10 : Class := { plain "byte" none with kind := .primitive 'B', accessFlags := 0x411 }
/-- [B -/
def k11 : Class := { plain "[B" (some 0) with kind := .array 10 .byte, interfaces := #[7, 4], accessFlags := 1041 }

/-- the primitive int -/
def k12 : Class := { plain "int" none with kind := .primitive 'I', accessFlags := 0x411 }
/-- [I -/
def k13 : Class := { plain "[I" (some 0) with kind := .array 12 .int, interfaces := #[7, 4], accessFlags := 1041 }

/-- [Lcom/example/distinguo/distinguo/model/Expr$BinaryOp; -/
def k14 : Class := { plain "[Lcom/example/distinguo/distinguo/model/Expr$BinaryOp;" (some 0) with kind := .array 6 (.object "com/example/distinguo/distinguo/model/Expr$BinaryOp"), interfaces := #[7, 4], accessFlags := 1041 }

def heap : Heap := #[{ cls := 6, slots := #[.ref 1, .ref 2, .ref 3, .ref 4, .ref 5, .ref 6, .ref 7, .ref 8, .ref 9, .ref 10, .int 0, .null], vm := .statics 6 },
  { cls := 6, slots := #[.null, .int 0, .int 0, .null, .int 1], vm := .none },
  { cls := 6, slots := #[.null, .int 1, .int 0, .null, .int 2], vm := .none },
  { cls := 6, slots := #[.null, .int 2, .int 0, .null, .int 3], vm := .none },
  { cls := 6, slots := #[.null, .int 3, .int 0, .null, .int 3], vm := .none },
  { cls := 6, slots := #[.null, .int 4, .int 0, .null, .int 3], vm := .none },
  { cls := 6, slots := #[.null, .int 5, .int 0, .null, .int 3], vm := .none },
  { cls := 6, slots := #[.null, .int 6, .int 0, .null, .int 3], vm := .none },
  { cls := 6, slots := #[.null, .int 7, .int 0, .null, .int 3], vm := .none },
  { cls := 6, slots := #[.null, .int 8, .int 0, .null, .int 4], vm := .none },
  { cls := 6, slots := #[.null, .int 9, .int 0, .null, .int 4], vm := .none }]
def classes : Array Class := #[k0, k1, k2, k3, k4, k5, k6, k7, k8, k9, k10, k11, k12, k13, k14]
def interned : List (Array UInt16 × Addr) := []
def slotsUsed : Nat := 62
def theMethod : MethodId := ⟨1, 1⟩
def args0 : Array Value := #[.int 5]
def aboutOver (below : List Frame) : State where
  vm := { classes := classes, interned := interned.toArray }
  heap := heap
  slotsUsed := slotsUsed
  threads := #[{ frames := .invoking theMethod args0 :: below }]
def below0 : List Frame := [.native { method := ⟨0, 0⟩, args := #[] }]
def about1 : State := aboutOver below0
def p0 : Program := .bare "" "" ""
def e0 : Env := launch0.env 0 0 0
theorem w_frames : about1.frames = Frame.invoking theMethod args0 :: below0 := rfl
set_option maxRecDepth 65536 in
theorem w_args : argsFit about1.vm theMethod args0 = true := by decide +kernel
set_option maxRecDepth 65536 in
theorem w_heap : heapFits about1 = true := by decide +kernel
set_option maxRecDepth 65536 in
theorem w_runnable : about1.curStatus? = some .runnable := by decide +kernel
set_option maxRecDepth 65536 in
theorem w_alone : about1.alone = true := by decide +kernel
set_option maxRecDepth 65536 in
theorem w_named : about1.methodNamed? x = some theMethod := by decide +kernel
set_option maxRecDepth 65536 in
theorem w_hears : about1.hears theMethod below0 = true := by decide +kernel
set_option maxRecDepth 65536 in
theorem w_ripe : about1.ripe theMethod args0 below0 = true := by decide +kernel
theorem w_running : about1.status = .running := rfl
set_option maxRecDepth 65536 in
theorem w_room : about1.hasRoom e0.platform room_1 = true :=
  launch0.hasRoom_least _ room_1 (by decide +kernel) (by decide +kernel) (by decide +kernel) (by decide +kernel) (by decide +kernel) (by decide +kernel)
theorem allAtoms_all (ts : List Jvm.Cond) (a : Array Jvm.Value) (st : Jvm.State) : (allAtoms ts).before a st = ts.all (fun c => c.before a st) := by
  induction ts with
  | nil => rfl
  | cons c t ih =>
    show (Jvm.Cond.and c (allAtoms t)).before a st = _
    rw [Jvm.Cond.before_and, ih, List.all_cons]
def words1 : List Jvm.Cond := Jvm.Cond.code x code maxLocals ret :: tables_1
/-- a 'code' word, met by the world's own term for the bytes: nothing is compared byte by byte -/
theorem code_word {y : MethodName} {bytes : ByteArray} {mx : Nat} {rt : Option FieldType} {a : Array Value} {s : State} {m : MethodId} {meth : Method} {c : Code} (h1 : s.methodNamed? y = some m) (h2 : s.vm.method? m = some meth) (h3 : meth.code = some c) (h4 : c.code = bytes)
    (h5 : (c.maxLocals == mx && c.exceptionTable.isEmpty && decide (c.maxStack ≤ mostOperands) && decide (meth.sig.returnType = rt) && !meth.locks && decide (parseMethodDescriptor y.desc = some meth.sig)) = true) : (Jvm.Cond.code y bytes mx rt).before a s = true := by
  simp only [Bool.and_eq_true, beq_iff_eq, Bool.not_eq_true', decide_eq_true_eq] at h5
  obtain ⟨⟨⟨⟨⟨g1, g2⟩, g3⟩, g4⟩, g5⟩, g6⟩ := h5
  simp [Cond.before, Cond.holds, Cond.value, h1, h2, h3, h4, g1, g2, g3, g4, g5, g6]
def isCode : Jvm.Cond → Bool
  | .code _ _ _ _ => true
  | _ => false
theorem all_split {L : List Jvm.Cond} {P : Jvm.Cond → Bool} (h1 : L.all (fun c => isCode c || P c) = true) (h2 : ∀ c ∈ L.filter isCode, P c = true) : L.all P = true := by
  refine List.all_eq_true.mpr fun c hc => ?_
  have h := List.all_eq_true.mp h1 c hc
  rcases Bool.eq_false_or_eq_true (isCode c) with hi | hi
  · exact h2 c (List.mem_filter.mpr ⟨hc, hi⟩)
  · simpa [hi] using h
set_option maxRecDepth 65536 in
theorem w_c0 : (Jvm.Cond.code x code maxLocals ret).before args0 about1 = true := code_word (m := ⟨1, 1⟩) (meth := k1m1) (c := k1c1) (by decide +kernel) rfl rfl rfl (by decide +kernel)
set_option maxRecDepth 65536 in
theorem w_c1 : (Jvm.Cond.code ({ cls := "com/example/distinguo/distinguo/model/Expr$BinaryOp", name := "isComparison", desc := "()Z" } : Jvm.MethodName) prog_53_method_6_code (1 : Nat) (Option.some Jvm.ClassFile.FieldType.boolean)).before args0 about1 = true := code_word (m := ⟨6, 0⟩) (meth := k6m0) (c := k6c0) (by decide +kernel) rfl rfl rfl (by decide +kernel)
def codes1 : List Jvm.Cond := [Jvm.Cond.code x code maxLocals ret, Jvm.Cond.code ({ cls := "com/example/distinguo/distinguo/model/Expr$BinaryOp", name := "isComparison", desc := "()Z" } : Jvm.MethodName) prog_53_method_6_code (1 : Nat) (Option.some Jvm.ClassFile.FieldType.boolean)]
set_option maxRecDepth 65536 in
theorem codes_eq : words1.filter isCode = codes1 := rfl
theorem w_codes : ∀ c ∈ words1.filter isCode, c.before args0 about1 = true := by
  rw [codes_eq]
  intro c hc
  simp only [codes1, List.mem_cons, List.not_mem_nil, or_false] at hc
  rcases hc with rfl | rfl
  · exact w_c0
  · exact w_c1
set_option maxRecDepth 65536 in
theorem w_t1 : (words1.take 24).all (fun c => isCode c || c.before args0 about1) = true := by decide +kernel
set_option maxRecDepth 65536 in
theorem w_t2 : (words1.drop 24).all (fun c => isCode c || c.before args0 about1) = true := by decide +kernel
theorem w_tables : (allAtoms (Jvm.Cond.code x code maxLocals ret :: tables_1)).before args0 about1 = true := by
  rw [allAtoms_all]
  show words1.all (fun c => c.before args0 about1) = true
  refine all_split ?_ w_codes
  rw [← List.take_append_drop 24 words1, List.all_append, w_t1, w_t2]
  rfl
set_option maxRecDepth 65536 in
theorem w_case : (Jvm.Cond.and given_1 narrow_1).before args0 about1 = true := by decide +kernel
theorem w_applies : (headSpec (Jvm.Cond.code x code maxLocals ret :: tables_1) room_1).applies x e0.platform about1 = true :=
  (Spec.applies_iff w_frames).mpr ⟨w_running, w_runnable, w_alone, w_named, w_hears, w_ripe, w_room, w_tables⟩
theorem atStart : AtStart classFile x code maxLocals ret World_1 tables_1 room_1 Calls_1 rest_1 Pre_1 launch0 p0 e0 about1 theMethod args0 below0 :=
  ⟨lists_1, trivial, launch0.admits_env _ _ _, launch0.least_env, fairChoices_fair.cas, fairChoices_fair.clock, w_frames, w_args, w_heap, w_applies, trivial, trivial, w_case⟩
end start1
theorem witness_1 : WitnessClaimed_1 := ⟨start1.p0, start1.e0, start1.about1, start1.theMethod, start1.args0, start1.below0, start1.atStart⟩
end Jvm.Pilot.@@N@@
