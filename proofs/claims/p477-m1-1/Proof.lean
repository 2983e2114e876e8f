import JvmDerived
import JvmDerived.Pilot.@@N@@Statement
import JvmDerived.Pilot.@@N@@Code
set_option linter.unusedVariables false
set_option linter.unusedSimpArgs false
namespace Jvm.Pilot.@@N@@
open Jvm Jvm.ClassFile Sem Op Lib Jvm.Free Jvm.Stand Jvm.LawKit Jvm.RoadKit Bundle Jvm.Pilot.@@N@@.Jvm.D
/-! the walk in continuation form: 'Go' says that from here the body comes to its end with Q -/
def Go (EN : State → Outcome → State → List Loc → Nat → Nat → Prop) (p : Program) (e : Env) (below : List Frame) (s : State) (kc ks : Nat) (Q : Option Value → Heap → List Loc → Prop) (T : State) (g : JFrame) : Prop :=
  ∃ s₂ o, Steps p.tables e below (T.setTop g) s₂ ∧ s₂.status = .running ∧ Ended s₂ below o ∧ ∃ v L, o = .returned v ∧ Q v s₂.heap L ∧ EN s o s₂ L kc ks
section GoLaws
variable {p : Program} {l : Launch} {e : Env} {R : Room} {s : State} {m : MethodId} {args : Array Value} {below : List Frame} {meth : Method} {c : Code} {T T' : State} {locs : List Loc} {cells slots kc ks : Nat} {Q : Option Value → Heap → List Loc → Prop} {g g' : JFrame} {EN : State → Outcome → State → List Loc → Nat → Nat → Prop}
theorem Go.step (st : ∀ t, Steps p.tables e below (T'.setTop g') t → Steps p.tables e below (T.setTop g) t) (k : Go EN p e below s kc ks Q T' g') : Go EN p e below s kc ks Q T g := by
  obtain ⟨a, b, h1, h2⟩ := k
  exact ⟨a, b, st _ h1, h2⟩
theorem Go.trans (st : Steps p.tables e below (T.setTop g) (T'.setTop g')) (k : Go EN p e below s kc ks Q T' g') : Go EN p e below s kc ks Q T g := by
  obtain ⟨a, b, h1, h2⟩ := k
  exact ⟨a, b, st.trans h1, h2⟩
theorem Go.cast (q : g = g') (k : Go EN p e below s kc ks Q T g') : Go EN p e below s kc ks Q T g := q ▸ k
theorem Go.retN (X : Stand p l e R s m args below meth c T locs cells slots) (hx : p.tables.exec = Jvm.exec) {pc : Nat} {Ls : Array Slot} {z : Int32} {t : FieldType} {rest : List Value} (hret : meth.sig.returnType = some t) (ht : t = .boolean ∨ t = .byte ∨ t = .char ∨ t = .short) (hlk : meth.locks = false)
    (hd : decode c.code pc = .ok (.ireturn, 1)) (hc : cells ≤ kc) (hs : slots ≤ ks) (q : Q (some (.int (nar t z))) T.heap locs) : Go FrameEnd p e below s kc ks Q T (mkF m pc Ls (.int z :: rest)) := by
  obtain ⟨fs, hr, hrun, hended, hW, hsame⟩ := X.leave (v := some (.int (nar t z))) (fun h => by rw [hret] at h; cases h) hlk
  exact ⟨_, _, RoadKit.retN X hx hret ht hd hr, hrun, hended, _, _, rfl, q, ⟨_, rfl⟩, hW, hsame.mono hc hs⟩
theorem Go.retI (X : Stand p l e R s m args below meth c T locs cells slots) (hx : p.tables.exec = Jvm.exec) {pc : Nat} {Ls : Array Slot} {z : Int32} {rest : List Value} (hret : meth.sig.returnType = some .int) (hlk : meth.locks = false)
    (hd : decode c.code pc = .ok (.ireturn, 1)) (hc : cells ≤ kc) (hs : slots ≤ ks) (q : Q (some (.int z)) T.heap locs) : Go FrameEnd p e below s kc ks Q T (mkF m pc Ls (.int z :: rest)) := by
  obtain ⟨fs, hr, hrun, hended, hW, hsame⟩ := X.leave (v := some (.int z)) (fun h => by rw [hret] at h; cases h) hlk
  exact ⟨_, _, RoadKit.retOut X hx hret rfl (Or.inl ⟨rfl, Or.inl rfl, _, rfl⟩) hd hr, hrun, hended, _, _, rfl, q, ⟨_, rfl⟩, hW, hsame.mono hc hs⟩
theorem Go.retJ (X : Stand p l e R s m args below meth c T locs cells slots) (hx : p.tables.exec = Jvm.exec) {pc : Nat} {Ls : Array Slot} {z : Int64} {rest : List Value} (hret : meth.sig.returnType = some .long) (hlk : meth.locks = false)
    (hd : decode c.code pc = .ok (.lreturn, 1)) (hc : cells ≤ kc) (hs : slots ≤ ks) (q : Q (some (.long z)) T.heap locs) : Go FrameEnd p e below s kc ks Q T (mkF m pc Ls (.long z :: rest)) := by
  obtain ⟨fs, hr, hrun, hended, hW, hsame⟩ := X.leave (v := some (.long z)) (fun h => by rw [hret] at h; cases h) hlk
  exact ⟨_, _, RoadKit.retOut X hx hret rfl (Or.inr (Or.inl ⟨rfl, rfl, _, rfl⟩)) hd hr, hrun, hended, _, _, rfl, q, ⟨_, rfl⟩, hW, hsame.mono hc hs⟩
theorem Go.retA (X : Stand p l e R s m args below meth c T locs cells slots) (hx : p.tables.exec = Jvm.exec) {pc : Nat} {Ls : Array Slot} {z : Value} {t : FieldType} {rest : List Value} (hret : meth.sig.returnType = some t) (ht : t.isReference = true) (hz : z.isRef = true) (hlk : meth.locks = false)
    (hd : decode c.code pc = .ok (.areturn, 1)) (hc : cells ≤ kc) (hs : slots ≤ ks) (q : Q (some z) T.heap locs) : Go FrameEnd p e below s kc ks Q T (mkF m pc Ls (z :: rest)) := by
  obtain ⟨fs, hr, hrun, hended, hW, hsame⟩ := X.leave (v := some z) (fun h => by rw [hret] at h; cases h) hlk
  exact ⟨_, _, RoadKit.retOut X hx hret (by cases t <;> cases z <;> first | rfl | (cases ht; done) | (cases hz; done)) (Or.inr (Or.inr (Or.inr (Or.inr ⟨rfl, ht, hz⟩)))) hd hr, hrun, hended, _, _, rfl, q, ⟨_, rfl⟩, hW, hsame.mono hc hs⟩
theorem Go.retV (X : Stand p l e R s m args below meth c T locs cells slots) (hx : p.tables.exec = Jvm.exec) {pc : Nat} {Ls : Array Slot} (hret : meth.sig.returnType = none) (hlk : meth.locks = false)
    (hd : decode c.code pc = .ok (.return_, 1)) (hc : cells ≤ kc) (hs : slots ≤ ks) (q : Q none T.heap locs) : Go FrameEnd p e below s kc ks Q T (mkF m pc Ls []) := by
  obtain ⟨fs, hr, hrun, hended, hW, hsame⟩ := X.leave (v := none) (fun _ => rfl) hlk
  exact ⟨_, _, X.returnOut hx hret hd hr, hrun, hended, _, _, rfl, q, ⟨_, rfl⟩, hW, hsame.mono hc hs⟩
theorem rewMono {s t : State} {o : Outcome} {L : List Loc} {k n k' n' : Nat} (h : ReturnedEndW s o t L k n) (hk : k ≤ k') (hn : n ≤ n') : ReturnedEndW s o t L k' n' := ⟨h.1, h.2.1, h.2.2.1, h.2.2.2.mono hk hn⟩
theorem Go.retNW {vm0 : Vm} {k0 : Nat} (X : Stand p l e R (s.setVm vm0) m args below meth c T locs cells slots) (hS : s.Since vm0 k0) (hk : k0 ≤ T.heap.size) (hx : p.tables.exec = Jvm.exec) {pc : Nat} {Ls : Array Slot} {z : Int32} {t : FieldType} {rest : List Value} (hret : meth.sig.returnType = some t) (ht : t = .boolean ∨ t = .byte ∨ t = .char ∨ t = .short) (hlk : meth.locks = false)
    (hd : decode c.code pc = .ok (.ireturn, 1)) (hc : cells ≤ kc) (hs : slots ≤ ks) (q : Q (some (.int (nar t z))) T.heap locs) : Go ReturnedEndW p e below s kc ks Q T (mkF m pc Ls (.int z :: rest)) := by
  obtain ⟨fs, hr, hrun, hended, hW⟩ := X.leaveW hS hk (v := some (.int (nar t z))) (fun h => by rw [hret] at h; cases h) hlk
  exact ⟨_, _, RoadKit.retN X hx hret ht hd hr, hrun, hended, _, _, rfl, q, rewMono hW hc hs⟩
theorem Go.retIW {vm0 : Vm} {k0 : Nat} (X : Stand p l e R (s.setVm vm0) m args below meth c T locs cells slots) (hS : s.Since vm0 k0) (hk : k0 ≤ T.heap.size) (hx : p.tables.exec = Jvm.exec) {pc : Nat} {Ls : Array Slot} {z : Int32} {rest : List Value} (hret : meth.sig.returnType = some .int) (hlk : meth.locks = false)
    (hd : decode c.code pc = .ok (.ireturn, 1)) (hc : cells ≤ kc) (hs : slots ≤ ks) (q : Q (some (.int z)) T.heap locs) : Go ReturnedEndW p e below s kc ks Q T (mkF m pc Ls (.int z :: rest)) := by
  obtain ⟨fs, hr, hrun, hended, hW⟩ := X.leaveW hS hk (v := some (.int z)) (fun h => by rw [hret] at h; cases h) hlk
  exact ⟨_, _, RoadKit.retOut X hx hret rfl (Or.inl ⟨rfl, Or.inl rfl, _, rfl⟩) hd hr, hrun, hended, _, _, rfl, q, rewMono hW hc hs⟩
theorem Go.retJW {vm0 : Vm} {k0 : Nat} (X : Stand p l e R (s.setVm vm0) m args below meth c T locs cells slots) (hS : s.Since vm0 k0) (hk : k0 ≤ T.heap.size) (hx : p.tables.exec = Jvm.exec) {pc : Nat} {Ls : Array Slot} {z : Int64} {rest : List Value} (hret : meth.sig.returnType = some .long) (hlk : meth.locks = false)
    (hd : decode c.code pc = .ok (.lreturn, 1)) (hc : cells ≤ kc) (hs : slots ≤ ks) (q : Q (some (.long z)) T.heap locs) : Go ReturnedEndW p e below s kc ks Q T (mkF m pc Ls (.long z :: rest)) := by
  obtain ⟨fs, hr, hrun, hended, hW⟩ := X.leaveW hS hk (v := some (.long z)) (fun h => by rw [hret] at h; cases h) hlk
  exact ⟨_, _, RoadKit.retOut X hx hret rfl (Or.inr (Or.inl ⟨rfl, rfl, _, rfl⟩)) hd hr, hrun, hended, _, _, rfl, q, rewMono hW hc hs⟩
theorem Go.retAW {vm0 : Vm} {k0 : Nat} (X : Stand p l e R (s.setVm vm0) m args below meth c T locs cells slots) (hS : s.Since vm0 k0) (hk : k0 ≤ T.heap.size) (hx : p.tables.exec = Jvm.exec) {pc : Nat} {Ls : Array Slot} {z : Value} {t : FieldType} {rest : List Value} (hret : meth.sig.returnType = some t) (ht : t.isReference = true) (hz : z.isRef = true) (hlk : meth.locks = false)
    (hd : decode c.code pc = .ok (.areturn, 1)) (hc : cells ≤ kc) (hs : slots ≤ ks) (q : Q (some z) T.heap locs) : Go ReturnedEndW p e below s kc ks Q T (mkF m pc Ls (z :: rest)) := by
  obtain ⟨fs, hr, hrun, hended, hW⟩ := X.leaveW hS hk (v := some z) (fun h => by rw [hret] at h; cases h) hlk
  exact ⟨_, _, RoadKit.retOut X hx hret (by cases t <;> cases z <;> first | rfl | (cases ht; done) | (cases hz; done)) (Or.inr (Or.inr (Or.inr (Or.inr ⟨rfl, ht, hz⟩)))) hd hr, hrun, hended, _, _, rfl, q, rewMono hW hc hs⟩
theorem Go.retVW {vm0 : Vm} {k0 : Nat} (X : Stand p l e R (s.setVm vm0) m args below meth c T locs cells slots) (hS : s.Since vm0 k0) (hk : k0 ≤ T.heap.size) (hx : p.tables.exec = Jvm.exec) {pc : Nat} {Ls : Array Slot} (hret : meth.sig.returnType = none) (hlk : meth.locks = false)
    (hd : decode c.code pc = .ok (.return_, 1)) (hc : cells ≤ kc) (hs : slots ≤ ks) (q : Q none T.heap locs) : Go ReturnedEndW p e below s kc ks Q T (mkF m pc Ls []) := by
  obtain ⟨fs, hr, hrun, hended, hW⟩ := X.leaveW hS hk (v := none) (fun _ => rfl) hlk
  exact ⟨_, _, X.returnOut hx hret hd hr, hrun, hended, _, _, rfl, q, rewMono hW hc hs⟩
theorem extRfl (h : Heap) : Ext h h := ⟨Nat.le_refl _, fun _ _ q => q⟩
theorem extTr {h1 h2 h3 : Heap} (A : Ext h1 h2) (B : Ext h2 h3) : Ext h1 h3 := ⟨Nat.le_trans A.1 B.1, fun a c q => B.2 a c (A.2 a c q)⟩
theorem extKeep {h1 h2 h3 : Heap} {ws : List Addr} (A : Ext h1 h2) (K : Keep h2 h3 ws) (q : ∀ x ∈ ws, h1.size ≤ x) : Ext h1 h3 := ⟨Nat.le_trans A.1 K.1, fun a c r => K.2.1 a c (A.2 a c r) fun z => absurd (Array.getElem?_eq_some_iff.mp r).1 (Nat.not_lt.mpr (q a z))⟩
theorem extWr {h1 h2 h3 : Heap} {a : Addr} {sl : Nat} {v : Value} (A : Ext h1 h2) (W : Wr h2 h3 a sl v) (q : h1.size ≤ a) : Ext h1 h3 := extKeep A (Keep.of_wr W) (allS q all0)
end GoLaws
theorem fldStart {Z : State} {args : Array Value} {t : Jvm.Term} {a : Addr} {C n d : String} {k : Int32} (ev : t.eval args Z none [] Z = some (.ref a)) (h : (Jvm.Cond.eq (.field t C n d) (.int k)).value args Z none Z [] = some true) : Fld Z Z.heap a C n d (.int k) :=
  Fld.start ((fld_at ev).symm.trans (eqv_i (Term.int_eval k) h))
/-- putfield through an entry that the sheet says resolved -/
theorem putRdy {p : Program} {l : Launch} {e : Env} {R : Room} {s : State} {m : MethodId} {args : Array Value} {below : List Frame} {meth : Method} {c : Code} {T : State} {locs : List Loc} {cells slots : Nat} {Z : State} {a0 : Array Value} {h : Heap}
    (X : Stand p l e R s m args below meth c T locs cells slots) (hx : p.tables.exec = Jvm.exec) (hZ : Z.Warmed39 s.vm) {own O n d C : String} {index kk : Nat} {ty : FieldType} (hown : s.vm.findClass own = some m.cls) (w : (Jvm.Cond.fieldRef own index O n d).before a0 Z = true)
    (eT : T.heap = h) {a : Addr} {v old : Value} (F : Fld Z h a O n d old) (E : Exa Z h a C) (L : (Jvm.Cond.lays C O n d).before a0 Z = true) (wi : (Jvm.Cond.instantiable C kk).before a0 Z = true)
    (hty : parseFieldDescriptor d = some ty) (hn : narrow ty v = v) (hf : fits ty v = true) {g : JFrame} (hg : g.method = m) {rest : List Value} (hs : g.stack = v :: .ref a :: rest) (hd : decode c.code g.pc = .ok (.putfield index, 3)) :
    ∃ T' h', Stand p l e R s m args below meth c T' (locs ++ [⟨a, Jvm.RoadKit.slotOf Z O n d⟩]) cells slots ∧ T'.heap = h' ∧ Wr h h' a (Jvm.RoadKit.slotOf Z O n d) v ∧ ∀ target, Steps p.tables e below (T'.setTop { g with pc := g.pc + 3, stack := rest }) target → Steps p.tables e below (T.setTop g) target := by
  have hT : Z.Warmed39 T.vm := wtrans hZ X.warmed
  obtain ⟨cell, cf, k, i, f, h1, h2, h3, h4, h5, -, h7⟩ := F
  obtain ⟨cell', kc, e1, e2, e3, -⟩ := E
  cases h1.symm.trans e1
  obtain ⟨c1, k1, cf1, kf1, i1, f1, a1, a2, a3, -, -, a6, -⟩ := Laid.spec (Or.inl L)
  cases h2.symm.trans a3
  cases e2.symm.trans a1
  obtain ⟨c2, k2, i1, i2, i3, -⟩ := Cond.instantiable_spec wi
  cases e2.symm.trans i1
  cases a2.symm.trans i2
  have ht := (State.fieldFound?_type h2 hty).2
  have hfit : Z.fitsSlot cell.cls cell.vm f.slot v = true := by
    have q : Z.slotType? cell.cls cell.vm f.slot = some ty := by
      simp only [State.slotType?, a2, Option.bind_eq_bind, Option.bind_some, i3]
      cases hq : cell.vm <;> first | (rw [hq] at h5; exact Bool.noConfusion h5) | (rw [a6, ht])
    simp [State.fitsSlot, q, hf]
  have hfitT : T.fitsSlot cell.cls cell.vm f.slot v = true := by rw [← State.fitsSlot_setVm hT.alike] at hfit; exact hfit
  obtain ⟨_, _, _, _, _, _, -, -, b3, -, b5, -⟩ := Cond.lays_spec L
  cases h2.symm.trans b3
  have hcur : (Z.setVm T.vm).vm.findClass own = some m.cls := by
    show T.vm.findClass own = _
    rw [hT.alike.findClass, ← hZ.alike.findClass]; exact hown
  obtain ⟨cq, kq, iq, fq, q1, q2⟩ := Cond.fieldRef_spec hcur (Cond.fieldRef_warmed39 hT w)
  obtain ⟨k', q3, -⟩ := State.fieldFound?_setVm (s := Z) hT.alike h2
  cases q1.symm.trans q3
  have hlt := (Array.getElem?_eq_some_iff.mp h7).1
  have es : Jvm.RoadKit.slotOf Z O n d = f.slot := by simp [Jvm.RoadKit.slotOf, h2]
  rw [es]
  obtain ⟨X', st⟩ := X.putfieldReady hx q2 h3 (Or.inl b5) (by rw [eT]; exact h1) h4 hlt (by rw [ht]; exact hn) hfitT hg hs hd
  exact ⟨_, _, X', rfl, ⟨cell, h1, h5, hlt, by rw [← eT]; rfl⟩, st⟩
theorem d2_0 : decode jdk_30_method_1_code 0 = .ok (.aload_n 0, 1) := by decide +kernel
theorem d2_1 : decode jdk_30_method_1_code 1 = .ok (.invokespecial 1, 3) := by decide +kernel
theorem d2_4 : decode jdk_30_method_1_code 4 = .ok (.return_, 1) := by decide +kernel
theorem pn_2 : plainName "java/lang/Record" = true := by first | (simp [plainName, overriddenIn]; done) | decide +kernel
theorem ef_2 (m : MethodId) (y0 : Addr) : entryFrame m #[(.ref y0)] 1 = mkF m 0 #[.val (.ref y0)] [] := by first | (simp [entryFrame, mkF, argsToLocals, Value.category]; done) | rfl
def Q_2 (Z : State) (x0 : Addr) (h0 : Heap) (v : Option Value) (h : Heap) (L : List Loc) : Prop := v = none ∧ Fr Z.heap.size L ∧ h = h0
set_option maxRecDepth 65536 in
set_option maxHeartbeats 40000000 in
theorem rm_2 (l : Launch) (Z : State) (a0 : Array Value) (hw : ∀ d ∈ tables_1, d.before a0 Z = true) (ws : List Jvm.Cond) (x0 : Addr) (h0 : Heap) (O0 : Ext Z.heap h0) :
    MetFree l (⟨"java/lang/Record", "<init>", "()V"⟩ : MethodName) (head1 (Jvm.Cond.code (⟨"java/lang/Record", "<init>", "()V"⟩ : MethodName) jdk_30_method_1_code 1 none :: ws) ({ frames := 1, cells := 0, slots := 0, locals := 12 } : Room)) (fun a U => a = #[(.ref x0)] ∧ Z.Warmed39 U.vm ∧ U.heap = h0) (fun _ _ _ _ _ => True) (fun _ U o U' => ∃ v L, o = .returned v ∧ Q_2 Z x0 h0 v U'.heap L ∧ FrameEnd U o U' L ({ frames := 1, cells := 0, slots := 0, locals := 12 } : Room).cells ({ frames := 1, cells := 0, slots := 0, locals := 12 } : Room).slots) := by
  refine MetFree.of_bodySF (plainFor_of_name pn_2) hisR ?_
  intro p e s m args below meth c s₁ Bd hml0 hP hK
  obtain ⟨rfl, hZ, hh⟩ := hP
  have hx := Bd.exec
  have hby := Bd.bytes
  have hlk := Bd.notSynchronized
  have hml : c.maxLocals = 1 := hml0
  have hown : s.vm.findClass "java/lang/Record" = some m.cls := findClass_of_methodNamed Bd.named
  have hnm := (name_of_methodNamed Bd.named Bd.method).1
  have X0 : Stand p l e ({ frames := 1, cells := 0, slots := 0, locals := 12 } : Room) s m #[(.ref x0)] below meth c s₁ [] 0 0 := Stand.of_body Bd
  have e0 : s₁.heap = h0 := by rw [← hh, Bd.state]; rfl
  have N0 := Fr.nil Z.heap.size
  show Go FrameEnd p e below s ({ frames := 1, cells := 0, slots := 0, locals := 12 } : Room).cells ({ frames := 1, cells := 0, slots := 0, locals := 12 } : Room).slots (Q_2 Z x0 h0) s₁ (entryFrame m #[(.ref x0)] 1)
  refine Go.cast (ef_2 m x0) ?_
  show Go _ _ _ _ _ _ _ _ s₁ (mkF m 0 #[.val (.ref x0)] [])
  refine Go.step (fun _ k => XS.aloadN X0.here hx rfl (hb hby d2_0) rfl rfl k) ?_
  show Go _ _ _ _ _ _ _ _ s₁ (mkF m 1 #[.val (.ref x0)] [(.ref x0)])
  obtain ⟨T1, X1, e1, st1⟩ := initO X0 hx hZ hown (hw _ (List.mem_of_getElem? (i := 11) rfl)) (hw _ (List.mem_of_getElem? (i := 12) rfl)) (hw _ (List.mem_of_getElem? (i := 13) rfl)) e0 (g := (mkF m 1 #[.val (.ref x0)] [(.ref x0)])) rfl (by rw [hml]; rfl) rfl (hb hby d2_1) (by decide) (W := 0) (by show 2 * 0 + _ ≤ _; exact Nat.le_of_eq rfl) (by decide)
  refine Go.step st1 ?_
  show Go _ _ _ _ _ _ _ _ T1 (mkF m 4 #[.val (.ref x0)] [])
  exact Go.retV X1 hx Bd.returns hlk (hb hby d2_4) (by decide) (by decide) (by show _ ∧ _ ∧ _; rw [e1]; exact ⟨rfl, N0, rfl⟩)
theorem d1_0 : decode prog_18_method_1_code 0 = .ok (.aload_n 0, 1) := by decide +kernel
theorem d1_1 : decode prog_18_method_1_code 1 = .ok (.invokespecial 1, 3) := by decide +kernel
theorem pd_LRV : parseMethodDescriptor "()V" = some ⟨[], none⟩ := by decide +kernel
theorem d1_4 : decode prog_18_method_1_code 4 = .ok (.aload_n 0, 1) := by decide +kernel
theorem d1_5 : decode prog_18_method_1_code 5 = .ok (.iload_n 1, 1) := by decide +kernel
theorem d1_6 : decode prog_18_method_1_code 6 = .ok (.putfield 7, 3) := by decide +kernel
theorem d1_9 : decode prog_18_method_1_code 9 = .ok (.aload_n 0, 1) := by decide +kernel
theorem d1_10 : decode prog_18_method_1_code 10 = .ok (.lload_n 2, 1) := by decide +kernel
theorem d1_11 : decode prog_18_method_1_code 11 = .ok (.putfield 13, 3) := by decide +kernel
theorem d1_14 : decode prog_18_method_1_code 14 = .ok (.return_, 1) := by decide +kernel
theorem pn_1 : plainName "com/example/clean_epoch/cleanepoch/log/EpochEnd" = true := by first | (simp [plainName, overriddenIn]; done) | decide +kernel
theorem ef_1 (m : MethodId) (y0 : Addr) (y1 : Int32) (y2 : Int64) : entryFrame m #[(.ref y0), (.int y1), (.long y2)] 4 = mkF m 0 #[.val (.ref y0), .val (.int y1), .val (.long y2), .second] [] := by first | (simp [entryFrame, mkF, argsToLocals, Value.category]; done) | rfl
def Q_1 (Z : State) (x0 : Addr) (x1 : Int32) (x2 : Int64) (h0 : Heap) (v : Option Value) (h : Heap) (L : List Loc) : Prop := v = none ∧ Fr Z.heap.size L ∧ Keep h0 h [x0] ∧ Fld Z h x0 "com/example/clean_epoch/cleanepoch/log/EpochEnd" "epoch" "I" (.int x1) ∧ Fld Z h x0 "com/example/clean_epoch/cleanepoch/log/EpochEnd" "endOffset" "J" (.long x2)
set_option maxRecDepth 65536 in
set_option maxHeartbeats 40000000 in
theorem rm_1 (l : Launch) (Z : State) (a0 : Array Value) (hw : ∀ d ∈ tables_1, d.before a0 Z = true) (ws : List Jvm.Cond) (x0 : Addr) (x1 : Int32) (x2 : Int64) (h0 : Heap) (O0 : Ext Z.heap h0) (E_x : Exa Z h0 x0 "com/example/clean_epoch/cleanepoch/log/EpochEnd") (F_e : Fld Z h0 x0 "com/example/clean_epoch/cleanepoch/log/EpochEnd" "epoch" "I" (.int (0 : Int32))) (F_o : Fld Z h0 x0 "com/example/clean_epoch/cleanepoch/log/EpochEnd" "endOffset" "J" (.long (0 : Int64))) (g_x0 : Z.heap.size ≤ x0) :
    MetFree l (⟨"com/example/clean_epoch/cleanepoch/log/EpochEnd", "<init>", "(IJ)V"⟩ : MethodName) (head1 (Jvm.Cond.code (⟨"com/example/clean_epoch/cleanepoch/log/EpochEnd", "<init>", "(IJ)V"⟩ : MethodName) prog_18_method_1_code 4 none :: ws) ({ frames := 2, cells := 0, slots := 0, locals := 24 } : Room)) (fun a U => a = #[(.ref x0), (.int x1), (.long x2)] ∧ Z.Warmed39 U.vm ∧ U.heap = h0) (fun _ _ _ _ _ => True) (fun _ U o U' => ∃ v L, o = .returned v ∧ Q_1 Z x0 x1 x2 h0 v U'.heap L ∧ FrameEnd U o U' L ({ frames := 2, cells := 0, slots := 0, locals := 24 } : Room).cells ({ frames := 2, cells := 0, slots := 0, locals := 24 } : Room).slots) := by
  refine MetFree.of_bodySF (plainFor_of_name pn_1) hisR ?_
  intro p e s m args below meth c s₁ Bd hml0 hP hK
  obtain ⟨rfl, hZ, hh⟩ := hP
  have hx := Bd.exec
  have hby := Bd.bytes
  have hlk := Bd.notSynchronized
  have hml : c.maxLocals = 4 := hml0
  have hown : s.vm.findClass "com/example/clean_epoch/cleanepoch/log/EpochEnd" = some m.cls := findClass_of_methodNamed Bd.named
  have hnm := (name_of_methodNamed Bd.named Bd.method).1
  have X0 : Stand p l e ({ frames := 2, cells := 0, slots := 0, locals := 24 } : Room) s m #[(.ref x0), (.int x1), (.long x2)] below meth c s₁ [] 0 0 := Stand.of_body Bd
  have e0 : s₁.heap = h0 := by rw [← hh, Bd.state]; rfl
  have N0 := Fr.nil Z.heap.size
  show Go FrameEnd p e below s ({ frames := 2, cells := 0, slots := 0, locals := 24 } : Room).cells ({ frames := 2, cells := 0, slots := 0, locals := 24 } : Room).slots (Q_1 Z x0 x1 x2 h0) s₁ (entryFrame m #[(.ref x0), (.int x1), (.long x2)] 4)
  refine Go.cast (ef_1 m x0 x1 x2) ?_
  show Go _ _ _ _ _ _ _ _ s₁ (mkF m 0 #[.val (.ref x0), .val (.int x1), .val (.long x2), .second] [])
  refine Go.step (fun _ k => XS.aloadN X0.here hx rfl (hb hby d1_0) rfl rfl k) ?_
  show Go _ _ _ _ _ _ _ _ s₁ (mkF m 1 #[.val (.ref x0), .val (.int x1), .val (.long x2), .second] [(.ref x0)])
  obtain ⟨_, _, ⟨T1, L1, k1, n1⟩, -, X1, ⟨Lc1, hQ1, l1, y1, z1⟩, st1⟩ := X0.specialBack hx (y := (⟨"java/lang/Record", "<init>", "()V"⟩ : MethodName)) rfl hown (mvT hZ (hw _ (List.mem_of_getElem? (i := 6) rfl))) (mvT hZ (hw _ (List.mem_of_getElem? (i := 7) rfl))) (mvT hZ (hw _ (List.mem_of_getElem? (i := 10) rfl))) (by decide) (backOf (W := 0) (rm_2 l Z a0 hw [] x0 h0 O0) hZ (hw _ (List.mem_of_getElem? (i := 10) rfl)) (hw _ (List.mem_of_getElem? (i := 9) rfl)) (by decide) (by decide)) (g := (mkF m 1 #[.val (.ref x0), .val (.int x1), .val (.long x2), .second] [(.ref x0)])) rfl (by rw [hml]; rfl) (Steps.refl _) (a := x0) (argsL := []) (rest := []) (lenOf pd_LRV rfl) rfl (by show 2 * 0 + _ ≤ _; exact Nat.le_of_eq rfl) (hb hby d1_1) (fun _ _ => ⟨rfl, e0, (by decide : 0 + 0 ≤ _), (by decide : 0 + 0 ≤ _)⟩)
  dsimp only [Pt.U, Pt.locs, Pt.cells, Pt.slots] at X1 l1 y1 z1 st1 hQ1
  subst l1 y1 z1
  obtain ⟨rfl, Nq1, e1⟩ := hQ1
  have N1_ := Fr.app N0 Nq1
  refine Go.trans st1 ?_
  show Go _ _ _ _ _ _ _ _ T1 (mkF m 4 #[.val (.ref x0), .val (.int x1), .val (.long x2), .second] [])
  refine Go.step (fun _ k => XS.aloadN X1.here hx rfl (hb hby d1_4) rfl rfl k) ?_
  show Go _ _ _ _ _ _ _ _ T1 (mkF m 5 #[.val (.ref x0), .val (.int x1), .val (.long x2), .second] [(.ref x0)])
  refine Go.step (fun _ k => XS.iloadN X1.here hx rfl (hb hby d1_5) rfl k) ?_
  show Go _ _ _ _ _ _ _ _ T1 (mkF m 6 #[.val (.ref x0), .val (.int x1), .val (.long x2), .second] [(.int x1), (.ref x0)])
  obtain ⟨T2, h2, X2, e2, W2, st2⟩ := putF X1 hx hZ hown (host := "") (Or.inl (hw _ (List.mem_of_getElem? (i := 14) rfl))) Via.refl e1 F_e E_x (Or.inr ⟨(hw _ (List.mem_of_getElem? (i := 15) rfl)), rfl, hnm⟩) (hw _ (List.mem_of_getElem? (i := 1) rfl)) (ty := .int) (by decide) rfl rfl (g := (mkF m 6 #[.val (.ref x0), .val (.int x1), .val (.long x2), .second] [(.int x1), (.ref x0)])) rfl rfl (hb hby d1_6)
  refine Go.step st2 ?_
  have N2_ := Fr.snoc X2 N1_ g_x0
  have O2_ : Ext Z.heap h2 := extWr O0 W2 g_x0
  have K2 := Keep.wr (Keep.refl h0 [x0]) W2 (Or.inl (List.mem_of_getElem? (i := 0) rfl))
  have F2 := Fld.same W2 F_e
  show Go _ _ _ _ _ _ _ _ T2 (mkF m 9 #[.val (.ref x0), .val (.int x1), .val (.long x2), .second] [])
  refine Go.step (fun _ k => XS.aloadN X2.here hx rfl (hb hby d1_9) rfl rfl k) ?_
  show Go _ _ _ _ _ _ _ _ T2 (mkF m 10 #[.val (.ref x0), .val (.int x1), .val (.long x2), .second] [(.ref x0)])
  refine Go.step (fun _ k => XS.lloadN X2.here hx rfl (hb hby d1_10) rfl k) ?_
  show Go _ _ _ _ _ _ _ _ T2 (mkF m 11 #[.val (.ref x0), .val (.int x1), .val (.long x2), .second] [(.long x2), (.ref x0)])
  have f3 := (Fld.other W2 F_o (Or.inr (slot_ne (Or.inr (hw _ (List.mem_of_getElem? (i := 17) rfl))) (Or.inr (hw _ (List.mem_of_getElem? (i := 15) rfl))) (by decide) (t := .long) (t' := .int) (by decide) (by decide))))
  obtain ⟨T4, h4, X4, e4, W4, st4⟩ := putF X2 hx hZ hown (host := "") (Or.inl (hw _ (List.mem_of_getElem? (i := 16) rfl))) Via.refl e2 f3 (Exa.wr W2 E_x) (Or.inr ⟨(hw _ (List.mem_of_getElem? (i := 17) rfl)), rfl, hnm⟩) (hw _ (List.mem_of_getElem? (i := 1) rfl)) (ty := .long) (by decide) rfl rfl (g := (mkF m 11 #[.val (.ref x0), .val (.int x1), .val (.long x2), .second] [(.long x2), (.ref x0)])) rfl rfl (hb hby d1_11)
  refine Go.step st4 ?_
  have N4_ := Fr.snoc X4 N2_ g_x0
  have O4_ : Ext Z.heap h4 := extWr O2_ W4 g_x0
  have K4 := Keep.wr K2 W4 (Or.inl (List.mem_of_getElem? (i := 0) rfl))
  have F4 := Fld.same W4 f3
  show Go _ _ _ _ _ _ _ _ T4 (mkF m 14 #[.val (.ref x0), .val (.int x1), .val (.long x2), .second] [])
  exact Go.retV X4 hx Bd.returns hlk (hb hby d1_14) (by decide) (by decide) (by show _ ∧ _ ∧ _; rw [e4]; exact ⟨rfl, N4_, K4, (Fld.other W4 F2 (Or.inr (slot_ne (Or.inr (hw _ (List.mem_of_getElem? (i := 15) rfl))) (Or.inr (hw _ (List.mem_of_getElem? (i := 17) rfl))) (by decide) (t := .int) (t' := .long) (by decide) (by decide)))), F4⟩)
theorem d4_0 : decode prog_18_method_2_code 0 = .ok (.aload_n 0, 1) := by decide +kernel
theorem d4_1 : decode prog_18_method_2_code 1 = .ok (.getfield 7, 3) := by decide +kernel
theorem d4_4 : decode prog_18_method_2_code 4 = .ok (.getstatic 17, 3) := by decide +kernel
theorem d4_7 : decode prog_18_method_2_code 7 = .ok (.getfield 7, 3) := by decide +kernel
theorem d4_10 : decode prog_18_method_2_code 10 = .ok (.if_icmp .eq 27, 3) := by decide +kernel
theorem d4_37 : decode prog_18_method_2_code 37 = .ok (.iconst 1, 1) := by decide +kernel
theorem d4_38 : decode prog_18_method_2_code 38 = .ok (.goto 4, 3) := by decide +kernel
theorem d4_42 : decode prog_18_method_2_code 42 = .ok (.ireturn, 1) := by decide +kernel
theorem d4_13 : decode prog_18_method_2_code 13 = .ok (.aload_n 0, 1) := by decide +kernel
theorem d4_14 : decode prog_18_method_2_code 14 = .ok (.getfield 7, 3) := by decide +kernel
theorem d4_17 : decode prog_18_method_2_code 17 = .ok (.ifCond .lt 24, 3) := by decide +kernel
theorem d4_41 : decode prog_18_method_2_code 41 = .ok (.iconst 0, 1) := by decide +kernel
theorem d4_20 : decode prog_18_method_2_code 20 = .ok (.aload_n 0, 1) := by decide +kernel
theorem d4_21 : decode prog_18_method_2_code 21 = .ok (.getfield 7, 3) := by decide +kernel
theorem d4_24 : decode prog_18_method_2_code 24 = .ok (.iload_n 1, 1) := by decide +kernel
theorem d4_25 : decode prog_18_method_2_code 25 = .ok (.if_icmp .gt 16, 3) := by decide +kernel
theorem d4_28 : decode prog_18_method_2_code 28 = .ok (.aload_n 0, 1) := by decide +kernel
theorem d4_29 : decode prog_18_method_2_code 29 = .ok (.getfield 13, 3) := by decide +kernel
theorem d4_32 : decode prog_18_method_2_code 32 = .ok (.lconst 0, 1) := by decide +kernel
theorem d4_33 : decode prog_18_method_2_code 33 = .ok (.lcmp, 1) := by decide +kernel
theorem d4_34 : decode prog_18_method_2_code 34 = .ok (.ifCond .lt 7, 3) := by decide +kernel
theorem pn_4 : plainName "com/example/clean_epoch/cleanepoch/log/EpochEnd" = true := by first | (simp [plainName, overriddenIn]; done) | decide +kernel
theorem ef_4 (m : MethodId) (y0 : Addr) (y1 : Int32) : entryFrame m #[(.ref y0), (.int y1)] 2 = mkF m 0 #[.val (.ref y0), .val (.int y1)] [] := by first | (simp [entryFrame, mkF, argsToLocals, Value.category]; done) | rfl
def Q_4 (Z : State) (x0 : Addr) (x1 : Int32) (ep : Int32) (eo : Int64) (nA : Addr) (r : Int32) (h0 : Heap) (v : Option Value) (h : Heap) (L : List Loc) : Prop := v = some (.int r) ∧ Fr Z.heap.size L ∧ h = h0
set_option maxRecDepth 65536 in
set_option maxHeartbeats 40000000 in
theorem rm_4 (l : Launch) (Z : State) (a0 : Array Value) (hw : ∀ d ∈ tables_1, d.before a0 Z = true) (ws : List Jvm.Cond) (x0 : Addr) (x1 : Int32) (ep : Int32) (eo : Int64) (nA : Addr) (r : Int32) (h0 : Heap) (O0 : Ext Z.heap h0) (F_e : Fld Z h0 x0 "com/example/clean_epoch/cleanepoch/log/EpochEnd" "epoch" "I" (.int ep)) (F_o : Fld Z h0 x0 "com/example/clean_epoch/cleanepoch/log/EpochEnd" "endOffset" "J" (.long eo)) (S_N : Sta Z Z.heap "com/example/clean_epoch/cleanepoch/log/EpochEnd" "NONE" "Lcom/example/clean_epoch/cleanepoch/log/EpochEnd;" (.ref nA)) (F_n : Fld Z Z.heap nA "com/example/clean_epoch/cleanepoch/log/EpochEnd" "epoch" "I" (.int (-1 : Int32))) (hr : r = if ep = -1 then 1 else if ep < 0 then 0 else if x1 < ep then 0 else if eo < 0 then 0 else 1) :
    MetFree l (⟨"com/example/clean_epoch/cleanepoch/log/EpochEnd", "answers", "(I)Z"⟩ : MethodName) (head1 (Jvm.Cond.code (⟨"com/example/clean_epoch/cleanepoch/log/EpochEnd", "answers", "(I)Z"⟩ : MethodName) prog_18_method_2_code 2 (some .boolean) :: ws) ({ frames := 0, cells := 0, slots := 0, locals := 0 } : Room)) (fun a U => a = #[(.ref x0), (.int x1)] ∧ Z.Warmed39 U.vm ∧ U.heap = h0) (fun _ _ _ _ _ => True) (fun _ U o U' => ∃ v L, o = .returned v ∧ Q_4 Z x0 x1 ep eo nA r h0 v U'.heap L ∧ FrameEnd U o U' L ({ frames := 0, cells := 0, slots := 0, locals := 0 } : Room).cells ({ frames := 0, cells := 0, slots := 0, locals := 0 } : Room).slots) := by
  refine MetFree.of_bodySF (plainFor_of_name pn_4) hisR ?_
  intro p e s m args below meth c s₁ Bd hml0 hP hK
  obtain ⟨rfl, hZ, hh⟩ := hP
  have hx := Bd.exec
  have hby := Bd.bytes
  have hlk := Bd.notSynchronized
  have hml : c.maxLocals = 2 := hml0
  have hown : s.vm.findClass "com/example/clean_epoch/cleanepoch/log/EpochEnd" = some m.cls := findClass_of_methodNamed Bd.named
  have hnm := (name_of_methodNamed Bd.named Bd.method).1
  have X0 : Stand p l e ({ frames := 0, cells := 0, slots := 0, locals := 0 } : Room) s m #[(.ref x0), (.int x1)] below meth c s₁ [] 0 0 := Stand.of_body Bd
  have e0 : s₁.heap = h0 := by rw [← hh, Bd.state]; rfl
  have N0 := Fr.nil Z.heap.size
  show Go FrameEnd p e below s ({ frames := 0, cells := 0, slots := 0, locals := 0 } : Room).cells ({ frames := 0, cells := 0, slots := 0, locals := 0 } : Room).slots (Q_4 Z x0 x1 ep eo nA r h0) s₁ (entryFrame m #[(.ref x0), (.int x1)] 2)
  refine Go.cast (ef_4 m x0 x1) ?_
  show Go _ _ _ _ _ _ _ _ s₁ (mkF m 0 #[.val (.ref x0), .val (.int x1)] [])
  refine Go.step (fun _ k => XS.aloadN X0.here hx rfl (hb hby d4_0) rfl rfl k) ?_
  show Go _ _ _ _ _ _ _ _ s₁ (mkF m 1 #[.val (.ref x0), .val (.int x1)] [(.ref x0)])
  obtain ⟨T1, X1, e1, st1⟩ := getF X0 hx hZ hown (host := "") (Or.inl (hw _ (List.mem_of_getElem? (i := 14) rfl))) Via.refl e0 F_e (g := (mkF m 1 #[.val (.ref x0), .val (.int x1)] [(.ref x0)])) rfl rfl (hb hby d4_1)
  refine Go.step st1 ?_
  show Go _ _ _ _ _ _ _ _ T1 (mkF m 4 #[.val (.ref x0), .val (.int x1)] [(.int ep)])
  obtain ⟨T2, X2, e2, st2⟩ := getS2 X1 hx hZ hown (host := "") (Or.inl (hw _ (List.mem_of_getElem? (i := 23) rfl))) Via.refl e1 (Sta.ext O0 S_N) (g := (mkF m 4 #[.val (.ref x0), .val (.int x1)] [(.int ep)])) rfl (hb hby d4_4)
  refine Go.step st2 ?_
  show Go _ _ _ _ _ _ _ _ T2 (mkF m 7 #[.val (.ref x0), .val (.int x1)] [(.ref nA), (.int ep)])
  obtain ⟨T3, X3, e3, st3⟩ := getF X2 hx hZ hown (host := "") (Or.inl (hw _ (List.mem_of_getElem? (i := 14) rfl))) Via.refl e2 (Fld.ext O0 F_n) (g := (mkF m 7 #[.val (.ref x0), .val (.int x1)] [(.ref nA), (.int ep)])) rfl rfl (hb hby d4_7)
  refine Go.step st3 ?_
  show Go _ _ _ _ _ _ _ _ T3 (mkF m 10 #[.val (.ref x0), .val (.int x1)] [(.int (-1 : Int32)), (.int ep)])
  by_cases hc10_4 : ep = (-1 : Int32)
  · refine Go.step (fun _ k => XS.icmpYes X3.here hx rfl (pc0 := 10) (pc' := 37) rfl (hb hby d4_10) rfl (teq hc10_4).1 (by decide) (by decide) k) ?_
    show Go _ _ _ _ _ _ _ _ T3 (mkF m 37 #[.val (.ref x0), .val (.int x1)] [])
    refine Go.step (fun _ k => XS.iconst X3.here hx rfl (hb hby d4_37)  k) ?_
    show Go _ _ _ _ _ _ _ _ T3 (mkF m 38 #[.val (.ref x0), .val (.int x1)] [(.int (1 : Int32))])
    refine Go.step (fun _ k => XS.goto X3.here hx rfl (pc0 := 38) (pc' := 42) rfl (hb hby d4_38) (by decide) (by decide) k) ?_
    show Go _ _ _ _ _ _ _ _ T3 (mkF m 42 #[.val (.ref x0), .val (.int x1)] [(.int (1 : Int32))])
    exact Go.retN X3 hx (t := .boolean) Bd.returns (by simp) hlk (hb hby d4_42) (by decide) (by decide) (by show _ ∧ _ ∧ _; rw [e3]; refine ⟨congrArg (fun z => some (Value.int z)) ?_, N0, rfl⟩; rw [hr]; ((try simp only [lw_lt, lw_gt, lw_eq] at hc10_4); simp only [hc10_4, if_true, if_false, ite_self, eq_self, not_false_eq_true, true_or, or_true, false_or, or_false, or_self]); try rfl)
  · refine Go.step (fun _ k => XS.icmpNo X3.here hx rfl (hb hby d4_10) rfl (feq hc10_4).1 k) ?_
    show Go _ _ _ _ _ _ _ _ T3 (mkF m 13 #[.val (.ref x0), .val (.int x1)] [])
    refine Go.step (fun _ k => XS.aloadN X3.here hx rfl (hb hby d4_13) rfl rfl k) ?_
    show Go _ _ _ _ _ _ _ _ T3 (mkF m 14 #[.val (.ref x0), .val (.int x1)] [(.ref x0)])
    obtain ⟨T5, X5, e5, st5⟩ := getF X3 hx hZ hown (host := "") (Or.inl (hw _ (List.mem_of_getElem? (i := 14) rfl))) Via.refl e3 F_e (g := (mkF m 14 #[.val (.ref x0), .val (.int x1)] [(.ref x0)])) rfl rfl (hb hby d4_14)
    refine Go.step st5 ?_
    show Go _ _ _ _ _ _ _ _ T5 (mkF m 17 #[.val (.ref x0), .val (.int x1)] [(.int ep)])
    by_cases hc17_6 : ep < (0 : Int32)
    · refine Go.step (fun _ k => XS.ifYes X5.here hx rfl (pc0 := 17) (pc' := 41) rfl (hb hby d4_17) rfl ((if0 _ _).trans (tlt hc17_6).1) (by decide) (by decide) k) ?_
      show Go _ _ _ _ _ _ _ _ T5 (mkF m 41 #[.val (.ref x0), .val (.int x1)] [])
      refine Go.step (fun _ k => XS.iconst X5.here hx rfl (hb hby d4_41)  k) ?_
      show Go _ _ _ _ _ _ _ _ T5 (mkF m 42 #[.val (.ref x0), .val (.int x1)] [(.int (0 : Int32))])
      exact Go.retN X5 hx (t := .boolean) Bd.returns (by simp) hlk (hb hby d4_42) (by decide) (by decide) (by show _ ∧ _ ∧ _; rw [e5]; refine ⟨congrArg (fun z => some (Value.int z)) ?_, N0, rfl⟩; rw [hr]; ((try simp only [lw_lt, lw_gt, lw_eq] at hc10_4 hc17_6); simp only [hc10_4, hc17_6, if_true, if_false, ite_self, eq_self, not_false_eq_true, true_or, or_true, false_or, or_false, or_self]); try rfl)
    · refine Go.step (fun _ k => XS.ifNo X5.here hx rfl (hb hby d4_17) rfl ((if0 _ _).trans (flt hc17_6).1) k) ?_
      show Go _ _ _ _ _ _ _ _ T5 (mkF m 20 #[.val (.ref x0), .val (.int x1)] [])
      refine Go.step (fun _ k => XS.aloadN X5.here hx rfl (hb hby d4_20) rfl rfl k) ?_
      show Go _ _ _ _ _ _ _ _ T5 (mkF m 21 #[.val (.ref x0), .val (.int x1)] [(.ref x0)])
      obtain ⟨T7, X7, e7, st7⟩ := getF X5 hx hZ hown (host := "") (Or.inl (hw _ (List.mem_of_getElem? (i := 14) rfl))) Via.refl e5 F_e (g := (mkF m 21 #[.val (.ref x0), .val (.int x1)] [(.ref x0)])) rfl rfl (hb hby d4_21)
      refine Go.step st7 ?_
      show Go _ _ _ _ _ _ _ _ T7 (mkF m 24 #[.val (.ref x0), .val (.int x1)] [(.int ep)])
      refine Go.step (fun _ k => XS.iloadN X7.here hx rfl (hb hby d4_24) rfl k) ?_
      show Go _ _ _ _ _ _ _ _ T7 (mkF m 25 #[.val (.ref x0), .val (.int x1)] [(.int x1), (.int ep)])
      by_cases hc25_8 : x1 < ep
      · refine Go.step (fun _ k => XS.icmpYes X7.here hx rfl (pc0 := 25) (pc' := 41) rfl (hb hby d4_25) rfl (tlt hc25_8).2.2.1 (by decide) (by decide) k) ?_
        show Go _ _ _ _ _ _ _ _ T7 (mkF m 41 #[.val (.ref x0), .val (.int x1)] [])
        refine Go.step (fun _ k => XS.iconst X7.here hx rfl (hb hby d4_41)  k) ?_
        show Go _ _ _ _ _ _ _ _ T7 (mkF m 42 #[.val (.ref x0), .val (.int x1)] [(.int (0 : Int32))])
        exact Go.retN X7 hx (t := .boolean) Bd.returns (by simp) hlk (hb hby d4_42) (by decide) (by decide) (by show _ ∧ _ ∧ _; rw [e7]; refine ⟨congrArg (fun z => some (Value.int z)) ?_, N0, rfl⟩; rw [hr]; ((try simp only [lw_lt, lw_gt, lw_eq] at hc10_4 hc17_6 hc25_8); simp only [hc10_4, hc17_6, hc25_8, if_true, if_false, ite_self, eq_self, not_false_eq_true, true_or, or_true, false_or, or_false, or_self]); try rfl)
      · refine Go.step (fun _ k => XS.icmpNo X7.here hx rfl (hb hby d4_25) rfl (flt hc25_8).2.2.1 k) ?_
        show Go _ _ _ _ _ _ _ _ T7 (mkF m 28 #[.val (.ref x0), .val (.int x1)] [])
        refine Go.step (fun _ k => XS.aloadN X7.here hx rfl (hb hby d4_28) rfl rfl k) ?_
        show Go _ _ _ _ _ _ _ _ T7 (mkF m 29 #[.val (.ref x0), .val (.int x1)] [(.ref x0)])
        obtain ⟨T9, X9, e9, st9⟩ := getF X7 hx hZ hown (host := "") (Or.inl (hw _ (List.mem_of_getElem? (i := 16) rfl))) Via.refl e7 F_o (g := (mkF m 29 #[.val (.ref x0), .val (.int x1)] [(.ref x0)])) rfl rfl (hb hby d4_29)
        refine Go.step st9 ?_
        show Go _ _ _ _ _ _ _ _ T9 (mkF m 32 #[.val (.ref x0), .val (.int x1)] [(.long eo)])
        refine Go.step (fun _ k => XS.lconst X9.here hx rfl (hb hby d4_32)  k) ?_
        show Go _ _ _ _ _ _ _ _ T9 (mkF m 33 #[.val (.ref x0), .val (.int x1)] [(.long (0 : Int64)), (.long eo)])
        refine Go.step (fun _ k => XS.lcmp X9.here hx rfl (hb hby d4_33) rfl k) ?_
        show Go _ _ _ _ _ _ _ _ T9 (mkF m 34 #[.val (.ref x0), .val (.int x1)] [(.int (lcmpW eo (0 : Int64)))])
        by_cases hc34_10 : (lcmpW eo (0 : Int64)) < (0 : Int32)
        · refine Go.step (fun _ k => XS.ifYes X9.here hx rfl (pc0 := 34) (pc' := 41) rfl (hb hby d4_34) rfl ((if0 _ _).trans (tlt hc34_10).1) (by decide) (by decide) k) ?_
          show Go _ _ _ _ _ _ _ _ T9 (mkF m 41 #[.val (.ref x0), .val (.int x1)] [])
          refine Go.step (fun _ k => XS.iconst X9.here hx rfl (hb hby d4_41)  k) ?_
          show Go _ _ _ _ _ _ _ _ T9 (mkF m 42 #[.val (.ref x0), .val (.int x1)] [(.int (0 : Int32))])
          exact Go.retN X9 hx (t := .boolean) Bd.returns (by simp) hlk (hb hby d4_42) (by decide) (by decide) (by show _ ∧ _ ∧ _; rw [e9]; refine ⟨congrArg (fun z => some (Value.int z)) ?_, N0, rfl⟩; rw [hr]; ((try simp only [lw_lt, lw_gt, lw_eq] at hc10_4 hc17_6 hc25_8 hc34_10); simp only [hc10_4, hc17_6, hc25_8, hc34_10, if_true, if_false, ite_self, eq_self, not_false_eq_true, true_or, or_true, false_or, or_false, or_self]); try rfl)
        · refine Go.step (fun _ k => XS.ifNo X9.here hx rfl (hb hby d4_34) rfl ((if0 _ _).trans (flt hc34_10).1) k) ?_
          show Go _ _ _ _ _ _ _ _ T9 (mkF m 37 #[.val (.ref x0), .val (.int x1)] [])
          refine Go.step (fun _ k => XS.iconst X9.here hx rfl (hb hby d4_37)  k) ?_
          show Go _ _ _ _ _ _ _ _ T9 (mkF m 38 #[.val (.ref x0), .val (.int x1)] [(.int (1 : Int32))])
          refine Go.step (fun _ k => XS.goto X9.here hx rfl (pc0 := 38) (pc' := 42) rfl (hb hby d4_38) (by decide) (by decide) k) ?_
          show Go _ _ _ _ _ _ _ _ T9 (mkF m 42 #[.val (.ref x0), .val (.int x1)] [(.int (1 : Int32))])
          exact Go.retN X9 hx (t := .boolean) Bd.returns (by simp) hlk (hb hby d4_42) (by decide) (by decide) (by show _ ∧ _ ∧ _; rw [e9]; refine ⟨congrArg (fun z => some (Value.int z)) ?_, N0, rfl⟩; rw [hr]; ((try simp only [lw_lt, lw_gt, lw_eq] at hc10_4 hc17_6 hc25_8 hc34_10); simp only [hc10_4, hc17_6, hc25_8, hc34_10, if_true, if_false, ite_self, eq_self, not_false_eq_true, true_or, or_true, false_or, or_false, or_self]); try rfl)
theorem pd_LIJRV : parseMethodDescriptor "(IJ)V" = some ⟨[.int, .long], none⟩ := by decide +kernel
theorem pd_LIRZ : parseMethodDescriptor "(I)Z" = some ⟨[.int], some .boolean⟩ := by decide +kernel
theorem pn_0 : plainName "com/example/clean_epoch/cleanepoch/log/EpochEndAnswersPinLaw" = true := by first | (simp [plainName, overriddenIn]; done) | decide +kernel
theorem ef_0 (m : MethodId) (y0 : Int32) (y1 : Int64) (y2 : Int32) (y3 : Int32) : entryFrame m #[(.int y0), (.long y1), (.int y2), (.int y3)] maxLocals = mkF m 0 #[.val (.int y0), .val (.long y1), .second, .val (.int y2), .val (.int y3), .unset, .unset, .unset, .unset, .unset, .unset] [] := by first | (simp [entryFrame, mkF, argsToLocals, Value.category, maxLocals]; done) | rfl
def Q_0 (Z : State) (x0 : Int32) (x1 : Int64) (x2 : Int32) (x3 : Int32) (nA : Addr) (h0 : Heap) (v : Option Value) (h : Heap) (L : List Loc) : Prop := v = some (.int 1) ∧ Fr Z.heap.size L ∧ True
set_option maxRecDepth 65536 in
set_option maxHeartbeats 40000000 in
theorem rm_0 (l : Launch) (Z : State) (a0 : Array Value) (hw : ∀ d ∈ tables_1, d.before a0 Z = true) (ws : List Jvm.Cond) (x0 : Int32) (x1 : Int64) (x2 : Int32) (x3 : Int32) (nA : Addr) (h0 : Heap) (O0 : Ext Z.heap h0) (S_N : Sta Z Z.heap "com/example/clean_epoch/cleanepoch/log/EpochEnd" "NONE" "Lcom/example/clean_epoch/cleanepoch/log/EpochEnd;" (.ref nA)) (F_n : Fld Z Z.heap nA "com/example/clean_epoch/cleanepoch/log/EpochEnd" "epoch" "I" (.int (-1 : Int32))) :
    MetFree l x (head1 (Jvm.Cond.code x code maxLocals ret :: ws) room_1) (fun a U => a = #[(.int x0), (.long x1), (.int x2), (.int x3)] ∧ Z.Warmed39 U.vm ∧ U.heap = h0) (fun _ _ _ _ _ => True) (fun _ U o U' => ∃ v L, o = .returned v ∧ Q_0 Z x0 x1 x2 x3 nA h0 v U'.heap L ∧ FrameEnd U o U' L room_1.cells room_1.slots) := by
  refine MetFree.of_bodySF (plainFor_of_name pn_0) hisR ?_
  intro p e s m args below meth c s₁ Bd hml0 hP hK
  obtain ⟨rfl, hZ, hh⟩ := hP
  have hx := Bd.exec
  have hby := Bd.bytes
  have hlk := Bd.notSynchronized
  have hml : c.maxLocals = 11 := hml0
  have hown : s.vm.findClass "com/example/clean_epoch/cleanepoch/log/EpochEndAnswersPinLaw" = some m.cls := findClass_of_methodNamed Bd.named
  have hnm := (name_of_methodNamed Bd.named Bd.method).1
  have X0 : Stand p l e room_1 s m #[(.int x0), (.long x1), (.int x2), (.int x3)] below meth c s₁ [] 0 0 := Stand.of_body Bd
  have e0 : s₁.heap = h0 := by rw [← hh, Bd.state]; rfl
  have N0 := Fr.nil Z.heap.size
  show Go FrameEnd p e below s room_1.cells room_1.slots (Q_0 Z x0 x1 x2 x3 nA h0) s₁ (entryFrame m #[(.int x0), (.long x1), (.int x2), (.int x3)] maxLocals)
  refine Go.cast (ef_0 m x0 x1 x2 x3) ?_
  show Go _ _ _ _ _ _ _ _ s₁ (mkF m 0 #[.val (.int x0), .val (.long x1), .second, .val (.int x2), .val (.int x3), .unset, .unset, .unset, .unset, .unset, .unset] [])
  have cut106 : ∀ (Tc1 : State) (Lc1 : List Loc) (Xc1 : Stand p l e room_1 s m #[(.int x0), (.long x1), (.int x2), (.int x3)] below meth c Tc1 Lc1 0 0) (ec1 : Tc1.heap = h0) (Nc1 : Fr Z.heap.size Lc1) (ep : Int32) (mm : Int32) (eo : Int64) (nn : Int32) , Go FrameEnd p e below s (room_1).cells (room_1).slots (Q_0 Z x0 x1 x2 x3 nA h0) Tc1 (mkF m 106 #[.val (.int x0), .val (.long x1), .second, .val (.int x2), .val (.int x3), .val (.int ep), .val (.int mm), .val (.long eo), .second, .val (.int nn), .unset] []) := by
    intro Tc1 Lc1 Xc1 ec1 Nc1  ep mm eo nn 
    refine Go.step (fun _ k => XS.iload Xc1.here hx rfl (hb hby at_106) rfl k) ?_
    show Go _ _ _ _ _ _ _ _ Tc1 (mkF m 108 #[.val (.int x0), .val (.long x1), .second, .val (.int x2), .val (.int x3), .val (.int ep), .val (.int mm), .val (.long eo), .second, .val (.int nn), .unset] [(.int ep)])
    by_cases hc108_2 : ep < (0 : Int32)
    · refine Go.step (fun _ k => XS.ifNo Xc1.here hx rfl (hb hby at_108) rfl ((if0 _ _).trans (tlt hc108_2).2.1) k) ?_
      show Go _ _ _ _ _ _ _ _ Tc1 (mkF m 111 #[.val (.int x0), .val (.long x1), .second, .val (.int x2), .val (.int x3), .val (.int ep), .val (.int mm), .val (.long eo), .second, .val (.int nn), .unset] [])
      refine Go.step (fun _ k => XS.iload Xc1.here hx rfl (hb hby at_111) rfl k) ?_
      show Go _ _ _ _ _ _ _ _ Tc1 (mkF m 113 #[.val (.int x0), .val (.long x1), .second, .val (.int x2), .val (.int x3), .val (.int ep), .val (.int mm), .val (.long eo), .second, .val (.int nn), .unset] [(.int ep)])
      refine Go.step (fun _ k => XS.iconst Xc1.here hx rfl (hb hby at_113)  k) ?_
      show Go _ _ _ _ _ _ _ _ Tc1 (mkF m 114 #[.val (.int x0), .val (.long x1), .second, .val (.int x2), .val (.int x3), .val (.int ep), .val (.int mm), .val (.long eo), .second, .val (.int nn), .unset] [(.int (-1 : Int32)), (.int ep)])
      by_cases hc114_3 : ep = (-1 : Int32)
      · refine Go.step (fun _ k => XS.icmpNo Xc1.here hx rfl (hb hby at_114) rfl (teq hc114_3).2 k) ?_
        show Go _ _ _ _ _ _ _ _ Tc1 (mkF m 117 #[.val (.int x0), .val (.long x1), .second, .val (.int x2), .val (.int x3), .val (.int ep), .val (.int mm), .val (.long eo), .second, .val (.int nn), .unset] [])
        refine Go.step (fun _ k => XS.iconst Xc1.here hx rfl (hb hby at_117)  k) ?_
        show Go _ _ _ _ _ _ _ _ Tc1 (mkF m 118 #[.val (.int x0), .val (.long x1), .second, .val (.int x2), .val (.int x3), .val (.int ep), .val (.int mm), .val (.long eo), .second, .val (.int nn), .unset] [(.int (1 : Int32))])
        refine Go.step (fun _ k => XS.goto Xc1.here hx rfl (pc0 := 118) (pc' := 122) rfl (hb hby at_118) (by decide) (by decide) k) ?_
        show Go _ _ _ _ _ _ _ _ Tc1 (mkF m 122 #[.val (.int x0), .val (.long x1), .second, .val (.int x2), .val (.int x3), .val (.int ep), .val (.int mm), .val (.long eo), .second, .val (.int nn), .unset] [(.int (1 : Int32))])
        refine Go.step (fun _ k => XS.istore Xc1.here hx rfl (hb hby at_122) rfl (l' := #[.val (.int x0), .val (.long x1), .second, .val (.int x2), .val (.int x3), .val (.int ep), .val (.int mm), .val (.long eo), .second, .val (.int nn), .val (.int (1 : Int32))]) rfl k) ?_
        show Go _ _ _ _ _ _ _ _ Tc1 (mkF m 124 #[.val (.int x0), .val (.long x1), .second, .val (.int x2), .val (.int x3), .val (.int ep), .val (.int mm), .val (.long eo), .second, .val (.int nn), .val (.int (1 : Int32))] [])
        refine Go.step (fun _ k => XS.goto Xc1.here hx rfl (pc0 := 124) (pc' := 153) rfl (hb hby at_124) (by decide) (by decide) k) ?_
        show Go _ _ _ _ _ _ _ _ Tc1 (mkF m 153 #[.val (.int x0), .val (.long x1), .second, .val (.int x2), .val (.int x3), .val (.int ep), .val (.int mm), .val (.long eo), .second, .val (.int nn), .val (.int (1 : Int32))] [])
        obtain ⟨T4, h4, X4, e4, E4, A4, D4, U4, st4⟩ := newO Xc1 hx hZ hown (hw _ (List.mem_of_getElem? (i := 0) rfl)) (hw _ (List.mem_of_getElem? (i := 1) rfl)) (hw _ (List.mem_of_getElem? (i := 2) rfl)) ec1 (g := (mkF m 153 #[.val (.int x0), .val (.long x1), .second, .val (.int x2), .val (.int x3), .val (.int ep), .val (.int mm), .val (.long eo), .second, .val (.int nn), .val (.int (1 : Int32))] [])) rfl (hb hby at_153) (by decide) (by decide)
        obtain ⟨b4, hb4⟩ : ∃ z, z = h0.size := ⟨_, rfl⟩
        rw [← hb4] at A4 D4 U4 st4
        refine Go.step st4 ?_
        have g_b4 : Z.heap.size ≤ b4 := Nat.le_trans O0.1 (Nat.le_of_eq hb4.symm)
        have O4_ : Ext Z.heap h4 := extTr O0 E4
        have F4_epoch : Fld Z h4 b4 "com/example/clean_epoch/cleanepoch/log/EpochEnd" "epoch" "I" (.int (0 : Int32)) := D4 (Or.inr (hw _ (List.mem_of_getElem? (i := 15) rfl))) (ty := .int) (by decide)
        have F4_endOffset : Fld Z h4 b4 "com/example/clean_epoch/cleanepoch/log/EpochEnd" "endOffset" "J" (.long (0 : Int64)) := D4 (Or.inr (hw _ (List.mem_of_getElem? (i := 17) rfl))) (ty := .long) (by decide)
        show Go _ _ _ _ _ _ _ _ T4 (mkF m 156 #[.val (.int x0), .val (.long x1), .second, .val (.int x2), .val (.int x3), .val (.int ep), .val (.int mm), .val (.long eo), .second, .val (.int nn), .val (.int (1 : Int32))] [(.ref b4)])
        refine Go.step (fun _ k => XS.dup X4.here hx rfl (hb hby at_156) rfl rfl k) ?_
        show Go _ _ _ _ _ _ _ _ T4 (mkF m 157 #[.val (.int x0), .val (.long x1), .second, .val (.int x2), .val (.int x3), .val (.int ep), .val (.int mm), .val (.long eo), .second, .val (.int nn), .val (.int (1 : Int32))] [(.ref b4), (.ref b4)])
        refine Go.step (fun _ k => XS.iload X4.here hx rfl (hb hby at_157) rfl k) ?_
        show Go _ _ _ _ _ _ _ _ T4 (mkF m 159 #[.val (.int x0), .val (.long x1), .second, .val (.int x2), .val (.int x3), .val (.int ep), .val (.int mm), .val (.long eo), .second, .val (.int nn), .val (.int (1 : Int32))] [(.int ep), (.ref b4), (.ref b4)])
        refine Go.step (fun _ k => XS.lload X4.here hx rfl (hb hby at_159) rfl k) ?_
        show Go _ _ _ _ _ _ _ _ T4 (mkF m 161 #[.val (.int x0), .val (.long x1), .second, .val (.int x2), .val (.int x3), .val (.int ep), .val (.int mm), .val (.long eo), .second, .val (.int nn), .val (.int (1 : Int32))] [(.long eo), (.int ep), (.ref b4), (.ref b4)])
        obtain ⟨_, _, ⟨T5, L5, k5, n5⟩, -, X5, ⟨Lc5, hQ5, l5, y5, z5⟩, st5⟩ := X4.specialBack hx (y := (⟨"com/example/clean_epoch/cleanepoch/log/EpochEnd", "<init>", "(IJ)V"⟩ : MethodName)) rfl hown (mvT hZ (hw _ (List.mem_of_getElem? (i := 3) rfl))) (mvT hZ (hw _ (List.mem_of_getElem? (i := 4) rfl))) (mvT hZ (hw _ (List.mem_of_getElem? (i := 5) rfl))) (by decide) (backOf (W := 1) (rm_1 l Z a0 hw [] b4 ep eo h4 O4_ A4 F4_epoch F4_endOffset g_b4) hZ (hw _ (List.mem_of_getElem? (i := 5) rfl)) (hw _ (List.mem_of_getElem? (i := 2) rfl)) (by decide) (by decide)) (g := (mkF m 161 #[.val (.int x0), .val (.long x1), .second, .val (.int x2), .val (.int x3), .val (.int ep), .val (.int mm), .val (.long eo), .second, .val (.int nn), .val (.int (1 : Int32))] [(.long eo), (.int ep), (.ref b4), (.ref b4)])) rfl (by rw [hml]; rfl) (Steps.refl _) (a := b4) (argsL := [(.int ep), (.long eo)]) (rest := [(.ref b4)]) (lenOf pd_LIJRV rfl) rfl (by show 2 * 0 + _ ≤ _; exact Nat.le_of_eq rfl) (hb hby at_161) (fun _ _ => ⟨rfl, e4, (by decide : 1 + 0 ≤ _), (by decide : 2 + 0 ≤ _)⟩)
        dsimp only [Pt.U, Pt.locs, Pt.cells, Pt.slots] at X5 l5 y5 z5 st5 hQ5
        subst l5 y5 z5
        obtain ⟨rfl, Nq5, Kq5, pe5, po5⟩ := hQ5
        have O5_ : Ext Z.heap T5.heap := extKeep O4_ Kq5 (allS g_b4 all0)
        have N5_ := Fr.app Nc1 Nq5
        refine Go.trans st5 ?_
        show Go _ _ _ _ _ _ _ _ T5 (mkF m 164 #[.val (.int x0), .val (.long x1), .second, .val (.int x2), .val (.int x3), .val (.int ep), .val (.int mm), .val (.long eo), .second, .val (.int nn), .val (.int (1 : Int32))] [(.ref b4)])
        refine Go.step (fun _ k => XS.iloadN X5.here hx rfl (hb hby at_164) rfl k) ?_
        show Go _ _ _ _ _ _ _ _ T5 (mkF m 165 #[.val (.int x0), .val (.long x1), .second, .val (.int x2), .val (.int x3), .val (.int ep), .val (.int mm), .val (.long eo), .second, .val (.int nn), .val (.int (1 : Int32))] [(.int x2), (.ref b4)])
        obtain ⟨cq6, kq6, q6a, q6b, q6c⟩ := isOf hZ rfl (A4.keep Kq5)
        obtain ⟨_, _, ⟨T6, L6, k6, n6⟩, -, X6, ⟨Lc6, hQ6, l6, y6, z6⟩, st6⟩ := X5.virtualBack hx (y := (⟨"com/example/clean_epoch/cleanepoch/log/EpochEnd", "answers", "(I)Z"⟩ : MethodName)) (z := (⟨"com/example/clean_epoch/cleanepoch/log/EpochEnd", "answers", "(I)Z"⟩ : MethodName)) hown (mvT hZ (hw _ (List.mem_of_getElem? (i := 18) rfl))) (mvT hZ (hw _ (List.mem_of_getElem? (i := 19) rfl))) (notFace_of_selects (args := #[]) (mvT hZ (hw _ (List.mem_of_getElem? (i := 21) rfl)))) (mvT hZ (hw _ (List.mem_of_getElem? (i := 21) rfl))) (mvT hZ (hw _ (List.mem_of_getElem? (i := 20) rfl))) (by decide) (backOf (W := 0) (rm_4 l Z a0 hw [] b4 x2 ep eo nA (1 : Int32) T5.heap O5_ pe5 po5 S_N F_n (by (try simp only [lw_lt, lw_gt, lw_eq] at hc108_2 hc114_3); simp only [hc108_2, hc114_3, if_true, if_false, ite_self, eq_self, not_false_eq_true, true_or, or_true, false_or, or_false, or_self])) hZ (hw _ (List.mem_of_getElem? (i := 22) rfl)) (hw _ (List.mem_of_getElem? (i := 2) rfl)) (by decide) (by decide)) q6a q6c (g := (mkF m 165 #[.val (.int x0), .val (.long x1), .second, .val (.int x2), .val (.int x3), .val (.int ep), .val (.int mm), .val (.long eo), .second, .val (.int nn), .val (.int (1 : Int32))] [(.int x2), (.ref b4)])) rfl (by rw [hml]; rfl) (Steps.refl _) (argsL := [(.int x2)]) (rest := []) (lenOf pd_LIRZ rfl) rfl (by show 2 * 0 + _ ≤ _; exact Nat.le_of_eq rfl) (hb hby at_165) (fun _ _ => ⟨rfl, rfl, (by decide : 1 + 0 ≤ _), (by decide : 2 + 0 ≤ _)⟩)
        dsimp only [Pt.U, Pt.locs, Pt.cells, Pt.slots] at X6 l6 y6 z6 st6 hQ6
        subst l6 y6 z6
        obtain ⟨rfl, Nq6, e6⟩ := hQ6
        have N6_ := Fr.app N5_ Nq6
        refine Go.trans st6 ?_
        show Go _ _ _ _ _ _ _ _ T6 (mkF m 168 #[.val (.int x0), .val (.long x1), .second, .val (.int x2), .val (.int x3), .val (.int ep), .val (.int mm), .val (.long eo), .second, .val (.int nn), .val (.int (1 : Int32))] [(.int (1 : Int32))])
        refine Go.step (fun _ k => XS.iload X6.here hx rfl (hb hby at_168) rfl k) ?_
        show Go _ _ _ _ _ _ _ _ T6 (mkF m 170 #[.val (.int x0), .val (.long x1), .second, .val (.int x2), .val (.int x3), .val (.int ep), .val (.int mm), .val (.long eo), .second, .val (.int nn), .val (.int (1 : Int32))] [(.int (1 : Int32)), (.int (1 : Int32))])
        refine Go.step (fun _ k => XS.icmpNo X6.here hx rfl (hb hby at_170) rfl (teq (by decide : (1 : Int32) = (1 : Int32))).2 k) ?_
        show Go _ _ _ _ _ _ _ _ T6 (mkF m 173 #[.val (.int x0), .val (.long x1), .second, .val (.int x2), .val (.int x3), .val (.int ep), .val (.int mm), .val (.long eo), .second, .val (.int nn), .val (.int (1 : Int32))] [])
        refine Go.step (fun _ k => XS.iconst X6.here hx rfl (hb hby at_173)  k) ?_
        show Go _ _ _ _ _ _ _ _ T6 (mkF m 174 #[.val (.int x0), .val (.long x1), .second, .val (.int x2), .val (.int x3), .val (.int ep), .val (.int mm), .val (.long eo), .second, .val (.int nn), .val (.int (1 : Int32))] [(.int (1 : Int32))])
        refine Go.step (fun _ k => XS.goto X6.here hx rfl (pc0 := 174) (pc' := 178) rfl (hb hby at_174) (by decide) (by decide) k) ?_
        show Go _ _ _ _ _ _ _ _ T6 (mkF m 178 #[.val (.int x0), .val (.long x1), .second, .val (.int x2), .val (.int x3), .val (.int ep), .val (.int mm), .val (.long eo), .second, .val (.int nn), .val (.int (1 : Int32))] [(.int (1 : Int32))])
        exact Go.retN X6 hx (t := .boolean) Bd.returns (by simp) hlk (hb hby at_178) (by decide) (by decide) ⟨rfl, N6_, trivial⟩
      · refine Go.step (fun _ k => XS.icmpYes Xc1.here hx rfl (pc0 := 114) (pc' := 121) rfl (hb hby at_114) rfl (feq hc114_3).2 (by decide) (by decide) k) ?_
        show Go _ _ _ _ _ _ _ _ Tc1 (mkF m 121 #[.val (.int x0), .val (.long x1), .second, .val (.int x2), .val (.int x3), .val (.int ep), .val (.int mm), .val (.long eo), .second, .val (.int nn), .unset] [])
        refine Go.step (fun _ k => XS.iconst Xc1.here hx rfl (hb hby at_121)  k) ?_
        show Go _ _ _ _ _ _ _ _ Tc1 (mkF m 122 #[.val (.int x0), .val (.long x1), .second, .val (.int x2), .val (.int x3), .val (.int ep), .val (.int mm), .val (.long eo), .second, .val (.int nn), .unset] [(.int (0 : Int32))])
        refine Go.step (fun _ k => XS.istore Xc1.here hx rfl (hb hby at_122) rfl (l' := #[.val (.int x0), .val (.long x1), .second, .val (.int x2), .val (.int x3), .val (.int ep), .val (.int mm), .val (.long eo), .second, .val (.int nn), .val (.int (0 : Int32))]) rfl k) ?_
        show Go _ _ _ _ _ _ _ _ Tc1 (mkF m 124 #[.val (.int x0), .val (.long x1), .second, .val (.int x2), .val (.int x3), .val (.int ep), .val (.int mm), .val (.long eo), .second, .val (.int nn), .val (.int (0 : Int32))] [])
        refine Go.step (fun _ k => XS.goto Xc1.here hx rfl (pc0 := 124) (pc' := 153) rfl (hb hby at_124) (by decide) (by decide) k) ?_
        show Go _ _ _ _ _ _ _ _ Tc1 (mkF m 153 #[.val (.int x0), .val (.long x1), .second, .val (.int x2), .val (.int x3), .val (.int ep), .val (.int mm), .val (.long eo), .second, .val (.int nn), .val (.int (0 : Int32))] [])
        obtain ⟨T7, h7, X7, e7, E7, A7, D7, U7, st7⟩ := newO Xc1 hx hZ hown (hw _ (List.mem_of_getElem? (i := 0) rfl)) (hw _ (List.mem_of_getElem? (i := 1) rfl)) (hw _ (List.mem_of_getElem? (i := 2) rfl)) ec1 (g := (mkF m 153 #[.val (.int x0), .val (.long x1), .second, .val (.int x2), .val (.int x3), .val (.int ep), .val (.int mm), .val (.long eo), .second, .val (.int nn), .val (.int (0 : Int32))] [])) rfl (hb hby at_153) (by decide) (by decide)
        obtain ⟨b7, hb7⟩ : ∃ z, z = h0.size := ⟨_, rfl⟩
        rw [← hb7] at A7 D7 U7 st7
        refine Go.step st7 ?_
        have g_b7 : Z.heap.size ≤ b7 := Nat.le_trans O0.1 (Nat.le_of_eq hb7.symm)
        have O7_ : Ext Z.heap h7 := extTr O0 E7
        have F7_epoch : Fld Z h7 b7 "com/example/clean_epoch/cleanepoch/log/EpochEnd" "epoch" "I" (.int (0 : Int32)) := D7 (Or.inr (hw _ (List.mem_of_getElem? (i := 15) rfl))) (ty := .int) (by decide)
        have F7_endOffset : Fld Z h7 b7 "com/example/clean_epoch/cleanepoch/log/EpochEnd" "endOffset" "J" (.long (0 : Int64)) := D7 (Or.inr (hw _ (List.mem_of_getElem? (i := 17) rfl))) (ty := .long) (by decide)
        show Go _ _ _ _ _ _ _ _ T7 (mkF m 156 #[.val (.int x0), .val (.long x1), .second, .val (.int x2), .val (.int x3), .val (.int ep), .val (.int mm), .val (.long eo), .second, .val (.int nn), .val (.int (0 : Int32))] [(.ref b7)])
        refine Go.step (fun _ k => XS.dup X7.here hx rfl (hb hby at_156) rfl rfl k) ?_
        show Go _ _ _ _ _ _ _ _ T7 (mkF m 157 #[.val (.int x0), .val (.long x1), .second, .val (.int x2), .val (.int x3), .val (.int ep), .val (.int mm), .val (.long eo), .second, .val (.int nn), .val (.int (0 : Int32))] [(.ref b7), (.ref b7)])
        refine Go.step (fun _ k => XS.iload X7.here hx rfl (hb hby at_157) rfl k) ?_
        show Go _ _ _ _ _ _ _ _ T7 (mkF m 159 #[.val (.int x0), .val (.long x1), .second, .val (.int x2), .val (.int x3), .val (.int ep), .val (.int mm), .val (.long eo), .second, .val (.int nn), .val (.int (0 : Int32))] [(.int ep), (.ref b7), (.ref b7)])
        refine Go.step (fun _ k => XS.lload X7.here hx rfl (hb hby at_159) rfl k) ?_
        show Go _ _ _ _ _ _ _ _ T7 (mkF m 161 #[.val (.int x0), .val (.long x1), .second, .val (.int x2), .val (.int x3), .val (.int ep), .val (.int mm), .val (.long eo), .second, .val (.int nn), .val (.int (0 : Int32))] [(.long eo), (.int ep), (.ref b7), (.ref b7)])
        obtain ⟨_, _, ⟨T8, L8, k8, n8⟩, -, X8, ⟨Lc8, hQ8, l8, y8, z8⟩, st8⟩ := X7.specialBack hx (y := (⟨"com/example/clean_epoch/cleanepoch/log/EpochEnd", "<init>", "(IJ)V"⟩ : MethodName)) rfl hown (mvT hZ (hw _ (List.mem_of_getElem? (i := 3) rfl))) (mvT hZ (hw _ (List.mem_of_getElem? (i := 4) rfl))) (mvT hZ (hw _ (List.mem_of_getElem? (i := 5) rfl))) (by decide) (backOf (W := 1) (rm_1 l Z a0 hw [] b7 ep eo h7 O7_ A7 F7_epoch F7_endOffset g_b7) hZ (hw _ (List.mem_of_getElem? (i := 5) rfl)) (hw _ (List.mem_of_getElem? (i := 2) rfl)) (by decide) (by decide)) (g := (mkF m 161 #[.val (.int x0), .val (.long x1), .second, .val (.int x2), .val (.int x3), .val (.int ep), .val (.int mm), .val (.long eo), .second, .val (.int nn), .val (.int (0 : Int32))] [(.long eo), (.int ep), (.ref b7), (.ref b7)])) rfl (by rw [hml]; rfl) (Steps.refl _) (a := b7) (argsL := [(.int ep), (.long eo)]) (rest := [(.ref b7)]) (lenOf pd_LIJRV rfl) rfl (by show 2 * 0 + _ ≤ _; exact Nat.le_of_eq rfl) (hb hby at_161) (fun _ _ => ⟨rfl, e7, (by decide : 1 + 0 ≤ _), (by decide : 2 + 0 ≤ _)⟩)
        dsimp only [Pt.U, Pt.locs, Pt.cells, Pt.slots] at X8 l8 y8 z8 st8 hQ8
        subst l8 y8 z8
        obtain ⟨rfl, Nq8, Kq8, pe8, po8⟩ := hQ8
        have O8_ : Ext Z.heap T8.heap := extKeep O7_ Kq8 (allS g_b7 all0)
        have N8_ := Fr.app Nc1 Nq8
        refine Go.trans st8 ?_
        show Go _ _ _ _ _ _ _ _ T8 (mkF m 164 #[.val (.int x0), .val (.long x1), .second, .val (.int x2), .val (.int x3), .val (.int ep), .val (.int mm), .val (.long eo), .second, .val (.int nn), .val (.int (0 : Int32))] [(.ref b7)])
        refine Go.step (fun _ k => XS.iloadN X8.here hx rfl (hb hby at_164) rfl k) ?_
        show Go _ _ _ _ _ _ _ _ T8 (mkF m 165 #[.val (.int x0), .val (.long x1), .second, .val (.int x2), .val (.int x3), .val (.int ep), .val (.int mm), .val (.long eo), .second, .val (.int nn), .val (.int (0 : Int32))] [(.int x2), (.ref b7)])
        obtain ⟨cq9, kq9, q9a, q9b, q9c⟩ := isOf hZ rfl (A7.keep Kq8)
        obtain ⟨_, _, ⟨T9, L9, k9, n9⟩, -, X9, ⟨Lc9, hQ9, l9, y9, z9⟩, st9⟩ := X8.virtualBack hx (y := (⟨"com/example/clean_epoch/cleanepoch/log/EpochEnd", "answers", "(I)Z"⟩ : MethodName)) (z := (⟨"com/example/clean_epoch/cleanepoch/log/EpochEnd", "answers", "(I)Z"⟩ : MethodName)) hown (mvT hZ (hw _ (List.mem_of_getElem? (i := 18) rfl))) (mvT hZ (hw _ (List.mem_of_getElem? (i := 19) rfl))) (notFace_of_selects (args := #[]) (mvT hZ (hw _ (List.mem_of_getElem? (i := 21) rfl)))) (mvT hZ (hw _ (List.mem_of_getElem? (i := 21) rfl))) (mvT hZ (hw _ (List.mem_of_getElem? (i := 20) rfl))) (by decide) (backOf (W := 0) (rm_4 l Z a0 hw [] b7 x2 ep eo nA (0 : Int32) T8.heap O8_ pe8 po8 S_N F_n (by (try simp only [lw_lt, lw_gt, lw_eq] at hc108_2 hc114_3); simp only [hc108_2, hc114_3, if_true, if_false, ite_self, eq_self, not_false_eq_true, true_or, or_true, false_or, or_false, or_self])) hZ (hw _ (List.mem_of_getElem? (i := 22) rfl)) (hw _ (List.mem_of_getElem? (i := 2) rfl)) (by decide) (by decide)) q9a q9c (g := (mkF m 165 #[.val (.int x0), .val (.long x1), .second, .val (.int x2), .val (.int x3), .val (.int ep), .val (.int mm), .val (.long eo), .second, .val (.int nn), .val (.int (0 : Int32))] [(.int x2), (.ref b7)])) rfl (by rw [hml]; rfl) (Steps.refl _) (argsL := [(.int x2)]) (rest := []) (lenOf pd_LIRZ rfl) rfl (by show 2 * 0 + _ ≤ _; exact Nat.le_of_eq rfl) (hb hby at_165) (fun _ _ => ⟨rfl, rfl, (by decide : 1 + 0 ≤ _), (by decide : 2 + 0 ≤ _)⟩)
        dsimp only [Pt.U, Pt.locs, Pt.cells, Pt.slots] at X9 l9 y9 z9 st9 hQ9
        subst l9 y9 z9
        obtain ⟨rfl, Nq9, e9⟩ := hQ9
        have N9_ := Fr.app N8_ Nq9
        refine Go.trans st9 ?_
        show Go _ _ _ _ _ _ _ _ T9 (mkF m 168 #[.val (.int x0), .val (.long x1), .second, .val (.int x2), .val (.int x3), .val (.int ep), .val (.int mm), .val (.long eo), .second, .val (.int nn), .val (.int (0 : Int32))] [(.int (0 : Int32))])
        refine Go.step (fun _ k => XS.iload X9.here hx rfl (hb hby at_168) rfl k) ?_
        show Go _ _ _ _ _ _ _ _ T9 (mkF m 170 #[.val (.int x0), .val (.long x1), .second, .val (.int x2), .val (.int x3), .val (.int ep), .val (.int mm), .val (.long eo), .second, .val (.int nn), .val (.int (0 : Int32))] [(.int (0 : Int32)), (.int (0 : Int32))])
        refine Go.step (fun _ k => XS.icmpNo X9.here hx rfl (hb hby at_170) rfl (teq (by decide : (0 : Int32) = (0 : Int32))).2 k) ?_
        show Go _ _ _ _ _ _ _ _ T9 (mkF m 173 #[.val (.int x0), .val (.long x1), .second, .val (.int x2), .val (.int x3), .val (.int ep), .val (.int mm), .val (.long eo), .second, .val (.int nn), .val (.int (0 : Int32))] [])
        refine Go.step (fun _ k => XS.iconst X9.here hx rfl (hb hby at_173)  k) ?_
        show Go _ _ _ _ _ _ _ _ T9 (mkF m 174 #[.val (.int x0), .val (.long x1), .second, .val (.int x2), .val (.int x3), .val (.int ep), .val (.int mm), .val (.long eo), .second, .val (.int nn), .val (.int (0 : Int32))] [(.int (1 : Int32))])
        refine Go.step (fun _ k => XS.goto X9.here hx rfl (pc0 := 174) (pc' := 178) rfl (hb hby at_174) (by decide) (by decide) k) ?_
        show Go _ _ _ _ _ _ _ _ T9 (mkF m 178 #[.val (.int x0), .val (.long x1), .second, .val (.int x2), .val (.int x3), .val (.int ep), .val (.int mm), .val (.long eo), .second, .val (.int nn), .val (.int (0 : Int32))] [(.int (1 : Int32))])
        exact Go.retN X9 hx (t := .boolean) Bd.returns (by simp) hlk (hb hby at_178) (by decide) (by decide) ⟨rfl, N9_, trivial⟩
    · refine Go.step (fun _ k => XS.ifYes Xc1.here hx rfl (pc0 := 108) (pc' := 127) rfl (hb hby at_108) rfl ((if0 _ _).trans (flt hc108_2).2.1) (by decide) (by decide) k) ?_
      show Go _ _ _ _ _ _ _ _ Tc1 (mkF m 127 #[.val (.int x0), .val (.long x1), .second, .val (.int x2), .val (.int x3), .val (.int ep), .val (.int mm), .val (.long eo), .second, .val (.int nn), .unset] [])
      refine Go.step (fun _ k => XS.lload Xc1.here hx rfl (hb hby at_127) rfl k) ?_
      show Go _ _ _ _ _ _ _ _ Tc1 (mkF m 129 #[.val (.int x0), .val (.long x1), .second, .val (.int x2), .val (.int x3), .val (.int ep), .val (.int mm), .val (.long eo), .second, .val (.int nn), .unset] [(.long eo)])
      refine Go.step (fun _ k => XS.lconst Xc1.here hx rfl (hb hby at_129)  k) ?_
      show Go _ _ _ _ _ _ _ _ Tc1 (mkF m 130 #[.val (.int x0), .val (.long x1), .second, .val (.int x2), .val (.int x3), .val (.int ep), .val (.int mm), .val (.long eo), .second, .val (.int nn), .unset] [(.long (0 : Int64)), (.long eo)])
      refine Go.step (fun _ k => XS.lcmp Xc1.here hx rfl (hb hby at_130) rfl k) ?_
      show Go _ _ _ _ _ _ _ _ Tc1 (mkF m 131 #[.val (.int x0), .val (.long x1), .second, .val (.int x2), .val (.int x3), .val (.int ep), .val (.int mm), .val (.long eo), .second, .val (.int nn), .unset] [(.int (lcmpW eo (0 : Int64)))])
      by_cases hc131_10 : (lcmpW eo (0 : Int64)) < (0 : Int32)
      · refine Go.step (fun _ k => XS.ifNo Xc1.here hx rfl (hb hby at_131) rfl ((if0 _ _).trans (tlt hc131_10).2.1) k) ?_
        show Go _ _ _ _ _ _ _ _ Tc1 (mkF m 134 #[.val (.int x0), .val (.long x1), .second, .val (.int x2), .val (.int x3), .val (.int ep), .val (.int mm), .val (.long eo), .second, .val (.int nn), .unset] [])
        refine Go.step (fun _ k => XS.iconst Xc1.here hx rfl (hb hby at_134)  k) ?_
        show Go _ _ _ _ _ _ _ _ Tc1 (mkF m 135 #[.val (.int x0), .val (.long x1), .second, .val (.int x2), .val (.int x3), .val (.int ep), .val (.int mm), .val (.long eo), .second, .val (.int nn), .unset] [(.int (0 : Int32))])
        refine Go.step (fun _ k => XS.istore Xc1.here hx rfl (hb hby at_135) rfl (l' := #[.val (.int x0), .val (.long x1), .second, .val (.int x2), .val (.int x3), .val (.int ep), .val (.int mm), .val (.long eo), .second, .val (.int nn), .val (.int (0 : Int32))]) rfl k) ?_
        show Go _ _ _ _ _ _ _ _ Tc1 (mkF m 137 #[.val (.int x0), .val (.long x1), .second, .val (.int x2), .val (.int x3), .val (.int ep), .val (.int mm), .val (.long eo), .second, .val (.int nn), .val (.int (0 : Int32))] [])
        refine Go.step (fun _ k => XS.goto Xc1.here hx rfl (pc0 := 137) (pc' := 153) rfl (hb hby at_137) (by decide) (by decide) k) ?_
        show Go _ _ _ _ _ _ _ _ Tc1 (mkF m 153 #[.val (.int x0), .val (.long x1), .second, .val (.int x2), .val (.int x3), .val (.int ep), .val (.int mm), .val (.long eo), .second, .val (.int nn), .val (.int (0 : Int32))] [])
        obtain ⟨T11, h11, X11, e11, E11, A11, D11, U11, st11⟩ := newO Xc1 hx hZ hown (hw _ (List.mem_of_getElem? (i := 0) rfl)) (hw _ (List.mem_of_getElem? (i := 1) rfl)) (hw _ (List.mem_of_getElem? (i := 2) rfl)) ec1 (g := (mkF m 153 #[.val (.int x0), .val (.long x1), .second, .val (.int x2), .val (.int x3), .val (.int ep), .val (.int mm), .val (.long eo), .second, .val (.int nn), .val (.int (0 : Int32))] [])) rfl (hb hby at_153) (by decide) (by decide)
        obtain ⟨b11, hb11⟩ : ∃ z, z = h0.size := ⟨_, rfl⟩
        rw [← hb11] at A11 D11 U11 st11
        refine Go.step st11 ?_
        have g_b11 : Z.heap.size ≤ b11 := Nat.le_trans O0.1 (Nat.le_of_eq hb11.symm)
        have O11_ : Ext Z.heap h11 := extTr O0 E11
        have F11_epoch : Fld Z h11 b11 "com/example/clean_epoch/cleanepoch/log/EpochEnd" "epoch" "I" (.int (0 : Int32)) := D11 (Or.inr (hw _ (List.mem_of_getElem? (i := 15) rfl))) (ty := .int) (by decide)
        have F11_endOffset : Fld Z h11 b11 "com/example/clean_epoch/cleanepoch/log/EpochEnd" "endOffset" "J" (.long (0 : Int64)) := D11 (Or.inr (hw _ (List.mem_of_getElem? (i := 17) rfl))) (ty := .long) (by decide)
        show Go _ _ _ _ _ _ _ _ T11 (mkF m 156 #[.val (.int x0), .val (.long x1), .second, .val (.int x2), .val (.int x3), .val (.int ep), .val (.int mm), .val (.long eo), .second, .val (.int nn), .val (.int (0 : Int32))] [(.ref b11)])
        refine Go.step (fun _ k => XS.dup X11.here hx rfl (hb hby at_156) rfl rfl k) ?_
        show Go _ _ _ _ _ _ _ _ T11 (mkF m 157 #[.val (.int x0), .val (.long x1), .second, .val (.int x2), .val (.int x3), .val (.int ep), .val (.int mm), .val (.long eo), .second, .val (.int nn), .val (.int (0 : Int32))] [(.ref b11), (.ref b11)])
        refine Go.step (fun _ k => XS.iload X11.here hx rfl (hb hby at_157) rfl k) ?_
        show Go _ _ _ _ _ _ _ _ T11 (mkF m 159 #[.val (.int x0), .val (.long x1), .second, .val (.int x2), .val (.int x3), .val (.int ep), .val (.int mm), .val (.long eo), .second, .val (.int nn), .val (.int (0 : Int32))] [(.int ep), (.ref b11), (.ref b11)])
        refine Go.step (fun _ k => XS.lload X11.here hx rfl (hb hby at_159) rfl k) ?_
        show Go _ _ _ _ _ _ _ _ T11 (mkF m 161 #[.val (.int x0), .val (.long x1), .second, .val (.int x2), .val (.int x3), .val (.int ep), .val (.int mm), .val (.long eo), .second, .val (.int nn), .val (.int (0 : Int32))] [(.long eo), (.int ep), (.ref b11), (.ref b11)])
        obtain ⟨_, _, ⟨T12, L12, k12, n12⟩, -, X12, ⟨Lc12, hQ12, l12, y12, z12⟩, st12⟩ := X11.specialBack hx (y := (⟨"com/example/clean_epoch/cleanepoch/log/EpochEnd", "<init>", "(IJ)V"⟩ : MethodName)) rfl hown (mvT hZ (hw _ (List.mem_of_getElem? (i := 3) rfl))) (mvT hZ (hw _ (List.mem_of_getElem? (i := 4) rfl))) (mvT hZ (hw _ (List.mem_of_getElem? (i := 5) rfl))) (by decide) (backOf (W := 1) (rm_1 l Z a0 hw [] b11 ep eo h11 O11_ A11 F11_epoch F11_endOffset g_b11) hZ (hw _ (List.mem_of_getElem? (i := 5) rfl)) (hw _ (List.mem_of_getElem? (i := 2) rfl)) (by decide) (by decide)) (g := (mkF m 161 #[.val (.int x0), .val (.long x1), .second, .val (.int x2), .val (.int x3), .val (.int ep), .val (.int mm), .val (.long eo), .second, .val (.int nn), .val (.int (0 : Int32))] [(.long eo), (.int ep), (.ref b11), (.ref b11)])) rfl (by rw [hml]; rfl) (Steps.refl _) (a := b11) (argsL := [(.int ep), (.long eo)]) (rest := [(.ref b11)]) (lenOf pd_LIJRV rfl) rfl (by show 2 * 0 + _ ≤ _; exact Nat.le_of_eq rfl) (hb hby at_161) (fun _ _ => ⟨rfl, e11, (by decide : 1 + 0 ≤ _), (by decide : 2 + 0 ≤ _)⟩)
        dsimp only [Pt.U, Pt.locs, Pt.cells, Pt.slots] at X12 l12 y12 z12 st12 hQ12
        subst l12 y12 z12
        obtain ⟨rfl, Nq12, Kq12, pe12, po12⟩ := hQ12
        have O12_ : Ext Z.heap T12.heap := extKeep O11_ Kq12 (allS g_b11 all0)
        have N12_ := Fr.app Nc1 Nq12
        refine Go.trans st12 ?_
        show Go _ _ _ _ _ _ _ _ T12 (mkF m 164 #[.val (.int x0), .val (.long x1), .second, .val (.int x2), .val (.int x3), .val (.int ep), .val (.int mm), .val (.long eo), .second, .val (.int nn), .val (.int (0 : Int32))] [(.ref b11)])
        refine Go.step (fun _ k => XS.iloadN X12.here hx rfl (hb hby at_164) rfl k) ?_
        show Go _ _ _ _ _ _ _ _ T12 (mkF m 165 #[.val (.int x0), .val (.long x1), .second, .val (.int x2), .val (.int x3), .val (.int ep), .val (.int mm), .val (.long eo), .second, .val (.int nn), .val (.int (0 : Int32))] [(.int x2), (.ref b11)])
        obtain ⟨cq13, kq13, q13a, q13b, q13c⟩ := isOf hZ rfl (A11.keep Kq12)
        obtain ⟨_, _, ⟨T13, L13, k13, n13⟩, -, X13, ⟨Lc13, hQ13, l13, y13, z13⟩, st13⟩ := X12.virtualBack hx (y := (⟨"com/example/clean_epoch/cleanepoch/log/EpochEnd", "answers", "(I)Z"⟩ : MethodName)) (z := (⟨"com/example/clean_epoch/cleanepoch/log/EpochEnd", "answers", "(I)Z"⟩ : MethodName)) hown (mvT hZ (hw _ (List.mem_of_getElem? (i := 18) rfl))) (mvT hZ (hw _ (List.mem_of_getElem? (i := 19) rfl))) (notFace_of_selects (args := #[]) (mvT hZ (hw _ (List.mem_of_getElem? (i := 21) rfl)))) (mvT hZ (hw _ (List.mem_of_getElem? (i := 21) rfl))) (mvT hZ (hw _ (List.mem_of_getElem? (i := 20) rfl))) (by decide) (backOf (W := 0) (rm_4 l Z a0 hw [] b11 x2 ep eo nA (0 : Int32) T12.heap O12_ pe12 po12 S_N F_n (by have hm : ¬ ep = -1 := fun q => hc108_2 (by subst q; decide); (try simp only [lw_lt, lw_gt, lw_eq] at hc108_2 hc131_10); simp only [hc108_2, hc131_10, hm, if_true, if_false, ite_self, eq_self, not_false_eq_true, true_or, or_true, false_or, or_false, or_self])) hZ (hw _ (List.mem_of_getElem? (i := 22) rfl)) (hw _ (List.mem_of_getElem? (i := 2) rfl)) (by decide) (by decide)) q13a q13c (g := (mkF m 165 #[.val (.int x0), .val (.long x1), .second, .val (.int x2), .val (.int x3), .val (.int ep), .val (.int mm), .val (.long eo), .second, .val (.int nn), .val (.int (0 : Int32))] [(.int x2), (.ref b11)])) rfl (by rw [hml]; rfl) (Steps.refl _) (argsL := [(.int x2)]) (rest := []) (lenOf pd_LIRZ rfl) rfl (by show 2 * 0 + _ ≤ _; exact Nat.le_of_eq rfl) (hb hby at_165) (fun _ _ => ⟨rfl, rfl, (by decide : 1 + 0 ≤ _), (by decide : 2 + 0 ≤ _)⟩)
        dsimp only [Pt.U, Pt.locs, Pt.cells, Pt.slots] at X13 l13 y13 z13 st13 hQ13
        subst l13 y13 z13
        obtain ⟨rfl, Nq13, e13⟩ := hQ13
        have N13_ := Fr.app N12_ Nq13
        refine Go.trans st13 ?_
        show Go _ _ _ _ _ _ _ _ T13 (mkF m 168 #[.val (.int x0), .val (.long x1), .second, .val (.int x2), .val (.int x3), .val (.int ep), .val (.int mm), .val (.long eo), .second, .val (.int nn), .val (.int (0 : Int32))] [(.int (0 : Int32))])
        refine Go.step (fun _ k => XS.iload X13.here hx rfl (hb hby at_168) rfl k) ?_
        show Go _ _ _ _ _ _ _ _ T13 (mkF m 170 #[.val (.int x0), .val (.long x1), .second, .val (.int x2), .val (.int x3), .val (.int ep), .val (.int mm), .val (.long eo), .second, .val (.int nn), .val (.int (0 : Int32))] [(.int (0 : Int32)), (.int (0 : Int32))])
        refine Go.step (fun _ k => XS.icmpNo X13.here hx rfl (hb hby at_170) rfl (teq (by decide : (0 : Int32) = (0 : Int32))).2 k) ?_
        show Go _ _ _ _ _ _ _ _ T13 (mkF m 173 #[.val (.int x0), .val (.long x1), .second, .val (.int x2), .val (.int x3), .val (.int ep), .val (.int mm), .val (.long eo), .second, .val (.int nn), .val (.int (0 : Int32))] [])
        refine Go.step (fun _ k => XS.iconst X13.here hx rfl (hb hby at_173)  k) ?_
        show Go _ _ _ _ _ _ _ _ T13 (mkF m 174 #[.val (.int x0), .val (.long x1), .second, .val (.int x2), .val (.int x3), .val (.int ep), .val (.int mm), .val (.long eo), .second, .val (.int nn), .val (.int (0 : Int32))] [(.int (1 : Int32))])
        refine Go.step (fun _ k => XS.goto X13.here hx rfl (pc0 := 174) (pc' := 178) rfl (hb hby at_174) (by decide) (by decide) k) ?_
        show Go _ _ _ _ _ _ _ _ T13 (mkF m 178 #[.val (.int x0), .val (.long x1), .second, .val (.int x2), .val (.int x3), .val (.int ep), .val (.int mm), .val (.long eo), .second, .val (.int nn), .val (.int (0 : Int32))] [(.int (1 : Int32))])
        exact Go.retN X13 hx (t := .boolean) Bd.returns (by simp) hlk (hb hby at_178) (by decide) (by decide) ⟨rfl, N13_, trivial⟩
      · refine Go.step (fun _ k => XS.ifYes Xc1.here hx rfl (pc0 := 131) (pc' := 140) rfl (hb hby at_131) rfl ((if0 _ _).trans (flt hc131_10).2.1) (by decide) (by decide) k) ?_
        show Go _ _ _ _ _ _ _ _ Tc1 (mkF m 140 #[.val (.int x0), .val (.long x1), .second, .val (.int x2), .val (.int x3), .val (.int ep), .val (.int mm), .val (.long eo), .second, .val (.int nn), .unset] [])
        refine Go.step (fun _ k => XS.iload Xc1.here hx rfl (hb hby at_140) rfl k) ?_
        show Go _ _ _ _ _ _ _ _ Tc1 (mkF m 142 #[.val (.int x0), .val (.long x1), .second, .val (.int x2), .val (.int x3), .val (.int ep), .val (.int mm), .val (.long eo), .second, .val (.int nn), .unset] [(.int ep)])
        refine Go.step (fun _ k => XS.iloadN Xc1.here hx rfl (hb hby at_142) rfl k) ?_
        show Go _ _ _ _ _ _ _ _ Tc1 (mkF m 143 #[.val (.int x0), .val (.long x1), .second, .val (.int x2), .val (.int x3), .val (.int ep), .val (.int mm), .val (.long eo), .second, .val (.int nn), .unset] [(.int x2), (.int ep)])
        by_cases hc143_14 : x2 < ep
        · refine Go.step (fun _ k => XS.icmpYes Xc1.here hx rfl (pc0 := 143) (pc' := 150) rfl (hb hby at_143) rfl (tlt hc143_14).2.2.1 (by decide) (by decide) k) ?_
          show Go _ _ _ _ _ _ _ _ Tc1 (mkF m 150 #[.val (.int x0), .val (.long x1), .second, .val (.int x2), .val (.int x3), .val (.int ep), .val (.int mm), .val (.long eo), .second, .val (.int nn), .unset] [])
          refine Go.step (fun _ k => XS.iconst Xc1.here hx rfl (hb hby at_150)  k) ?_
          show Go _ _ _ _ _ _ _ _ Tc1 (mkF m 151 #[.val (.int x0), .val (.long x1), .second, .val (.int x2), .val (.int x3), .val (.int ep), .val (.int mm), .val (.long eo), .second, .val (.int nn), .unset] [(.int (0 : Int32))])
          refine Go.step (fun _ k => XS.istore Xc1.here hx rfl (hb hby at_151) rfl (l' := #[.val (.int x0), .val (.long x1), .second, .val (.int x2), .val (.int x3), .val (.int ep), .val (.int mm), .val (.long eo), .second, .val (.int nn), .val (.int (0 : Int32))]) rfl k) ?_
          show Go _ _ _ _ _ _ _ _ Tc1 (mkF m 153 #[.val (.int x0), .val (.long x1), .second, .val (.int x2), .val (.int x3), .val (.int ep), .val (.int mm), .val (.long eo), .second, .val (.int nn), .val (.int (0 : Int32))] [])
          obtain ⟨T15, h15, X15, e15, E15, A15, D15, U15, st15⟩ := newO Xc1 hx hZ hown (hw _ (List.mem_of_getElem? (i := 0) rfl)) (hw _ (List.mem_of_getElem? (i := 1) rfl)) (hw _ (List.mem_of_getElem? (i := 2) rfl)) ec1 (g := (mkF m 153 #[.val (.int x0), .val (.long x1), .second, .val (.int x2), .val (.int x3), .val (.int ep), .val (.int mm), .val (.long eo), .second, .val (.int nn), .val (.int (0 : Int32))] [])) rfl (hb hby at_153) (by decide) (by decide)
          obtain ⟨b15, hb15⟩ : ∃ z, z = h0.size := ⟨_, rfl⟩
          rw [← hb15] at A15 D15 U15 st15
          refine Go.step st15 ?_
          have g_b15 : Z.heap.size ≤ b15 := Nat.le_trans O0.1 (Nat.le_of_eq hb15.symm)
          have O15_ : Ext Z.heap h15 := extTr O0 E15
          have F15_epoch : Fld Z h15 b15 "com/example/clean_epoch/cleanepoch/log/EpochEnd" "epoch" "I" (.int (0 : Int32)) := D15 (Or.inr (hw _ (List.mem_of_getElem? (i := 15) rfl))) (ty := .int) (by decide)
          have F15_endOffset : Fld Z h15 b15 "com/example/clean_epoch/cleanepoch/log/EpochEnd" "endOffset" "J" (.long (0 : Int64)) := D15 (Or.inr (hw _ (List.mem_of_getElem? (i := 17) rfl))) (ty := .long) (by decide)
          show Go _ _ _ _ _ _ _ _ T15 (mkF m 156 #[.val (.int x0), .val (.long x1), .second, .val (.int x2), .val (.int x3), .val (.int ep), .val (.int mm), .val (.long eo), .second, .val (.int nn), .val (.int (0 : Int32))] [(.ref b15)])
          refine Go.step (fun _ k => XS.dup X15.here hx rfl (hb hby at_156) rfl rfl k) ?_
          show Go _ _ _ _ _ _ _ _ T15 (mkF m 157 #[.val (.int x0), .val (.long x1), .second, .val (.int x2), .val (.int x3), .val (.int ep), .val (.int mm), .val (.long eo), .second, .val (.int nn), .val (.int (0 : Int32))] [(.ref b15), (.ref b15)])
          refine Go.step (fun _ k => XS.iload X15.here hx rfl (hb hby at_157) rfl k) ?_
          show Go _ _ _ _ _ _ _ _ T15 (mkF m 159 #[.val (.int x0), .val (.long x1), .second, .val (.int x2), .val (.int x3), .val (.int ep), .val (.int mm), .val (.long eo), .second, .val (.int nn), .val (.int (0 : Int32))] [(.int ep), (.ref b15), (.ref b15)])
          refine Go.step (fun _ k => XS.lload X15.here hx rfl (hb hby at_159) rfl k) ?_
          show Go _ _ _ _ _ _ _ _ T15 (mkF m 161 #[.val (.int x0), .val (.long x1), .second, .val (.int x2), .val (.int x3), .val (.int ep), .val (.int mm), .val (.long eo), .second, .val (.int nn), .val (.int (0 : Int32))] [(.long eo), (.int ep), (.ref b15), (.ref b15)])
          obtain ⟨_, _, ⟨T16, L16, k16, n16⟩, -, X16, ⟨Lc16, hQ16, l16, y16, z16⟩, st16⟩ := X15.specialBack hx (y := (⟨"com/example/clean_epoch/cleanepoch/log/EpochEnd", "<init>", "(IJ)V"⟩ : MethodName)) rfl hown (mvT hZ (hw _ (List.mem_of_getElem? (i := 3) rfl))) (mvT hZ (hw _ (List.mem_of_getElem? (i := 4) rfl))) (mvT hZ (hw _ (List.mem_of_getElem? (i := 5) rfl))) (by decide) (backOf (W := 1) (rm_1 l Z a0 hw [] b15 ep eo h15 O15_ A15 F15_epoch F15_endOffset g_b15) hZ (hw _ (List.mem_of_getElem? (i := 5) rfl)) (hw _ (List.mem_of_getElem? (i := 2) rfl)) (by decide) (by decide)) (g := (mkF m 161 #[.val (.int x0), .val (.long x1), .second, .val (.int x2), .val (.int x3), .val (.int ep), .val (.int mm), .val (.long eo), .second, .val (.int nn), .val (.int (0 : Int32))] [(.long eo), (.int ep), (.ref b15), (.ref b15)])) rfl (by rw [hml]; rfl) (Steps.refl _) (a := b15) (argsL := [(.int ep), (.long eo)]) (rest := [(.ref b15)]) (lenOf pd_LIJRV rfl) rfl (by show 2 * 0 + _ ≤ _; exact Nat.le_of_eq rfl) (hb hby at_161) (fun _ _ => ⟨rfl, e15, (by decide : 1 + 0 ≤ _), (by decide : 2 + 0 ≤ _)⟩)
          dsimp only [Pt.U, Pt.locs, Pt.cells, Pt.slots] at X16 l16 y16 z16 st16 hQ16
          subst l16 y16 z16
          obtain ⟨rfl, Nq16, Kq16, pe16, po16⟩ := hQ16
          have O16_ : Ext Z.heap T16.heap := extKeep O15_ Kq16 (allS g_b15 all0)
          have N16_ := Fr.app Nc1 Nq16
          refine Go.trans st16 ?_
          show Go _ _ _ _ _ _ _ _ T16 (mkF m 164 #[.val (.int x0), .val (.long x1), .second, .val (.int x2), .val (.int x3), .val (.int ep), .val (.int mm), .val (.long eo), .second, .val (.int nn), .val (.int (0 : Int32))] [(.ref b15)])
          refine Go.step (fun _ k => XS.iloadN X16.here hx rfl (hb hby at_164) rfl k) ?_
          show Go _ _ _ _ _ _ _ _ T16 (mkF m 165 #[.val (.int x0), .val (.long x1), .second, .val (.int x2), .val (.int x3), .val (.int ep), .val (.int mm), .val (.long eo), .second, .val (.int nn), .val (.int (0 : Int32))] [(.int x2), (.ref b15)])
          obtain ⟨cq17, kq17, q17a, q17b, q17c⟩ := isOf hZ rfl (A15.keep Kq16)
          obtain ⟨_, _, ⟨T17, L17, k17, n17⟩, -, X17, ⟨Lc17, hQ17, l17, y17, z17⟩, st17⟩ := X16.virtualBack hx (y := (⟨"com/example/clean_epoch/cleanepoch/log/EpochEnd", "answers", "(I)Z"⟩ : MethodName)) (z := (⟨"com/example/clean_epoch/cleanepoch/log/EpochEnd", "answers", "(I)Z"⟩ : MethodName)) hown (mvT hZ (hw _ (List.mem_of_getElem? (i := 18) rfl))) (mvT hZ (hw _ (List.mem_of_getElem? (i := 19) rfl))) (notFace_of_selects (args := #[]) (mvT hZ (hw _ (List.mem_of_getElem? (i := 21) rfl)))) (mvT hZ (hw _ (List.mem_of_getElem? (i := 21) rfl))) (mvT hZ (hw _ (List.mem_of_getElem? (i := 20) rfl))) (by decide) (backOf (W := 0) (rm_4 l Z a0 hw [] b15 x2 ep eo nA (0 : Int32) T16.heap O16_ pe16 po16 S_N F_n (by have hm : ¬ ep = -1 := fun q => hc108_2 (by subst q; decide); (try simp only [lw_lt, lw_gt, lw_eq] at hc108_2 hc131_10 hc143_14); simp only [hc108_2, hc131_10, hc143_14, hm, if_true, if_false, ite_self, eq_self, not_false_eq_true, true_or, or_true, false_or, or_false, or_self])) hZ (hw _ (List.mem_of_getElem? (i := 22) rfl)) (hw _ (List.mem_of_getElem? (i := 2) rfl)) (by decide) (by decide)) q17a q17c (g := (mkF m 165 #[.val (.int x0), .val (.long x1), .second, .val (.int x2), .val (.int x3), .val (.int ep), .val (.int mm), .val (.long eo), .second, .val (.int nn), .val (.int (0 : Int32))] [(.int x2), (.ref b15)])) rfl (by rw [hml]; rfl) (Steps.refl _) (argsL := [(.int x2)]) (rest := []) (lenOf pd_LIRZ rfl) rfl (by show 2 * 0 + _ ≤ _; exact Nat.le_of_eq rfl) (hb hby at_165) (fun _ _ => ⟨rfl, rfl, (by decide : 1 + 0 ≤ _), (by decide : 2 + 0 ≤ _)⟩)
          dsimp only [Pt.U, Pt.locs, Pt.cells, Pt.slots] at X17 l17 y17 z17 st17 hQ17
          subst l17 y17 z17
          obtain ⟨rfl, Nq17, e17⟩ := hQ17
          have N17_ := Fr.app N16_ Nq17
          refine Go.trans st17 ?_
          show Go _ _ _ _ _ _ _ _ T17 (mkF m 168 #[.val (.int x0), .val (.long x1), .second, .val (.int x2), .val (.int x3), .val (.int ep), .val (.int mm), .val (.long eo), .second, .val (.int nn), .val (.int (0 : Int32))] [(.int (0 : Int32))])
          refine Go.step (fun _ k => XS.iload X17.here hx rfl (hb hby at_168) rfl k) ?_
          show Go _ _ _ _ _ _ _ _ T17 (mkF m 170 #[.val (.int x0), .val (.long x1), .second, .val (.int x2), .val (.int x3), .val (.int ep), .val (.int mm), .val (.long eo), .second, .val (.int nn), .val (.int (0 : Int32))] [(.int (0 : Int32)), (.int (0 : Int32))])
          refine Go.step (fun _ k => XS.icmpNo X17.here hx rfl (hb hby at_170) rfl (teq (by decide : (0 : Int32) = (0 : Int32))).2 k) ?_
          show Go _ _ _ _ _ _ _ _ T17 (mkF m 173 #[.val (.int x0), .val (.long x1), .second, .val (.int x2), .val (.int x3), .val (.int ep), .val (.int mm), .val (.long eo), .second, .val (.int nn), .val (.int (0 : Int32))] [])
          refine Go.step (fun _ k => XS.iconst X17.here hx rfl (hb hby at_173)  k) ?_
          show Go _ _ _ _ _ _ _ _ T17 (mkF m 174 #[.val (.int x0), .val (.long x1), .second, .val (.int x2), .val (.int x3), .val (.int ep), .val (.int mm), .val (.long eo), .second, .val (.int nn), .val (.int (0 : Int32))] [(.int (1 : Int32))])
          refine Go.step (fun _ k => XS.goto X17.here hx rfl (pc0 := 174) (pc' := 178) rfl (hb hby at_174) (by decide) (by decide) k) ?_
          show Go _ _ _ _ _ _ _ _ T17 (mkF m 178 #[.val (.int x0), .val (.long x1), .second, .val (.int x2), .val (.int x3), .val (.int ep), .val (.int mm), .val (.long eo), .second, .val (.int nn), .val (.int (0 : Int32))] [(.int (1 : Int32))])
          exact Go.retN X17 hx (t := .boolean) Bd.returns (by simp) hlk (hb hby at_178) (by decide) (by decide) ⟨rfl, N17_, trivial⟩
        · refine Go.step (fun _ k => XS.icmpNo Xc1.here hx rfl (hb hby at_143) rfl (flt hc143_14).2.2.1 k) ?_
          show Go _ _ _ _ _ _ _ _ Tc1 (mkF m 146 #[.val (.int x0), .val (.long x1), .second, .val (.int x2), .val (.int x3), .val (.int ep), .val (.int mm), .val (.long eo), .second, .val (.int nn), .unset] [])
          refine Go.step (fun _ k => XS.iconst Xc1.here hx rfl (hb hby at_146)  k) ?_
          show Go _ _ _ _ _ _ _ _ Tc1 (mkF m 147 #[.val (.int x0), .val (.long x1), .second, .val (.int x2), .val (.int x3), .val (.int ep), .val (.int mm), .val (.long eo), .second, .val (.int nn), .unset] [(.int (1 : Int32))])
          refine Go.step (fun _ k => XS.goto Xc1.here hx rfl (pc0 := 147) (pc' := 151) rfl (hb hby at_147) (by decide) (by decide) k) ?_
          show Go _ _ _ _ _ _ _ _ Tc1 (mkF m 151 #[.val (.int x0), .val (.long x1), .second, .val (.int x2), .val (.int x3), .val (.int ep), .val (.int mm), .val (.long eo), .second, .val (.int nn), .unset] [(.int (1 : Int32))])
          refine Go.step (fun _ k => XS.istore Xc1.here hx rfl (hb hby at_151) rfl (l' := #[.val (.int x0), .val (.long x1), .second, .val (.int x2), .val (.int x3), .val (.int ep), .val (.int mm), .val (.long eo), .second, .val (.int nn), .val (.int (1 : Int32))]) rfl k) ?_
          show Go _ _ _ _ _ _ _ _ Tc1 (mkF m 153 #[.val (.int x0), .val (.long x1), .second, .val (.int x2), .val (.int x3), .val (.int ep), .val (.int mm), .val (.long eo), .second, .val (.int nn), .val (.int (1 : Int32))] [])
          obtain ⟨T18, h18, X18, e18, E18, A18, D18, U18, st18⟩ := newO Xc1 hx hZ hown (hw _ (List.mem_of_getElem? (i := 0) rfl)) (hw _ (List.mem_of_getElem? (i := 1) rfl)) (hw _ (List.mem_of_getElem? (i := 2) rfl)) ec1 (g := (mkF m 153 #[.val (.int x0), .val (.long x1), .second, .val (.int x2), .val (.int x3), .val (.int ep), .val (.int mm), .val (.long eo), .second, .val (.int nn), .val (.int (1 : Int32))] [])) rfl (hb hby at_153) (by decide) (by decide)
          obtain ⟨b18, hb18⟩ : ∃ z, z = h0.size := ⟨_, rfl⟩
          rw [← hb18] at A18 D18 U18 st18
          refine Go.step st18 ?_
          have g_b18 : Z.heap.size ≤ b18 := Nat.le_trans O0.1 (Nat.le_of_eq hb18.symm)
          have O18_ : Ext Z.heap h18 := extTr O0 E18
          have F18_epoch : Fld Z h18 b18 "com/example/clean_epoch/cleanepoch/log/EpochEnd" "epoch" "I" (.int (0 : Int32)) := D18 (Or.inr (hw _ (List.mem_of_getElem? (i := 15) rfl))) (ty := .int) (by decide)
          have F18_endOffset : Fld Z h18 b18 "com/example/clean_epoch/cleanepoch/log/EpochEnd" "endOffset" "J" (.long (0 : Int64)) := D18 (Or.inr (hw _ (List.mem_of_getElem? (i := 17) rfl))) (ty := .long) (by decide)
          show Go _ _ _ _ _ _ _ _ T18 (mkF m 156 #[.val (.int x0), .val (.long x1), .second, .val (.int x2), .val (.int x3), .val (.int ep), .val (.int mm), .val (.long eo), .second, .val (.int nn), .val (.int (1 : Int32))] [(.ref b18)])
          refine Go.step (fun _ k => XS.dup X18.here hx rfl (hb hby at_156) rfl rfl k) ?_
          show Go _ _ _ _ _ _ _ _ T18 (mkF m 157 #[.val (.int x0), .val (.long x1), .second, .val (.int x2), .val (.int x3), .val (.int ep), .val (.int mm), .val (.long eo), .second, .val (.int nn), .val (.int (1 : Int32))] [(.ref b18), (.ref b18)])
          refine Go.step (fun _ k => XS.iload X18.here hx rfl (hb hby at_157) rfl k) ?_
          show Go _ _ _ _ _ _ _ _ T18 (mkF m 159 #[.val (.int x0), .val (.long x1), .second, .val (.int x2), .val (.int x3), .val (.int ep), .val (.int mm), .val (.long eo), .second, .val (.int nn), .val (.int (1 : Int32))] [(.int ep), (.ref b18), (.ref b18)])
          refine Go.step (fun _ k => XS.lload X18.here hx rfl (hb hby at_159) rfl k) ?_
          show Go _ _ _ _ _ _ _ _ T18 (mkF m 161 #[.val (.int x0), .val (.long x1), .second, .val (.int x2), .val (.int x3), .val (.int ep), .val (.int mm), .val (.long eo), .second, .val (.int nn), .val (.int (1 : Int32))] [(.long eo), (.int ep), (.ref b18), (.ref b18)])
          obtain ⟨_, _, ⟨T19, L19, k19, n19⟩, -, X19, ⟨Lc19, hQ19, l19, y19, z19⟩, st19⟩ := X18.specialBack hx (y := (⟨"com/example/clean_epoch/cleanepoch/log/EpochEnd", "<init>", "(IJ)V"⟩ : MethodName)) rfl hown (mvT hZ (hw _ (List.mem_of_getElem? (i := 3) rfl))) (mvT hZ (hw _ (List.mem_of_getElem? (i := 4) rfl))) (mvT hZ (hw _ (List.mem_of_getElem? (i := 5) rfl))) (by decide) (backOf (W := 1) (rm_1 l Z a0 hw [] b18 ep eo h18 O18_ A18 F18_epoch F18_endOffset g_b18) hZ (hw _ (List.mem_of_getElem? (i := 5) rfl)) (hw _ (List.mem_of_getElem? (i := 2) rfl)) (by decide) (by decide)) (g := (mkF m 161 #[.val (.int x0), .val (.long x1), .second, .val (.int x2), .val (.int x3), .val (.int ep), .val (.int mm), .val (.long eo), .second, .val (.int nn), .val (.int (1 : Int32))] [(.long eo), (.int ep), (.ref b18), (.ref b18)])) rfl (by rw [hml]; rfl) (Steps.refl _) (a := b18) (argsL := [(.int ep), (.long eo)]) (rest := [(.ref b18)]) (lenOf pd_LIJRV rfl) rfl (by show 2 * 0 + _ ≤ _; exact Nat.le_of_eq rfl) (hb hby at_161) (fun _ _ => ⟨rfl, e18, (by decide : 1 + 0 ≤ _), (by decide : 2 + 0 ≤ _)⟩)
          dsimp only [Pt.U, Pt.locs, Pt.cells, Pt.slots] at X19 l19 y19 z19 st19 hQ19
          subst l19 y19 z19
          obtain ⟨rfl, Nq19, Kq19, pe19, po19⟩ := hQ19
          have O19_ : Ext Z.heap T19.heap := extKeep O18_ Kq19 (allS g_b18 all0)
          have N19_ := Fr.app Nc1 Nq19
          refine Go.trans st19 ?_
          show Go _ _ _ _ _ _ _ _ T19 (mkF m 164 #[.val (.int x0), .val (.long x1), .second, .val (.int x2), .val (.int x3), .val (.int ep), .val (.int mm), .val (.long eo), .second, .val (.int nn), .val (.int (1 : Int32))] [(.ref b18)])
          refine Go.step (fun _ k => XS.iloadN X19.here hx rfl (hb hby at_164) rfl k) ?_
          show Go _ _ _ _ _ _ _ _ T19 (mkF m 165 #[.val (.int x0), .val (.long x1), .second, .val (.int x2), .val (.int x3), .val (.int ep), .val (.int mm), .val (.long eo), .second, .val (.int nn), .val (.int (1 : Int32))] [(.int x2), (.ref b18)])
          obtain ⟨cq20, kq20, q20a, q20b, q20c⟩ := isOf hZ rfl (A18.keep Kq19)
          obtain ⟨_, _, ⟨T20, L20, k20, n20⟩, -, X20, ⟨Lc20, hQ20, l20, y20, z20⟩, st20⟩ := X19.virtualBack hx (y := (⟨"com/example/clean_epoch/cleanepoch/log/EpochEnd", "answers", "(I)Z"⟩ : MethodName)) (z := (⟨"com/example/clean_epoch/cleanepoch/log/EpochEnd", "answers", "(I)Z"⟩ : MethodName)) hown (mvT hZ (hw _ (List.mem_of_getElem? (i := 18) rfl))) (mvT hZ (hw _ (List.mem_of_getElem? (i := 19) rfl))) (notFace_of_selects (args := #[]) (mvT hZ (hw _ (List.mem_of_getElem? (i := 21) rfl)))) (mvT hZ (hw _ (List.mem_of_getElem? (i := 21) rfl))) (mvT hZ (hw _ (List.mem_of_getElem? (i := 20) rfl))) (by decide) (backOf (W := 0) (rm_4 l Z a0 hw [] b18 x2 ep eo nA (1 : Int32) T19.heap O19_ pe19 po19 S_N F_n (by have hm : ¬ ep = -1 := fun q => hc108_2 (by subst q; decide); (try simp only [lw_lt, lw_gt, lw_eq] at hc108_2 hc131_10 hc143_14); simp only [hc108_2, hc131_10, hc143_14, hm, if_true, if_false, ite_self, eq_self, not_false_eq_true, true_or, or_true, false_or, or_false, or_self])) hZ (hw _ (List.mem_of_getElem? (i := 22) rfl)) (hw _ (List.mem_of_getElem? (i := 2) rfl)) (by decide) (by decide)) q20a q20c (g := (mkF m 165 #[.val (.int x0), .val (.long x1), .second, .val (.int x2), .val (.int x3), .val (.int ep), .val (.int mm), .val (.long eo), .second, .val (.int nn), .val (.int (1 : Int32))] [(.int x2), (.ref b18)])) rfl (by rw [hml]; rfl) (Steps.refl _) (argsL := [(.int x2)]) (rest := []) (lenOf pd_LIRZ rfl) rfl (by show 2 * 0 + _ ≤ _; exact Nat.le_of_eq rfl) (hb hby at_165) (fun _ _ => ⟨rfl, rfl, (by decide : 1 + 0 ≤ _), (by decide : 2 + 0 ≤ _)⟩)
          dsimp only [Pt.U, Pt.locs, Pt.cells, Pt.slots] at X20 l20 y20 z20 st20 hQ20
          subst l20 y20 z20
          obtain ⟨rfl, Nq20, e20⟩ := hQ20
          have N20_ := Fr.app N19_ Nq20
          refine Go.trans st20 ?_
          show Go _ _ _ _ _ _ _ _ T20 (mkF m 168 #[.val (.int x0), .val (.long x1), .second, .val (.int x2), .val (.int x3), .val (.int ep), .val (.int mm), .val (.long eo), .second, .val (.int nn), .val (.int (1 : Int32))] [(.int (1 : Int32))])
          refine Go.step (fun _ k => XS.iload X20.here hx rfl (hb hby at_168) rfl k) ?_
          show Go _ _ _ _ _ _ _ _ T20 (mkF m 170 #[.val (.int x0), .val (.long x1), .second, .val (.int x2), .val (.int x3), .val (.int ep), .val (.int mm), .val (.long eo), .second, .val (.int nn), .val (.int (1 : Int32))] [(.int (1 : Int32)), (.int (1 : Int32))])
          refine Go.step (fun _ k => XS.icmpNo X20.here hx rfl (hb hby at_170) rfl (teq (by decide : (1 : Int32) = (1 : Int32))).2 k) ?_
          show Go _ _ _ _ _ _ _ _ T20 (mkF m 173 #[.val (.int x0), .val (.long x1), .second, .val (.int x2), .val (.int x3), .val (.int ep), .val (.int mm), .val (.long eo), .second, .val (.int nn), .val (.int (1 : Int32))] [])
          refine Go.step (fun _ k => XS.iconst X20.here hx rfl (hb hby at_173)  k) ?_
          show Go _ _ _ _ _ _ _ _ T20 (mkF m 174 #[.val (.int x0), .val (.long x1), .second, .val (.int x2), .val (.int x3), .val (.int ep), .val (.int mm), .val (.long eo), .second, .val (.int nn), .val (.int (1 : Int32))] [(.int (1 : Int32))])
          refine Go.step (fun _ k => XS.goto X20.here hx rfl (pc0 := 174) (pc' := 178) rfl (hb hby at_174) (by decide) (by decide) k) ?_
          show Go _ _ _ _ _ _ _ _ T20 (mkF m 178 #[.val (.int x0), .val (.long x1), .second, .val (.int x2), .val (.int x3), .val (.int ep), .val (.int mm), .val (.long eo), .second, .val (.int nn), .val (.int (1 : Int32))] [(.int (1 : Int32))])
          exact Go.retN X20 hx (t := .boolean) Bd.returns (by simp) hlk (hb hby at_178) (by decide) (by decide) ⟨rfl, N20_, trivial⟩
  have cut54 : ∀ (Tc21 : State) (Lc21 : List Loc) (Xc21 : Stand p l e room_1 s m #[(.int x0), (.long x1), (.int x2), (.int x3)] below meth c Tc21 Lc21 0 0) (ec21 : Tc21.heap = h0) (Nc21 : Fr Z.heap.size Lc21) (ep : Int32) (mm : Int32) , Go FrameEnd p e below s (room_1).cells (room_1).slots (Q_0 Z x0 x1 x2 x3 nA h0) Tc21 (mkF m 54 #[.val (.int x0), .val (.long x1), .second, .val (.int x2), .val (.int x3), .val (.int ep), .val (.int mm), .unset, .unset, .unset, .unset] []) := by
    intro Tc21 Lc21 Xc21 ec21 Nc21  ep mm 
    refine Go.step (fun _ k => XS.iload Xc21.here hx rfl (hb hby at_54) rfl k) ?_
    show Go _ _ _ _ _ _ _ _ Tc21 (mkF m 56 #[.val (.int x0), .val (.long x1), .second, .val (.int x2), .val (.int x3), .val (.int ep), .val (.int mm), .unset, .unset, .unset, .unset] [(.int x3)])
    refine Go.step (fun _ k => XS.iconst Xc21.here hx rfl (hb hby at_56)  k) ?_
    show Go _ _ _ _ _ _ _ _ Tc21 (mkF m 57 #[.val (.int x0), .val (.long x1), .second, .val (.int x2), .val (.int x3), .val (.int ep), .val (.int mm), .unset, .unset, .unset, .unset] [(.int (2 : Int32)), (.int x3)])
    refine Go.step (fun _ k => XS.iushr Xc21.here hx rfl (hb hby at_57) rfl k) ?_
    show Go _ _ _ _ _ _ _ _ Tc21 (mkF m 58 #[.val (.int x0), .val (.long x1), .second, .val (.int x2), .val (.int x3), .val (.int ep), .val (.int mm), .unset, .unset, .unset, .unset] [(.int ((x3.toUInt32 >>> ((2 : Int32) &&& 31).toUInt32).toInt32))])
    refine Go.step (fun _ k => XS.iconst Xc21.here hx rfl (hb hby at_58)  k) ?_
    show Go _ _ _ _ _ _ _ _ Tc21 (mkF m 59 #[.val (.int x0), .val (.long x1), .second, .val (.int x2), .val (.int x3), .val (.int ep), .val (.int mm), .unset, .unset, .unset, .unset] [(.int (3 : Int32)), (.int ((x3.toUInt32 >>> ((2 : Int32) &&& 31).toUInt32).toInt32))])
    refine Go.step (fun _ k => XS.iand Xc21.here hx rfl (hb hby at_59) rfl k) ?_
    show Go _ _ _ _ _ _ _ _ Tc21 (mkF m 60 #[.val (.int x0), .val (.long x1), .second, .val (.int x2), .val (.int x3), .val (.int ep), .val (.int mm), .unset, .unset, .unset, .unset] [(.int (((x3.toUInt32 >>> ((2 : Int32) &&& 31).toUInt32).toInt32) &&& (3 : Int32)))])
    refine Go.step (fun _ k => XS.istore Xc21.here hx rfl (hb hby at_60) rfl (l' := #[.val (.int x0), .val (.long x1), .second, .val (.int x2), .val (.int x3), .val (.int ep), .val (.int mm), .unset, .unset, .val (.int (((x3.toUInt32 >>> ((2 : Int32) &&& 31).toUInt32).toInt32) &&& (3 : Int32))), .unset]) rfl k) ?_
    show Go _ _ _ _ _ _ _ _ Tc21 (mkF m 62 #[.val (.int x0), .val (.long x1), .second, .val (.int x2), .val (.int x3), .val (.int ep), .val (.int mm), .unset, .unset, .val (.int (((x3.toUInt32 >>> ((2 : Int32) &&& 31).toUInt32).toInt32) &&& (3 : Int32))), .unset] [])
    refine Go.step (fun _ k => XS.iload Xc21.here hx rfl (hb hby at_62) rfl k) ?_
    show Go _ _ _ _ _ _ _ _ Tc21 (mkF m 64 #[.val (.int x0), .val (.long x1), .second, .val (.int x2), .val (.int x3), .val (.int ep), .val (.int mm), .unset, .unset, .val (.int (((x3.toUInt32 >>> ((2 : Int32) &&& 31).toUInt32).toInt32) &&& (3 : Int32))), .unset] [(.int (((x3.toUInt32 >>> ((2 : Int32) &&& 31).toUInt32).toInt32) &&& (3 : Int32)))])
    by_cases hc64_22 : (((x3.toUInt32 >>> ((2 : Int32) &&& 31).toUInt32).toInt32) &&& (3 : Int32)) = (0 : Int32)
    · refine Go.step (fun _ k => XS.ifNo Xc21.here hx rfl (hb hby at_64) rfl ((if0 _ _).trans (teq hc64_22).2) k) ?_
      show Go _ _ _ _ _ _ _ _ Tc21 (mkF m 67 #[.val (.int x0), .val (.long x1), .second, .val (.int x2), .val (.int x3), .val (.int ep), .val (.int mm), .unset, .unset, .val (.int (((x3.toUInt32 >>> ((2 : Int32) &&& 31).toUInt32).toInt32) &&& (3 : Int32))), .unset] [])
      refine Go.step (fun _ k => XS.lloadN Xc21.here hx rfl (hb hby at_67) rfl k) ?_
      show Go _ _ _ _ _ _ _ _ Tc21 (mkF m 68 #[.val (.int x0), .val (.long x1), .second, .val (.int x2), .val (.int x3), .val (.int ep), .val (.int mm), .unset, .unset, .val (.int (((x3.toUInt32 >>> ((2 : Int32) &&& 31).toUInt32).toInt32) &&& (3 : Int32))), .unset] [(.long x1)])
      refine Go.step (fun _ k => XS.lstore Xc21.here hx rfl (hb hby at_68) rfl (l' := #[.val (.int x0), .val (.long x1), .second, .val (.int x2), .val (.int x3), .val (.int ep), .val (.int mm), .val (.long x1), .second, .val (.int (((x3.toUInt32 >>> ((2 : Int32) &&& 31).toUInt32).toInt32) &&& (3 : Int32))), .unset]) rfl k) ?_
      show Go _ _ _ _ _ _ _ _ Tc21 (mkF m 70 #[.val (.int x0), .val (.long x1), .second, .val (.int x2), .val (.int x3), .val (.int ep), .val (.int mm), .val (.long x1), .second, .val (.int (((x3.toUInt32 >>> ((2 : Int32) &&& 31).toUInt32).toInt32) &&& (3 : Int32))), .unset] [])
      refine Go.step (fun _ k => XS.goto Xc21.here hx rfl (pc0 := 70) (pc' := 106) rfl (hb hby at_70) (by decide) (by decide) k) ?_
      show Go _ _ _ _ _ _ _ _ Tc21 (mkF m 106 #[.val (.int x0), .val (.long x1), .second, .val (.int x2), .val (.int x3), .val (.int ep), .val (.int mm), .val (.long x1), .second, .val (.int (((x3.toUInt32 >>> ((2 : Int32) &&& 31).toUInt32).toInt32) &&& (3 : Int32))), .unset] [])
      exact cut106 Tc21 _ Xc21 ec21 Nc21  ep mm x1 (((x3.toUInt32 >>> ((2 : Int32) &&& 31).toUInt32).toInt32) &&& (3 : Int32)) 
    · refine Go.step (fun _ k => XS.ifYes Xc21.here hx rfl (pc0 := 64) (pc' := 73) rfl (hb hby at_64) rfl ((if0 _ _).trans (feq hc64_22).2) (by decide) (by decide) k) ?_
      show Go _ _ _ _ _ _ _ _ Tc21 (mkF m 73 #[.val (.int x0), .val (.long x1), .second, .val (.int x2), .val (.int x3), .val (.int ep), .val (.int mm), .unset, .unset, .val (.int (((x3.toUInt32 >>> ((2 : Int32) &&& 31).toUInt32).toInt32) &&& (3 : Int32))), .unset] [])
      refine Go.step (fun _ k => XS.iload Xc21.here hx rfl (hb hby at_73) rfl k) ?_
      show Go _ _ _ _ _ _ _ _ Tc21 (mkF m 75 #[.val (.int x0), .val (.long x1), .second, .val (.int x2), .val (.int x3), .val (.int ep), .val (.int mm), .unset, .unset, .val (.int (((x3.toUInt32 >>> ((2 : Int32) &&& 31).toUInt32).toInt32) &&& (3 : Int32))), .unset] [(.int (((x3.toUInt32 >>> ((2 : Int32) &&& 31).toUInt32).toInt32) &&& (3 : Int32)))])
      refine Go.step (fun _ k => XS.iconst Xc21.here hx rfl (hb hby at_75)  k) ?_
      show Go _ _ _ _ _ _ _ _ Tc21 (mkF m 76 #[.val (.int x0), .val (.long x1), .second, .val (.int x2), .val (.int x3), .val (.int ep), .val (.int mm), .unset, .unset, .val (.int (((x3.toUInt32 >>> ((2 : Int32) &&& 31).toUInt32).toInt32) &&& (3 : Int32))), .unset] [(.int (1 : Int32)), (.int (((x3.toUInt32 >>> ((2 : Int32) &&& 31).toUInt32).toInt32) &&& (3 : Int32)))])
      by_cases hc76_23 : (((x3.toUInt32 >>> ((2 : Int32) &&& 31).toUInt32).toInt32) &&& (3 : Int32)) = (1 : Int32)
      · refine Go.step (fun _ k => XS.icmpNo Xc21.here hx rfl (hb hby at_76) rfl (teq hc76_23).2 k) ?_
        show Go _ _ _ _ _ _ _ _ Tc21 (mkF m 79 #[.val (.int x0), .val (.long x1), .second, .val (.int x2), .val (.int x3), .val (.int ep), .val (.int mm), .unset, .unset, .val (.int (((x3.toUInt32 >>> ((2 : Int32) &&& 31).toUInt32).toInt32) &&& (3 : Int32))), .unset] [])
        refine Go.step (Xc21.ldc2Long hx hown (mvT hZ (hw _ (List.mem_of_getElem? (i := 25) rfl))) (g := (mkF m 79 #[.val (.int x0), .val (.long x1), .second, .val (.int x2), .val (.int x3), .val (.int ep), .val (.int mm), .unset, .unset, .val (.int (((x3.toUInt32 >>> ((2 : Int32) &&& 31).toUInt32).toInt32) &&& (3 : Int32))), .unset] [])) rfl (hb hby at_79)) ?_
        show Go _ _ _ _ _ _ _ _ Tc21 (mkF m 82 #[.val (.int x0), .val (.long x1), .second, .val (.int x2), .val (.int x3), .val (.int ep), .val (.int mm), .unset, .unset, .val (.int (((x3.toUInt32 >>> ((2 : Int32) &&& 31).toUInt32).toInt32) &&& (3 : Int32))), .unset] [(.long (-1 : Int64))])
        refine Go.step (fun _ k => XS.lstore Xc21.here hx rfl (hb hby at_82) rfl (l' := #[.val (.int x0), .val (.long x1), .second, .val (.int x2), .val (.int x3), .val (.int ep), .val (.int mm), .val (.long (-1 : Int64)), .second, .val (.int (((x3.toUInt32 >>> ((2 : Int32) &&& 31).toUInt32).toInt32) &&& (3 : Int32))), .unset]) rfl k) ?_
        show Go _ _ _ _ _ _ _ _ Tc21 (mkF m 84 #[.val (.int x0), .val (.long x1), .second, .val (.int x2), .val (.int x3), .val (.int ep), .val (.int mm), .val (.long (-1 : Int64)), .second, .val (.int (((x3.toUInt32 >>> ((2 : Int32) &&& 31).toUInt32).toInt32) &&& (3 : Int32))), .unset] [])
        refine Go.step (fun _ k => XS.goto Xc21.here hx rfl (pc0 := 84) (pc' := 106) rfl (hb hby at_84) (by decide) (by decide) k) ?_
        show Go _ _ _ _ _ _ _ _ Tc21 (mkF m 106 #[.val (.int x0), .val (.long x1), .second, .val (.int x2), .val (.int x3), .val (.int ep), .val (.int mm), .val (.long (-1 : Int64)), .second, .val (.int (((x3.toUInt32 >>> ((2 : Int32) &&& 31).toUInt32).toInt32) &&& (3 : Int32))), .unset] [])
        exact cut106 Tc21 _ Xc21 ec21 Nc21  ep mm (-1 : Int64) (((x3.toUInt32 >>> ((2 : Int32) &&& 31).toUInt32).toInt32) &&& (3 : Int32)) 
      · refine Go.step (fun _ k => XS.icmpYes Xc21.here hx rfl (pc0 := 76) (pc' := 87) rfl (hb hby at_76) rfl (feq hc76_23).2 (by decide) (by decide) k) ?_
        show Go _ _ _ _ _ _ _ _ Tc21 (mkF m 87 #[.val (.int x0), .val (.long x1), .second, .val (.int x2), .val (.int x3), .val (.int ep), .val (.int mm), .unset, .unset, .val (.int (((x3.toUInt32 >>> ((2 : Int32) &&& 31).toUInt32).toInt32) &&& (3 : Int32))), .unset] [])
        refine Go.step (fun _ k => XS.iload Xc21.here hx rfl (hb hby at_87) rfl k) ?_
        show Go _ _ _ _ _ _ _ _ Tc21 (mkF m 89 #[.val (.int x0), .val (.long x1), .second, .val (.int x2), .val (.int x3), .val (.int ep), .val (.int mm), .unset, .unset, .val (.int (((x3.toUInt32 >>> ((2 : Int32) &&& 31).toUInt32).toInt32) &&& (3 : Int32))), .unset] [(.int (((x3.toUInt32 >>> ((2 : Int32) &&& 31).toUInt32).toInt32) &&& (3 : Int32)))])
        refine Go.step (fun _ k => XS.iconst Xc21.here hx rfl (hb hby at_89)  k) ?_
        show Go _ _ _ _ _ _ _ _ Tc21 (mkF m 90 #[.val (.int x0), .val (.long x1), .second, .val (.int x2), .val (.int x3), .val (.int ep), .val (.int mm), .unset, .unset, .val (.int (((x3.toUInt32 >>> ((2 : Int32) &&& 31).toUInt32).toInt32) &&& (3 : Int32))), .unset] [(.int (2 : Int32)), (.int (((x3.toUInt32 >>> ((2 : Int32) &&& 31).toUInt32).toInt32) &&& (3 : Int32)))])
        by_cases hc90_24 : (((x3.toUInt32 >>> ((2 : Int32) &&& 31).toUInt32).toInt32) &&& (3 : Int32)) = (2 : Int32)
        · refine Go.step (fun _ k => XS.icmpNo Xc21.here hx rfl (hb hby at_90) rfl (teq hc90_24).2 k) ?_
          show Go _ _ _ _ _ _ _ _ Tc21 (mkF m 93 #[.val (.int x0), .val (.long x1), .second, .val (.int x2), .val (.int x3), .val (.int ep), .val (.int mm), .unset, .unset, .val (.int (((x3.toUInt32 >>> ((2 : Int32) &&& 31).toUInt32).toInt32) &&& (3 : Int32))), .unset] [])
          refine Go.step (fun _ k => XS.lconst Xc21.here hx rfl (hb hby at_93)  k) ?_
          show Go _ _ _ _ _ _ _ _ Tc21 (mkF m 94 #[.val (.int x0), .val (.long x1), .second, .val (.int x2), .val (.int x3), .val (.int ep), .val (.int mm), .unset, .unset, .val (.int (((x3.toUInt32 >>> ((2 : Int32) &&& 31).toUInt32).toInt32) &&& (3 : Int32))), .unset] [(.long (0 : Int64))])
          refine Go.step (fun _ k => XS.lstore Xc21.here hx rfl (hb hby at_94) rfl (l' := #[.val (.int x0), .val (.long x1), .second, .val (.int x2), .val (.int x3), .val (.int ep), .val (.int mm), .val (.long (0 : Int64)), .second, .val (.int (((x3.toUInt32 >>> ((2 : Int32) &&& 31).toUInt32).toInt32) &&& (3 : Int32))), .unset]) rfl k) ?_
          show Go _ _ _ _ _ _ _ _ Tc21 (mkF m 96 #[.val (.int x0), .val (.long x1), .second, .val (.int x2), .val (.int x3), .val (.int ep), .val (.int mm), .val (.long (0 : Int64)), .second, .val (.int (((x3.toUInt32 >>> ((2 : Int32) &&& 31).toUInt32).toInt32) &&& (3 : Int32))), .unset] [])
          refine Go.step (fun _ k => XS.goto Xc21.here hx rfl (pc0 := 96) (pc' := 106) rfl (hb hby at_96) (by decide) (by decide) k) ?_
          show Go _ _ _ _ _ _ _ _ Tc21 (mkF m 106 #[.val (.int x0), .val (.long x1), .second, .val (.int x2), .val (.int x3), .val (.int ep), .val (.int mm), .val (.long (0 : Int64)), .second, .val (.int (((x3.toUInt32 >>> ((2 : Int32) &&& 31).toUInt32).toInt32) &&& (3 : Int32))), .unset] [])
          exact cut106 Tc21 _ Xc21 ec21 Nc21  ep mm (0 : Int64) (((x3.toUInt32 >>> ((2 : Int32) &&& 31).toUInt32).toInt32) &&& (3 : Int32)) 
        · refine Go.step (fun _ k => XS.icmpYes Xc21.here hx rfl (pc0 := 90) (pc' := 99) rfl (hb hby at_90) rfl (feq hc90_24).2 (by decide) (by decide) k) ?_
          show Go _ _ _ _ _ _ _ _ Tc21 (mkF m 99 #[.val (.int x0), .val (.long x1), .second, .val (.int x2), .val (.int x3), .val (.int ep), .val (.int mm), .unset, .unset, .val (.int (((x3.toUInt32 >>> ((2 : Int32) &&& 31).toUInt32).toInt32) &&& (3 : Int32))), .unset] [])
          refine Go.step (fun _ k => XS.lloadN Xc21.here hx rfl (hb hby at_99) rfl k) ?_
          show Go _ _ _ _ _ _ _ _ Tc21 (mkF m 100 #[.val (.int x0), .val (.long x1), .second, .val (.int x2), .val (.int x3), .val (.int ep), .val (.int mm), .unset, .unset, .val (.int (((x3.toUInt32 >>> ((2 : Int32) &&& 31).toUInt32).toInt32) &&& (3 : Int32))), .unset] [(.long x1)])
          refine Go.step (Xc21.ldc2Long hx hown (mvT hZ (hw _ (List.mem_of_getElem? (i := 26) rfl))) (g := (mkF m 100 #[.val (.int x0), .val (.long x1), .second, .val (.int x2), .val (.int x3), .val (.int ep), .val (.int mm), .unset, .unset, .val (.int (((x3.toUInt32 >>> ((2 : Int32) &&& 31).toUInt32).toInt32) &&& (3 : Int32))), .unset] [(.long x1)])) rfl (hb hby at_100)) ?_
          show Go _ _ _ _ _ _ _ _ Tc21 (mkF m 103 #[.val (.int x0), .val (.long x1), .second, .val (.int x2), .val (.int x3), .val (.int ep), .val (.int mm), .unset, .unset, .val (.int (((x3.toUInt32 >>> ((2 : Int32) &&& 31).toUInt32).toInt32) &&& (3 : Int32))), .unset] [(.long (-9223372036854775808 : Int64)), (.long x1)])
          refine Go.step (fun _ k => XS.lor Xc21.here hx rfl (hb hby at_103) rfl k) ?_
          show Go _ _ _ _ _ _ _ _ Tc21 (mkF m 104 #[.val (.int x0), .val (.long x1), .second, .val (.int x2), .val (.int x3), .val (.int ep), .val (.int mm), .unset, .unset, .val (.int (((x3.toUInt32 >>> ((2 : Int32) &&& 31).toUInt32).toInt32) &&& (3 : Int32))), .unset] [(.long (x1 ||| (-9223372036854775808 : Int64)))])
          refine Go.step (fun _ k => XS.lstore Xc21.here hx rfl (hb hby at_104) rfl (l' := #[.val (.int x0), .val (.long x1), .second, .val (.int x2), .val (.int x3), .val (.int ep), .val (.int mm), .val (.long (x1 ||| (-9223372036854775808 : Int64))), .second, .val (.int (((x3.toUInt32 >>> ((2 : Int32) &&& 31).toUInt32).toInt32) &&& (3 : Int32))), .unset]) rfl k) ?_
          show Go _ _ _ _ _ _ _ _ Tc21 (mkF m 106 #[.val (.int x0), .val (.long x1), .second, .val (.int x2), .val (.int x3), .val (.int ep), .val (.int mm), .val (.long (x1 ||| (-9223372036854775808 : Int64))), .second, .val (.int (((x3.toUInt32 >>> ((2 : Int32) &&& 31).toUInt32).toInt32) &&& (3 : Int32))), .unset] [])
          exact cut106 Tc21 _ Xc21 ec21 Nc21  ep mm (x1 ||| (-9223372036854775808 : Int64)) (((x3.toUInt32 >>> ((2 : Int32) &&& 31).toUInt32).toInt32) &&& (3 : Int32)) 
  refine Go.step (fun _ k => XS.iload X0.here hx rfl (hb hby at_0) rfl k) ?_
  show Go _ _ _ _ _ _ _ _ s₁ (mkF m 2 #[.val (.int x0), .val (.long x1), .second, .val (.int x2), .val (.int x3), .unset, .unset, .unset, .unset, .unset, .unset] [(.int x3)])
  refine Go.step (fun _ k => XS.iconst X0.here hx rfl (hb hby at_2)  k) ?_
  show Go _ _ _ _ _ _ _ _ s₁ (mkF m 3 #[.val (.int x0), .val (.long x1), .second, .val (.int x2), .val (.int x3), .unset, .unset, .unset, .unset, .unset, .unset] [(.int (3 : Int32)), (.int x3)])
  refine Go.step (fun _ k => XS.iand X0.here hx rfl (hb hby at_3) rfl k) ?_
  show Go _ _ _ _ _ _ _ _ s₁ (mkF m 4 #[.val (.int x0), .val (.long x1), .second, .val (.int x2), .val (.int x3), .unset, .unset, .unset, .unset, .unset, .unset] [(.int (x3 &&& (3 : Int32)))])
  refine Go.step (fun _ k => XS.istore X0.here hx rfl (hb hby at_4) rfl (l' := #[.val (.int x0), .val (.long x1), .second, .val (.int x2), .val (.int x3), .unset, .val (.int (x3 &&& (3 : Int32))), .unset, .unset, .unset, .unset]) rfl k) ?_
  show Go _ _ _ _ _ _ _ _ s₁ (mkF m 6 #[.val (.int x0), .val (.long x1), .second, .val (.int x2), .val (.int x3), .unset, .val (.int (x3 &&& (3 : Int32))), .unset, .unset, .unset, .unset] [])
  refine Go.step (fun _ k => XS.iload X0.here hx rfl (hb hby at_6) rfl k) ?_
  show Go _ _ _ _ _ _ _ _ s₁ (mkF m 8 #[.val (.int x0), .val (.long x1), .second, .val (.int x2), .val (.int x3), .unset, .val (.int (x3 &&& (3 : Int32))), .unset, .unset, .unset, .unset] [(.int (x3 &&& (3 : Int32)))])
  by_cases hc8_25 : (x3 &&& (3 : Int32)) = (0 : Int32)
  · refine Go.step (fun _ k => XS.ifNo X0.here hx rfl (hb hby at_8) rfl ((if0 _ _).trans (teq hc8_25).2) k) ?_
    show Go _ _ _ _ _ _ _ _ s₁ (mkF m 11 #[.val (.int x0), .val (.long x1), .second, .val (.int x2), .val (.int x3), .unset, .val (.int (x3 &&& (3 : Int32))), .unset, .unset, .unset, .unset] [])
    refine Go.step (fun _ k => XS.iloadN X0.here hx rfl (hb hby at_11) rfl k) ?_
    show Go _ _ _ _ _ _ _ _ s₁ (mkF m 12 #[.val (.int x0), .val (.long x1), .second, .val (.int x2), .val (.int x3), .unset, .val (.int (x3 &&& (3 : Int32))), .unset, .unset, .unset, .unset] [(.int x0)])
    refine Go.step (fun _ k => XS.istore X0.here hx rfl (hb hby at_12) rfl (l' := #[.val (.int x0), .val (.long x1), .second, .val (.int x2), .val (.int x3), .val (.int x0), .val (.int (x3 &&& (3 : Int32))), .unset, .unset, .unset, .unset]) rfl k) ?_
    show Go _ _ _ _ _ _ _ _ s₁ (mkF m 14 #[.val (.int x0), .val (.long x1), .second, .val (.int x2), .val (.int x3), .val (.int x0), .val (.int (x3 &&& (3 : Int32))), .unset, .unset, .unset, .unset] [])
    refine Go.step (fun _ k => XS.goto X0.here hx rfl (pc0 := 14) (pc' := 54) rfl (hb hby at_14) (by decide) (by decide) k) ?_
    show Go _ _ _ _ _ _ _ _ s₁ (mkF m 54 #[.val (.int x0), .val (.long x1), .second, .val (.int x2), .val (.int x3), .val (.int x0), .val (.int (x3 &&& (3 : Int32))), .unset, .unset, .unset, .unset] [])
    exact cut54 s₁ _ X0 e0 N0  x0 (x3 &&& (3 : Int32)) 
  · refine Go.step (fun _ k => XS.ifYes X0.here hx rfl (pc0 := 8) (pc' := 17) rfl (hb hby at_8) rfl ((if0 _ _).trans (feq hc8_25).2) (by decide) (by decide) k) ?_
    show Go _ _ _ _ _ _ _ _ s₁ (mkF m 17 #[.val (.int x0), .val (.long x1), .second, .val (.int x2), .val (.int x3), .unset, .val (.int (x3 &&& (3 : Int32))), .unset, .unset, .unset, .unset] [])
    refine Go.step (fun _ k => XS.iload X0.here hx rfl (hb hby at_17) rfl k) ?_
    show Go _ _ _ _ _ _ _ _ s₁ (mkF m 19 #[.val (.int x0), .val (.long x1), .second, .val (.int x2), .val (.int x3), .unset, .val (.int (x3 &&& (3 : Int32))), .unset, .unset, .unset, .unset] [(.int (x3 &&& (3 : Int32)))])
    refine Go.step (fun _ k => XS.iconst X0.here hx rfl (hb hby at_19)  k) ?_
    show Go _ _ _ _ _ _ _ _ s₁ (mkF m 20 #[.val (.int x0), .val (.long x1), .second, .val (.int x2), .val (.int x3), .unset, .val (.int (x3 &&& (3 : Int32))), .unset, .unset, .unset, .unset] [(.int (1 : Int32)), (.int (x3 &&& (3 : Int32)))])
    by_cases hc20_26 : (x3 &&& (3 : Int32)) = (1 : Int32)
    · refine Go.step (fun _ k => XS.icmpNo X0.here hx rfl (hb hby at_20) rfl (teq hc20_26).2 k) ?_
      show Go _ _ _ _ _ _ _ _ s₁ (mkF m 23 #[.val (.int x0), .val (.long x1), .second, .val (.int x2), .val (.int x3), .unset, .val (.int (x3 &&& (3 : Int32))), .unset, .unset, .unset, .unset] [])
      refine Go.step (fun _ k => XS.iconst X0.here hx rfl (hb hby at_23)  k) ?_
      show Go _ _ _ _ _ _ _ _ s₁ (mkF m 24 #[.val (.int x0), .val (.long x1), .second, .val (.int x2), .val (.int x3), .unset, .val (.int (x3 &&& (3 : Int32))), .unset, .unset, .unset, .unset] [(.int (-1 : Int32))])
      refine Go.step (fun _ k => XS.istore X0.here hx rfl (hb hby at_24) rfl (l' := #[.val (.int x0), .val (.long x1), .second, .val (.int x2), .val (.int x3), .val (.int (-1 : Int32)), .val (.int (x3 &&& (3 : Int32))), .unset, .unset, .unset, .unset]) rfl k) ?_
      show Go _ _ _ _ _ _ _ _ s₁ (mkF m 26 #[.val (.int x0), .val (.long x1), .second, .val (.int x2), .val (.int x3), .val (.int (-1 : Int32)), .val (.int (x3 &&& (3 : Int32))), .unset, .unset, .unset, .unset] [])
      refine Go.step (fun _ k => XS.goto X0.here hx rfl (pc0 := 26) (pc' := 54) rfl (hb hby at_26) (by decide) (by decide) k) ?_
      show Go _ _ _ _ _ _ _ _ s₁ (mkF m 54 #[.val (.int x0), .val (.long x1), .second, .val (.int x2), .val (.int x3), .val (.int (-1 : Int32)), .val (.int (x3 &&& (3 : Int32))), .unset, .unset, .unset, .unset] [])
      exact cut54 s₁ _ X0 e0 N0  (-1 : Int32) (x3 &&& (3 : Int32)) 
    · refine Go.step (fun _ k => XS.icmpYes X0.here hx rfl (pc0 := 20) (pc' := 29) rfl (hb hby at_20) rfl (feq hc20_26).2 (by decide) (by decide) k) ?_
      show Go _ _ _ _ _ _ _ _ s₁ (mkF m 29 #[.val (.int x0), .val (.long x1), .second, .val (.int x2), .val (.int x3), .unset, .val (.int (x3 &&& (3 : Int32))), .unset, .unset, .unset, .unset] [])
      refine Go.step (fun _ k => XS.iload X0.here hx rfl (hb hby at_29) rfl k) ?_
      show Go _ _ _ _ _ _ _ _ s₁ (mkF m 31 #[.val (.int x0), .val (.long x1), .second, .val (.int x2), .val (.int x3), .unset, .val (.int (x3 &&& (3 : Int32))), .unset, .unset, .unset, .unset] [(.int (x3 &&& (3 : Int32)))])
      refine Go.step (fun _ k => XS.iconst X0.here hx rfl (hb hby at_31)  k) ?_
      show Go _ _ _ _ _ _ _ _ s₁ (mkF m 32 #[.val (.int x0), .val (.long x1), .second, .val (.int x2), .val (.int x3), .unset, .val (.int (x3 &&& (3 : Int32))), .unset, .unset, .unset, .unset] [(.int (2 : Int32)), (.int (x3 &&& (3 : Int32)))])
      by_cases hc32_27 : (x3 &&& (3 : Int32)) = (2 : Int32)
      · refine Go.step (fun _ k => XS.icmpNo X0.here hx rfl (hb hby at_32) rfl (teq hc32_27).2 k) ?_
        show Go _ _ _ _ _ _ _ _ s₁ (mkF m 35 #[.val (.int x0), .val (.long x1), .second, .val (.int x2), .val (.int x3), .unset, .val (.int (x3 &&& (3 : Int32))), .unset, .unset, .unset, .unset] [])
        refine Go.step (fun _ k => XS.iloadN X0.here hx rfl (hb hby at_35) rfl k) ?_
        show Go _ _ _ _ _ _ _ _ s₁ (mkF m 36 #[.val (.int x0), .val (.long x1), .second, .val (.int x2), .val (.int x3), .unset, .val (.int (x3 &&& (3 : Int32))), .unset, .unset, .unset, .unset] [(.int x2)])
        refine Go.step (fun _ k => XS.iloadN X0.here hx rfl (hb hby at_36) rfl k) ?_
        show Go _ _ _ _ _ _ _ _ s₁ (mkF m 37 #[.val (.int x0), .val (.long x1), .second, .val (.int x2), .val (.int x3), .unset, .val (.int (x3 &&& (3 : Int32))), .unset, .unset, .unset, .unset] [(.int x0), (.int x2)])
        refine Go.step (fun _ k => XS.iconst X0.here hx rfl (hb hby at_37)  k) ?_
        show Go _ _ _ _ _ _ _ _ s₁ (mkF m 38 #[.val (.int x0), .val (.long x1), .second, .val (.int x2), .val (.int x3), .unset, .val (.int (x3 &&& (3 : Int32))), .unset, .unset, .unset, .unset] [(.int (3 : Int32)), (.int x0), (.int x2)])
        refine Go.step (fun _ k => XS.iand X0.here hx rfl (hb hby at_38) rfl k) ?_
        show Go _ _ _ _ _ _ _ _ s₁ (mkF m 39 #[.val (.int x0), .val (.long x1), .second, .val (.int x2), .val (.int x3), .unset, .val (.int (x3 &&& (3 : Int32))), .unset, .unset, .unset, .unset] [(.int (x0 &&& (3 : Int32))), (.int x2)])
        refine Go.step (fun _ k => XS.iconst X0.here hx rfl (hb hby at_39)  k) ?_
        show Go _ _ _ _ _ _ _ _ s₁ (mkF m 40 #[.val (.int x0), .val (.long x1), .second, .val (.int x2), .val (.int x3), .unset, .val (.int (x3 &&& (3 : Int32))), .unset, .unset, .unset, .unset] [(.int (1 : Int32)), (.int (x0 &&& (3 : Int32))), (.int x2)])
        refine Go.step (fun _ k => XS.isub X0.here hx rfl (hb hby at_40) rfl k) ?_
        show Go _ _ _ _ _ _ _ _ s₁ (mkF m 41 #[.val (.int x0), .val (.long x1), .second, .val (.int x2), .val (.int x3), .unset, .val (.int (x3 &&& (3 : Int32))), .unset, .unset, .unset, .unset] [(.int ((x0 &&& (3 : Int32)) - (1 : Int32))), (.int x2)])
        refine Go.step (fun _ k => XS.iadd X0.here hx rfl (hb hby at_41) rfl k) ?_
        show Go _ _ _ _ _ _ _ _ s₁ (mkF m 42 #[.val (.int x0), .val (.long x1), .second, .val (.int x2), .val (.int x3), .unset, .val (.int (x3 &&& (3 : Int32))), .unset, .unset, .unset, .unset] [(.int (x2 + ((x0 &&& (3 : Int32)) - (1 : Int32))))])
        refine Go.step (fun _ k => XS.istore X0.here hx rfl (hb hby at_42) rfl (l' := #[.val (.int x0), .val (.long x1), .second, .val (.int x2), .val (.int x3), .val (.int (x2 + ((x0 &&& (3 : Int32)) - (1 : Int32)))), .val (.int (x3 &&& (3 : Int32))), .unset, .unset, .unset, .unset]) rfl k) ?_
        show Go _ _ _ _ _ _ _ _ s₁ (mkF m 44 #[.val (.int x0), .val (.long x1), .second, .val (.int x2), .val (.int x3), .val (.int (x2 + ((x0 &&& (3 : Int32)) - (1 : Int32)))), .val (.int (x3 &&& (3 : Int32))), .unset, .unset, .unset, .unset] [])
        refine Go.step (fun _ k => XS.goto X0.here hx rfl (pc0 := 44) (pc' := 54) rfl (hb hby at_44) (by decide) (by decide) k) ?_
        show Go _ _ _ _ _ _ _ _ s₁ (mkF m 54 #[.val (.int x0), .val (.long x1), .second, .val (.int x2), .val (.int x3), .val (.int (x2 + ((x0 &&& (3 : Int32)) - (1 : Int32)))), .val (.int (x3 &&& (3 : Int32))), .unset, .unset, .unset, .unset] [])
        exact cut54 s₁ _ X0 e0 N0  (x2 + ((x0 &&& (3 : Int32)) - (1 : Int32))) (x3 &&& (3 : Int32)) 
      · refine Go.step (fun _ k => XS.icmpYes X0.here hx rfl (pc0 := 32) (pc' := 47) rfl (hb hby at_32) rfl (feq hc32_27).2 (by decide) (by decide) k) ?_
        show Go _ _ _ _ _ _ _ _ s₁ (mkF m 47 #[.val (.int x0), .val (.long x1), .second, .val (.int x2), .val (.int x3), .unset, .val (.int (x3 &&& (3 : Int32))), .unset, .unset, .unset, .unset] [])
        refine Go.step (fun _ k => XS.iloadN X0.here hx rfl (hb hby at_47) rfl k) ?_
        show Go _ _ _ _ _ _ _ _ s₁ (mkF m 48 #[.val (.int x0), .val (.long x1), .second, .val (.int x2), .val (.int x3), .unset, .val (.int (x3 &&& (3 : Int32))), .unset, .unset, .unset, .unset] [(.int x0)])
        refine Go.step (fun _ k => XS.iconst X0.here hx rfl (hb hby at_48)  k) ?_
        show Go _ _ _ _ _ _ _ _ s₁ (mkF m 49 #[.val (.int x0), .val (.long x1), .second, .val (.int x2), .val (.int x3), .unset, .val (.int (x3 &&& (3 : Int32))), .unset, .unset, .unset, .unset] [(.int (3 : Int32)), (.int x0)])
        refine Go.step (fun _ k => XS.iand X0.here hx rfl (hb hby at_49) rfl k) ?_
        show Go _ _ _ _ _ _ _ _ s₁ (mkF m 50 #[.val (.int x0), .val (.long x1), .second, .val (.int x2), .val (.int x3), .unset, .val (.int (x3 &&& (3 : Int32))), .unset, .unset, .unset, .unset] [(.int (x0 &&& (3 : Int32)))])
        refine Go.step (fun _ k => XS.iconst X0.here hx rfl (hb hby at_50)  k) ?_
        show Go _ _ _ _ _ _ _ _ s₁ (mkF m 51 #[.val (.int x0), .val (.long x1), .second, .val (.int x2), .val (.int x3), .unset, .val (.int (x3 &&& (3 : Int32))), .unset, .unset, .unset, .unset] [(.int (2 : Int32)), (.int (x0 &&& (3 : Int32)))])
        refine Go.step (fun _ k => XS.isub X0.here hx rfl (hb hby at_51) rfl k) ?_
        show Go _ _ _ _ _ _ _ _ s₁ (mkF m 52 #[.val (.int x0), .val (.long x1), .second, .val (.int x2), .val (.int x3), .unset, .val (.int (x3 &&& (3 : Int32))), .unset, .unset, .unset, .unset] [(.int ((x0 &&& (3 : Int32)) - (2 : Int32)))])
        refine Go.step (fun _ k => XS.istore X0.here hx rfl (hb hby at_52) rfl (l' := #[.val (.int x0), .val (.long x1), .second, .val (.int x2), .val (.int x3), .val (.int ((x0 &&& (3 : Int32)) - (2 : Int32))), .val (.int (x3 &&& (3 : Int32))), .unset, .unset, .unset, .unset]) rfl k) ?_
        show Go _ _ _ _ _ _ _ _ s₁ (mkF m 54 #[.val (.int x0), .val (.long x1), .second, .val (.int x2), .val (.int x3), .val (.int ((x0 &&& (3 : Int32)) - (2 : Int32))), .val (.int (x3 &&& (3 : Int32))), .unset, .unset, .unset, .unset] [])
        exact cut54 s₁ _ X0 e0 N0  ((x0 &&& (3 : Int32)) - (2 : Int32)) (x3 &&& (3 : Int32)) 
set_option maxRecDepth 65536 in
set_option maxHeartbeats 40000000 in
theorem comes_1 {Post : Tables → Env → Array Value → State → Outcome → State → Prop} (hpost : ∀ tb e args s v u, (limb_1_1.after args s (.returned v) u = true ∧ limb_1_2.after args s (.returned v) u = true ∧ True) → FrameEnd s (.returned v) u (Jvm.fieldLocs frame_1_writes args s ++ Jvm.arrayLocs frame_1_arrays args s ++ Jvm.staticLocs frame_1_statics s) 16 128 → Post tb e args s (.returned v) u) :
    ArmFor flags0 classFile x code maxLocals ret World_1 tables_1 room_1 Calls_1 rest_1 Pre_1 Post := by
  intro l hfl _ _ p e ha hc hk s m args below hf hA hF happ hP
  obtain ⟨hcalls, hrest, hpre⟩ := hP
  obtain ⟨-, -, -, hnamed, -, -, -, hat⟩ := (Spec.applies_iff hf).mp happ
  obtain ⟨hg, hn⟩ := and_e (Cond.before_iff.mp (show (Jvm.Cond.and given_1 narrow_1).before args s = true from hpre))
  obtain ⟨hcount, gr0⟩ := and_e hg
  obtain ⟨ga0, gr1⟩ := and_e gr0
  obtain ⟨ga1, gr2⟩ := and_e gr1
  obtain ⟨ga2, gr3⟩ := and_e gr2
  have ga3 := gr3
  obtain ⟨w0, w1, w2, w3, rfl⟩ : ∃ w0 w1 w2 w3 : Value, args = #[w0, w1, w2, w3] := by
    have hs : args.size = 4 := by simpa [Cond.value, given_1] using hcount
    obtain ⟨L⟩ := args
    match L, hs with
    | [w0, w1, w2, w3], _ => exact ⟨w0, w1, w2, w3, rfl⟩
  have hw := fun d (hd : d ∈ tables_1) => atoms_spec (ws := Jvm.Cond.code x code maxLocals ret :: tables_1) hat d (List.mem_cons_of_mem _ hd)
  have hfit : Fit s := fun {y c} hc i hi => by
    obtain ⟨ha, rfl⟩ := Array.getElem?_eq_some_iff.mp hc
    have q := List.all_eq_true.mp ((Array.all_eq_true_iff_forall_mem.mp hF) _ (Array.getElem_mem ha)) i (List.mem_range.mpr hi)
    simpa [Array.getElem?_eq_getElem hi] using q
  obtain ⟨i0, ei0⟩ := is_v ga0
  obtain rfl : w0 = (.int i0) := Option.some.inj ei0
  obtain ⟨i1, ei1⟩ := isL_v ga1
  obtain rfl : w1 = (.long i1) := Option.some.inj ei1
  obtain ⟨i2, ei2⟩ := is_v ga2
  obtain rfl : w2 = (.int i2) := Option.some.inj ei2
  obtain ⟨i3, ei3⟩ := is_v ga3
  obtain rfl : w3 = (.int i3) := Option.some.inj ei3
  obtain ⟨nw0, nr0⟩ := and_e hn
  have nw1 := nr0
  obtain ⟨a_0, ev_0⟩ := exa_v nw0
  have S_0 : Sta s s.heap "com/example/clean_epoch/cleanepoch/log/EpochEnd" "NONE" "Lcom/example/clean_epoch/cleanepoch/log/EpochEnd;" (.ref a_0) := Sta.start ev_0 (Or.inr ⟨(hw _ (List.mem_of_getElem? (i := 2) rfl)), (hw _ (List.mem_of_getElem? (i := 24) rfl))⟩)
  have X_0 : Exa s s.heap a_0 "com/example/clean_epoch/cleanepoch/log/EpochEnd" := Exa.start ev_0 nw0
  have F_1 : Fld s s.heap a_0 "com/example/clean_epoch/cleanepoch/log/EpochEnd" "epoch" "I" (.int (-1 : Int32)) := fldStart ev_0 nw1
  obtain ⟨n, o, h1, h2, h3, _, L, rfl, ⟨rfl, N, -⟩, hq⟩ := rm_0 l s _ hw tables_1 i0 i1 i2 i3 a_0 s.heap (extRfl _) S_0 F_1 p e ha hc hk s m _ below hf ((Spec.applies_iff_loose hf).mp happ).1 ⟨rfl, State.Warmed39.refl s, rfl⟩ trivial
  refine ⟨n, _, h1, h2, h3, hpost _ _ _ _ _ _ ⟨Cond.after_iff.mpr rfl, Cond.after_iff.mpr (eq_i res_at (Term.int_eval (1)) rfl), trivial⟩ ⟨hq.1, hq.2.1, (hq.2.2.sift fun y hy => Or.inr (N y hy)).mono (by decide) (by decide)⟩⟩
theorem main_1_1 : Claimed_1_1 := comes_1 fun _ _ _ _ _ _ h hF => ⟨h.1, hF⟩
theorem main_1_2 : Claimed_1_2 := comes_1 fun _ _ _ _ _ _ h hF => ⟨h.2.1, hF⟩
end Jvm.Pilot.@@N@@
namespace Jvm.Pilot.@@N@@
open Jvm Jvm.ClassFile Sem Op Lib Jvm.Free Jvm.Stand Jvm.Pilot.@@N@@.Jvm.D
/-! MADE BY PROGRAM (witnessworld.py) out of the Statement's table words and the real class files: 10 classes; the members and pool entries that the words name. The judged class is class 1, her method 1. -/
namespace start1
open Jvm.ClassFile
def u (s : String) : CpInfo := .utf8 (stringToUtf16 s)
/-- a pool by its gaps: so many unusable entries, then the entry; so many at the end -/
def gap : Nat → List CpInfo → List CpInfo
  | 0, r => r
  | n + 1, r => .unusable :: gap n r
def poolList (es : List (Nat × CpInfo)) (last : Nat) : List CpInfo := es.foldr (fun e r => gap e.1 (e.2 :: r)) (gap last [])
def pool (es : List (Nat × CpInfo)) (last : Nat) : Array CpInfo := ⟨poolList es last⟩
def fileOf (pool : Array CpInfo) (this : Nat) (attrs : Array Attribute := #[]) (ms : Array MethodInfo := #[]) (fl : Nat := 33) (sup : Nat := 0) (ifs : Array Nat := #[]) (fds : Array FieldInfo := #[]) : ClassFile where
  minorVersion := 0
  majorVersion := 65
  constantPool := pool
  accessFlags := fl
  thisClass := this
  superClass := sup
  interfaces := ifs
  fields := fds
  methods := ms
  attributes := attrs
def plain (name : String) (sup : Option ClassId) : Class where
  name := name
  kind := .ordinary
  loader := none
  accessFlags := 33
  super := sup
  interfaces := #[]
  cf := none
  fields := #[]
  methods := #[]
  instanceTypes := #[]
  staticTypes := #[]
  resolved := #[]
  callSites := []
  init := .initialized
  statics := none
  mirror := none

def pool0 : Array CpInfo := pool [(5, u "<init>"), (0, u "()V"), (1, .class_ 10), (1, u "java/lang/Object")] 113

def k0c0 : Code := { maxStack := 0, maxLocals := 1, code := object_method_1_code, exceptionTable := #[], attributes := #[] }
def k0m0 : Method := { name := "<init>", desc := "()V", sig := { parameters := [], returnType := none }, accessFlags := 1, code := some k0c0 }
/-- java/lang/Object -/
def k0 : Class := { plain "java/lang/Object" none with
  accessFlags := 33
  interfaces := #[]
  cf := some (fileOf pool0 8 #[] #[{ accessFlags := 1, nameIndex := 5, descriptorIndex := 6, attributes := #[] }] 33 0 #[] #[])
  fields := #[]
  methods := #[k0m0]
  instanceTypes := #[]
  staticTypes := #[]
  resolved := Array.replicate 124 none
  statics := none }

def pool1 : Array CpInfo := pool [(2, .class_ 4), (1, u "java/lang/Object"), (0, u "<init>"), (0, u "()V"), (0, .long 18446744073709551615), (3, .long 9223372036854775808), (1, .class_ 14), (0, u "com/example/clean_epoch/cleanepoch/log/EpochEnd"), (0, .methodref 13 16), (0, .nameAndType 5 17), (0, u "(IJ)V"), (0, .methodref 13 19), (0, .nameAndType 20 21), (0, u "answers"), (0, u "(I)Z"), (0, .class_ 23), (0, u "com/example/clean_epoch/cleanepoch/log/EpochEndAnswersPinLaw"), (2, u "law"), (0, u "(IJII)Z")] 3

def k1m0 : Method := { name := "<init>", desc := "()V", sig := { parameters := [], returnType := none }, accessFlags := 1, code := none }
def k1c1 : Code := { maxStack := 5, maxLocals := 11, code := code, exceptionTable := #[], attributes := #[] }
def k1m1 : Method := { name := "law", desc := "(IJII)Z", sig := { parameters := [.int, .long, .int, .int], returnType := some .boolean }, accessFlags := 9, code := some k1c1 }
/-- com/example/clean_epoch/cleanepoch/log/EpochEndAnswersPinLaw -/
def k1 : Class := { plain "com/example/clean_epoch/cleanepoch/log/EpochEndAnswersPinLaw" (some 0) with
  accessFlags := 49
  interfaces := #[]
  cf := some (fileOf pool1 22 #[] #[{ accessFlags := 1, nameIndex := 5, descriptorIndex := 6, attributes := #[] }, { accessFlags := 9, nameIndex := 26, descriptorIndex := 27, attributes := #[] }] 49 2 #[] #[])
  fields := #[]
  methods := #[k1m0, k1m1]
  instanceTypes := #[]
  staticTypes := #[]
  resolved := Array.replicate 31 none
  statics := none }

def pool2 : Array CpInfo := pool [(1, .methodref 2 3), (0, .class_ 4), (0, .nameAndType 5 6), (0, u "java/lang/Object"), (0, u "<init>"), (0, u "()V"), (0, .class_ 8), (0, u "java/lang/Record")] 13

def k2c0 : Code := { maxStack := 1, maxLocals := 1, code := jdk_30_method_1_code, exceptionTable := #[], attributes := #[] }
def k2m0 : Method := { name := "<init>", desc := "()V", sig := { parameters := [], returnType := none }, accessFlags := 4, code := some k2c0 }
/-- java/lang/Record -/
def k2 : Class := { plain "java/lang/Record" (some 0) with
  accessFlags := 1057
  interfaces := #[]
  cf := some (fileOf pool2 7 #[] #[{ accessFlags := 4, nameIndex := 5, descriptorIndex := 6, attributes := #[] }] 1057 2 #[] #[])
  fields := #[]
  methods := #[k2m0]
  instanceTypes := #[]
  staticTypes := #[]
  resolved := Array.replicate 22 none
  statics := none }

def pool3 : Array CpInfo := pool [(1, .methodref 2 3), (0, .class_ 4), (0, .nameAndType 5 6), (0, u "java/lang/Record"), (0, u "<init>"), (0, u "()V"), (0, .fieldref 8 9), (0, .class_ 10), (0, .nameAndType 11 12), (0, u "com/example/clean_epoch/cleanepoch/log/EpochEnd"), (0, u "epoch"), (0, u "I"), (0, .fieldref 8 14), (0, .nameAndType 15 16), (0, u "endOffset"), (0, u "J"), (0, .fieldref 8 18), (0, .nameAndType 19 20), (0, u "NONE"), (0, u "Lcom/example/clean_epoch/cleanepoch/log/EpochEnd;"), (16, u "(IJ)V"), (3, u "answers"), (0, u "(I)Z")] 27

def k3c0 : Code := { maxStack := 3, maxLocals := 4, code := prog_18_method_1_code, exceptionTable := #[], attributes := #[] }
def k3m0 : Method := { name := "<init>", desc := "(IJ)V", sig := { parameters := [.int, .long], returnType := none }, accessFlags := 1, code := some k3c0 }
def k3c1 : Code := { maxStack := 4, maxLocals := 2, code := prog_18_method_2_code, exceptionTable := #[], attributes := #[] }
def k3m1 : Method := { name := "answers", desc := "(I)Z", sig := { parameters := [.int], returnType := some .boolean }, accessFlags := 1, code := some k3c1 }
/-- com/example/clean_epoch/cleanepoch/log/EpochEnd -/
def k3 : Class := { plain "com/example/clean_epoch/cleanepoch/log/EpochEnd" (some 2) with
  accessFlags := 49
  interfaces := #[]
  cf := some (fileOf pool3 8 #[] #[{ accessFlags := 1, nameIndex := 5, descriptorIndex := 37, attributes := #[] }, { accessFlags := 1, nameIndex := 41, descriptorIndex := 42, attributes := #[] }] 49 2 #[] #[{ accessFlags := 18, nameIndex := 11, descriptorIndex := 12, attributes := #[] }, { accessFlags := 18, nameIndex := 15, descriptorIndex := 16, attributes := #[] }, { accessFlags := 25, nameIndex := 19, descriptorIndex := 20, attributes := #[] }])
  fields := #[{ name := "epoch", type := .int, accessFlags := 18, slot := 0, constantValue := 0 }, { name := "endOffset", type := .long, accessFlags := 18, slot := 1, constantValue := 0 }, { name := "NONE", type := (.object "com/example/clean_epoch/cleanepoch/log/EpochEnd"), accessFlags := 25, slot := 0, constantValue := 0 }]
  methods := #[k3m0, k3m1]
  instanceTypes := #[.int, .long]
  staticTypes := #[(.object "com/example/clean_epoch/cleanepoch/log/EpochEnd")]
  resolved := Array.replicate 70 none
  statics := some 0 }

def pool4 : Array CpInfo := pool [(1, u "java/lang/Cloneable"), (0, .class_ 1), (0, u "java/lang/Object"), (0, .class_ 3)] 3

/-- java/lang/Cloneable -/
def k4 : Class := { plain "java/lang/Cloneable" (some 0) with
  accessFlags := 1537
  interfaces := #[]
  cf := some (fileOf pool4 2 #[] #[] 1537 4 #[] #[])
  fields := #[]
  methods := #[]
  instanceTypes := #[]
  staticTypes := #[]
  resolved := Array.replicate 8 none
  statics := none }

def pool5 : Array CpInfo := pool [(1, u "java/io/Serializable"), (0, .class_ 1), (0, u "java/lang/Object"), (0, .class_ 3)] 3

/-- java/io/Serializable -/
def k5 : Class := { plain "java/io/Serializable" (some 0) with
  accessFlags := 1537
  interfaces := #[]
  cf := some (fileOf pool5 2 #[] #[] 1537 4 #[] #[])
  fields := #[]
  methods := #[]
  instanceTypes := #[]
  staticTypes := #[]
  resolved := Array.replicate 8 none
  statics := none }

/-- the primitive byte -/
def k6 : Class := { plain "byte" none with kind := .primitive 'B', accessFlags := 0x411 }
/-- [B -/
def k7 : Class := { plain "[B" (some 0) with kind := .array 6 .byte, interfaces := #[4, 5], accessFlags := 1041 }

/-- the primitive int -/
def k8 : Class := { plain "int" none with kind := .primitive 'I', accessFlags := 0x411 }
/-- [I -/
def k9 : Class := { plain "[I" (some 0) with kind := .array 8 .int, interfaces := #[4, 5], accessFlags := 1041 }

def heap : Heap := #[{ cls := 3, slots := #[.ref 1], vm := .statics 3 },
  { cls := 3, slots := #[.int (-1), .long (-1)], vm := .none }]
def classes : Array Class := #[k0, k1, k2, k3, k4, k5, k6, k7, k8, k9]
def interned : List (Array UInt16 × Addr) := []
def slotsUsed : Nat := 3
def theMethod : MethodId := ⟨1, 1⟩
def args0 : Array Value := #[.int 5, .long 7, .int 9, .int 1]
def aboutOver (below : List Frame) : State where
  vm := { classes := classes, interned := interned.toArray }
  heap := heap
  slotsUsed := slotsUsed
  threads := #[{ frames := .invoking theMethod args0 :: below }]
def below0 : List Frame := [.native { method := ⟨0, 0⟩, args := #[] }]
def about1 : State := aboutOver below0
def p0 : Program := .bare "" "" ""
def e0 : Env := launch0.env 0 0 0
theorem w_frames : about1.frames = Frame.invoking theMethod args0 :: below0 := rfl
set_option maxRecDepth 65536 in
theorem w_args : argsFit about1.vm theMethod args0 = true := by decide +kernel
set_option maxRecDepth 65536 in
theorem w_heap : heapFits about1 = true := by decide +kernel
set_option maxRecDepth 65536 in
theorem w_runnable : about1.curStatus? = some .runnable := by decide +kernel
set_option maxRecDepth 65536 in
theorem w_alone : about1.alone = true := by decide +kernel
set_option maxRecDepth 65536 in
theorem w_named : about1.methodNamed? x = some theMethod := by decide +kernel
set_option maxRecDepth 65536 in
theorem w_hears : about1.hears theMethod below0 = true := by decide +kernel
set_option maxRecDepth 65536 in
theorem w_ripe : about1.ripe theMethod args0 below0 = true := by decide +kernel
theorem w_running : about1.status = .running := rfl
set_option maxRecDepth 65536 in
theorem w_room : about1.hasRoom e0.platform room_1 = true :=
  launch0.hasRoom_least _ room_1 (by decide +kernel) (by decide +kernel) (by decide +kernel) (by decide +kernel) (by decide +kernel) (by decide +kernel)
theorem allAtoms_all (ts : List Jvm.Cond) (a : Array Jvm.Value) (st : Jvm.State) : (allAtoms ts).before a st = ts.all (fun c => c.before a st) := by
  induction ts with
  | nil => rfl
  | cons c t ih =>
    show (Jvm.Cond.and c (allAtoms t)).before a st = _
    rw [Jvm.Cond.before_and, ih, List.all_cons]
def words1 : List Jvm.Cond := Jvm.Cond.code x code maxLocals ret :: tables_1
/-- a 'code' word, met by the world's own term for the bytes: nothing is compared byte by byte -/
theorem code_word {y : MethodName} {bytes : ByteArray} {mx : Nat} {rt : Option FieldType} {a : Array Value} {s : State} {m : MethodId} {meth : Method} {c : Code} (h1 : s.methodNamed? y = some m) (h2 : s.vm.method? m = some meth) (h3 : meth.code = some c) (h4 : c.code = bytes)
    (h5 : (c.maxLocals == mx && c.exceptionTable.isEmpty && decide (c.maxStack ≤ mostOperands) && decide (meth.sig.returnType = rt) && !meth.locks && decide (parseMethodDescriptor y.desc = some meth.sig)) = true) : (Jvm.Cond.code y bytes mx rt).before a s = true := by
  simp only [Bool.and_eq_true, beq_iff_eq, Bool.not_eq_true', decide_eq_true_eq] at h5
  obtain ⟨⟨⟨⟨⟨g1, g2⟩, g3⟩, g4⟩, g5⟩, g6⟩ := h5
  simp [Cond.before, Cond.holds, Cond.value, h1, h2, h3, h4, g1, g2, g3, g4, g5, g6]
def isCode : Jvm.Cond → Bool
  | .code _ _ _ _ => true
  | _ => false
theorem all_split {L : List Jvm.Cond} {P : Jvm.Cond → Bool} (h1 : L.all (fun c => isCode c || P c) = true) (h2 : ∀ c ∈ L.filter isCode, P c = true) : L.all P = true := by
  refine List.all_eq_true.mpr fun c hc => ?_
  have h := List.all_eq_true.mp h1 c hc
  rcases Bool.eq_false_or_eq_true (isCode c) with hi | hi
  · exact h2 c (List.mem_filter.mpr ⟨hc, hi⟩)
  · simpa [hi] using h
set_option maxRecDepth 65536 in
theorem w_c0 : (Jvm.Cond.code x code maxLocals ret).before args0 about1 = true := code_word (m := ⟨1, 1⟩) (meth := k1m1) (c := k1c1) (by decide +kernel) rfl rfl rfl (by decide +kernel)
set_option maxRecDepth 65536 in
theorem w_c1 : (Jvm.Cond.code ({ cls := "com/example/clean_epoch/cleanepoch/log/EpochEnd", name := "<init>", desc := "(IJ)V" } : Jvm.MethodName) prog_18_method_1_code (4 : Nat) (Option.none : Option Jvm.ClassFile.FieldType)).before args0 about1 = true := code_word (m := ⟨3, 0⟩) (meth := k3m0) (c := k3c0) (by decide +kernel) rfl rfl rfl (by decide +kernel)
set_option maxRecDepth 65536 in
theorem w_c2 : (Jvm.Cond.code ({ cls := "java/lang/Record", name := "<init>", desc := "()V" } : Jvm.MethodName) jdk_30_method_1_code (1 : Nat) (Option.none : Option Jvm.ClassFile.FieldType)).before args0 about1 = true := code_word (m := ⟨2, 0⟩) (meth := k2m0) (c := k2c0) (by decide +kernel) rfl rfl rfl (by decide +kernel)
set_option maxRecDepth 65536 in
theorem w_c3 : (Jvm.Cond.code ({ cls := "java/lang/Object", name := "<init>", desc := "()V" } : Jvm.MethodName) object_method_1_code (1 : Nat) (Option.none : Option Jvm.ClassFile.FieldType)).before args0 about1 = true := code_word (m := ⟨0, 0⟩) (meth := k0m0) (c := k0c0) (by decide +kernel) rfl rfl rfl (by decide +kernel)
set_option maxRecDepth 65536 in
theorem w_c4 : (Jvm.Cond.code ({ cls := "com/example/clean_epoch/cleanepoch/log/EpochEnd", name := "answers", desc := "(I)Z" } : Jvm.MethodName) prog_18_method_2_code (2 : Nat) (Option.some Jvm.ClassFile.FieldType.boolean)).before args0 about1 = true := code_word (m := ⟨3, 1⟩) (meth := k3m1) (c := k3c1) (by decide +kernel) rfl rfl rfl (by decide +kernel)
def codes1 : List Jvm.Cond := [Jvm.Cond.code x code maxLocals ret, Jvm.Cond.code ({ cls := "com/example/clean_epoch/cleanepoch/log/EpochEnd", name := "<init>", desc := "(IJ)V" } : Jvm.MethodName) prog_18_method_1_code (4 : Nat) (Option.none : Option Jvm.ClassFile.FieldType), Jvm.Cond.code ({ cls := "java/lang/Record", name := "<init>", desc := "()V" } : Jvm.MethodName) jdk_30_method_1_code (1 : Nat) (Option.none : Option Jvm.ClassFile.FieldType), Jvm.Cond.code ({ cls := "java/lang/Object", name := "<init>", desc := "()V" } : Jvm.MethodName) object_method_1_code (1 : Nat) (Option.none : Option Jvm.ClassFile.FieldType), Jvm.Cond.code ({ cls := "com/example/clean_epoch/cleanepoch/log/EpochEnd", name := "answers", desc := "(I)Z" } : Jvm.MethodName) prog_18_method_2_code (2 : Nat) (Option.some Jvm.ClassFile.FieldType.boolean)]
set_option maxRecDepth 65536 in
theorem codes_eq : words1.filter isCode = codes1 := rfl
theorem w_codes : ∀ c ∈ words1.filter isCode, c.before args0 about1 = true := by
  rw [codes_eq]
  intro c hc
  simp only [codes1, List.mem_cons, List.not_mem_nil, or_false] at hc
  rcases hc with rfl | rfl | rfl | rfl | rfl
  · exact w_c0
  · exact w_c1
  · exact w_c2
  · exact w_c3
  · exact w_c4
set_option maxRecDepth 65536 in
theorem w_t1 : (words1.take 24).all (fun c => isCode c || c.before args0 about1) = true := by decide +kernel
set_option maxRecDepth 65536 in
theorem w_t2 : (words1.drop 24).all (fun c => isCode c || c.before args0 about1) = true := by decide +kernel
theorem w_tables : (allAtoms (Jvm.Cond.code x code maxLocals ret :: tables_1)).before args0 about1 = true := by
  rw [allAtoms_all]
  show words1.all (fun c => c.before args0 about1) = true
  refine all_split ?_ w_codes
  rw [← List.take_append_drop 24 words1, List.all_append, w_t1, w_t2]
  rfl
set_option maxRecDepth 65536 in
theorem w_case : (Jvm.Cond.and given_1 narrow_1).before args0 about1 = true := by decide +kernel
theorem w_applies : (headSpec (Jvm.Cond.code x code maxLocals ret :: tables_1) room_1).applies x e0.platform about1 = true :=
  (Spec.applies_iff w_frames).mpr ⟨w_running, w_runnable, w_alone, w_named, w_hears, w_ripe, w_room, w_tables⟩
theorem atStart : AtStart classFile x code maxLocals ret World_1 tables_1 room_1 Calls_1 rest_1 Pre_1 launch0 p0 e0 about1 theMethod args0 below0 :=
  ⟨lists_1, trivial, launch0.admits_env _ _ _, launch0.least_env, fairChoices_fair.cas, fairChoices_fair.clock, w_frames, w_args, w_heap, w_applies, trivial, trivial, w_case⟩
end start1
theorem witness_1 : WitnessClaimed_1 := ⟨start1.p0, start1.e0, start1.about1, start1.theMethod, start1.args0, start1.below0, start1.atStart⟩
end Jvm.Pilot.@@N@@
