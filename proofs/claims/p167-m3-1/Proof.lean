import JvmDerived
import JvmDerived.Pilot.@@N@@Statement
import JvmDerived.Pilot.@@N@@Code
set_option linter.unusedVariables false
set_option linter.unusedSimpArgs false
namespace Jvm.Pilot.@@N@@
open Jvm Jvm.ClassFile Sem Op Lib Jvm.Free Jvm.Stand Jvm.LawKit Jvm.RoadKit Bundle Jvm.Pilot.@@N@@.Jvm.D
/-! the walk in continuation form: 'Go' says that from here the body comes to its end with Q -/
def Go (EN : State → Outcome → State → List Loc → Nat → Nat → Prop) (p : Program) (e : Env) (below : List Frame) (s : State) (kc ks : Nat) (Q : Option Value → Heap → List Loc → Prop) (T : State) (g : JFrame) : Prop :=
  ∃ s₂ o, Steps p.tables e below (T.setTop g) s₂ ∧ s₂.status = .running ∧ Ended s₂ below o ∧ ∃ v L, o = .returned v ∧ Q v s₂.heap L ∧ EN s o s₂ L kc ks
section GoLaws
variable {p : Program} {l : Launch} {e : Env} {R : Room} {s : State} {m : MethodId} {args : Array Value} {below : List Frame} {meth : Method} {c : Code} {T T' : State} {locs : List Loc} {cells slots kc ks : Nat} {Q : Option Value → Heap → List Loc → Prop} {g g' : JFrame} {EN : State → Outcome → State → List Loc → Nat → Nat → Prop}
theorem Go.step (st : ∀ t, Steps p.tables e below (T'.setTop g') t → Steps p.tables e below (T.setTop g) t) (k : Go EN p e below s kc ks Q T' g') : Go EN p e below s kc ks Q T g := by
  obtain ⟨a, b, h1, h2⟩ := k
  exact ⟨a, b, st _ h1, h2⟩
theorem Go.trans (st : Steps p.tables e below (T.setTop g) (T'.setTop g')) (k : Go EN p e below s kc ks Q T' g') : Go EN p e below s kc ks Q T g := by
  obtain ⟨a, b, h1, h2⟩ := k
  exact ⟨a, b, st.trans h1, h2⟩
theorem Go.cast (q : g = g') (k : Go EN p e below s kc ks Q T g') : Go EN p e below s kc ks Q T g := q ▸ k
theorem Go.retN (X : Stand p l e R s m args below meth c T locs cells slots) (hx : p.tables.exec = Jvm.exec) {pc : Nat} {Ls : Array Slot} {z : Int32} {t : FieldType} {rest : List Value} (hret : meth.sig.returnType = some t) (ht : t = .boolean ∨ t = .byte ∨ t = .char ∨ t = .short) (hlk : meth.locks = false)
    (hd : decode c.code pc = .ok (.ireturn, 1)) (hc : cells ≤ kc) (hs : slots ≤ ks) (q : Q (some (.int (nar t z))) T.heap locs) : Go FrameEnd p e below s kc ks Q T (mkF m pc Ls (.int z :: rest)) := by
  obtain ⟨fs, hr, hrun, hended, hW, hsame⟩ := X.leave (v := some (.int (nar t z))) (fun h => by rw [hret] at h; cases h) hlk
  exact ⟨_, _, RoadKit.retN X hx hret ht hd hr, hrun, hended, _, _, rfl, q, ⟨_, rfl⟩, hW, hsame.mono hc hs⟩
theorem Go.retI (X : Stand p l e R s m args below meth c T locs cells slots) (hx : p.tables.exec = Jvm.exec) {pc : Nat} {Ls : Array Slot} {z : Int32} {rest : List Value} (hret : meth.sig.returnType = some .int) (hlk : meth.locks = false)
    (hd : decode c.code pc = .ok (.ireturn, 1)) (hc : cells ≤ kc) (hs : slots ≤ ks) (q : Q (some (.int z)) T.heap locs) : Go FrameEnd p e below s kc ks Q T (mkF m pc Ls (.int z :: rest)) := by
  obtain ⟨fs, hr, hrun, hended, hW, hsame⟩ := X.leave (v := some (.int z)) (fun h => by rw [hret] at h; cases h) hlk
  exact ⟨_, _, RoadKit.retOut X hx hret rfl (Or.inl ⟨rfl, Or.inl rfl, _, rfl⟩) hd hr, hrun, hended, _, _, rfl, q, ⟨_, rfl⟩, hW, hsame.mono hc hs⟩
theorem Go.retJ (X : Stand p l e R s m args below meth c T locs cells slots) (hx : p.tables.exec = Jvm.exec) {pc : Nat} {Ls : Array Slot} {z : Int64} {rest : List Value} (hret : meth.sig.returnType = some .long) (hlk : meth.locks = false)
    (hd : decode c.code pc = .ok (.lreturn, 1)) (hc : cells ≤ kc) (hs : slots ≤ ks) (q : Q (some (.long z)) T.heap locs) : Go FrameEnd p e below s kc ks Q T (mkF m pc Ls (.long z :: rest)) := by
  obtain ⟨fs, hr, hrun, hended, hW, hsame⟩ := X.leave (v := some (.long z)) (fun h => by rw [hret] at h; cases h) hlk
  exact ⟨_, _, RoadKit.retOut X hx hret rfl (Or.inr (Or.inl ⟨rfl, rfl, _, rfl⟩)) hd hr, hrun, hended, _, _, rfl, q, ⟨_, rfl⟩, hW, hsame.mono hc hs⟩
theorem Go.retA (X : Stand p l e R s m args below meth c T locs cells slots) (hx : p.tables.exec = Jvm.exec) {pc : Nat} {Ls : Array Slot} {z : Value} {t : FieldType} {rest : List Value} (hret : meth.sig.returnType = some t) (ht : t.isReference = true) (hz : z.isRef = true) (hlk : meth.locks = false)
    (hd : decode c.code pc = .ok (.areturn, 1)) (hc : cells ≤ kc) (hs : slots ≤ ks) (q : Q (some z) T.heap locs) : Go FrameEnd p e below s kc ks Q T (mkF m pc Ls (z :: rest)) := by
  obtain ⟨fs, hr, hrun, hended, hW, hsame⟩ := X.leave (v := some z) (fun h => by rw [hret] at h; cases h) hlk
  exact ⟨_, _, RoadKit.retOut X hx hret (by cases t <;> cases z <;> first | rfl | (cases ht; done) | (cases hz; done)) (Or.inr (Or.inr (Or.inr (Or.inr ⟨rfl, ht, hz⟩)))) hd hr, hrun, hended, _, _, rfl, q, ⟨_, rfl⟩, hW, hsame.mono hc hs⟩
theorem Go.retV (X : Stand p l e R s m args below meth c T locs cells slots) (hx : p.tables.exec = Jvm.exec) {pc : Nat} {Ls : Array Slot} (hret : meth.sig.returnType = none) (hlk : meth.locks = false)
    (hd : decode c.code pc = .ok (.return_, 1)) (hc : cells ≤ kc) (hs : slots ≤ ks) (q : Q none T.heap locs) : Go FrameEnd p e below s kc ks Q T (mkF m pc Ls []) := by
  obtain ⟨fs, hr, hrun, hended, hW, hsame⟩ := X.leave (v := none) (fun _ => rfl) hlk
  exact ⟨_, _, X.returnOut hx hret hd hr, hrun, hended, _, _, rfl, q, ⟨_, rfl⟩, hW, hsame.mono hc hs⟩
theorem rewMono {s t : State} {o : Outcome} {L : List Loc} {k n k' n' : Nat} (h : ReturnedEndW s o t L k n) (hk : k ≤ k') (hn : n ≤ n') : ReturnedEndW s o t L k' n' := ⟨h.1, h.2.1, h.2.2.1, h.2.2.2.mono hk hn⟩
theorem Go.retNW {vm0 : Vm} {k0 : Nat} (X : Stand p l e R (s.setVm vm0) m args below meth c T locs cells slots) (hS : s.Since vm0 k0) (hk : k0 ≤ T.heap.size) (hx : p.tables.exec = Jvm.exec) {pc : Nat} {Ls : Array Slot} {z : Int32} {t : FieldType} {rest : List Value} (hret : meth.sig.returnType = some t) (ht : t = .boolean ∨ t = .byte ∨ t = .char ∨ t = .short) (hlk : meth.locks = false)
    (hd : decode c.code pc = .ok (.ireturn, 1)) (hc : cells ≤ kc) (hs : slots ≤ ks) (q : Q (some (.int (nar t z))) T.heap locs) : Go ReturnedEndW p e below s kc ks Q T (mkF m pc Ls (.int z :: rest)) := by
  obtain ⟨fs, hr, hrun, hended, hW⟩ := X.leaveW hS hk (v := some (.int (nar t z))) (fun h => by rw [hret] at h; cases h) hlk
  exact ⟨_, _, RoadKit.retN X hx hret ht hd hr, hrun, hended, _, _, rfl, q, rewMono hW hc hs⟩
theorem Go.retIW {vm0 : Vm} {k0 : Nat} (X : Stand p l e R (s.setVm vm0) m args below meth c T locs cells slots) (hS : s.Since vm0 k0) (hk : k0 ≤ T.heap.size) (hx : p.tables.exec = Jvm.exec) {pc : Nat} {Ls : Array Slot} {z : Int32} {rest : List Value} (hret : meth.sig.returnType = some .int) (hlk : meth.locks = false)
    (hd : decode c.code pc = .ok (.ireturn, 1)) (hc : cells ≤ kc) (hs : slots ≤ ks) (q : Q (some (.int z)) T.heap locs) : Go ReturnedEndW p e below s kc ks Q T (mkF m pc Ls (.int z :: rest)) := by
  obtain ⟨fs, hr, hrun, hended, hW⟩ := X.leaveW hS hk (v := some (.int z)) (fun h => by rw [hret] at h; cases h) hlk
  exact ⟨_, _, RoadKit.retOut X hx hret rfl (Or.inl ⟨rfl, Or.inl rfl, _, rfl⟩) hd hr, hrun, hended, _, _, rfl, q, rewMono hW hc hs⟩
theorem Go.retJW {vm0 : Vm} {k0 : Nat} (X : Stand p l e R (s.setVm vm0) m args below meth c T locs cells slots) (hS : s.Since vm0 k0) (hk : k0 ≤ T.heap.size) (hx : p.tables.exec = Jvm.exec) {pc : Nat} {Ls : Array Slot} {z : Int64} {rest : List Value} (hret : meth.sig.returnType = some .long) (hlk : meth.locks = false)
    (hd : decode c.code pc = .ok (.lreturn, 1)) (hc : cells ≤ kc) (hs : slots ≤ ks) (q : Q (some (.long z)) T.heap locs) : Go ReturnedEndW p e below s kc ks Q T (mkF m pc Ls (.long z :: rest)) := by
  obtain ⟨fs, hr, hrun, hended, hW⟩ := X.leaveW hS hk (v := some (.long z)) (fun h => by rw [hret] at h; cases h) hlk
  exact ⟨_, _, RoadKit.retOut X hx hret rfl (Or.inr (Or.inl ⟨rfl, rfl, _, rfl⟩)) hd hr, hrun, hended, _, _, rfl, q, rewMono hW hc hs⟩
theorem Go.retAW {vm0 : Vm} {k0 : Nat} (X : Stand p l e R (s.setVm vm0) m args below meth c T locs cells slots) (hS : s.Since vm0 k0) (hk : k0 ≤ T.heap.size) (hx : p.tables.exec = Jvm.exec) {pc : Nat} {Ls : Array Slot} {z : Value} {t : FieldType} {rest : List Value} (hret : meth.sig.returnType = some t) (ht : t.isReference = true) (hz : z.isRef = true) (hlk : meth.locks = false)
    (hd : decode c.code pc = .ok (.areturn, 1)) (hc : cells ≤ kc) (hs : slots ≤ ks) (q : Q (some z) T.heap locs) : Go ReturnedEndW p e below s kc ks Q T (mkF m pc Ls (z :: rest)) := by
  obtain ⟨fs, hr, hrun, hended, hW⟩ := X.leaveW hS hk (v := some z) (fun h => by rw [hret] at h; cases h) hlk
  exact ⟨_, _, RoadKit.retOut X hx hret (by cases t <;> cases z <;> first | rfl | (cases ht; done) | (cases hz; done)) (Or.inr (Or.inr (Or.inr (Or.inr ⟨rfl, ht, hz⟩)))) hd hr, hrun, hended, _, _, rfl, q, rewMono hW hc hs⟩
theorem Go.retVW {vm0 : Vm} {k0 : Nat} (X : Stand p l e R (s.setVm vm0) m args below meth c T locs cells slots) (hS : s.Since vm0 k0) (hk : k0 ≤ T.heap.size) (hx : p.tables.exec = Jvm.exec) {pc : Nat} {Ls : Array Slot} (hret : meth.sig.returnType = none) (hlk : meth.locks = false)
    (hd : decode c.code pc = .ok (.return_, 1)) (hc : cells ≤ kc) (hs : slots ≤ ks) (q : Q none T.heap locs) : Go ReturnedEndW p e below s kc ks Q T (mkF m pc Ls []) := by
  obtain ⟨fs, hr, hrun, hended, hW⟩ := X.leaveW hS hk (v := none) (fun _ => rfl) hlk
  exact ⟨_, _, X.returnOut hx hret hd hr, hrun, hended, _, _, rfl, q, rewMono hW hc hs⟩
theorem extRfl (h : Heap) : Ext h h := ⟨Nat.le_refl _, fun _ _ q => q⟩
theorem extTr {h1 h2 h3 : Heap} (A : Ext h1 h2) (B : Ext h2 h3) : Ext h1 h3 := ⟨Nat.le_trans A.1 B.1, fun a c q => B.2 a c (A.2 a c q)⟩
theorem extKeep {h1 h2 h3 : Heap} {ws : List Addr} (A : Ext h1 h2) (K : Keep h2 h3 ws) (q : ∀ x ∈ ws, h1.size ≤ x) : Ext h1 h3 := ⟨Nat.le_trans A.1 K.1, fun a c r => K.2.1 a c (A.2 a c r) fun z => absurd (Array.getElem?_eq_some_iff.mp r).1 (Nat.not_lt.mpr (q a z))⟩
theorem extWr {h1 h2 h3 : Heap} {a : Addr} {sl : Nat} {v : Value} (A : Ext h1 h2) (W : Wr h2 h3 a sl v) (q : h1.size ≤ a) : Ext h1 h3 := extKeep A (Keep.of_wr W) (allS q all0)
end GoLaws
theorem fldStart {Z : State} {args : Array Value} {t : Jvm.Term} {a : Addr} {C n d : String} {k : Int32} (ev : t.eval args Z none [] Z = some (.ref a)) (h : (Jvm.Cond.eq (.field t C n d) (.int k)).value args Z none Z [] = some true) : Fld Z Z.heap a C n d (.int k) :=
  Fld.start ((fld_at ev).symm.trans (eqv_i (Term.int_eval k) h))
/-- putfield through an entry that the sheet says resolved -/
theorem putRdy {p : Program} {l : Launch} {e : Env} {R : Room} {s : State} {m : MethodId} {args : Array Value} {below : List Frame} {meth : Method} {c : Code} {T : State} {locs : List Loc} {cells slots : Nat} {Z : State} {a0 : Array Value} {h : Heap}
    (X : Stand p l e R s m args below meth c T locs cells slots) (hx : p.tables.exec = Jvm.exec) (hZ : Z.Warmed39 s.vm) {own O n d C : String} {index kk : Nat} {ty : FieldType} (hown : s.vm.findClass own = some m.cls) (w : (Jvm.Cond.fieldRef own index O n d).before a0 Z = true)
    (eT : T.heap = h) {a : Addr} {v old : Value} (F : Fld Z h a O n d old) (E : Exa Z h a C) (L : (Jvm.Cond.lays C O n d).before a0 Z = true) (wi : (Jvm.Cond.instantiable C kk).before a0 Z = true)
    (hty : parseFieldDescriptor d = some ty) (hn : narrow ty v = v) (hf : fits ty v = true) {g : JFrame} (hg : g.method = m) {rest : List Value} (hs : g.stack = v :: .ref a :: rest) (hd : decode c.code g.pc = .ok (.putfield index, 3)) :
    ∃ T' h', Stand p l e R s m args below meth c T' (locs ++ [⟨a, Jvm.RoadKit.slotOf Z O n d⟩]) cells slots ∧ T'.heap = h' ∧ Wr h h' a (Jvm.RoadKit.slotOf Z O n d) v ∧ ∀ target, Steps p.tables e below (T'.setTop { g with pc := g.pc + 3, stack := rest }) target → Steps p.tables e below (T.setTop g) target := by
  have hT : Z.Warmed39 T.vm := wtrans hZ X.warmed
  obtain ⟨cell, cf, k, i, f, h1, h2, h3, h4, h5, -, h7⟩ := F
  obtain ⟨cell', kc, e1, e2, e3, -⟩ := E
  cases h1.symm.trans e1
  obtain ⟨c1, k1, cf1, kf1, i1, f1, a1, a2, a3, -, -, a6, -⟩ := Laid.spec (Or.inl L)
  cases h2.symm.trans a3
  cases e2.symm.trans a1
  obtain ⟨c2, k2, i1, i2, i3, -⟩ := Cond.instantiable_spec wi
  cases e2.symm.trans i1
  cases a2.symm.trans i2
  have ht := (State.fieldFound?_type h2 hty).2
  have hfit : Z.fitsSlot cell.cls cell.vm f.slot v = true := by
    have q : Z.slotType? cell.cls cell.vm f.slot = some ty := by
      simp only [State.slotType?, a2, Option.bind_eq_bind, Option.bind_some, i3]
      cases hq : cell.vm <;> first | (rw [hq] at h5; exact Bool.noConfusion h5) | (rw [a6, ht])
    simp [State.fitsSlot, q, hf]
  have hfitT : T.fitsSlot cell.cls cell.vm f.slot v = true := by rw [← State.fitsSlot_setVm hT.alike] at hfit; exact hfit
  obtain ⟨_, _, _, _, _, _, -, -, b3, -, b5, -⟩ := Cond.lays_spec L
  cases h2.symm.trans b3
  have hcur : (Z.setVm T.vm).vm.findClass own = some m.cls := by
    show T.vm.findClass own = _
    rw [hT.alike.findClass, ← hZ.alike.findClass]; exact hown
  obtain ⟨cq, kq, iq, fq, q1, q2⟩ := Cond.fieldRef_spec hcur (Cond.fieldRef_warmed39 hT w)
  obtain ⟨k', q3, -⟩ := State.fieldFound?_setVm (s := Z) hT.alike h2
  cases q1.symm.trans q3
  have hlt := (Array.getElem?_eq_some_iff.mp h7).1
  have es : Jvm.RoadKit.slotOf Z O n d = f.slot := by simp [Jvm.RoadKit.slotOf, h2]
  rw [es]
  obtain ⟨X', st⟩ := X.putfieldReady hx q2 h3 (Or.inl b5) (by rw [eT]; exact h1) h4 hlt (by rw [ht]; exact hn) hfitT hg hs hd
  exact ⟨_, _, X', rfl, ⟨cell, h1, h5, hlt, by rw [← eT]; rfl⟩, st⟩
theorem d1_0 : decode prog_85_method_2_code 0 = .ok (.iload_n 0, 1) := by decide +kernel
theorem d1_1 : decode prog_85_method_2_code 1 = .ok (.ifCond .eq 9, 3) := by decide +kernel
theorem d1_10 : decode prog_85_method_2_code 10 = .ok (.getstatic 7, 3) := by decide +kernel
theorem d1_13 : decode prog_85_method_2_code 13 = .ok (.areturn, 1) := by decide +kernel
theorem d1_4 : decode prog_85_method_2_code 4 = .ok (.getstatic 1, 3) := by decide +kernel
theorem d1_7 : decode prog_85_method_2_code 7 = .ok (.goto 6, 3) := by decide +kernel
theorem pn_1 : plainName "com/example/distinguo/distinguo/model/Value" = true := by first | (simp [plainName, overriddenIn]; done) | decide +kernel
theorem ef_1 (m : MethodId) (y0 : Int32) : entryFrame m #[(.int y0)] 1 = mkF m 0 #[.val (.int y0)] [] := by first | (simp [entryFrame, mkF, argsToLocals, Value.category]; done) | rfl
def Q_1 (Z : State) (x0 : Int32) (tA : Addr) (fA : Addr) (r : Addr) (h0 : Heap) (v : Option Value) (h : Heap) (L : List Loc) : Prop := v = some (.ref r) ∧ Fr Z.heap.size L ∧ h = h0
set_option maxRecDepth 65536 in
set_option maxHeartbeats 40000000 in
theorem rm_1 (l : Launch) (Z : State) (a0 : Array Value) (hw : ∀ d ∈ tables_1, d.before a0 Z = true) (ws : List Jvm.Cond) (x0 : Int32) (tA : Addr) (fA : Addr) (r : Addr) (h0 : Heap) (O0 : Ext Z.heap h0) (S_T : Sta Z Z.heap "com/example/distinguo/distinguo/model/Value" "TRUE" "Lcom/example/distinguo/distinguo/model/Value;" (.ref tA)) (S_F : Sta Z Z.heap "com/example/distinguo/distinguo/model/Value" "FALSE" "Lcom/example/distinguo/distinguo/model/Value;" (.ref fA)) (hr : r = if x0 = 0 then fA else tA) :
    MetFree l (⟨"com/example/distinguo/distinguo/model/Value", "of", "(Z)Lcom/example/distinguo/distinguo/model/Value;"⟩ : MethodName) (head1 (Jvm.Cond.code (⟨"com/example/distinguo/distinguo/model/Value", "of", "(Z)Lcom/example/distinguo/distinguo/model/Value;"⟩ : MethodName) prog_85_method_2_code 1 (some (.object "com/example/distinguo/distinguo/model/Value")) :: ws) ({ frames := 0, cells := 0, slots := 0, locals := 0 } : Room)) (fun a U => a = #[(.int x0)] ∧ Z.Warmed39 U.vm ∧ U.heap = h0) (fun _ _ _ _ _ => True) (fun _ U o U' => ∃ v L, o = .returned v ∧ Q_1 Z x0 tA fA r h0 v U'.heap L ∧ FrameEnd U o U' L ({ frames := 0, cells := 0, slots := 0, locals := 0 } : Room).cells ({ frames := 0, cells := 0, slots := 0, locals := 0 } : Room).slots) := by
  refine MetFree.of_bodySF (plainFor_of_name pn_1) hisR ?_
  intro p e s m args below meth c s₁ Bd hml0 hP hK
  obtain ⟨rfl, hZ, hh⟩ := hP
  have hx := Bd.exec
  have hby := Bd.bytes
  have hlk := Bd.notSynchronized
  have hml : c.maxLocals = 1 := hml0
  have hown : s.vm.findClass "com/example/distinguo/distinguo/model/Value" = some m.cls := findClass_of_methodNamed Bd.named
  have hnm := (name_of_methodNamed Bd.named Bd.method).1
  have X0 : Stand p l e ({ frames := 0, cells := 0, slots := 0, locals := 0 } : Room) s m #[(.int x0)] below meth c s₁ [] 0 0 := Stand.of_body Bd
  have e0 : s₁.heap = h0 := by rw [← hh, Bd.state]; rfl
  have N0 := Fr.nil Z.heap.size
  show Go FrameEnd p e below s ({ frames := 0, cells := 0, slots := 0, locals := 0 } : Room).cells ({ frames := 0, cells := 0, slots := 0, locals := 0 } : Room).slots (Q_1 Z x0 tA fA r h0) s₁ (entryFrame m #[(.int x0)] 1)
  refine Go.cast (ef_1 m x0) ?_
  show Go _ _ _ _ _ _ _ _ s₁ (mkF m 0 #[.val (.int x0)] [])
  refine Go.step (fun _ k => XS.iloadN X0.here hx rfl (hb hby d1_0) rfl k) ?_
  show Go _ _ _ _ _ _ _ _ s₁ (mkF m 1 #[.val (.int x0)] [(.int x0)])
  by_cases hc1_1 : x0 = (0 : Int32)
  · refine Go.step (fun _ k => XS.ifYes X0.here hx rfl (pc0 := 1) (pc' := 10) rfl (hb hby d1_1) rfl ((if0 _ _).trans (teq hc1_1).1) (by decide) (by decide) k) ?_
    show Go _ _ _ _ _ _ _ _ s₁ (mkF m 10 #[.val (.int x0)] [])
    obtain ⟨T2, X2, e2, st2⟩ := getS2 X0 hx hZ hown (host := "") (Or.inl (hw _ (List.mem_of_getElem? (i := 4) rfl))) Via.refl e0 (Sta.ext O0 S_F) (g := (mkF m 10 #[.val (.int x0)] [])) rfl (hb hby d1_10)
    refine Go.step st2 ?_
    show Go _ _ _ _ _ _ _ _ T2 (mkF m 13 #[.val (.int x0)] [(.ref fA)])
    exact Go.retA X2 hx Bd.returns rfl rfl hlk (hb hby d1_13) (by decide) (by decide) (by show _ ∧ _ ∧ _; rw [e2]; refine ⟨?_, N0, rfl⟩; subst hr; simp_all [nar])
  · refine Go.step (fun _ k => XS.ifNo X0.here hx rfl (hb hby d1_1) rfl ((if0 _ _).trans (feq hc1_1).1) k) ?_
    show Go _ _ _ _ _ _ _ _ s₁ (mkF m 4 #[.val (.int x0)] [])
    obtain ⟨T3, X3, e3, st3⟩ := getS2 X0 hx hZ hown (host := "") (Or.inl (hw _ (List.mem_of_getElem? (i := 32) rfl))) Via.refl e0 (Sta.ext O0 S_T) (g := (mkF m 4 #[.val (.int x0)] [])) rfl (hb hby d1_4)
    refine Go.step st3 ?_
    show Go _ _ _ _ _ _ _ _ T3 (mkF m 7 #[.val (.int x0)] [(.ref tA)])
    refine Go.step (fun _ k => XS.goto X3.here hx rfl (pc0 := 7) (pc' := 13) rfl (hb hby d1_7) (by decide) (by decide) k) ?_
    show Go _ _ _ _ _ _ _ _ T3 (mkF m 13 #[.val (.int x0)] [(.ref tA)])
    exact Go.retA X3 hx Bd.returns rfl rfl hlk (hb hby d1_13) (by decide) (by decide) (by show _ ∧ _ ∧ _; rw [e3]; refine ⟨?_, N0, rfl⟩; subst hr; simp_all [nar])
theorem d2_0 : decode prog_86_method_6_code 0 = .ok (.aload_n 0, 1) := by decide +kernel
theorem d2_1 : decode prog_86_method_6_code 1 = .ok (.getfield 7, 3) := by decide +kernel
theorem d2_4 : decode prog_86_method_6_code 4 = .ok (.ireturn, 1) := by decide +kernel
theorem pn_2 : plainName "com/example/distinguo/distinguo/model/Value$Bool" = true := by first | (simp [plainName, overriddenIn]; done) | decide +kernel
theorem ef_2 (m : MethodId) (y0 : Addr) : entryFrame m #[(.ref y0)] 1 = mkF m 0 #[.val (.ref y0)] [] := by first | (simp [entryFrame, mkF, argsToLocals, Value.category]; done) | rfl
def Q_2 (Z : State) (x0 : Addr) (fl : Int32) (r : Int32) (h0 : Heap) (v : Option Value) (h : Heap) (L : List Loc) : Prop := v = some (.int r) ∧ Fr Z.heap.size L ∧ h = h0
set_option maxRecDepth 65536 in
set_option maxHeartbeats 40000000 in
theorem rm_2 (l : Launch) (Z : State) (a0 : Array Value) (hw : ∀ d ∈ tables_1, d.before a0 Z = true) (ws : List Jvm.Cond) (x0 : Addr) (fl : Int32) (r : Int32) (h0 : Heap) (O0 : Ext Z.heap h0) (F_v : Fld Z Z.heap x0 "com/example/distinguo/distinguo/model/Value$Bool" "value" "Z" (.int fl)) (hr : r = fl &&& 1) :
    MetFree l (⟨"com/example/distinguo/distinguo/model/Value$Bool", "value", "()Z"⟩ : MethodName) (head1 (Jvm.Cond.code (⟨"com/example/distinguo/distinguo/model/Value$Bool", "value", "()Z"⟩ : MethodName) prog_86_method_6_code 1 (some .boolean) :: ws) ({ frames := 0, cells := 0, slots := 0, locals := 0 } : Room)) (fun a U => a = #[(.ref x0)] ∧ Z.Warmed39 U.vm ∧ U.heap = h0) (fun _ _ _ _ _ => True) (fun _ U o U' => ∃ v L, o = .returned v ∧ Q_2 Z x0 fl r h0 v U'.heap L ∧ FrameEnd U o U' L ({ frames := 0, cells := 0, slots := 0, locals := 0 } : Room).cells ({ frames := 0, cells := 0, slots := 0, locals := 0 } : Room).slots) := by
  refine MetFree.of_bodySF (plainFor_of_name pn_2) hisR ?_
  intro p e s m args below meth c s₁ Bd hml0 hP hK
  obtain ⟨rfl, hZ, hh⟩ := hP
  have hx := Bd.exec
  have hby := Bd.bytes
  have hlk := Bd.notSynchronized
  have hml : c.maxLocals = 1 := hml0
  have hown : s.vm.findClass "com/example/distinguo/distinguo/model/Value$Bool" = some m.cls := findClass_of_methodNamed Bd.named
  have hnm := (name_of_methodNamed Bd.named Bd.method).1
  have X0 : Stand p l e ({ frames := 0, cells := 0, slots := 0, locals := 0 } : Room) s m #[(.ref x0)] below meth c s₁ [] 0 0 := Stand.of_body Bd
  have e0 : s₁.heap = h0 := by rw [← hh, Bd.state]; rfl
  have N0 := Fr.nil Z.heap.size
  show Go FrameEnd p e below s ({ frames := 0, cells := 0, slots := 0, locals := 0 } : Room).cells ({ frames := 0, cells := 0, slots := 0, locals := 0 } : Room).slots (Q_2 Z x0 fl r h0) s₁ (entryFrame m #[(.ref x0)] 1)
  refine Go.cast (ef_2 m x0) ?_
  show Go _ _ _ _ _ _ _ _ s₁ (mkF m 0 #[.val (.ref x0)] [])
  refine Go.step (fun _ k => XS.aloadN X0.here hx rfl (hb hby d2_0) rfl rfl k) ?_
  show Go _ _ _ _ _ _ _ _ s₁ (mkF m 1 #[.val (.ref x0)] [(.ref x0)])
  obtain ⟨T1, X1, e1, st1⟩ := getF X0 hx hZ hown (host := "") (Or.inl (hw _ (List.mem_of_getElem? (i := 14) rfl))) Via.refl e0 (Fld.ext O0 F_v) (g := (mkF m 1 #[.val (.ref x0)] [(.ref x0)])) rfl rfl (hb hby d2_1)
  refine Go.step st1 ?_
  show Go _ _ _ _ _ _ _ _ T1 (mkF m 4 #[.val (.ref x0)] [(.int fl)])
  exact Go.retN X1 hx (t := .boolean) Bd.returns (by simp) hlk (hb hby d2_4) (by decide) (by decide) (by show _ ∧ _ ∧ _; rw [e1]; refine ⟨?_, N0, rfl⟩; subst hr; simp_all [nar])
theorem d3_0 : decode prog_86_method_2_code 0 = .ok (.getstatic 13, 3) := by decide +kernel
theorem d3_3 : decode prog_86_method_2_code 3 = .ok (.areturn, 1) := by decide +kernel
theorem pn_3 : plainName "com/example/distinguo/distinguo/model/Value$Bool" = true := by first | (simp [plainName, overriddenIn]; done) | decide +kernel
theorem ef_3 (m : MethodId) (y0 : Addr) : entryFrame m #[(.ref y0)] 1 = mkF m 0 #[.val (.ref y0)] [] := by first | (simp [entryFrame, mkF, argsToLocals, Value.category]; done) | rfl
def Q_3 (Z : State) (x0 : Addr) (sA : Addr) (h0 : Heap) (v : Option Value) (h : Heap) (L : List Loc) : Prop := v = some (.ref sA) ∧ Fr Z.heap.size L ∧ h = h0
set_option maxRecDepth 65536 in
set_option maxHeartbeats 40000000 in
theorem rm_3 (l : Launch) (Z : State) (a0 : Array Value) (hw : ∀ d ∈ tables_1, d.before a0 Z = true) (ws : List Jvm.Cond) (x0 : Addr) (sA : Addr) (h0 : Heap) (O0 : Ext Z.heap h0) (S_S : Sta Z Z.heap "com/example/distinguo/distinguo/model/Sort" "BOOL" "Lcom/example/distinguo/distinguo/model/Sort;" (.ref sA)) :
    MetFree l (⟨"com/example/distinguo/distinguo/model/Value$Bool", "sort", "()Lcom/example/distinguo/distinguo/model/Sort;"⟩ : MethodName) (head1 (Jvm.Cond.code (⟨"com/example/distinguo/distinguo/model/Value$Bool", "sort", "()Lcom/example/distinguo/distinguo/model/Sort;"⟩ : MethodName) prog_86_method_2_code 1 (some (.object "com/example/distinguo/distinguo/model/Sort")) :: ws) ({ frames := 0, cells := 0, slots := 0, locals := 0 } : Room)) (fun a U => a = #[(.ref x0)] ∧ Z.Warmed39 U.vm ∧ U.heap = h0) (fun _ _ _ _ _ => True) (fun _ U o U' => ∃ v L, o = .returned v ∧ Q_3 Z x0 sA h0 v U'.heap L ∧ FrameEnd U o U' L ({ frames := 0, cells := 0, slots := 0, locals := 0 } : Room).cells ({ frames := 0, cells := 0, slots := 0, locals := 0 } : Room).slots) := by
  refine MetFree.of_bodySF (plainFor_of_name pn_3) hisR ?_
  intro p e s m args below meth c s₁ Bd hml0 hP hK
  obtain ⟨rfl, hZ, hh⟩ := hP
  have hx := Bd.exec
  have hby := Bd.bytes
  have hlk := Bd.notSynchronized
  have hml : c.maxLocals = 1 := hml0
  have hown : s.vm.findClass "com/example/distinguo/distinguo/model/Value$Bool" = some m.cls := findClass_of_methodNamed Bd.named
  have hnm := (name_of_methodNamed Bd.named Bd.method).1
  have X0 : Stand p l e ({ frames := 0, cells := 0, slots := 0, locals := 0 } : Room) s m #[(.ref x0)] below meth c s₁ [] 0 0 := Stand.of_body Bd
  have e0 : s₁.heap = h0 := by rw [← hh, Bd.state]; rfl
  have N0 := Fr.nil Z.heap.size
  show Go FrameEnd p e below s ({ frames := 0, cells := 0, slots := 0, locals := 0 } : Room).cells ({ frames := 0, cells := 0, slots := 0, locals := 0 } : Room).slots (Q_3 Z x0 sA h0) s₁ (entryFrame m #[(.ref x0)] 1)
  refine Go.cast (ef_3 m x0) ?_
  show Go _ _ _ _ _ _ _ _ s₁ (mkF m 0 #[.val (.ref x0)] [])
  obtain ⟨T1, X1, e1, st1⟩ := getS2 X0 hx hZ hown (host := "") (Or.inl (hw _ (List.mem_of_getElem? (i := 26) rfl))) Via.refl e0 (Sta.ext O0 S_S) (g := (mkF m 0 #[.val (.ref x0)] [])) rfl (hb hby d3_0)
  refine Go.step st1 ?_
  show Go _ _ _ _ _ _ _ _ T1 (mkF m 3 #[.val (.ref x0)] [(.ref sA)])
  exact Go.retA X1 hx Bd.returns rfl rfl hlk (hb hby d3_3) (by decide) (by decide) (by show _ ∧ _ ∧ _; rw [e1]; exact ⟨rfl, N0, rfl⟩)
theorem pd_LZRLcom_example_distinguo_distinguo_model_Value_ : parseMethodDescriptor "(Z)Lcom/example/distinguo/distinguo/model/Value;" = some ⟨[.boolean], some (.object "com/example/distinguo/distinguo/model/Value")⟩ := by decide +kernel
theorem pd_LRZ : parseMethodDescriptor "()Z" = some ⟨[], some .boolean⟩ := by decide +kernel
theorem pd_LRLcom_example_distinguo_distinguo_model_Sort_ : parseMethodDescriptor "()Lcom/example/distinguo/distinguo/model/Sort;" = some ⟨[], some (.object "com/example/distinguo/distinguo/model/Sort")⟩ := by decide +kernel
theorem pn_0 : plainName "com/example/distinguo/distinguo/model/ValueOfPinLaw" = true := by first | (simp [plainName, overriddenIn]; done) | decide +kernel
theorem ef_0 (m : MethodId) (y0 : Int32) : entryFrame m #[(.int y0)] maxLocals = mkF m 0 #[.val (.int y0), .unset, .unset, .unset, .unset] [] := by first | (simp [entryFrame, mkF, argsToLocals, Value.category, maxLocals]; done) | rfl
def Q_0 (Z : State) (x0 : Int32) (tA : Addr) (fA : Addr) (sA : Addr) (h0 : Heap) (v : Option Value) (h : Heap) (L : List Loc) : Prop := v = some (.int 1) ∧ Fr Z.heap.size L ∧ h = h0
set_option maxRecDepth 65536 in
set_option maxHeartbeats 40000000 in
theorem rm_0 (l : Launch) (Z : State) (a0 : Array Value) (hw : ∀ d ∈ tables_1, d.before a0 Z = true) (ws : List Jvm.Cond) (x0 : Int32) (tA : Addr) (fA : Addr) (sA : Addr) (h0 : Heap) (O0 : Ext Z.heap h0) (S_T : Sta Z Z.heap "com/example/distinguo/distinguo/model/Value" "TRUE" "Lcom/example/distinguo/distinguo/model/Value;" (.ref tA)) (S_F : Sta Z Z.heap "com/example/distinguo/distinguo/model/Value" "FALSE" "Lcom/example/distinguo/distinguo/model/Value;" (.ref fA)) (S_S : Sta Z Z.heap "com/example/distinguo/distinguo/model/Sort" "BOOL" "Lcom/example/distinguo/distinguo/model/Sort;" (.ref sA)) (X_T : Exa Z Z.heap tA "com/example/distinguo/distinguo/model/Value$Bool") (X_F : Exa Z Z.heap fA "com/example/distinguo/distinguo/model/Value$Bool") (F_T : Fld Z Z.heap tA "com/example/distinguo/distinguo/model/Value$Bool" "value" "Z" (.int (1 : Int32))) (F_F : Fld Z Z.heap fA "com/example/distinguo/distinguo/model/Value$Bool" "value" "Z" (.int (0 : Int32))) :
    MetFree l x (head1 (Jvm.Cond.code x code maxLocals ret :: ws) room_1) (fun a U => a = #[(.int x0)] ∧ Z.Warmed39 U.vm ∧ U.heap = h0) (fun _ _ _ _ _ => True) (fun _ U o U' => ∃ v L, o = .returned v ∧ Q_0 Z x0 tA fA sA h0 v U'.heap L ∧ FrameEnd U o U' L room_1.cells room_1.slots) := by
  refine MetFree.of_bodySF (plainFor_of_name pn_0) hisR ?_
  intro p e s m args below meth c s₁ Bd hml0 hP hK
  obtain ⟨rfl, hZ, hh⟩ := hP
  have hx := Bd.exec
  have hby := Bd.bytes
  have hlk := Bd.notSynchronized
  have hml : c.maxLocals = 5 := hml0
  have hown : s.vm.findClass "com/example/distinguo/distinguo/model/ValueOfPinLaw" = some m.cls := findClass_of_methodNamed Bd.named
  have hnm := (name_of_methodNamed Bd.named Bd.method).1
  have X0 : Stand p l e room_1 s m #[(.int x0)] below meth c s₁ [] 0 0 := Stand.of_body Bd
  have e0 : s₁.heap = h0 := by rw [← hh, Bd.state]; rfl
  have N0 := Fr.nil Z.heap.size
  show Go FrameEnd p e below s room_1.cells room_1.slots (Q_0 Z x0 tA fA sA h0) s₁ (entryFrame m #[(.int x0)] maxLocals)
  refine Go.cast (ef_0 m x0) ?_
  show Go _ _ _ _ _ _ _ _ s₁ (mkF m 0 #[.val (.int x0), .unset, .unset, .unset, .unset] [])
  refine Go.step (fun _ k => XS.iloadN X0.here hx rfl (hb hby at_0) rfl k) ?_
  show Go _ _ _ _ _ _ _ _ s₁ (mkF m 1 #[.val (.int x0), .unset, .unset, .unset, .unset] [(.int x0)])
  refine Go.step (fun _ k => XS.iconst X0.here hx rfl (hb hby at_1)  k) ?_
  show Go _ _ _ _ _ _ _ _ s₁ (mkF m 2 #[.val (.int x0), .unset, .unset, .unset, .unset] [(.int (1 : Int32)), (.int x0)])
  refine Go.step (fun _ k => XS.iand X0.here hx rfl (hb hby at_2) rfl k) ?_
  show Go _ _ _ _ _ _ _ _ s₁ (mkF m 3 #[.val (.int x0), .unset, .unset, .unset, .unset] [(.int (x0 &&& (1 : Int32)))])
  by_cases hc3_1 : (x0 &&& (1 : Int32)) = (0 : Int32)
  · refine Go.step (fun _ k => XS.ifYes X0.here hx rfl (pc0 := 3) (pc' := 10) rfl (hb hby at_3) rfl ((if0 _ _).trans (teq hc3_1).1) (by decide) (by decide) k) ?_
    show Go _ _ _ _ _ _ _ _ s₁ (mkF m 10 #[.val (.int x0), .unset, .unset, .unset, .unset] [])
    refine Go.step (fun _ k => XS.iconst X0.here hx rfl (hb hby at_10)  k) ?_
    show Go _ _ _ _ _ _ _ _ s₁ (mkF m 11 #[.val (.int x0), .unset, .unset, .unset, .unset] [(.int (0 : Int32))])
    refine Go.step (fun _ k => XS.istoreN X0.here hx rfl (hb hby at_11) rfl (l' := #[.val (.int x0), .val (.int (0 : Int32)), .unset, .unset, .unset]) rfl k) ?_
    show Go _ _ _ _ _ _ _ _ s₁ (mkF m 12 #[.val (.int x0), .val (.int (0 : Int32)), .unset, .unset, .unset] [])
    refine Go.step (fun _ k => XS.iloadN X0.here hx rfl (hb hby at_12) rfl k) ?_
    show Go _ _ _ _ _ _ _ _ s₁ (mkF m 13 #[.val (.int x0), .val (.int (0 : Int32)), .unset, .unset, .unset] [(.int (0 : Int32))])
    obtain ⟨_, _, ⟨T2, L2, k2, n2⟩, -, X2, ⟨Lc2, hQ2, l2, y2, z2⟩, st2⟩ := Jvm.LawKit.callS X0 hx (y := (⟨"com/example/distinguo/distinguo/model/Value", "of", "(Z)Lcom/example/distinguo/distinguo/model/Value;"⟩ : MethodName)) hown (mvT hZ (hw _ (List.mem_of_getElem? (i := 0) rfl))) (mvT hZ (hw _ (List.mem_of_getElem? (i := 1) rfl))) (mvT hZ (hw _ (List.mem_of_getElem? (i := 2) rfl))) (mvT hZ (hw _ (List.mem_of_getElem? (i := 3) rfl))) (by decide) (backOf (W := 0) (rm_1 l Z a0 hw [] (0 : Int32) tA fA fA h0 O0 S_T S_F (by simp)) hZ (hw _ (List.mem_of_getElem? (i := 3) rfl)) (hw _ (List.mem_of_getElem? (i := 2) rfl)) (by decide) (by decide)) (g := (mkF m 13 #[.val (.int x0), .val (.int (0 : Int32)), .unset, .unset, .unset] [(.int (0 : Int32))])) rfl (by rw [hml]; rfl) (argsL := [(.int (0 : Int32))]) (rest := []) (lenOf pd_LZRLcom_example_distinguo_distinguo_model_Value_ rfl) rfl (by show 2 * 0 + _ ≤ _; exact Nat.le_of_eq rfl) (hb hby at_13) (fun _ _ => ⟨rfl, e0, (by decide : 0 + 0 ≤ _), (by decide : 0 + 0 ≤ _)⟩)
    dsimp only [Pt.U, Pt.locs, Pt.cells, Pt.slots] at X2 l2 y2 z2 st2 hQ2
    subst l2 y2 z2
    obtain ⟨rfl, Nq2, e2⟩ := hQ2
    have N2_ := Fr.app N0 Nq2
    refine Go.step st2 ?_
    show Go _ _ _ _ _ _ _ _ T2 (mkF m 16 #[.val (.int x0), .val (.int (0 : Int32)), .unset, .unset, .unset] [(.ref fA)])
    refine Go.step (fun _ k => XS.astoreN X2.here hx rfl (hb hby at_16) rfl rfl (l' := #[.val (.int x0), .val (.int (0 : Int32)), .val (.ref fA), .unset, .unset]) rfl k) ?_
    show Go _ _ _ _ _ _ _ _ T2 (mkF m 17 #[.val (.int x0), .val (.int (0 : Int32)), .val (.ref fA), .unset, .unset] [])
    refine Go.step (fun _ k => XS.aloadN X2.here hx rfl (hb hby at_17) rfl rfl k) ?_
    show Go _ _ _ _ _ _ _ _ T2 (mkF m 18 #[.val (.int x0), .val (.int (0 : Int32)), .val (.ref fA), .unset, .unset] [(.ref fA)])
    obtain ⟨T3, X3, e3, st3⟩ := instY X2 hx hZ hown (hw _ (List.mem_of_getElem? (i := 6) rfl)) e2 (Ins.self (Exa.ext O0 X_F)) (g := (mkF m 18 #[.val (.int x0), .val (.int (0 : Int32)), .val (.ref fA), .unset, .unset] [(.ref fA)])) rfl rfl (hb hby at_18)
    refine Go.step st3 ?_
    show Go _ _ _ _ _ _ _ _ T3 (mkF m 21 #[.val (.int x0), .val (.int (0 : Int32)), .val (.ref fA), .unset, .unset] [(.int (1 : Int32))])
    refine Go.step (fun _ k => XS.ifYes X3.here hx rfl (pc0 := 21) (pc' := 26) rfl (hb hby at_21) rfl ((if0 _ _).trans (feq (by decide : ¬ ((1 : Int32) = (0 : Int32)))).2) (by decide) (by decide) k) ?_
    show Go _ _ _ _ _ _ _ _ T3 (mkF m 26 #[.val (.int x0), .val (.int (0 : Int32)), .val (.ref fA), .unset, .unset] [])
    refine Go.step (fun _ k => XS.aloadN X3.here hx rfl (hb hby at_26) rfl rfl k) ?_
    show Go _ _ _ _ _ _ _ _ T3 (mkF m 27 #[.val (.int x0), .val (.int (0 : Int32)), .val (.ref fA), .unset, .unset] [(.ref fA)])
    obtain ⟨T4, X4, e4, st4⟩ := castY X3 hx hZ hown (hw _ (List.mem_of_getElem? (i := 6) rfl)) e3 (Ins.self (Exa.ext O0 X_F)) (g := (mkF m 27 #[.val (.int x0), .val (.int (0 : Int32)), .val (.ref fA), .unset, .unset] [(.ref fA)])) rfl rfl (hb hby at_27)
    refine Go.step st4 ?_
    show Go _ _ _ _ _ _ _ _ T4 (mkF m 30 #[.val (.int x0), .val (.int (0 : Int32)), .val (.ref fA), .unset, .unset] [(.ref fA)])
    obtain ⟨cq5, kq5, q5a, q5b, q5c⟩ := isOf hZ e4 (Exa.ext O0 X_F)
    obtain ⟨_, _, ⟨T5, L5, k5, n5⟩, -, X5, ⟨Lc5, hQ5, l5, y5, z5⟩, st5⟩ := X4.virtualBack hx (y := (⟨"com/example/distinguo/distinguo/model/Value$Bool", "value", "()Z"⟩ : MethodName)) (z := (⟨"com/example/distinguo/distinguo/model/Value$Bool", "value", "()Z"⟩ : MethodName)) hown (mvT hZ (hw _ (List.mem_of_getElem? (i := 8) rfl))) (mvT hZ (hw _ (List.mem_of_getElem? (i := 9) rfl))) (notFace_of_selects (args := #[]) (mvT hZ (hw _ (List.mem_of_getElem? (i := 11) rfl)))) (mvT hZ (hw _ (List.mem_of_getElem? (i := 11) rfl))) (mvT hZ (hw _ (List.mem_of_getElem? (i := 10) rfl))) (by decide) (backOf (W := 0) (rm_2 l Z a0 hw [] fA (0 : Int32) (0 : Int32) h0 O0 F_F (by decide)) hZ (hw _ (List.mem_of_getElem? (i := 13) rfl)) (hw _ (List.mem_of_getElem? (i := 12) rfl)) (by decide) (by decide)) q5a q5c (g := (mkF m 30 #[.val (.int x0), .val (.int (0 : Int32)), .val (.ref fA), .unset, .unset] [(.ref fA)])) rfl (by rw [hml]; rfl) (Steps.refl _) (argsL := []) (rest := []) (lenOf pd_LRZ rfl) rfl (by show 2 * 0 + _ ≤ _; exact Nat.le_of_eq rfl) (hb hby at_30) (fun _ _ => ⟨rfl, e4, (by decide : 0 + 0 ≤ _), (by decide : 0 + 0 ≤ _)⟩)
    dsimp only [Pt.U, Pt.locs, Pt.cells, Pt.slots] at X5 l5 y5 z5 st5 hQ5
    subst l5 y5 z5
    obtain ⟨rfl, Nq5, e5⟩ := hQ5
    have N5_ := Fr.app N2_ Nq5
    refine Go.trans st5 ?_
    show Go _ _ _ _ _ _ _ _ T5 (mkF m 33 #[.val (.int x0), .val (.int (0 : Int32)), .val (.ref fA), .unset, .unset] [(.int (0 : Int32))])
    refine Go.step (fun _ k => XS.iloadN X5.here hx rfl (hb hby at_33) rfl k) ?_
    show Go _ _ _ _ _ _ _ _ T5 (mkF m 34 #[.val (.int x0), .val (.int (0 : Int32)), .val (.ref fA), .unset, .unset] [(.int (0 : Int32)), (.int (0 : Int32))])
    refine Go.step (fun _ k => XS.icmpNo X5.here hx rfl (hb hby at_34) rfl (teq (by decide : (0 : Int32) = (0 : Int32))).2 k) ?_
    show Go _ _ _ _ _ _ _ _ T5 (mkF m 37 #[.val (.int x0), .val (.int (0 : Int32)), .val (.ref fA), .unset, .unset] [])
    refine Go.step (fun _ k => XS.iconst X5.here hx rfl (hb hby at_37)  k) ?_
    show Go _ _ _ _ _ _ _ _ T5 (mkF m 38 #[.val (.int x0), .val (.int (0 : Int32)), .val (.ref fA), .unset, .unset] [(.int (1 : Int32))])
    refine Go.step (fun _ k => XS.goto X5.here hx rfl (pc0 := 38) (pc' := 42) rfl (hb hby at_38) (by decide) (by decide) k) ?_
    show Go _ _ _ _ _ _ _ _ T5 (mkF m 42 #[.val (.int x0), .val (.int (0 : Int32)), .val (.ref fA), .unset, .unset] [(.int (1 : Int32))])
    refine Go.step (fun _ k => XS.istoreN X5.here hx rfl (hb hby at_42) rfl (l' := #[.val (.int x0), .val (.int (0 : Int32)), .val (.ref fA), .val (.int (1 : Int32)), .unset]) rfl k) ?_
    show Go _ _ _ _ _ _ _ _ T5 (mkF m 43 #[.val (.int x0), .val (.int (0 : Int32)), .val (.ref fA), .val (.int (1 : Int32)), .unset] [])
    refine Go.step (fun _ k => XS.iloadN X5.here hx rfl (hb hby at_43) rfl k) ?_
    show Go _ _ _ _ _ _ _ _ T5 (mkF m 44 #[.val (.int x0), .val (.int (0 : Int32)), .val (.ref fA), .val (.int (1 : Int32)), .unset] [(.int (0 : Int32))])
    refine Go.step (fun _ k => XS.ifYes X5.here hx rfl (pc0 := 44) (pc' := 64) rfl (hb hby at_44) rfl ((if0 _ _).trans (teq (by decide : (0 : Int32) = (0 : Int32))).1) (by decide) (by decide) k) ?_
    show Go _ _ _ _ _ _ _ _ T5 (mkF m 64 #[.val (.int x0), .val (.int (0 : Int32)), .val (.ref fA), .val (.int (1 : Int32)), .unset] [])
    refine Go.step (fun _ k => XS.aloadN X5.here hx rfl (hb hby at_64) rfl rfl k) ?_
    show Go _ _ _ _ _ _ _ _ T5 (mkF m 65 #[.val (.int x0), .val (.int (0 : Int32)), .val (.ref fA), .val (.int (1 : Int32)), .unset] [(.ref fA)])
    obtain ⟨T6, X6, e6, st6⟩ := getS2 X5 hx hZ hown (host := "") (Or.inl (hw _ (List.mem_of_getElem? (i := 16) rfl))) Via.refl e5 (Sta.ext O0 S_F) (g := (mkF m 65 #[.val (.int x0), .val (.int (0 : Int32)), .val (.ref fA), .val (.int (1 : Int32)), .unset] [(.ref fA)])) rfl (hb hby at_65)
    refine Go.step st6 ?_
    show Go _ _ _ _ _ _ _ _ T6 (mkF m 68 #[.val (.int x0), .val (.int (0 : Int32)), .val (.ref fA), .val (.int (1 : Int32)), .unset] [(.ref fA), (.ref fA)])
    refine Go.step (fun _ k => Jvm.RoadKit.acmp (g := (mkF m 68 #[.val (.int x0), .val (.int (0 : Int32)), .val (.ref fA), .val (.int (1 : Int32)), .unset] [(.ref fA), (.ref fA)])) X6 hx rfl rfl rfl (pc0 := 68) (pc' := 71) (same := true) rfl (hb hby at_68) rfl (decide_eq_true rfl) (by decide) (by decide) k) ?_
    show Go _ _ _ _ _ _ _ _ T6 (mkF m 71 #[.val (.int x0), .val (.int (0 : Int32)), .val (.ref fA), .val (.int (1 : Int32)), .unset] [])
    refine Go.step (fun _ k => XS.iconst X6.here hx rfl (hb hby at_71)  k) ?_
    show Go _ _ _ _ _ _ _ _ T6 (mkF m 72 #[.val (.int x0), .val (.int (0 : Int32)), .val (.ref fA), .val (.int (1 : Int32)), .unset] [(.int (1 : Int32))])
    refine Go.step (fun _ k => XS.goto X6.here hx rfl (pc0 := 72) (pc' := 76) rfl (hb hby at_72) (by decide) (by decide) k) ?_
    show Go _ _ _ _ _ _ _ _ T6 (mkF m 76 #[.val (.int x0), .val (.int (0 : Int32)), .val (.ref fA), .val (.int (1 : Int32)), .unset] [(.int (1 : Int32))])
    refine Go.step (fun _ k => XS.istore X6.here hx rfl (hb hby at_76) rfl (l' := #[.val (.int x0), .val (.int (0 : Int32)), .val (.ref fA), .val (.int (1 : Int32)), .val (.int (1 : Int32))]) rfl k) ?_
    show Go _ _ _ _ _ _ _ _ T6 (mkF m 78 #[.val (.int x0), .val (.int (0 : Int32)), .val (.ref fA), .val (.int (1 : Int32)), .val (.int (1 : Int32))] [])
    refine Go.step (fun _ k => XS.iloadN X6.here hx rfl (hb hby at_78) rfl k) ?_
    show Go _ _ _ _ _ _ _ _ T6 (mkF m 79 #[.val (.int x0), .val (.int (0 : Int32)), .val (.ref fA), .val (.int (1 : Int32)), .val (.int (1 : Int32))] [(.int (1 : Int32))])
    refine Go.step (fun _ k => XS.ifNo X6.here hx rfl (hb hby at_79) rfl ((if0 _ _).trans (feq (by decide : ¬ ((1 : Int32) = (0 : Int32)))).1) k) ?_
    show Go _ _ _ _ _ _ _ _ T6 (mkF m 82 #[.val (.int x0), .val (.int (0 : Int32)), .val (.ref fA), .val (.int (1 : Int32)), .val (.int (1 : Int32))] [])
    refine Go.step (fun _ k => XS.iload X6.here hx rfl (hb hby at_82) rfl k) ?_
    show Go _ _ _ _ _ _ _ _ T6 (mkF m 84 #[.val (.int x0), .val (.int (0 : Int32)), .val (.ref fA), .val (.int (1 : Int32)), .val (.int (1 : Int32))] [(.int (1 : Int32))])
    refine Go.step (fun _ k => XS.ifNo X6.here hx rfl (hb hby at_84) rfl ((if0 _ _).trans (feq (by decide : ¬ ((1 : Int32) = (0 : Int32)))).1) k) ?_
    show Go _ _ _ _ _ _ _ _ T6 (mkF m 87 #[.val (.int x0), .val (.int (0 : Int32)), .val (.ref fA), .val (.int (1 : Int32)), .val (.int (1 : Int32))] [])
    refine Go.step (fun _ k => XS.aloadN X6.here hx rfl (hb hby at_87) rfl rfl k) ?_
    show Go _ _ _ _ _ _ _ _ T6 (mkF m 88 #[.val (.int x0), .val (.int (0 : Int32)), .val (.ref fA), .val (.int (1 : Int32)), .val (.int (1 : Int32))] [(.ref fA)])
    obtain ⟨cq7, kq7, q7a, q7b, q7c⟩ := isOf hZ e6 (Exa.ext O0 X_F)
    obtain ⟨_, _, ⟨T7, L7, k7, n7⟩, -, X7, ⟨Lc7, hQ7, l7, y7, z7⟩, st7⟩ := X6.interfaceBack hx (xi := (⟨"com/example/distinguo/distinguo/model/Value", "sort", "()Lcom/example/distinguo/distinguo/model/Sort;"⟩ : MethodName)) (y := (⟨"com/example/distinguo/distinguo/model/Value$Bool", "sort", "()Lcom/example/distinguo/distinguo/model/Sort;"⟩ : MethodName)) hown (mvT hZ (hw _ (List.mem_of_getElem? (i := 17) rfl))) (mvT hZ (hw _ (List.mem_of_getElem? (i := 18) rfl))) (mvT hZ (hw _ (List.mem_of_getElem? (i := 19) rfl))) (mvT hZ (hw _ (List.mem_of_getElem? (i := 20) rfl))) (mvT hZ (hw _ (List.mem_of_getElem? (i := 21) rfl))) (mvT hZ (hw _ (List.mem_of_getElem? (i := 22) rfl))) (mvT hZ (hw _ (List.mem_of_getElem? (i := 23) rfl))) (mvT hZ (hw _ (List.mem_of_getElem? (i := 24) rfl))) (by decide) (backOf (W := 0) (rm_3 l Z a0 hw [] fA sA h0 O0 S_S) hZ (hw _ (List.mem_of_getElem? (i := 25) rfl)) (hw _ (List.mem_of_getElem? (i := 12) rfl)) (by decide) (by decide)) q7a q7b q7c (g := (mkF m 88 #[.val (.int x0), .val (.int (0 : Int32)), .val (.ref fA), .val (.int (1 : Int32)), .val (.int (1 : Int32))] [(.ref fA)])) rfl (by rw [hml]; rfl) (Steps.refl _) (argsL := []) (rest := []) (lenOf pd_LRLcom_example_distinguo_distinguo_model_Sort_ rfl) rfl (by show 2 * 0 + _ ≤ _; exact Nat.le_of_eq rfl) (hb hby at_88) (fun _ _ => ⟨rfl, e6, (by decide : 0 + 0 ≤ _), (by decide : 0 + 0 ≤ _)⟩)
    dsimp only [Pt.U, Pt.locs, Pt.cells, Pt.slots] at X7 l7 y7 z7 st7 hQ7
    subst l7 y7 z7
    obtain ⟨rfl, Nq7, e7⟩ := hQ7
    have N7_ := Fr.app N5_ Nq7
    refine Go.trans st7 ?_
    show Go _ _ _ _ _ _ _ _ T7 (mkF m 93 #[.val (.int x0), .val (.int (0 : Int32)), .val (.ref fA), .val (.int (1 : Int32)), .val (.int (1 : Int32))] [(.ref sA)])
    obtain ⟨T8, X8, e8, st8⟩ := getS2 X7 hx hZ hown (host := "") (Or.inl (hw _ (List.mem_of_getElem? (i := 31) rfl))) Via.refl e7 (Sta.ext O0 S_S) (g := (mkF m 93 #[.val (.int x0), .val (.int (0 : Int32)), .val (.ref fA), .val (.int (1 : Int32)), .val (.int (1 : Int32))] [(.ref sA)])) rfl (hb hby at_93)
    refine Go.step st8 ?_
    show Go _ _ _ _ _ _ _ _ T8 (mkF m 96 #[.val (.int x0), .val (.int (0 : Int32)), .val (.ref fA), .val (.int (1 : Int32)), .val (.int (1 : Int32))] [(.ref sA), (.ref sA)])
    refine Go.step (fun _ k => Jvm.RoadKit.acmp (g := (mkF m 96 #[.val (.int x0), .val (.int (0 : Int32)), .val (.ref fA), .val (.int (1 : Int32)), .val (.int (1 : Int32))] [(.ref sA), (.ref sA)])) X8 hx rfl rfl rfl (pc0 := 96) (pc' := 99) (same := true) rfl (hb hby at_96) rfl (decide_eq_true rfl) (by decide) (by decide) k) ?_
    show Go _ _ _ _ _ _ _ _ T8 (mkF m 99 #[.val (.int x0), .val (.int (0 : Int32)), .val (.ref fA), .val (.int (1 : Int32)), .val (.int (1 : Int32))] [])
    refine Go.step (fun _ k => XS.iconst X8.here hx rfl (hb hby at_99)  k) ?_
    show Go _ _ _ _ _ _ _ _ T8 (mkF m 100 #[.val (.int x0), .val (.int (0 : Int32)), .val (.ref fA), .val (.int (1 : Int32)), .val (.int (1 : Int32))] [(.int (1 : Int32))])
    refine Go.step (fun _ k => XS.goto X8.here hx rfl (pc0 := 100) (pc' := 104) rfl (hb hby at_100) (by decide) (by decide) k) ?_
    show Go _ _ _ _ _ _ _ _ T8 (mkF m 104 #[.val (.int x0), .val (.int (0 : Int32)), .val (.ref fA), .val (.int (1 : Int32)), .val (.int (1 : Int32))] [(.int (1 : Int32))])
    exact Go.retN X8 hx (t := .boolean) Bd.returns (by simp) hlk (hb hby at_104) (by decide) (by decide) (by show _ ∧ _ ∧ _; rw [e8]; exact ⟨rfl, N7_, rfl⟩)
  · refine Go.step (fun _ k => XS.ifNo X0.here hx rfl (hb hby at_3) rfl ((if0 _ _).trans (feq hc3_1).1) k) ?_
    show Go _ _ _ _ _ _ _ _ s₁ (mkF m 6 #[.val (.int x0), .unset, .unset, .unset, .unset] [])
    refine Go.step (fun _ k => XS.iconst X0.here hx rfl (hb hby at_6)  k) ?_
    show Go _ _ _ _ _ _ _ _ s₁ (mkF m 7 #[.val (.int x0), .unset, .unset, .unset, .unset] [(.int (1 : Int32))])
    refine Go.step (fun _ k => XS.goto X0.here hx rfl (pc0 := 7) (pc' := 11) rfl (hb hby at_7) (by decide) (by decide) k) ?_
    show Go _ _ _ _ _ _ _ _ s₁ (mkF m 11 #[.val (.int x0), .unset, .unset, .unset, .unset] [(.int (1 : Int32))])
    refine Go.step (fun _ k => XS.istoreN X0.here hx rfl (hb hby at_11) rfl (l' := #[.val (.int x0), .val (.int (1 : Int32)), .unset, .unset, .unset]) rfl k) ?_
    show Go _ _ _ _ _ _ _ _ s₁ (mkF m 12 #[.val (.int x0), .val (.int (1 : Int32)), .unset, .unset, .unset] [])
    refine Go.step (fun _ k => XS.iloadN X0.here hx rfl (hb hby at_12) rfl k) ?_
    show Go _ _ _ _ _ _ _ _ s₁ (mkF m 13 #[.val (.int x0), .val (.int (1 : Int32)), .unset, .unset, .unset] [(.int (1 : Int32))])
    obtain ⟨_, _, ⟨T9, L9, k9, n9⟩, -, X9, ⟨Lc9, hQ9, l9, y9, z9⟩, st9⟩ := Jvm.LawKit.callS X0 hx (y := (⟨"com/example/distinguo/distinguo/model/Value", "of", "(Z)Lcom/example/distinguo/distinguo/model/Value;"⟩ : MethodName)) hown (mvT hZ (hw _ (List.mem_of_getElem? (i := 0) rfl))) (mvT hZ (hw _ (List.mem_of_getElem? (i := 1) rfl))) (mvT hZ (hw _ (List.mem_of_getElem? (i := 2) rfl))) (mvT hZ (hw _ (List.mem_of_getElem? (i := 3) rfl))) (by decide) (backOf (W := 0) (rm_1 l Z a0 hw [] (1 : Int32) tA fA tA h0 O0 S_T S_F (by simp)) hZ (hw _ (List.mem_of_getElem? (i := 3) rfl)) (hw _ (List.mem_of_getElem? (i := 2) rfl)) (by decide) (by decide)) (g := (mkF m 13 #[.val (.int x0), .val (.int (1 : Int32)), .unset, .unset, .unset] [(.int (1 : Int32))])) rfl (by rw [hml]; rfl) (argsL := [(.int (1 : Int32))]) (rest := []) (lenOf pd_LZRLcom_example_distinguo_distinguo_model_Value_ rfl) rfl (by show 2 * 0 + _ ≤ _; exact Nat.le_of_eq rfl) (hb hby at_13) (fun _ _ => ⟨rfl, e0, (by decide : 0 + 0 ≤ _), (by decide : 0 + 0 ≤ _)⟩)
    dsimp only [Pt.U, Pt.locs, Pt.cells, Pt.slots] at X9 l9 y9 z9 st9 hQ9
    subst l9 y9 z9
    obtain ⟨rfl, Nq9, e9⟩ := hQ9
    have N9_ := Fr.app N0 Nq9
    refine Go.step st9 ?_
    show Go _ _ _ _ _ _ _ _ T9 (mkF m 16 #[.val (.int x0), .val (.int (1 : Int32)), .unset, .unset, .unset] [(.ref tA)])
    refine Go.step (fun _ k => XS.astoreN X9.here hx rfl (hb hby at_16) rfl rfl (l' := #[.val (.int x0), .val (.int (1 : Int32)), .val (.ref tA), .unset, .unset]) rfl k) ?_
    show Go _ _ _ _ _ _ _ _ T9 (mkF m 17 #[.val (.int x0), .val (.int (1 : Int32)), .val (.ref tA), .unset, .unset] [])
    refine Go.step (fun _ k => XS.aloadN X9.here hx rfl (hb hby at_17) rfl rfl k) ?_
    show Go _ _ _ _ _ _ _ _ T9 (mkF m 18 #[.val (.int x0), .val (.int (1 : Int32)), .val (.ref tA), .unset, .unset] [(.ref tA)])
    obtain ⟨T10, X10, e10, st10⟩ := instY X9 hx hZ hown (hw _ (List.mem_of_getElem? (i := 6) rfl)) e9 (Ins.self (Exa.ext O0 X_T)) (g := (mkF m 18 #[.val (.int x0), .val (.int (1 : Int32)), .val (.ref tA), .unset, .unset] [(.ref tA)])) rfl rfl (hb hby at_18)
    refine Go.step st10 ?_
    show Go _ _ _ _ _ _ _ _ T10 (mkF m 21 #[.val (.int x0), .val (.int (1 : Int32)), .val (.ref tA), .unset, .unset] [(.int (1 : Int32))])
    refine Go.step (fun _ k => XS.ifYes X10.here hx rfl (pc0 := 21) (pc' := 26) rfl (hb hby at_21) rfl ((if0 _ _).trans (feq (by decide : ¬ ((1 : Int32) = (0 : Int32)))).2) (by decide) (by decide) k) ?_
    show Go _ _ _ _ _ _ _ _ T10 (mkF m 26 #[.val (.int x0), .val (.int (1 : Int32)), .val (.ref tA), .unset, .unset] [])
    refine Go.step (fun _ k => XS.aloadN X10.here hx rfl (hb hby at_26) rfl rfl k) ?_
    show Go _ _ _ _ _ _ _ _ T10 (mkF m 27 #[.val (.int x0), .val (.int (1 : Int32)), .val (.ref tA), .unset, .unset] [(.ref tA)])
    obtain ⟨T11, X11, e11, st11⟩ := castY X10 hx hZ hown (hw _ (List.mem_of_getElem? (i := 6) rfl)) e10 (Ins.self (Exa.ext O0 X_T)) (g := (mkF m 27 #[.val (.int x0), .val (.int (1 : Int32)), .val (.ref tA), .unset, .unset] [(.ref tA)])) rfl rfl (hb hby at_27)
    refine Go.step st11 ?_
    show Go _ _ _ _ _ _ _ _ T11 (mkF m 30 #[.val (.int x0), .val (.int (1 : Int32)), .val (.ref tA), .unset, .unset] [(.ref tA)])
    obtain ⟨cq12, kq12, q12a, q12b, q12c⟩ := isOf hZ e11 (Exa.ext O0 X_T)
    obtain ⟨_, _, ⟨T12, L12, k12, n12⟩, -, X12, ⟨Lc12, hQ12, l12, y12, z12⟩, st12⟩ := X11.virtualBack hx (y := (⟨"com/example/distinguo/distinguo/model/Value$Bool", "value", "()Z"⟩ : MethodName)) (z := (⟨"com/example/distinguo/distinguo/model/Value$Bool", "value", "()Z"⟩ : MethodName)) hown (mvT hZ (hw _ (List.mem_of_getElem? (i := 8) rfl))) (mvT hZ (hw _ (List.mem_of_getElem? (i := 9) rfl))) (notFace_of_selects (args := #[]) (mvT hZ (hw _ (List.mem_of_getElem? (i := 11) rfl)))) (mvT hZ (hw _ (List.mem_of_getElem? (i := 11) rfl))) (mvT hZ (hw _ (List.mem_of_getElem? (i := 10) rfl))) (by decide) (backOf (W := 0) (rm_2 l Z a0 hw [] tA (1 : Int32) (1 : Int32) h0 O0 F_T (by decide)) hZ (hw _ (List.mem_of_getElem? (i := 13) rfl)) (hw _ (List.mem_of_getElem? (i := 12) rfl)) (by decide) (by decide)) q12a q12c (g := (mkF m 30 #[.val (.int x0), .val (.int (1 : Int32)), .val (.ref tA), .unset, .unset] [(.ref tA)])) rfl (by rw [hml]; rfl) (Steps.refl _) (argsL := []) (rest := []) (lenOf pd_LRZ rfl) rfl (by show 2 * 0 + _ ≤ _; exact Nat.le_of_eq rfl) (hb hby at_30) (fun _ _ => ⟨rfl, e11, (by decide : 0 + 0 ≤ _), (by decide : 0 + 0 ≤ _)⟩)
    dsimp only [Pt.U, Pt.locs, Pt.cells, Pt.slots] at X12 l12 y12 z12 st12 hQ12
    subst l12 y12 z12
    obtain ⟨rfl, Nq12, e12⟩ := hQ12
    have N12_ := Fr.app N9_ Nq12
    refine Go.trans st12 ?_
    show Go _ _ _ _ _ _ _ _ T12 (mkF m 33 #[.val (.int x0), .val (.int (1 : Int32)), .val (.ref tA), .unset, .unset] [(.int (1 : Int32))])
    refine Go.step (fun _ k => XS.iloadN X12.here hx rfl (hb hby at_33) rfl k) ?_
    show Go _ _ _ _ _ _ _ _ T12 (mkF m 34 #[.val (.int x0), .val (.int (1 : Int32)), .val (.ref tA), .unset, .unset] [(.int (1 : Int32)), (.int (1 : Int32))])
    refine Go.step (fun _ k => XS.icmpNo X12.here hx rfl (hb hby at_34) rfl (teq (by decide : (1 : Int32) = (1 : Int32))).2 k) ?_
    show Go _ _ _ _ _ _ _ _ T12 (mkF m 37 #[.val (.int x0), .val (.int (1 : Int32)), .val (.ref tA), .unset, .unset] [])
    refine Go.step (fun _ k => XS.iconst X12.here hx rfl (hb hby at_37)  k) ?_
    show Go _ _ _ _ _ _ _ _ T12 (mkF m 38 #[.val (.int x0), .val (.int (1 : Int32)), .val (.ref tA), .unset, .unset] [(.int (1 : Int32))])
    refine Go.step (fun _ k => XS.goto X12.here hx rfl (pc0 := 38) (pc' := 42) rfl (hb hby at_38) (by decide) (by decide) k) ?_
    show Go _ _ _ _ _ _ _ _ T12 (mkF m 42 #[.val (.int x0), .val (.int (1 : Int32)), .val (.ref tA), .unset, .unset] [(.int (1 : Int32))])
    refine Go.step (fun _ k => XS.istoreN X12.here hx rfl (hb hby at_42) rfl (l' := #[.val (.int x0), .val (.int (1 : Int32)), .val (.ref tA), .val (.int (1 : Int32)), .unset]) rfl k) ?_
    show Go _ _ _ _ _ _ _ _ T12 (mkF m 43 #[.val (.int x0), .val (.int (1 : Int32)), .val (.ref tA), .val (.int (1 : Int32)), .unset] [])
    refine Go.step (fun _ k => XS.iloadN X12.here hx rfl (hb hby at_43) rfl k) ?_
    show Go _ _ _ _ _ _ _ _ T12 (mkF m 44 #[.val (.int x0), .val (.int (1 : Int32)), .val (.ref tA), .val (.int (1 : Int32)), .unset] [(.int (1 : Int32))])
    refine Go.step (fun _ k => XS.ifNo X12.here hx rfl (hb hby at_44) rfl ((if0 _ _).trans (feq (by decide : ¬ ((1 : Int32) = (0 : Int32)))).1) k) ?_
    show Go _ _ _ _ _ _ _ _ T12 (mkF m 47 #[.val (.int x0), .val (.int (1 : Int32)), .val (.ref tA), .val (.int (1 : Int32)), .unset] [])
    refine Go.step (fun _ k => XS.aloadN X12.here hx rfl (hb hby at_47) rfl rfl k) ?_
    show Go _ _ _ _ _ _ _ _ T12 (mkF m 48 #[.val (.int x0), .val (.int (1 : Int32)), .val (.ref tA), .val (.int (1 : Int32)), .unset] [(.ref tA)])
    obtain ⟨T13, X13, e13, st13⟩ := getS2 X12 hx hZ hown (host := "") (Or.inl (hw _ (List.mem_of_getElem? (i := 34) rfl))) Via.refl e12 (Sta.ext O0 S_T) (g := (mkF m 48 #[.val (.int x0), .val (.int (1 : Int32)), .val (.ref tA), .val (.int (1 : Int32)), .unset] [(.ref tA)])) rfl (hb hby at_48)
    refine Go.step st13 ?_
    show Go _ _ _ _ _ _ _ _ T13 (mkF m 51 #[.val (.int x0), .val (.int (1 : Int32)), .val (.ref tA), .val (.int (1 : Int32)), .unset] [(.ref tA), (.ref tA)])
    refine Go.step (fun _ k => Jvm.RoadKit.acmp (g := (mkF m 51 #[.val (.int x0), .val (.int (1 : Int32)), .val (.ref tA), .val (.int (1 : Int32)), .unset] [(.ref tA), (.ref tA)])) X13 hx rfl rfl rfl (pc0 := 51) (pc' := 54) (same := true) rfl (hb hby at_51) rfl (decide_eq_true rfl) (by decide) (by decide) k) ?_
    show Go _ _ _ _ _ _ _ _ T13 (mkF m 54 #[.val (.int x0), .val (.int (1 : Int32)), .val (.ref tA), .val (.int (1 : Int32)), .unset] [])
    refine Go.step (fun _ k => XS.iconst X13.here hx rfl (hb hby at_54)  k) ?_
    show Go _ _ _ _ _ _ _ _ T13 (mkF m 55 #[.val (.int x0), .val (.int (1 : Int32)), .val (.ref tA), .val (.int (1 : Int32)), .unset] [(.int (1 : Int32))])
    refine Go.step (fun _ k => XS.goto X13.here hx rfl (pc0 := 55) (pc' := 59) rfl (hb hby at_55) (by decide) (by decide) k) ?_
    show Go _ _ _ _ _ _ _ _ T13 (mkF m 59 #[.val (.int x0), .val (.int (1 : Int32)), .val (.ref tA), .val (.int (1 : Int32)), .unset] [(.int (1 : Int32))])
    refine Go.step (fun _ k => XS.istore X13.here hx rfl (hb hby at_59) rfl (l' := #[.val (.int x0), .val (.int (1 : Int32)), .val (.ref tA), .val (.int (1 : Int32)), .val (.int (1 : Int32))]) rfl k) ?_
    show Go _ _ _ _ _ _ _ _ T13 (mkF m 61 #[.val (.int x0), .val (.int (1 : Int32)), .val (.ref tA), .val (.int (1 : Int32)), .val (.int (1 : Int32))] [])
    refine Go.step (fun _ k => XS.goto X13.here hx rfl (pc0 := 61) (pc' := 78) rfl (hb hby at_61) (by decide) (by decide) k) ?_
    show Go _ _ _ _ _ _ _ _ T13 (mkF m 78 #[.val (.int x0), .val (.int (1 : Int32)), .val (.ref tA), .val (.int (1 : Int32)), .val (.int (1 : Int32))] [])
    refine Go.step (fun _ k => XS.iloadN X13.here hx rfl (hb hby at_78) rfl k) ?_
    show Go _ _ _ _ _ _ _ _ T13 (mkF m 79 #[.val (.int x0), .val (.int (1 : Int32)), .val (.ref tA), .val (.int (1 : Int32)), .val (.int (1 : Int32))] [(.int (1 : Int32))])
    refine Go.step (fun _ k => XS.ifNo X13.here hx rfl (hb hby at_79) rfl ((if0 _ _).trans (feq (by decide : ¬ ((1 : Int32) = (0 : Int32)))).1) k) ?_
    show Go _ _ _ _ _ _ _ _ T13 (mkF m 82 #[.val (.int x0), .val (.int (1 : Int32)), .val (.ref tA), .val (.int (1 : Int32)), .val (.int (1 : Int32))] [])
    refine Go.step (fun _ k => XS.iload X13.here hx rfl (hb hby at_82) rfl k) ?_
    show Go _ _ _ _ _ _ _ _ T13 (mkF m 84 #[.val (.int x0), .val (.int (1 : Int32)), .val (.ref tA), .val (.int (1 : Int32)), .val (.int (1 : Int32))] [(.int (1 : Int32))])
    refine Go.step (fun _ k => XS.ifNo X13.here hx rfl (hb hby at_84) rfl ((if0 _ _).trans (feq (by decide : ¬ ((1 : Int32) = (0 : Int32)))).1) k) ?_
    show Go _ _ _ _ _ _ _ _ T13 (mkF m 87 #[.val (.int x0), .val (.int (1 : Int32)), .val (.ref tA), .val (.int (1 : Int32)), .val (.int (1 : Int32))] [])
    refine Go.step (fun _ k => XS.aloadN X13.here hx rfl (hb hby at_87) rfl rfl k) ?_
    show Go _ _ _ _ _ _ _ _ T13 (mkF m 88 #[.val (.int x0), .val (.int (1 : Int32)), .val (.ref tA), .val (.int (1 : Int32)), .val (.int (1 : Int32))] [(.ref tA)])
    obtain ⟨cq14, kq14, q14a, q14b, q14c⟩ := isOf hZ e13 (Exa.ext O0 X_T)
    obtain ⟨_, _, ⟨T14, L14, k14, n14⟩, -, X14, ⟨Lc14, hQ14, l14, y14, z14⟩, st14⟩ := X13.interfaceBack hx (xi := (⟨"com/example/distinguo/distinguo/model/Value", "sort", "()Lcom/example/distinguo/distinguo/model/Sort;"⟩ : MethodName)) (y := (⟨"com/example/distinguo/distinguo/model/Value$Bool", "sort", "()Lcom/example/distinguo/distinguo/model/Sort;"⟩ : MethodName)) hown (mvT hZ (hw _ (List.mem_of_getElem? (i := 17) rfl))) (mvT hZ (hw _ (List.mem_of_getElem? (i := 18) rfl))) (mvT hZ (hw _ (List.mem_of_getElem? (i := 19) rfl))) (mvT hZ (hw _ (List.mem_of_getElem? (i := 20) rfl))) (mvT hZ (hw _ (List.mem_of_getElem? (i := 21) rfl))) (mvT hZ (hw _ (List.mem_of_getElem? (i := 22) rfl))) (mvT hZ (hw _ (List.mem_of_getElem? (i := 23) rfl))) (mvT hZ (hw _ (List.mem_of_getElem? (i := 24) rfl))) (by decide) (backOf (W := 0) (rm_3 l Z a0 hw [] tA sA h0 O0 S_S) hZ (hw _ (List.mem_of_getElem? (i := 25) rfl)) (hw _ (List.mem_of_getElem? (i := 12) rfl)) (by decide) (by decide)) q14a q14b q14c (g := (mkF m 88 #[.val (.int x0), .val (.int (1 : Int32)), .val (.ref tA), .val (.int (1 : Int32)), .val (.int (1 : Int32))] [(.ref tA)])) rfl (by rw [hml]; rfl) (Steps.refl _) (argsL := []) (rest := []) (lenOf pd_LRLcom_example_distinguo_distinguo_model_Sort_ rfl) rfl (by show 2 * 0 + _ ≤ _; exact Nat.le_of_eq rfl) (hb hby at_88) (fun _ _ => ⟨rfl, e13, (by decide : 0 + 0 ≤ _), (by decide : 0 + 0 ≤ _)⟩)
    dsimp only [Pt.U, Pt.locs, Pt.cells, Pt.slots] at X14 l14 y14 z14 st14 hQ14
    subst l14 y14 z14
    obtain ⟨rfl, Nq14, e14⟩ := hQ14
    have N14_ := Fr.app N12_ Nq14
    refine Go.trans st14 ?_
    show Go _ _ _ _ _ _ _ _ T14 (mkF m 93 #[.val (.int x0), .val (.int (1 : Int32)), .val (.ref tA), .val (.int (1 : Int32)), .val (.int (1 : Int32))] [(.ref sA)])
    obtain ⟨T15, X15, e15, st15⟩ := getS2 X14 hx hZ hown (host := "") (Or.inl (hw _ (List.mem_of_getElem? (i := 31) rfl))) Via.refl e14 (Sta.ext O0 S_S) (g := (mkF m 93 #[.val (.int x0), .val (.int (1 : Int32)), .val (.ref tA), .val (.int (1 : Int32)), .val (.int (1 : Int32))] [(.ref sA)])) rfl (hb hby at_93)
    refine Go.step st15 ?_
    show Go _ _ _ _ _ _ _ _ T15 (mkF m 96 #[.val (.int x0), .val (.int (1 : Int32)), .val (.ref tA), .val (.int (1 : Int32)), .val (.int (1 : Int32))] [(.ref sA), (.ref sA)])
    refine Go.step (fun _ k => Jvm.RoadKit.acmp (g := (mkF m 96 #[.val (.int x0), .val (.int (1 : Int32)), .val (.ref tA), .val (.int (1 : Int32)), .val (.int (1 : Int32))] [(.ref sA), (.ref sA)])) X15 hx rfl rfl rfl (pc0 := 96) (pc' := 99) (same := true) rfl (hb hby at_96) rfl (decide_eq_true rfl) (by decide) (by decide) k) ?_
    show Go _ _ _ _ _ _ _ _ T15 (mkF m 99 #[.val (.int x0), .val (.int (1 : Int32)), .val (.ref tA), .val (.int (1 : Int32)), .val (.int (1 : Int32))] [])
    refine Go.step (fun _ k => XS.iconst X15.here hx rfl (hb hby at_99)  k) ?_
    show Go _ _ _ _ _ _ _ _ T15 (mkF m 100 #[.val (.int x0), .val (.int (1 : Int32)), .val (.ref tA), .val (.int (1 : Int32)), .val (.int (1 : Int32))] [(.int (1 : Int32))])
    refine Go.step (fun _ k => XS.goto X15.here hx rfl (pc0 := 100) (pc' := 104) rfl (hb hby at_100) (by decide) (by decide) k) ?_
    show Go _ _ _ _ _ _ _ _ T15 (mkF m 104 #[.val (.int x0), .val (.int (1 : Int32)), .val (.ref tA), .val (.int (1 : Int32)), .val (.int (1 : Int32))] [(.int (1 : Int32))])
    exact Go.retN X15 hx (t := .boolean) Bd.returns (by simp) hlk (hb hby at_104) (by decide) (by decide) (by show _ ∧ _ ∧ _; rw [e15]; exact ⟨rfl, N14_, rfl⟩)
theorem own_staEq {Z : State} {args : Array Value} {t u : Jvm.Term} {a : Addr} (ev : u.eval args Z none [] Z = some (.ref a)) (h : (Jvm.Cond.eq t u).value args Z none Z [] = some true) : t.eval args Z none [] Z = some (.ref a) := by
  obtain ⟨x, y, h1, h2, h3, h4⟩ := cmp_v (Or.inl h)
  cases ev.symm.trans h2
  have q := gotT (eq_R h1 h2 h4.2 h4.1) h
  rw [h1, q]
set_option maxRecDepth 65536 in
set_option maxHeartbeats 40000000 in
theorem comes_1 {Post : Tables → Env → Array Value → State → Outcome → State → Prop} (hpost : ∀ tb e args s v u, (limb_1_1.after args s (.returned v) u = true ∧ limb_1_2.after args s (.returned v) u = true ∧ True) → FrameEnd s (.returned v) u (Jvm.fieldLocs frame_1_writes args s ++ Jvm.arrayLocs frame_1_arrays args s ++ Jvm.staticLocs frame_1_statics s) 0 0 → Post tb e args s (.returned v) u) :
    ArmFor flags0 classFile x code maxLocals ret World_1 tables_1 room_1 Calls_1 rest_1 Pre_1 Post := by
  intro l hfl _ _ p e ha hc hk s m args below hf hA hF happ hP
  obtain ⟨hcalls, hrest, hpre⟩ := hP
  obtain ⟨-, -, -, hnamed, -, -, -, hat⟩ := (Spec.applies_iff hf).mp happ
  obtain ⟨hg, hn⟩ := and_e (Cond.before_iff.mp (show (Jvm.Cond.and given_1 narrow_1).before args s = true from hpre))
  obtain ⟨hcount, gr0⟩ := and_e hg
  have ga0 := gr0
  obtain ⟨w0, rfl⟩ : ∃ w0 : Value, args = #[w0] := by
    have hs : args.size = 1 := by simpa [Cond.value, given_1] using hcount
    obtain ⟨L⟩ := args
    match L, hs with
    | [w0], _ => exact ⟨w0, rfl⟩
  have hw := fun d (hd : d ∈ tables_1) => atoms_spec (ws := Jvm.Cond.code x code maxLocals ret :: tables_1) hat d (List.mem_cons_of_mem _ hd)
  have hfit : Fit s := fun {y c} hc i hi => by
    obtain ⟨ha, rfl⟩ := Array.getElem?_eq_some_iff.mp hc
    have q := List.all_eq_true.mp ((Array.all_eq_true_iff_forall_mem.mp hF) _ (Array.getElem_mem ha)) i (List.mem_range.mpr hi)
    simpa [Array.getElem?_eq_getElem hi] using q
  obtain ⟨i0, ei0⟩ := is_v ga0
  obtain rfl : w0 = (.int i0) := Option.some.inj ei0
  obtain ⟨nw0, nr0⟩ := and_e hn
  obtain ⟨nw1, nr1⟩ := and_e nr0
  obtain ⟨nw2, nr2⟩ := and_e nr1
  obtain ⟨nw3, nr3⟩ := and_e nr2
  obtain ⟨nw4, nr4⟩ := and_e nr3
  have nw5 := nr4
  obtain ⟨a_0, ev_0⟩ := exa_v nw0
  have S_0 : Sta s s.heap "com/example/distinguo/distinguo/model/Value" "FALSE" "Lcom/example/distinguo/distinguo/model/Value;" (.ref a_0) := Sta.start ev_0 (Or.inr ⟨(hw _ (List.mem_of_getElem? (i := 2) rfl)), (hw _ (List.mem_of_getElem? (i := 5) rfl))⟩)
  have X_0 : Exa s s.heap a_0 "com/example/distinguo/distinguo/model/Value$Bool" := Exa.start ev_0 nw0
  obtain ⟨a_2, ev_2⟩ := exa_v nw2
  have S_2 : Sta s s.heap "com/example/distinguo/distinguo/model/Sort$Basic" "BOOL" "Lcom/example/distinguo/distinguo/model/Sort$Basic;" (.ref a_2) := Sta.start ev_2 (Or.inr ⟨(hw _ (List.mem_of_getElem? (i := 29) rfl)), (hw _ (List.mem_of_getElem? (i := 30) rfl))⟩)
  have X_2 : Exa s s.heap a_2 "com/example/distinguo/distinguo/model/Sort$Basic" := Exa.start ev_2 nw2
  obtain ⟨a_4, ev_4⟩ := exa_v nw4
  have S_4 : Sta s s.heap "com/example/distinguo/distinguo/model/Value" "TRUE" "Lcom/example/distinguo/distinguo/model/Value;" (.ref a_4) := Sta.start ev_4 (Or.inr ⟨(hw _ (List.mem_of_getElem? (i := 2) rfl)), (hw _ (List.mem_of_getElem? (i := 33) rfl))⟩)
  have X_4 : Exa s s.heap a_4 "com/example/distinguo/distinguo/model/Value$Bool" := Exa.start ev_4 nw4
  have F_1 : Fld s s.heap a_0 "com/example/distinguo/distinguo/model/Value$Bool" "value" "Z" (.int (0 : Int32)) := fldStart ev_0 nw1
  have F_5 : Fld s s.heap a_4 "com/example/distinguo/distinguo/model/Value$Bool" "value" "Z" (.int (1 : Int32)) := fldStart ev_4 nw5
  have S_so : Sta s s.heap "com/example/distinguo/distinguo/model/Sort" "BOOL" "Lcom/example/distinguo/distinguo/model/Sort;" (.ref a_2) := Sta.start (own_staEq ev_2 nw3) (Or.inr ⟨(hw _ (List.mem_of_getElem? (i := 27) rfl)), (hw _ (List.mem_of_getElem? (i := 28) rfl))⟩)
  obtain ⟨n, o, h1, h2, h3, _, L, rfl, ⟨rfl, N, -⟩, hq⟩ := rm_0 l s _ hw tables_1 i0 a_4 a_0 a_2 s.heap (extRfl _) S_4 S_0 S_so X_4 X_0 F_5 F_1 p e ha hc hk s m _ below hf ((Spec.applies_iff_loose hf).mp happ).1 ⟨rfl, State.Warmed39.refl s, rfl⟩ trivial
  refine ⟨n, _, h1, h2, h3, hpost _ _ _ _ _ _ ⟨Cond.after_iff.mpr rfl, Cond.after_iff.mpr (eq_i res_at (Term.int_eval (1)) rfl), trivial⟩ ⟨hq.1, hq.2.1, (hq.2.2.sift fun y hy => Or.inr (N y hy)).mono (by decide) (by decide)⟩⟩
theorem main_1_1 : Claimed_1_1 := comes_1 fun _ _ _ _ _ _ h hF => ⟨h.1, hF⟩
theorem main_1_2 : Claimed_1_2 := comes_1 fun _ _ _ _ _ _ h hF => ⟨h.2.1, hF⟩
end Jvm.Pilot.@@N@@
namespace Jvm.Pilot.@@N@@
open Jvm Jvm.ClassFile Sem Op Lib Jvm.Free Jvm.Stand Jvm.Pilot.@@N@@.Jvm.D
/-! MADE BY PROGRAM (witnessworld.py) out of the Statement's table words and the real class files: 16 classes; the members and pool entries that the words name. The judged class is class 1, her method 1. -/
namespace start1
open Jvm.ClassFile
def u (s : String) : CpInfo := .utf8 (stringToUtf16 s)
/-- a pool by its gaps: so many unusable entries, then the entry; so many at the end -/
def gap : Nat → List CpInfo → List CpInfo
  | 0, r => r
  | n + 1, r => .unusable :: gap n r
def poolList (es : List (Nat × CpInfo)) (last : Nat) : List CpInfo := es.foldr (fun e r => gap e.1 (e.2 :: r)) (gap last [])
def pool (es : List (Nat × CpInfo)) (last : Nat) : Array CpInfo := ⟨poolList es last⟩
def fileOf (pool : Array CpInfo) (this : Nat) (attrs : Array Attribute := #[]) (ms : Array MethodInfo := #[]) (fl : Nat := 33) (sup : Nat := 0) (ifs : Array Nat := #[]) (fds : Array FieldInfo := #[]) : ClassFile where
  minorVersion := 0
  majorVersion := 65
  constantPool := pool
  accessFlags := fl
  thisClass := this
  superClass := sup
  interfaces := ifs
  fields := fds
  methods := ms
  attributes := attrs
def plain (name : String) (sup : Option ClassId) : Class where
  name := name
  kind := .ordinary
  loader := none
  accessFlags := 33
  super := sup
  interfaces := #[]
  cf := none
  fields := #[]
  methods := #[]
  instanceTypes := #[]
  staticTypes := #[]
  resolved := #[]
  callSites := []
  init := .initialized
  statics := none
  mirror := none

def pool0 : Array CpInfo := pool [(5, u "<init>"), (0, u "()V"), (1, .class_ 10), (1, u "java/lang/Object")] 113

def k0m0 : Method := { name := "<init>", desc := "()V", sig := { parameters := [], returnType := none }, accessFlags := 1, code := none }
/-- java/lang/Object -/
def k0 : Class := { plain "java/lang/Object" none with
  accessFlags := 33
  interfaces := #[]
  cf := some (fileOf pool0 8 #[] #[{ accessFlags := 1, nameIndex := 5, descriptorIndex := 6, attributes := #[] }] 33 0 #[] #[])
  fields := #[]
  methods := #[k0m0]
  instanceTypes := #[]
  staticTypes := #[]
  resolved := Array.replicate 124 none
  statics := none }

def pool1 : Array CpInfo := pool [(2, .class_ 4), (1, u "java/lang/Object"), (0, u "<init>"), (0, u "()V"), (0, .interfaceMethodref 8 9), (0, .class_ 10), (0, .nameAndType 11 12), (0, u "com/example/distinguo/distinguo/model/Value"), (0, u "of"), (0, u "(Z)Lcom/example/distinguo/distinguo/model/Value;"), (0, .class_ 14), (0, u "com/example/distinguo/distinguo/model/Value$Bool"), (0, .methodref 13 16), (0, .nameAndType 17 18), (0, u "value"), (0, u "()Z"), (0, .fieldref 8 20), (0, .nameAndType 21 22), (0, u "TRUE"), (0, u "Lcom/example/distinguo/distinguo/model/Value;"), (0, .fieldref 8 24), (0, .nameAndType 25 22), (0, u "FALSE"), (0, .interfaceMethodref 8 27), (0, .nameAndType 28 29), (0, u "sort"), (0, u "()Lcom/example/distinguo/distinguo/model/Sort;"), (0, .fieldref 31 32), (0, .class_ 33), (0, .nameAndType 34 35), (0, u "com/example/distinguo/distinguo/model/Sort"), (0, u "BOOL"), (0, u "Lcom/example/distinguo/distinguo/model/Sort;"), (0, .class_ 37), (0, u "com/example/distinguo/distinguo/model/ValueOfPinLaw"), (2, u "law"), (0, u "(I)Z")] 5

def k1m0 : Method := { name := "<init>", desc := "()V", sig := { parameters := [], returnType := none }, accessFlags := 2, code := none }
def k1c1 : Code := { maxStack := 2, maxLocals := 5, code := code, exceptionTable := #[], attributes := #[] }
def k1m1 : Method := { name := "law", desc := "(I)Z", sig := { parameters := [.int], returnType := some .boolean }, accessFlags := 9, code := some k1c1 }
/-- com/example/distinguo/distinguo/model/ValueOfPinLaw -/
def k1 : Class := { plain "com/example/distinguo/distinguo/model/ValueOfPinLaw" (some 0) with
  accessFlags := 49
  interfaces := #[]
  cf := some (fileOf pool1 36 #[] #[{ accessFlags := 2, nameIndex := 5, descriptorIndex := 6, attributes := #[] }, { accessFlags := 9, nameIndex := 40, descriptorIndex := 41, attributes := #[] }] 49 2 #[] #[])
  fields := #[]
  methods := #[k1m0, k1m1]
  instanceTypes := #[]
  staticTypes := #[]
  resolved := Array.replicate 47 none
  statics := none }

def pool2 : Array CpInfo := pool [(1, .fieldref 2 3), (0, .class_ 4), (0, .nameAndType 5 6), (0, u "com/example/distinguo/distinguo/model/Value"), (0, u "TRUE"), (0, u "Lcom/example/distinguo/distinguo/model/Value;"), (0, .fieldref 2 8), (0, .nameAndType 9 6), (0, u "FALSE"), (0, .class_ 11), (0, u "com/example/distinguo/distinguo/model/Value$Bool"), (4, .class_ 17), (0, u "java/lang/Object"), (0, u "sort"), (0, u "()Lcom/example/distinguo/distinguo/model/Sort;"), (0, u "of"), (0, u "(Z)Lcom/example/distinguo/distinguo/model/Value;"), (8, .class_ 31), (0, u "com/example/distinguo/distinguo/model/Value$EnumConstant"), (0, .class_ 33), (0, u "com/example/distinguo/distinguo/model/Value$Int")] 5

def k2m0 : Method := { name := "sort", desc := "()Lcom/example/distinguo/distinguo/model/Sort;", sig := { parameters := [], returnType := some (.object "com/example/distinguo/distinguo/model/Sort") }, accessFlags := 1025, code := none }
def k2c1 : Code := { maxStack := 1, maxLocals := 1, code := prog_85_method_2_code, exceptionTable := #[], attributes := #[] }
def k2m1 : Method := { name := "of", desc := "(Z)Lcom/example/distinguo/distinguo/model/Value;", sig := { parameters := [.boolean], returnType := some (.object "com/example/distinguo/distinguo/model/Value") }, accessFlags := 9, code := some k2c1 }
/-- com/example/distinguo/distinguo/model/Value -/
def k2 : Class := { plain "com/example/distinguo/distinguo/model/Value" (some 0) with
  accessFlags := 1537
  interfaces := #[]
  cf := some (fileOf pool2 2 #[.nestMembers #[30, 10, 32]] #[{ accessFlags := 1025, nameIndex := 18, descriptorIndex := 19, attributes := #[] }, { accessFlags := 9, nameIndex := 20, descriptorIndex := 21, attributes := #[] }] 1537 16 #[] #[{ accessFlags := 25, nameIndex := 5, descriptorIndex := 6, attributes := #[] }, { accessFlags := 25, nameIndex := 9, descriptorIndex := 6, attributes := #[] }])
  fields := #[{ name := "TRUE", type := (.object "com/example/distinguo/distinguo/model/Value"), accessFlags := 25, slot := 0, constantValue := 0 }, { name := "FALSE", type := (.object "com/example/distinguo/distinguo/model/Value"), accessFlags := 25, slot := 1, constantValue := 0 }]
  methods := #[k2m0, k2m1]
  instanceTypes := #[]
  staticTypes := #[(.object "com/example/distinguo/distinguo/model/Value"), (.object "com/example/distinguo/distinguo/model/Value")]
  resolved := Array.replicate 39 none
  statics := some 0 }

def pool3 : Array CpInfo := pool [(2, .class_ 4), (1, u "java/lang/Object"), (0, u "<init>"), (0, u "()V"), (0, .class_ 8), (0, u "java/lang/Record")] 13

def k3m0 : Method := { name := "<init>", desc := "()V", sig := { parameters := [], returnType := none }, accessFlags := 4, code := none }
/-- java/lang/Record -/
def k3 : Class := { plain "java/lang/Record" (some 0) with
  accessFlags := 1057
  interfaces := #[]
  cf := some (fileOf pool3 7 #[] #[{ accessFlags := 4, nameIndex := 5, descriptorIndex := 6, attributes := #[] }] 1057 2 #[] #[])
  fields := #[]
  methods := #[k3m0]
  instanceTypes := #[]
  staticTypes := #[]
  resolved := Array.replicate 22 none
  statics := none }

def pool4 : Array CpInfo := pool [(2, .class_ 4), (1, u "java/lang/Record"), (2, .fieldref 8 9), (0, .class_ 10), (0, .nameAndType 11 12), (0, u "com/example/distinguo/distinguo/model/Value$Bool"), (0, u "value"), (0, u "Z"), (0, .fieldref 14 15), (0, .class_ 16), (0, .nameAndType 17 18), (0, u "com/example/distinguo/distinguo/model/Sort"), (0, u "BOOL"), (0, u "Lcom/example/distinguo/distinguo/model/Sort;"), (12, .class_ 32), (0, u "com/example/distinguo/distinguo/model/Value"), (4, u "sort"), (0, u "()Lcom/example/distinguo/distinguo/model/Sort;"), (7, u "()Z")] 21

def k4c0 : Code := { maxStack := 1, maxLocals := 1, code := prog_86_method_2_code, exceptionTable := #[], attributes := #[] }
def k4m0 : Method := { name := "sort", desc := "()Lcom/example/distinguo/distinguo/model/Sort;", sig := { parameters := [], returnType := some (.object "com/example/distinguo/distinguo/model/Sort") }, accessFlags := 1, code := some k4c0 }
def k4c1 : Code := { maxStack := 1, maxLocals := 1, code := prog_86_method_6_code, exceptionTable := #[], attributes := #[] }
def k4m1 : Method := { name := "value", desc := "()Z", sig := { parameters := [], returnType := some .boolean }, accessFlags := 1, code := some k4c1 }
/-- com/example/distinguo/distinguo/model/Value$Bool -/
def k4 : Class := { plain "com/example/distinguo/distinguo/model/Value$Bool" (some 3) with
  accessFlags := 49
  interfaces := #[2]
  cf := some (fileOf pool4 8 #[.nestHost 31] #[{ accessFlags := 1, nameIndex := 37, descriptorIndex := 38, attributes := #[] }, { accessFlags := 1, nameIndex := 11, descriptorIndex := 46, attributes := #[] }] 49 2 #[31] #[{ accessFlags := 18, nameIndex := 11, descriptorIndex := 12, attributes := #[] }])
  fields := #[{ name := "value", type := .boolean, accessFlags := 18, slot := 0, constantValue := 0 }]
  methods := #[k4m0, k4m1]
  instanceTypes := #[.boolean]
  staticTypes := #[]
  resolved := Array.replicate 68 none
  statics := none }

def pool5 : Array CpInfo := pool [(2, .class_ 4), (1, u "com/example/distinguo/distinguo/model/Sort$Basic"), (0, u "BOOL"), (2, .class_ 10), (1, u "com/example/distinguo/distinguo/model/Sort"), (0, u "Lcom/example/distinguo/distinguo/model/Sort;"), (2, u "INT"), (2, .class_ 18), (0, u "java/lang/Object")] 15

/-- com/example/distinguo/distinguo/model/Sort -/
def k5 : Class := { plain "com/example/distinguo/distinguo/model/Sort" (some 0) with
  accessFlags := 1537
  interfaces := #[]
  cf := some (fileOf pool5 8 #[.nestMembers #[2]] #[] 1537 17 #[] #[{ accessFlags := 25, nameIndex := 5, descriptorIndex := 11, attributes := #[] }, { accessFlags := 25, nameIndex := 14, descriptorIndex := 11, attributes := #[] }])
  fields := #[{ name := "BOOL", type := (.object "com/example/distinguo/distinguo/model/Sort"), accessFlags := 25, slot := 0, constantValue := 0 }, { name := "INT", type := (.object "com/example/distinguo/distinguo/model/Sort"), accessFlags := 25, slot := 1, constantValue := 0 }]
  methods := #[]
  instanceTypes := #[]
  staticTypes := #[(.object "com/example/distinguo/distinguo/model/Sort"), (.object "com/example/distinguo/distinguo/model/Sort")]
  resolved := Array.replicate 34 none
  statics := some 1 }

def pool6 : Array CpInfo := pool [(1, .class_ 2), (0, u "java/lang/constant/Constable"), (0, .class_ 4), (0, u "java/lang/Object")] 6

/-- java/lang/constant/Constable -/
def k6 : Class := { plain "java/lang/constant/Constable" (some 0) with
  accessFlags := 1537
  interfaces := #[]
  cf := some (fileOf pool6 1 #[] #[] 1537 3 #[] #[])
  fields := #[]
  methods := #[]
  instanceTypes := #[]
  staticTypes := #[]
  resolved := Array.replicate 11 none
  statics := none }

def pool7 : Array CpInfo := pool [(1, .class_ 2), (0, u "java/lang/Comparable"), (0, .class_ 4), (0, u "java/lang/Object")] 7

/-- java/lang/Comparable -/
def k7 : Class := { plain "java/lang/Comparable" (some 0) with
  accessFlags := 1537
  interfaces := #[]
  cf := some (fileOf pool7 1 #[] #[] 1537 3 #[] #[])
  fields := #[]
  methods := #[]
  instanceTypes := #[]
  staticTypes := #[]
  resolved := Array.replicate 12 none
  statics := none }

def pool8 : Array CpInfo := pool [(1, .class_ 2), (0, u "java/io/Serializable"), (0, .class_ 4), (0, u "java/lang/Object")] 2

/-- java/io/Serializable -/
def k8 : Class := { plain "java/io/Serializable" (some 0) with
  accessFlags := 1537
  interfaces := #[]
  cf := some (fileOf pool8 1 #[] #[] 1537 3 #[] #[])
  fields := #[]
  methods := #[]
  instanceTypes := #[]
  staticTypes := #[]
  resolved := Array.replicate 7 none
  statics := none }

def pool9 : Array CpInfo := pool [(2, .class_ 4), (1, u "java/lang/Enum"), (0, u "name"), (0, u "Ljava/lang/String;"), (2, u "ordinal"), (0, u "I"), (1, .class_ 14), (1, u "java/lang/Object"), (4, u "hash"), (86, .class_ 108), (1, u "java/lang/Enum$EnumDesc"), (2, .class_ 112), (0, u "java/lang/constant/Constable"), (0, .class_ 114), (0, u "java/lang/Comparable"), (0, .class_ 116), (0, u "java/io/Serializable")] 87

/-- java/lang/Enum -/
def k9 : Class := { plain "java/lang/Enum" (some 0) with
  accessFlags := 1057
  interfaces := #[6, 7, 8]
  cf := some (fileOf pool9 2 #[.nestMembers #[106]] #[] 1057 12 #[111, 113, 115] #[{ accessFlags := 18, nameIndex := 5, descriptorIndex := 6, attributes := #[] }, { accessFlags := 18, nameIndex := 9, descriptorIndex := 10, attributes := #[] }, { accessFlags := 2, nameIndex := 19, descriptorIndex := 10, attributes := #[] }])
  fields := #[{ name := "name", type := (.object "java/lang/String"), accessFlags := 18, slot := 0, constantValue := 0 }, { name := "ordinal", type := .int, accessFlags := 18, slot := 1, constantValue := 0 }, { name := "hash", type := .int, accessFlags := 2, slot := 2, constantValue := 0 }]
  methods := #[]
  instanceTypes := #[(.object "java/lang/String"), .int, .int]
  staticTypes := #[]
  resolved := Array.replicate 204 none
  statics := none }

def pool10 : Array CpInfo := pool [(1, .class_ 2), (0, u "com/example/distinguo/distinguo/model/Sort$Basic"), (2, u "BOOL"), (0, u "Lcom/example/distinguo/distinguo/model/Sort$Basic;"), (2, u "INT"), (2, u "$VALUES"), (0, u "[Lcom/example/distinguo/distinguo/model/Sort$Basic;"), (6, .class_ 22), (1, u "java/lang/Enum"), (8, u "description"), (0, u "Ljava/lang/String;"), (13, .class_ 47), (0, u "com/example/distinguo/distinguo/model/Sort")] 17

/-- com/example/distinguo/distinguo/model/Sort$Basic -/
def k10 : Class := { plain "com/example/distinguo/distinguo/model/Sort$Basic" (some 9) with
  accessFlags := 16433
  interfaces := #[5]
  cf := some (fileOf pool10 1 #[.nestHost 46] #[] 16433 20 #[46] #[{ accessFlags := 16409, nameIndex := 5, descriptorIndex := 6, attributes := #[] }, { accessFlags := 16409, nameIndex := 9, descriptorIndex := 6, attributes := #[] }, { accessFlags := 18, nameIndex := 31, descriptorIndex := 32, attributes := #[] }, { accessFlags := 4122, nameIndex := 12, descriptorIndex := 13, attributes := #[] }])
  fields := #[{ name := "BOOL", type := (.object "com/example/distinguo/distinguo/model/Sort$Basic"), accessFlags := 16409, slot := 0, constantValue := 0 }, { name := "INT", type := (.object "com/example/distinguo/distinguo/model/Sort$Basic"), accessFlags := 16409, slot := 1, constantValue := 0 }, { name := "description", type := (.object "java/lang/String"), accessFlags := 18, slot := 3, constantValue := 0 }, { name := "$VALUES", type := (.array (.object "com/example/distinguo/distinguo/model/Sort$Basic")), accessFlags := 4122, slot := 2, constantValue := 0 }]
  methods := #[]
  instanceTypes := #[(.object "java/lang/String"), .int, .int, (.object "java/lang/String")]
  staticTypes := #[(.object "com/example/distinguo/distinguo/model/Sort$Basic"), (.object "com/example/distinguo/distinguo/model/Sort$Basic"), (.array (.object "com/example/distinguo/distinguo/model/Sort$Basic"))]
  resolved := Array.replicate 65 none
  statics := some 2 }

def pool11 : Array CpInfo := pool [(1, u "java/lang/Cloneable"), (0, .class_ 1), (0, u "java/lang/Object"), (0, .class_ 3)] 3

/-- java/lang/Cloneable -/
def k11 : Class := { plain "java/lang/Cloneable" (some 0) with
  accessFlags := 1537
  interfaces := #[]
  cf := some (fileOf pool11 2 #[] #[] 1537 4 #[] #[])
  fields := #[]
  methods := #[]
  instanceTypes := #[]
  staticTypes := #[]
  resolved := Array.replicate 8 none
  statics := none }

/-- the primitive byte -/
def k12 : Class := { plain "byte" none with kind := .primitive 'B', accessFlags := 0x411 }
/-- [B -/
def k13 : Class := { plain "[B" (some 0) with kind := .array 12 .byte, interfaces := #[11, 8], accessFlags := 1041 }

/-- the primitive int -/
def k14 : Class := { plain "int" none with kind := .primitive 'I', accessFlags := 0x411 }
/-- [I -/
def k15 : Class := { plain "[I" (some 0) with kind := .array 14 .int, interfaces := #[11, 8], accessFlags := 1041 }

def heap : Heap := #[{ cls := 2, slots := #[.ref 3, .ref 4], vm := .statics 2 },
  { cls := 5, slots := #[.ref 5, .null], vm := .statics 5 },
  { cls := 10, slots := #[.ref 5, .null, .null], vm := .statics 10 },
  { cls := 4, slots := #[.int 1], vm := .none },
  { cls := 4, slots := #[.int 0], vm := .none },
  { cls := 10, slots := #[.null, .int 0, .int 0, .null], vm := .none }]
def classes : Array Class := #[k0, k1, k2, k3, k4, k5, k6, k7, k8, k9, k10, k11, k12, k13, k14, k15]
def interned : List (Array UInt16 × Addr) := []
def slotsUsed : Nat := 13
def theMethod : MethodId := ⟨1, 1⟩
def args0 : Array Value := #[.int 5]
def aboutOver (below : List Frame) : State where
  vm := { classes := classes, interned := interned.toArray }
  heap := heap
  slotsUsed := slotsUsed
  threads := #[{ frames := .invoking theMethod args0 :: below }]
def below0 : List Frame := [.native { method := ⟨0, 0⟩, args := #[] }]
def about1 : State := aboutOver below0
def p0 : Program := .bare "" "" ""
def e0 : Env := launch0.env 0 0 0
theorem w_frames : about1.frames = Frame.invoking theMethod args0 :: below0 := rfl
set_option maxRecDepth 65536 in
theorem w_args : argsFit about1.vm theMethod args0 = true := by decide +kernel
set_option maxRecDepth 65536 in
theorem w_heap : heapFits about1 = true := by decide +kernel
set_option maxRecDepth 65536 in
theorem w_runnable : about1.curStatus? = some .runnable := by decide +kernel
set_option maxRecDepth 65536 in
theorem w_alone : about1.alone = true := by decide +kernel
set_option maxRecDepth 65536 in
theorem w_named : about1.methodNamed? x = some theMethod := by decide +kernel
set_option maxRecDepth 65536 in
theorem w_hears : about1.hears theMethod below0 = true := by decide +kernel
set_option maxRecDepth 65536 in
theorem w_ripe : about1.ripe theMethod args0 below0 = true := by decide +kernel
theorem w_running : about1.status = .running := rfl
set_option maxRecDepth 65536 in
theorem w_room : about1.hasRoom e0.platform room_1 = true :=
  launch0.hasRoom_least _ room_1 (by decide +kernel) (by decide +kernel) (by decide +kernel) (by decide +kernel) (by decide +kernel) (by decide +kernel)
theorem allAtoms_all (ts : List Jvm.Cond) (a : Array Jvm.Value) (st : Jvm.State) : (allAtoms ts).before a st = ts.all (fun c => c.before a st) := by
  induction ts with
  | nil => rfl
  | cons c t ih =>
    show (Jvm.Cond.and c (allAtoms t)).before a st = _
    rw [Jvm.Cond.before_and, ih, List.all_cons]
def words1 : List Jvm.Cond := Jvm.Cond.code x code maxLocals ret :: tables_1
/-- a 'code' word, met by the world's own term for the bytes: nothing is compared byte by byte -/
theorem code_word {y : MethodName} {bytes : ByteArray} {mx : Nat} {rt : Option FieldType} {a : Array Value} {s : State} {m : MethodId} {meth : Method} {c : Code} (h1 : s.methodNamed? y = some m) (h2 : s.vm.method? m = some meth) (h3 : meth.code = some c) (h4 : c.code = bytes)
    (h5 : (c.maxLocals == mx && c.exceptionTable.isEmpty && decide (c.maxStack ≤ mostOperands) && decide (meth.sig.returnType = rt) && !meth.locks && decide (parseMethodDescriptor y.desc = some meth.sig)) = true) : (Jvm.Cond.code y bytes mx rt).before a s = true := by
  simp only [Bool.and_eq_true, beq_iff_eq, Bool.not_eq_true', decide_eq_true_eq] at h5
  obtain ⟨⟨⟨⟨⟨g1, g2⟩, g3⟩, g4⟩, g5⟩, g6⟩ := h5
  simp [Cond.before, Cond.holds, Cond.value, h1, h2, h3, h4, g1, g2, g3, g4, g5, g6]
def isCode : Jvm.Cond → Bool
  | .code _ _ _ _ => true
  | _ => false
theorem all_split {L : List Jvm.Cond} {P : Jvm.Cond → Bool} (h1 : L.all (fun c => isCode c || P c) = true) (h2 : ∀ c ∈ L.filter isCode, P c = true) : L.all P = true := by
  refine List.all_eq_true.mpr fun c hc => ?_
  have h := List.all_eq_true.mp h1 c hc
  rcases Bool.eq_false_or_eq_true (isCode c) with hi | hi
  · exact h2 c (List.mem_filter.mpr ⟨hc, hi⟩)
  · simpa [hi] using h
set_option maxRecDepth 65536 in
theorem w_c0 : (Jvm.Cond.code x code maxLocals ret).before args0 about1 = true := code_word (m := ⟨1, 1⟩) (meth := k1m1) (c := k1c1) (by decide +kernel) rfl rfl rfl (by decide +kernel)
set_option maxRecDepth 65536 in
theorem w_c1 : (Jvm.Cond.code ({ cls := "com/example/distinguo/distinguo/model/Value", name := "of", desc := "(Z)Lcom/example/distinguo/distinguo/model/Value;" } : Jvm.MethodName) prog_85_method_2_code (1 : Nat) (Option.some (Jvm.ClassFile.FieldType.object "com/example/distinguo/distinguo/model/Value"))).before args0 about1 = true := code_word (m := ⟨2, 1⟩) (meth := k2m1) (c := k2c1) (by decide +kernel) rfl rfl rfl (by decide +kernel)
set_option maxRecDepth 65536 in
theorem w_c2 : (Jvm.Cond.code ({ cls := "com/example/distinguo/distinguo/model/Value$Bool", name := "value", desc := "()Z" } : Jvm.MethodName) prog_86_method_6_code (1 : Nat) (Option.some Jvm.ClassFile.FieldType.boolean)).before args0 about1 = true := code_word (m := ⟨4, 1⟩) (meth := k4m1) (c := k4c1) (by decide +kernel) rfl rfl rfl (by decide +kernel)
set_option maxRecDepth 65536 in
theorem w_c3 : (Jvm.Cond.code ({ cls := "com/example/distinguo/distinguo/model/Value$Bool", name := "sort", desc := "()Lcom/example/distinguo/distinguo/model/Sort;" } : Jvm.MethodName) prog_86_method_2_code (1 : Nat) (Option.some (Jvm.ClassFile.FieldType.object "com/example/distinguo/distinguo/model/Sort"))).before args0 about1 = true := code_word (m := ⟨4, 0⟩) (meth := k4m0) (c := k4c0) (by decide +kernel) rfl rfl rfl (by decide +kernel)
def codes1 : List Jvm.Cond := [Jvm.Cond.code x code maxLocals ret, Jvm.Cond.code ({ cls := "com/example/distinguo/distinguo/model/Value", name := "of", desc := "(Z)Lcom/example/distinguo/distinguo/model/Value;" } : Jvm.MethodName) prog_85_method_2_code (1 : Nat) (Option.some (Jvm.ClassFile.FieldType.object "com/example/distinguo/distinguo/model/Value")), Jvm.Cond.code ({ cls := "com/example/distinguo/distinguo/model/Value$Bool", name := "value", desc := "()Z" } : Jvm.MethodName) prog_86_method_6_code (1 : Nat) (Option.some Jvm.ClassFile.FieldType.boolean), Jvm.Cond.code ({ cls := "com/example/distinguo/distinguo/model/Value$Bool", name := "sort", desc := "()Lcom/example/distinguo/distinguo/model/Sort;" } : Jvm.MethodName) prog_86_method_2_code (1 : Nat) (Option.some (Jvm.ClassFile.FieldType.object "com/example/distinguo/distinguo/model/Sort"))]
set_option maxRecDepth 65536 in
theorem codes_eq : words1.filter isCode = codes1 := rfl
theorem w_codes : ∀ c ∈ words1.filter isCode, c.before args0 about1 = true := by
  rw [codes_eq]
  intro c hc
  simp only [codes1, List.mem_cons, List.not_mem_nil, or_false] at hc
  rcases hc with rfl | rfl | rfl | rfl
  · exact w_c0
  · exact w_c1
  · exact w_c2
  · exact w_c3
set_option maxRecDepth 65536 in
theorem w_t1 : (words1.take 24).all (fun c => isCode c || c.before args0 about1) = true := by decide +kernel
set_option maxRecDepth 65536 in
theorem w_t2 : (words1.drop 24).all (fun c => isCode c || c.before args0 about1) = true := by decide +kernel
theorem w_tables : (allAtoms (Jvm.Cond.code x code maxLocals ret :: tables_1)).before args0 about1 = true := by
  rw [allAtoms_all]
  show words1.all (fun c => c.before args0 about1) = true
  refine all_split ?_ w_codes
  rw [← List.take_append_drop 24 words1, List.all_append, w_t1, w_t2]
  rfl
set_option maxRecDepth 65536 in
theorem w_case : (Jvm.Cond.and given_1 narrow_1).before args0 about1 = true := by decide +kernel
theorem w_applies : (headSpec (Jvm.Cond.code x code maxLocals ret :: tables_1) room_1).applies x e0.platform about1 = true :=
  (Spec.applies_iff w_frames).mpr ⟨w_running, w_runnable, w_alone, w_named, w_hears, w_ripe, w_room, w_tables⟩
theorem atStart : AtStart classFile x code maxLocals ret World_1 tables_1 room_1 Calls_1 rest_1 Pre_1 launch0 p0 e0 about1 theMethod args0 below0 :=
  ⟨lists_1, trivial, launch0.admits_env _ _ _, launch0.least_env, fairChoices_fair.cas, fairChoices_fair.clock, w_frames, w_args, w_heap, w_applies, trivial, trivial, w_case⟩
end start1
theorem witness_1 : WitnessClaimed_1 := ⟨start1.p0, start1.e0, start1.about1, start1.theMethod, start1.args0, start1.below0, start1.atStart⟩
end Jvm.Pilot.@@N@@
