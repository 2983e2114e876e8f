import JvmDerived
import JvmDerived.Pilot.@@N@@Statement
import JvmDerived.Pilot.@@N@@Code
set_option linter.unusedVariables false
set_option linter.unusedSimpArgs false
namespace Jvm.Pilot.@@N@@
open Jvm Jvm.ClassFile Sem Op Lib Jvm.Free Jvm.Stand Jvm.LawKit Jvm.RoadKit Bundle Jvm.Pilot.@@N@@.Jvm.D
/-! the walk in continuation form: 'Go' says that from here the body comes to its end with Q -/
def Go (EN : State → Outcome → State → List Loc → Nat → Nat → Prop) (p : Program) (e : Env) (below : List Frame) (s : State) (kc ks : Nat) (Q : Option Value → Heap → List Loc → Prop) (T : State) (g : JFrame) : Prop :=
  ∃ s₂ o, Steps p.tables e below (T.setTop g) s₂ ∧ s₂.status = .running ∧ Ended s₂ below o ∧ ∃ v L, o = .returned v ∧ Q v s₂.heap L ∧ EN s o s₂ L kc ks
section GoLaws
variable {p : Program} {l : Launch} {e : Env} {R : Room} {s : State} {m : MethodId} {args : Array Value} {below : List Frame} {meth : Method} {c : Code} {T T' : State} {locs : List Loc} {cells slots kc ks : Nat} {Q : Option Value → Heap → List Loc → Prop} {g g' : JFrame} {EN : State → Outcome → State → List Loc → Nat → Nat → Prop}
theorem Go.step (st : ∀ t, Steps p.tables e below (T'.setTop g') t → Steps p.tables e below (T.setTop g) t) (k : Go EN p e below s kc ks Q T' g') : Go EN p e below s kc ks Q T g := by
  obtain ⟨a, b, h1, h2⟩ := k
  exact ⟨a, b, st _ h1, h2⟩
theorem Go.trans (st : Steps p.tables e below (T.setTop g) (T'.setTop g')) (k : Go EN p e below s kc ks Q T' g') : Go EN p e below s kc ks Q T g := by
  obtain ⟨a, b, h1, h2⟩ := k
  exact ⟨a, b, st.trans h1, h2⟩
theorem Go.cast (q : g = g') (k : Go EN p e below s kc ks Q T g') : Go EN p e below s kc ks Q T g := q ▸ k
theorem Go.retN (X : Stand p l e R s m args below meth c T locs cells slots) (hx : p.tables.exec = Jvm.exec) {pc : Nat} {Ls : Array Slot} {z : Int32} {t : FieldType} {rest : List Value} (hret : meth.sig.returnType = some t) (ht : t = .boolean ∨ t = .byte ∨ t = .char ∨ t = .short) (hlk : meth.locks = false)
    (hd : decode c.code pc = .ok (.ireturn, 1)) (hc : cells ≤ kc) (hs : slots ≤ ks) (q : Q (some (.int (nar t z))) T.heap locs) : Go FrameEnd p e below s kc ks Q T (mkF m pc Ls (.int z :: rest)) := by
  obtain ⟨fs, hr, hrun, hended, hW, hsame⟩ := X.leave (v := some (.int (nar t z))) (fun h => by rw [hret] at h; cases h) hlk
  exact ⟨_, _, RoadKit.retN X hx hret ht hd hr, hrun, hended, _, _, rfl, q, ⟨_, rfl⟩, hW, hsame.mono hc hs⟩
theorem Go.retI (X : Stand p l e R s m args below meth c T locs cells slots) (hx : p.tables.exec = Jvm.exec) {pc : Nat} {Ls : Array Slot} {z : Int32} {rest : List Value} (hret : meth.sig.returnType = some .int) (hlk : meth.locks = false)
    (hd : decode c.code pc = .ok (.ireturn, 1)) (hc : cells ≤ kc) (hs : slots ≤ ks) (q : Q (some (.int z)) T.heap locs) : Go FrameEnd p e below s kc ks Q T (mkF m pc Ls (.int z :: rest)) := by
  obtain ⟨fs, hr, hrun, hended, hW, hsame⟩ := X.leave (v := some (.int z)) (fun h => by rw [hret] at h; cases h) hlk
  exact ⟨_, _, RoadKit.retOut X hx hret rfl (Or.inl ⟨rfl, Or.inl rfl, _, rfl⟩) hd hr, hrun, hended, _, _, rfl, q, ⟨_, rfl⟩, hW, hsame.mono hc hs⟩
theorem Go.retJ (X : Stand p l e R s m args below meth c T locs cells slots) (hx : p.tables.exec = Jvm.exec) {pc : Nat} {Ls : Array Slot} {z : Int64} {rest : List Value} (hret : meth.sig.returnType = some .long) (hlk : meth.locks = false)
    (hd : decode c.code pc = .ok (.lreturn, 1)) (hc : cells ≤ kc) (hs : slots ≤ ks) (q : Q (some (.long z)) T.heap locs) : Go FrameEnd p e below s kc ks Q T (mkF m pc Ls (.long z :: rest)) := by
  obtain ⟨fs, hr, hrun, hended, hW, hsame⟩ := X.leave (v := some (.long z)) (fun h => by rw [hret] at h; cases h) hlk
  exact ⟨_, _, RoadKit.retOut X hx hret rfl (Or.inr (Or.inl ⟨rfl, rfl, _, rfl⟩)) hd hr, hrun, hended, _, _, rfl, q, ⟨_, rfl⟩, hW, hsame.mono hc hs⟩
theorem Go.retA (X : Stand p l e R s m args below meth c T locs cells slots) (hx : p.tables.exec = Jvm.exec) {pc : Nat} {Ls : Array Slot} {z : Value} {t : FieldType} {rest : List Value} (hret : meth.sig.returnType = some t) (ht : t.isReference = true) (hz : z.isRef = true) (hlk : meth.locks = false)
    (hd : decode c.code pc = .ok (.areturn, 1)) (hc : cells ≤ kc) (hs : slots ≤ ks) (q : Q (some z) T.heap locs) : Go FrameEnd p e below s kc ks Q T (mkF m pc Ls (z :: rest)) := by
  obtain ⟨fs, hr, hrun, hended, hW, hsame⟩ := X.leave (v := some z) (fun h => by rw [hret] at h; cases h) hlk
  exact ⟨_, _, RoadKit.retOut X hx hret (by cases t <;> cases z <;> first | rfl | (cases ht; done) | (cases hz; done)) (Or.inr (Or.inr (Or.inr (Or.inr ⟨rfl, ht, hz⟩)))) hd hr, hrun, hended, _, _, rfl, q, ⟨_, rfl⟩, hW, hsame.mono hc hs⟩
theorem Go.retV (X : Stand p l e R s m args below meth c T locs cells slots) (hx : p.tables.exec = Jvm.exec) {pc : Nat} {Ls : Array Slot} (hret : meth.sig.returnType = none) (hlk : meth.locks = false)
    (hd : decode c.code pc = .ok (.return_, 1)) (hc : cells ≤ kc) (hs : slots ≤ ks) (q : Q none T.heap locs) : Go FrameEnd p e below s kc ks Q T (mkF m pc Ls []) := by
  obtain ⟨fs, hr, hrun, hended, hW, hsame⟩ := X.leave (v := none) (fun _ => rfl) hlk
  exact ⟨_, _, X.returnOut hx hret hd hr, hrun, hended, _, _, rfl, q, ⟨_, rfl⟩, hW, hsame.mono hc hs⟩
theorem rewMono {s t : State} {o : Outcome} {L : List Loc} {k n k' n' : Nat} (h : ReturnedEndW s o t L k n) (hk : k ≤ k') (hn : n ≤ n') : ReturnedEndW s o t L k' n' := ⟨h.1, h.2.1, h.2.2.1, h.2.2.2.mono hk hn⟩
theorem Go.retNW {vm0 : Vm} {k0 : Nat} (X : Stand p l e R (s.setVm vm0) m args below meth c T locs cells slots) (hS : s.Since vm0 k0) (hk : k0 ≤ T.heap.size) (hx : p.tables.exec = Jvm.exec) {pc : Nat} {Ls : Array Slot} {z : Int32} {t : FieldType} {rest : List Value} (hret : meth.sig.returnType = some t) (ht : t = .boolean ∨ t = .byte ∨ t = .char ∨ t = .short) (hlk : meth.locks = false)
    (hd : decode c.code pc = .ok (.ireturn, 1)) (hc : cells ≤ kc) (hs : slots ≤ ks) (q : Q (some (.int (nar t z))) T.heap locs) : Go ReturnedEndW p e below s kc ks Q T (mkF m pc Ls (.int z :: rest)) := by
  obtain ⟨fs, hr, hrun, hended, hW⟩ := X.leaveW hS hk (v := some (.int (nar t z))) (fun h => by rw [hret] at h; cases h) hlk
  exact ⟨_, _, RoadKit.retN X hx hret ht hd hr, hrun, hended, _, _, rfl, q, rewMono hW hc hs⟩
theorem Go.retIW {vm0 : Vm} {k0 : Nat} (X : Stand p l e R (s.setVm vm0) m args below meth c T locs cells slots) (hS : s.Since vm0 k0) (hk : k0 ≤ T.heap.size) (hx : p.tables.exec = Jvm.exec) {pc : Nat} {Ls : Array Slot} {z : Int32} {rest : List Value} (hret : meth.sig.returnType = some .int) (hlk : meth.locks = false)
    (hd : decode c.code pc = .ok (.ireturn, 1)) (hc : cells ≤ kc) (hs : slots ≤ ks) (q : Q (some (.int z)) T.heap locs) : Go ReturnedEndW p e below s kc ks Q T (mkF m pc Ls (.int z :: rest)) := by
  obtain ⟨fs, hr, hrun, hended, hW⟩ := X.leaveW hS hk (v := some (.int z)) (fun h => by rw [hret] at h; cases h) hlk
  exact ⟨_, _, RoadKit.retOut X hx hret rfl (Or.inl ⟨rfl, Or.inl rfl, _, rfl⟩) hd hr, hrun, hended, _, _, rfl, q, rewMono hW hc hs⟩
theorem Go.retJW {vm0 : Vm} {k0 : Nat} (X : Stand p l e R (s.setVm vm0) m args below meth c T locs cells slots) (hS : s.Since vm0 k0) (hk : k0 ≤ T.heap.size) (hx : p.tables.exec = Jvm.exec) {pc : Nat} {Ls : Array Slot} {z : Int64} {rest : List Value} (hret : meth.sig.returnType = some .long) (hlk : meth.locks = false)
    (hd : decode c.code pc = .ok (.lreturn, 1)) (hc : cells ≤ kc) (hs : slots ≤ ks) (q : Q (some (.long z)) T.heap locs) : Go ReturnedEndW p e below s kc ks Q T (mkF m pc Ls (.long z :: rest)) := by
  obtain ⟨fs, hr, hrun, hended, hW⟩ := X.leaveW hS hk (v := some (.long z)) (fun h => by rw [hret] at h; cases h) hlk
  exact ⟨_, _, RoadKit.retOut X hx hret rfl (Or.inr (Or.inl ⟨rfl, rfl, _, rfl⟩)) hd hr, hrun, hended, _, _, rfl, q, rewMono hW hc hs⟩
theorem Go.retAW {vm0 : Vm} {k0 : Nat} (X : Stand p l e R (s.setVm vm0) m args below meth c T locs cells slots) (hS : s.Since vm0 k0) (hk : k0 ≤ T.heap.size) (hx : p.tables.exec = Jvm.exec) {pc : Nat} {Ls : Array Slot} {z : Value} {t : FieldType} {rest : List Value} (hret : meth.sig.returnType = some t) (ht : t.isReference = true) (hz : z.isRef = true) (hlk : meth.locks = false)
    (hd : decode c.code pc = .ok (.areturn, 1)) (hc : cells ≤ kc) (hs : slots ≤ ks) (q : Q (some z) T.heap locs) : Go ReturnedEndW p e below s kc ks Q T (mkF m pc Ls (z :: rest)) := by
  obtain ⟨fs, hr, hrun, hended, hW⟩ := X.leaveW hS hk (v := some z) (fun h => by rw [hret] at h; cases h) hlk
  exact ⟨_, _, RoadKit.retOut X hx hret (by cases t <;> cases z <;> first | rfl | (cases ht; done) | (cases hz; done)) (Or.inr (Or.inr (Or.inr (Or.inr ⟨rfl, ht, hz⟩)))) hd hr, hrun, hended, _, _, rfl, q, rewMono hW hc hs⟩
theorem Go.retVW {vm0 : Vm} {k0 : Nat} (X : Stand p l e R (s.setVm vm0) m args below meth c T locs cells slots) (hS : s.Since vm0 k0) (hk : k0 ≤ T.heap.size) (hx : p.tables.exec = Jvm.exec) {pc : Nat} {Ls : Array Slot} (hret : meth.sig.returnType = none) (hlk : meth.locks = false)
    (hd : decode c.code pc = .ok (.return_, 1)) (hc : cells ≤ kc) (hs : slots ≤ ks) (q : Q none T.heap locs) : Go ReturnedEndW p e below s kc ks Q T (mkF m pc Ls []) := by
  obtain ⟨fs, hr, hrun, hended, hW⟩ := X.leaveW hS hk (v := none) (fun _ => rfl) hlk
  exact ⟨_, _, X.returnOut hx hret hd hr, hrun, hended, _, _, rfl, q, rewMono hW hc hs⟩
theorem extRfl (h : Heap) : Ext h h := ⟨Nat.le_refl _, fun _ _ q => q⟩
theorem extTr {h1 h2 h3 : Heap} (A : Ext h1 h2) (B : Ext h2 h3) : Ext h1 h3 := ⟨Nat.le_trans A.1 B.1, fun a c q => B.2 a c (A.2 a c q)⟩
theorem extKeep {h1 h2 h3 : Heap} {ws : List Addr} (A : Ext h1 h2) (K : Keep h2 h3 ws) (q : ∀ x ∈ ws, h1.size ≤ x) : Ext h1 h3 := ⟨Nat.le_trans A.1 K.1, fun a c r => K.2.1 a c (A.2 a c r) fun z => absurd (Array.getElem?_eq_some_iff.mp r).1 (Nat.not_lt.mpr (q a z))⟩
theorem extWr {h1 h2 h3 : Heap} {a : Addr} {sl : Nat} {v : Value} (A : Ext h1 h2) (W : Wr h2 h3 a sl v) (q : h1.size ≤ a) : Ext h1 h3 := extKeep A (Keep.of_wr W) (allS q all0)
end GoLaws
theorem fldStart {Z : State} {args : Array Value} {t : Jvm.Term} {a : Addr} {C n d : String} {k : Int32} (ev : t.eval args Z none [] Z = some (.ref a)) (h : (Jvm.Cond.eq (.field t C n d) (.int k)).value args Z none Z [] = some true) : Fld Z Z.heap a C n d (.int k) :=
  Fld.start ((fld_at ev).symm.trans (eqv_i (Term.int_eval k) h))
/-- putfield through an entry that the sheet says resolved -/
theorem putRdy {p : Program} {l : Launch} {e : Env} {R : Room} {s : State} {m : MethodId} {args : Array Value} {below : List Frame} {meth : Method} {c : Code} {T : State} {locs : List Loc} {cells slots : Nat} {Z : State} {a0 : Array Value} {h : Heap}
    (X : Stand p l e R s m args below meth c T locs cells slots) (hx : p.tables.exec = Jvm.exec) (hZ : Z.Warmed39 s.vm) {own O n d C : String} {index kk : Nat} {ty : FieldType} (hown : s.vm.findClass own = some m.cls) (w : (Jvm.Cond.fieldRef own index O n d).before a0 Z = true)
    (eT : T.heap = h) {a : Addr} {v old : Value} (F : Fld Z h a O n d old) (E : Exa Z h a C) (L : (Jvm.Cond.lays C O n d).before a0 Z = true) (wi : (Jvm.Cond.instantiable C kk).before a0 Z = true)
    (hty : parseFieldDescriptor d = some ty) (hn : narrow ty v = v) (hf : fits ty v = true) {g : JFrame} (hg : g.method = m) {rest : List Value} (hs : g.stack = v :: .ref a :: rest) (hd : decode c.code g.pc = .ok (.putfield index, 3)) :
    ∃ T' h', Stand p l e R s m args below meth c T' (locs ++ [⟨a, Jvm.RoadKit.slotOf Z O n d⟩]) cells slots ∧ T'.heap = h' ∧ Wr h h' a (Jvm.RoadKit.slotOf Z O n d) v ∧ ∀ target, Steps p.tables e below (T'.setTop { g with pc := g.pc + 3, stack := rest }) target → Steps p.tables e below (T.setTop g) target := by
  have hT : Z.Warmed39 T.vm := wtrans hZ X.warmed
  obtain ⟨cell, cf, k, i, f, h1, h2, h3, h4, h5, -, h7⟩ := F
  obtain ⟨cell', kc, e1, e2, e3, -⟩ := E
  cases h1.symm.trans e1
  obtain ⟨c1, k1, cf1, kf1, i1, f1, a1, a2, a3, -, -, a6, -⟩ := Laid.spec (Or.inl L)
  cases h2.symm.trans a3
  cases e2.symm.trans a1
  obtain ⟨c2, k2, i1, i2, i3, -⟩ := Cond.instantiable_spec wi
  cases e2.symm.trans i1
  cases a2.symm.trans i2
  have ht := (State.fieldFound?_type h2 hty).2
  have hfit : Z.fitsSlot cell.cls cell.vm f.slot v = true := by
    have q : Z.slotType? cell.cls cell.vm f.slot = some ty := by
      simp only [State.slotType?, a2, Option.bind_eq_bind, Option.bind_some, i3]
      cases hq : cell.vm <;> first | (rw [hq] at h5; exact Bool.noConfusion h5) | (rw [a6, ht])
    simp [State.fitsSlot, q, hf]
  have hfitT : T.fitsSlot cell.cls cell.vm f.slot v = true := by rw [← State.fitsSlot_setVm hT.alike] at hfit; exact hfit
  obtain ⟨_, _, _, _, _, _, -, -, b3, -, b5, -⟩ := Cond.lays_spec L
  cases h2.symm.trans b3
  have hcur : (Z.setVm T.vm).vm.findClass own = some m.cls := by
    show T.vm.findClass own = _
    rw [hT.alike.findClass, ← hZ.alike.findClass]; exact hown
  obtain ⟨cq, kq, iq, fq, q1, q2⟩ := Cond.fieldRef_spec hcur (Cond.fieldRef_warmed39 hT w)
  obtain ⟨k', q3, -⟩ := State.fieldFound?_setVm (s := Z) hT.alike h2
  cases q1.symm.trans q3
  have hlt := (Array.getElem?_eq_some_iff.mp h7).1
  have es : Jvm.RoadKit.slotOf Z O n d = f.slot := by simp [Jvm.RoadKit.slotOf, h2]
  rw [es]
  obtain ⟨X', st⟩ := X.putfieldReady hx q2 h3 (Or.inl b5) (by rw [eT]; exact h1) h4 hlt (by rw [ht]; exact hn) hfitT hg hs hd
  exact ⟨_, _, X', rfl, ⟨cell, h1, h5, hlt, by rw [← eT]; rfl⟩, st⟩
theorem own_mod (x y : Int32) (d : Int) (hy : y.toInt = d) (hd : 0 < d) : 0 ≤ ((x &&& 2147483647) % y).toInt ∧ ((x &&& 2147483647) % y).toInt < d := by
  have h1 := c_mask x 2147483647 31 (by decide) (by decide)
  have h2 := (c_irem (x &&& 2147483647) y d hy).1 (by rw [h1]; omega)
  rw [h2]
  exact ⟨Int.emod_nonneg _ (by omega), Int.emod_lt_of_pos _ hd⟩
theorem own_mod3 (x : Int32) : ((x &&& (2147483647 : Int32)) % (3 : Int32)) = 0 ∨ ((x &&& (2147483647 : Int32)) % (3 : Int32)) = 1 ∨ ((x &&& (2147483647 : Int32)) % (3 : Int32)) = 2 := by
  have h := own_mod x 3 3 (by decide) (by decide)
  generalize ((x &&& (2147483647 : Int32)) % (3 : Int32)) = k at *
  rcases (by omega : k.toInt = 0 ∨ k.toInt = 1 ∨ k.toInt = 2) with q | q | q
  · exact Or.inl (Int32.toInt_inj.mp q)
  · exact Or.inr (Or.inl (Int32.toInt_inj.mp q))
  · exact Or.inr (Or.inr (Int32.toInt_inj.mp q))
theorem d1_0 : decode method_2_code 0 = .ok (.iload_n 0, 1) := by decide +kernel
theorem d1_1 : decode method_2_code 1 = .ok (.ifCond .ne 7, 3) := by decide +kernel
theorem d1_4 : decode method_2_code 4 = .ok (.getstatic 7, 3) := by decide +kernel
theorem d1_7 : decode method_2_code 7 = .ok (.areturn, 1) := by decide +kernel
theorem d1_8 : decode method_2_code 8 = .ok (.iload_n 0, 1) := by decide +kernel
theorem d1_9 : decode method_2_code 9 = .ok (.iconst 1, 1) := by decide +kernel
theorem d1_10 : decode method_2_code 10 = .ok (.if_icmp .ne 7, 3) := by decide +kernel
theorem d1_13 : decode method_2_code 13 = .ok (.getstatic 13, 3) := by decide +kernel
theorem d1_16 : decode method_2_code 16 = .ok (.areturn, 1) := by decide +kernel
theorem d1_17 : decode method_2_code 17 = .ok (.getstatic 16, 3) := by decide +kernel
theorem d1_20 : decode method_2_code 20 = .ok (.areturn, 1) := by decide +kernel
theorem pn_1 : plainName "com/example/settleline/settleline/gsh/FaultFlagPinLaw" = true := by first | (simp [plainName, overriddenIn]; done) | decide +kernel
theorem ef_1 (m : MethodId) (y0 : Int32) : entryFrame m #[(.int y0)] 1 = mkF m 0 #[.val (.int y0)] [] := by first | (simp [entryFrame, mkF, argsToLocals, Value.category]; done) | rfl
def Q_1 (Z : State) (x0 : Int32) (dA : Addr) (rA : Addr) (nA : Addr) (r : Addr) (h0 : Heap) (v : Option Value) (h : Heap) (L : List Loc) : Prop := v = some (.ref r) ∧ Fr Z.heap.size L ∧ h = h0
set_option maxRecDepth 65536 in
set_option maxHeartbeats 40000000 in
theorem rm_1 (l : Launch) (Z : State) (a0 : Array Value) (hw : ∀ d ∈ tables_1, d.before a0 Z = true) (ws : List Jvm.Cond) (x0 : Int32) (dA : Addr) (rA : Addr) (nA : Addr) (r : Addr) (h0 : Heap) (O0 : Ext Z.heap h0) (S_D : Sta Z Z.heap "com/example/settleline/settleline/gsh/Fault" "DELIVERY" "Lcom/example/settleline/settleline/gsh/Fault;" (.ref dA)) (S_R : Sta Z Z.heap "com/example/settleline/settleline/gsh/Fault" "RECEIPT" "Lcom/example/settleline/settleline/gsh/Fault;" (.ref rA)) (S_N : Sta Z Z.heap "com/example/settleline/settleline/gsh/Fault" "NO_FAULT" "Lcom/example/settleline/settleline/gsh/Fault;" (.ref nA)) (hr : r = if x0 = 0 then dA else if x0 = 1 then rA else nA) :
    MetFree l (⟨"com/example/settleline/settleline/gsh/FaultFlagPinLaw", "pick", "(I)Lcom/example/settleline/settleline/gsh/Fault;"⟩ : MethodName) (head1 (Jvm.Cond.code (⟨"com/example/settleline/settleline/gsh/FaultFlagPinLaw", "pick", "(I)Lcom/example/settleline/settleline/gsh/Fault;"⟩ : MethodName) method_2_code 1 (some (.object "com/example/settleline/settleline/gsh/Fault")) :: ws) ({ frames := 0, cells := 0, slots := 0, locals := 0 } : Room)) (fun a U => a = #[(.int x0)] ∧ Z.Warmed39 U.vm ∧ U.heap = h0) (fun _ _ _ _ _ => True) (fun _ U o U' => ∃ v L, o = .returned v ∧ Q_1 Z x0 dA rA nA r h0 v U'.heap L ∧ FrameEnd U o U' L ({ frames := 0, cells := 0, slots := 0, locals := 0 } : Room).cells ({ frames := 0, cells := 0, slots := 0, locals := 0 } : Room).slots) := by
  refine MetFree.of_bodySF (plainFor_of_name pn_1) hisR ?_
  intro p e s m args below meth c s₁ Bd hml0 hP hK
  obtain ⟨rfl, hZ, hh⟩ := hP
  have hx := Bd.exec
  have hby := Bd.bytes
  have hlk := Bd.notSynchronized
  have hml : c.maxLocals = 1 := hml0
  have hown : s.vm.findClass "com/example/settleline/settleline/gsh/FaultFlagPinLaw" = some m.cls := findClass_of_methodNamed Bd.named
  have hnm := (name_of_methodNamed Bd.named Bd.method).1
  have X0 : Stand p l e ({ frames := 0, cells := 0, slots := 0, locals := 0 } : Room) s m #[(.int x0)] below meth c s₁ [] 0 0 := Stand.of_body Bd
  have e0 : s₁.heap = h0 := by rw [← hh, Bd.state]; rfl
  have N0 := Fr.nil Z.heap.size
  show Go FrameEnd p e below s ({ frames := 0, cells := 0, slots := 0, locals := 0 } : Room).cells ({ frames := 0, cells := 0, slots := 0, locals := 0 } : Room).slots (Q_1 Z x0 dA rA nA r h0) s₁ (entryFrame m #[(.int x0)] 1)
  refine Go.cast (ef_1 m x0) ?_
  show Go _ _ _ _ _ _ _ _ s₁ (mkF m 0 #[.val (.int x0)] [])
  refine Go.step (fun _ k => XS.iloadN X0.here hx rfl (hb hby d1_0) rfl k) ?_
  show Go _ _ _ _ _ _ _ _ s₁ (mkF m 1 #[.val (.int x0)] [(.int x0)])
  by_cases hc1_1 : x0 = (0 : Int32)
  · refine Go.step (fun _ k => XS.ifNo X0.here hx rfl (hb hby d1_1) rfl ((if0 _ _).trans (teq hc1_1).2) k) ?_
    show Go _ _ _ _ _ _ _ _ s₁ (mkF m 4 #[.val (.int x0)] [])
    obtain ⟨T2, X2, e2, st2⟩ := getS2 X0 hx hZ hown (host := "") (Or.inl (hw _ (List.mem_of_getElem? (i := 5) rfl))) Via.refl e0 (Sta.ext O0 S_D) (g := (mkF m 4 #[.val (.int x0)] [])) rfl (hb hby d1_4)
    refine Go.step st2 ?_
    show Go _ _ _ _ _ _ _ _ T2 (mkF m 7 #[.val (.int x0)] [(.ref dA)])
    exact Go.retA X2 hx Bd.returns rfl rfl hlk (hb hby d1_7) (by decide) (by decide) (by show _ ∧ _ ∧ _; rw [e2]; refine ⟨?_, N0, rfl⟩; subst hr; simp_all)
  · refine Go.step (fun _ k => XS.ifYes X0.here hx rfl (pc0 := 1) (pc' := 8) rfl (hb hby d1_1) rfl ((if0 _ _).trans (feq hc1_1).2) (by decide) (by decide) k) ?_
    show Go _ _ _ _ _ _ _ _ s₁ (mkF m 8 #[.val (.int x0)] [])
    refine Go.step (fun _ k => XS.iloadN X0.here hx rfl (hb hby d1_8) rfl k) ?_
    show Go _ _ _ _ _ _ _ _ s₁ (mkF m 9 #[.val (.int x0)] [(.int x0)])
    refine Go.step (fun _ k => XS.iconst X0.here hx rfl (hb hby d1_9)  k) ?_
    show Go _ _ _ _ _ _ _ _ s₁ (mkF m 10 #[.val (.int x0)] [(.int (1 : Int32)), (.int x0)])
    by_cases hc10_3 : x0 = (1 : Int32)
    · refine Go.step (fun _ k => XS.icmpNo X0.here hx rfl (hb hby d1_10) rfl (teq hc10_3).2 k) ?_
      show Go _ _ _ _ _ _ _ _ s₁ (mkF m 13 #[.val (.int x0)] [])
      obtain ⟨T4, X4, e4, st4⟩ := getS2 X0 hx hZ hown (host := "") (Or.inl (hw _ (List.mem_of_getElem? (i := 17) rfl))) Via.refl e0 (Sta.ext O0 S_R) (g := (mkF m 13 #[.val (.int x0)] [])) rfl (hb hby d1_13)
      refine Go.step st4 ?_
      show Go _ _ _ _ _ _ _ _ T4 (mkF m 16 #[.val (.int x0)] [(.ref rA)])
      exact Go.retA X4 hx Bd.returns rfl rfl hlk (hb hby d1_16) (by decide) (by decide) (by show _ ∧ _ ∧ _; rw [e4]; refine ⟨?_, N0, rfl⟩; subst hr; simp_all)
    · refine Go.step (fun _ k => XS.icmpYes X0.here hx rfl (pc0 := 10) (pc' := 17) rfl (hb hby d1_10) rfl (feq hc10_3).2 (by decide) (by decide) k) ?_
      show Go _ _ _ _ _ _ _ _ s₁ (mkF m 17 #[.val (.int x0)] [])
      obtain ⟨T5, X5, e5, st5⟩ := getS2 X0 hx hZ hown (host := "") (Or.inl (hw _ (List.mem_of_getElem? (i := 15) rfl))) Via.refl e0 (Sta.ext O0 S_N) (g := (mkF m 17 #[.val (.int x0)] [])) rfl (hb hby d1_17)
      refine Go.step st5 ?_
      show Go _ _ _ _ _ _ _ _ T5 (mkF m 20 #[.val (.int x0)] [(.ref nA)])
      exact Go.retA X5 hx Bd.returns rfl rfl hlk (hb hby d1_20) (by decide) (by decide) (by show _ ∧ _ ∧ _; rw [e5]; refine ⟨?_, N0, rfl⟩; subst hr; simp_all)
theorem d2_0 : decode prog_18_method_4_code 0 = .ok (.iload_n 1, 1) := by decide +kernel
theorem d2_1 : decode prog_18_method_4_code 1 = .ok (.ifCond .eq 10, 3) := by decide +kernel
theorem d2_11 : decode prog_18_method_4_code 11 = .ok (.aload_n 0, 1) := by decide +kernel
theorem d2_12 : decode prog_18_method_4_code 12 = .ok (.getfield 36, 3) := by decide +kernel
theorem d2_15 : decode prog_18_method_4_code 15 = .ok (.ineg, 1) := by decide +kernel
theorem d2_16 : decode prog_18_method_4_code 16 = .ok (.ireturn, 1) := by decide +kernel
theorem d2_4 : decode prog_18_method_4_code 4 = .ok (.aload_n 0, 1) := by decide +kernel
theorem d2_5 : decode prog_18_method_4_code 5 = .ok (.getfield 36, 3) := by decide +kernel
theorem d2_8 : decode prog_18_method_4_code 8 = .ok (.goto 8, 3) := by decide +kernel
theorem pn_2 : plainName "com/example/settleline/settleline/gsh/Fault" = true := by first | (simp [plainName, overriddenIn]; done) | decide +kernel
theorem ef_2 (m : MethodId) (y0 : Addr) (y1 : Int32) : entryFrame m #[(.ref y0), (.int y1)] 2 = mkF m 0 #[.val (.ref y0), .val (.int y1)] [] := by first | (simp [entryFrame, mkF, argsToLocals, Value.category]; done) | rfl
def Q_2 (Z : State) (x0 : Addr) (x1 : Int32) (fl : Int32) (r : Int32) (h0 : Heap) (v : Option Value) (h : Heap) (L : List Loc) : Prop := v = some (.int r) ∧ Fr Z.heap.size L ∧ h = h0
set_option maxRecDepth 65536 in
set_option maxHeartbeats 40000000 in
theorem rm_2 (l : Launch) (Z : State) (a0 : Array Value) (hw : ∀ d ∈ tables_1, d.before a0 Z = true) (ws : List Jvm.Cond) (x0 : Addr) (x1 : Int32) (fl : Int32) (r : Int32) (h0 : Heap) (O0 : Ext Z.heap h0) (F_d : Fld Z Z.heap x0 "com/example/settleline/settleline/gsh/Fault" "deliveringFlag" "I" (.int fl)) (hr : r = if x1 = 0 then -fl else fl) :
    MetFree l (⟨"com/example/settleline/settleline/gsh/Fault", "flag", "(Z)I"⟩ : MethodName) (head1 (Jvm.Cond.code (⟨"com/example/settleline/settleline/gsh/Fault", "flag", "(Z)I"⟩ : MethodName) prog_18_method_4_code 2 (some .int) :: ws) ({ frames := 0, cells := 0, slots := 0, locals := 0 } : Room)) (fun a U => a = #[(.ref x0), (.int x1)] ∧ Z.Warmed39 U.vm ∧ U.heap = h0) (fun _ _ _ _ _ => True) (fun _ U o U' => ∃ v L, o = .returned v ∧ Q_2 Z x0 x1 fl r h0 v U'.heap L ∧ FrameEnd U o U' L ({ frames := 0, cells := 0, slots := 0, locals := 0 } : Room).cells ({ frames := 0, cells := 0, slots := 0, locals := 0 } : Room).slots) := by
  refine MetFree.of_bodySF (plainFor_of_name pn_2) hisR ?_
  intro p e s m args below meth c s₁ Bd hml0 hP hK
  obtain ⟨rfl, hZ, hh⟩ := hP
  have hx := Bd.exec
  have hby := Bd.bytes
  have hlk := Bd.notSynchronized
  have hml : c.maxLocals = 2 := hml0
  have hown : s.vm.findClass "com/example/settleline/settleline/gsh/Fault" = some m.cls := findClass_of_methodNamed Bd.named
  have hnm := (name_of_methodNamed Bd.named Bd.method).1
  have X0 : Stand p l e ({ frames := 0, cells := 0, slots := 0, locals := 0 } : Room) s m #[(.ref x0), (.int x1)] below meth c s₁ [] 0 0 := Stand.of_body Bd
  have e0 : s₁.heap = h0 := by rw [← hh, Bd.state]; rfl
  have N0 := Fr.nil Z.heap.size
  show Go FrameEnd p e below s ({ frames := 0, cells := 0, slots := 0, locals := 0 } : Room).cells ({ frames := 0, cells := 0, slots := 0, locals := 0 } : Room).slots (Q_2 Z x0 x1 fl r h0) s₁ (entryFrame m #[(.ref x0), (.int x1)] 2)
  refine Go.cast (ef_2 m x0 x1) ?_
  show Go _ _ _ _ _ _ _ _ s₁ (mkF m 0 #[.val (.ref x0), .val (.int x1)] [])
  refine Go.step (fun _ k => XS.iloadN X0.here hx rfl (hb hby d2_0) rfl k) ?_
  show Go _ _ _ _ _ _ _ _ s₁ (mkF m 1 #[.val (.ref x0), .val (.int x1)] [(.int x1)])
  by_cases hc1_1 : x1 = (0 : Int32)
  · refine Go.step (fun _ k => XS.ifYes X0.here hx rfl (pc0 := 1) (pc' := 11) rfl (hb hby d2_1) rfl ((if0 _ _).trans (teq hc1_1).1) (by decide) (by decide) k) ?_
    show Go _ _ _ _ _ _ _ _ s₁ (mkF m 11 #[.val (.ref x0), .val (.int x1)] [])
    refine Go.step (fun _ k => XS.aloadN X0.here hx rfl (hb hby d2_11) rfl rfl k) ?_
    show Go _ _ _ _ _ _ _ _ s₁ (mkF m 12 #[.val (.ref x0), .val (.int x1)] [(.ref x0)])
    obtain ⟨T2, X2, e2, st2⟩ := getF X0 hx hZ hown (host := "") (Or.inl (hw _ (List.mem_of_getElem? (i := 13) rfl))) Via.refl e0 (Fld.ext O0 F_d) (g := (mkF m 12 #[.val (.ref x0), .val (.int x1)] [(.ref x0)])) rfl rfl (hb hby d2_12)
    refine Go.step st2 ?_
    show Go _ _ _ _ _ _ _ _ T2 (mkF m 15 #[.val (.ref x0), .val (.int x1)] [(.int fl)])
    refine Go.step (fun _ k => XS.ineg X2.here hx rfl (hb hby d2_15) rfl k) ?_
    show Go _ _ _ _ _ _ _ _ T2 (mkF m 16 #[.val (.ref x0), .val (.int x1)] [(.int (-fl))])
    exact Go.retI X2 hx Bd.returns hlk (hb hby d2_16) (by decide) (by decide) (by show _ ∧ _ ∧ _; rw [e2]; refine ⟨?_, N0, rfl⟩; subst hr; simp_all)
  · refine Go.step (fun _ k => XS.ifNo X0.here hx rfl (hb hby d2_1) rfl ((if0 _ _).trans (feq hc1_1).1) k) ?_
    show Go _ _ _ _ _ _ _ _ s₁ (mkF m 4 #[.val (.ref x0), .val (.int x1)] [])
    refine Go.step (fun _ k => XS.aloadN X0.here hx rfl (hb hby d2_4) rfl rfl k) ?_
    show Go _ _ _ _ _ _ _ _ s₁ (mkF m 5 #[.val (.ref x0), .val (.int x1)] [(.ref x0)])
    obtain ⟨T3, X3, e3, st3⟩ := getF X0 hx hZ hown (host := "") (Or.inl (hw _ (List.mem_of_getElem? (i := 13) rfl))) Via.refl e0 (Fld.ext O0 F_d) (g := (mkF m 5 #[.val (.ref x0), .val (.int x1)] [(.ref x0)])) rfl rfl (hb hby d2_5)
    refine Go.step st3 ?_
    show Go _ _ _ _ _ _ _ _ T3 (mkF m 8 #[.val (.ref x0), .val (.int x1)] [(.int fl)])
    refine Go.step (fun _ k => XS.goto X3.here hx rfl (pc0 := 8) (pc' := 16) rfl (hb hby d2_8) (by decide) (by decide) k) ?_
    show Go _ _ _ _ _ _ _ _ T3 (mkF m 16 #[.val (.ref x0), .val (.int x1)] [(.int fl)])
    exact Go.retI X3 hx Bd.returns hlk (hb hby d2_16) (by decide) (by decide) (by show _ ∧ _ ∧ _; rw [e3]; refine ⟨?_, N0, rfl⟩; subst hr; simp_all)
theorem pd_LIRLcom_example_settleline_settleline_gsh_Fault_ : parseMethodDescriptor "(I)Lcom/example/settleline/settleline/gsh/Fault;" = some ⟨[.int], some (.object "com/example/settleline/settleline/gsh/Fault")⟩ := by decide +kernel
theorem pd_LZRI : parseMethodDescriptor "(Z)I" = some ⟨[.boolean], some .int⟩ := by decide +kernel
theorem pn_0 : plainName "com/example/settleline/settleline/gsh/FaultFlagPinLaw" = true := by first | (simp [plainName, overriddenIn]; done) | decide +kernel
theorem ef_0 (m : MethodId) (y0 : Int32) (y1 : Int32) : entryFrame m #[(.int y0), (.int y1)] maxLocals = mkF m 0 #[.val (.int y0), .val (.int y1), .unset, .unset, .unset, .unset, .unset] [] := by first | (simp [entryFrame, mkF, argsToLocals, Value.category, maxLocals]; done) | rfl
def Q_0 (Z : State) (x0 : Int32) (x1 : Int32) (dA : Addr) (rA : Addr) (nA : Addr) (h0 : Heap) (v : Option Value) (h : Heap) (L : List Loc) : Prop := v = some (.int 1) ∧ Fr Z.heap.size L ∧ h = h0
set_option maxRecDepth 65536 in
set_option maxHeartbeats 40000000 in
theorem rm_0 (l : Launch) (Z : State) (a0 : Array Value) (hw : ∀ d ∈ tables_1, d.before a0 Z = true) (ws : List Jvm.Cond) (x0 : Int32) (x1 : Int32) (dA : Addr) (rA : Addr) (nA : Addr) (h0 : Heap) (O0 : Ext Z.heap h0) (S_D : Sta Z Z.heap "com/example/settleline/settleline/gsh/Fault" "DELIVERY" "Lcom/example/settleline/settleline/gsh/Fault;" (.ref dA)) (S_R : Sta Z Z.heap "com/example/settleline/settleline/gsh/Fault" "RECEIPT" "Lcom/example/settleline/settleline/gsh/Fault;" (.ref rA)) (S_N : Sta Z Z.heap "com/example/settleline/settleline/gsh/Fault" "NO_FAULT" "Lcom/example/settleline/settleline/gsh/Fault;" (.ref nA)) (X_D : Exa Z Z.heap dA "com/example/settleline/settleline/gsh/Fault") (X_R : Exa Z Z.heap rA "com/example/settleline/settleline/gsh/Fault") (X_N : Exa Z Z.heap nA "com/example/settleline/settleline/gsh/Fault") (F_D : Fld Z Z.heap dA "com/example/settleline/settleline/gsh/Fault" "deliveringFlag" "I" (.int (1 : Int32))) (F_R : Fld Z Z.heap rA "com/example/settleline/settleline/gsh/Fault" "deliveringFlag" "I" (.int (-1 : Int32))) (F_N : Fld Z Z.heap nA "com/example/settleline/settleline/gsh/Fault" "deliveringFlag" "I" (.int (0 : Int32))) :
    MetFree l x (head1 (Jvm.Cond.code x code maxLocals ret :: ws) room_1) (fun a U => a = #[(.int x0), (.int x1)] ∧ Z.Warmed39 U.vm ∧ U.heap = h0) (fun _ _ _ _ _ => True) (fun _ U o U' => ∃ v L, o = .returned v ∧ Q_0 Z x0 x1 dA rA nA h0 v U'.heap L ∧ FrameEnd U o U' L room_1.cells room_1.slots) := by
  refine MetFree.of_bodySF (plainFor_of_name pn_0) hisR ?_
  intro p e s m args below meth c s₁ Bd hml0 hP hK
  obtain ⟨rfl, hZ, hh⟩ := hP
  have hx := Bd.exec
  have hby := Bd.bytes
  have hlk := Bd.notSynchronized
  have hml : c.maxLocals = 7 := hml0
  have hown : s.vm.findClass "com/example/settleline/settleline/gsh/FaultFlagPinLaw" = some m.cls := findClass_of_methodNamed Bd.named
  have hnm := (name_of_methodNamed Bd.named Bd.method).1
  have X0 : Stand p l e room_1 s m #[(.int x0), (.int x1)] below meth c s₁ [] 0 0 := Stand.of_body Bd
  have e0 : s₁.heap = h0 := by rw [← hh, Bd.state]; rfl
  have N0 := Fr.nil Z.heap.size
  show Go FrameEnd p e below s room_1.cells room_1.slots (Q_0 Z x0 x1 dA rA nA h0) s₁ (entryFrame m #[(.int x0), (.int x1)] maxLocals)
  refine Go.cast (ef_0 m x0 x1) ?_
  show Go _ _ _ _ _ _ _ _ s₁ (mkF m 0 #[.val (.int x0), .val (.int x1), .unset, .unset, .unset, .unset, .unset] [])
  refine Go.step (fun _ k => XS.iloadN X0.here hx rfl (hb hby at_0) rfl k) ?_
  show Go _ _ _ _ _ _ _ _ s₁ (mkF m 1 #[.val (.int x0), .val (.int x1), .unset, .unset, .unset, .unset, .unset] [(.int x0)])
  refine Go.step (X0.ldcInt hx hown (mvT hZ (hw _ (List.mem_of_getElem? (i := 0) rfl))) (g := (mkF m 1 #[.val (.int x0), .val (.int x1), .unset, .unset, .unset, .unset, .unset] [(.int x0)])) rfl (hb hby at_1)) ?_
  show Go _ _ _ _ _ _ _ _ s₁ (mkF m 3 #[.val (.int x0), .val (.int x1), .unset, .unset, .unset, .unset, .unset] [(.int (2147483647 : Int32)), (.int x0)])
  refine Go.step (fun _ k => XS.iand X0.here hx rfl (hb hby at_3) rfl k) ?_
  show Go _ _ _ _ _ _ _ _ s₁ (mkF m 4 #[.val (.int x0), .val (.int x1), .unset, .unset, .unset, .unset, .unset] [(.int (x0 &&& (2147483647 : Int32)))])
  refine Go.step (fun _ k => XS.iconst X0.here hx rfl (hb hby at_4)  k) ?_
  show Go _ _ _ _ _ _ _ _ s₁ (mkF m 5 #[.val (.int x0), .val (.int x1), .unset, .unset, .unset, .unset, .unset] [(.int (3 : Int32)), (.int (x0 &&& (2147483647 : Int32)))])
  refine Go.step (fun _ k => iremM X0 hx rfl (hb hby at_5) rfl (by decide) k) ?_
  show Go _ _ _ _ _ _ _ _ s₁ (mkF m 6 #[.val (.int x0), .val (.int x1), .unset, .unset, .unset, .unset, .unset] [(.int ((x0 &&& (2147483647 : Int32)) % (3 : Int32)))])
  rcases own_mod3 x0 with hk | hk | hk
  · rw [hk]
    show Go _ _ _ _ _ _ _ _ s₁ (mkF m 6 #[.val (.int x0), .val (.int x1), .unset, .unset, .unset, .unset, .unset] [(.int (0 : Int32))])
    refine Go.step (fun _ k => XS.istoreN X0.here hx rfl (hb hby at_6) rfl (l' := #[.val (.int x0), .val (.int x1), .val (.int (0 : Int32)), .unset, .unset, .unset, .unset]) rfl k) ?_
    show Go _ _ _ _ _ _ _ _ s₁ (mkF m 7 #[.val (.int x0), .val (.int x1), .val (.int (0 : Int32)), .unset, .unset, .unset, .unset] [])
    refine Go.step (fun _ k => XS.iloadN X0.here hx rfl (hb hby at_7) rfl k) ?_
    show Go _ _ _ _ _ _ _ _ s₁ (mkF m 8 #[.val (.int x0), .val (.int x1), .val (.int (0 : Int32)), .unset, .unset, .unset, .unset] [(.int x1)])
    refine Go.step (fun _ k => XS.iconst X0.here hx rfl (hb hby at_8)  k) ?_
    show Go _ _ _ _ _ _ _ _ s₁ (mkF m 9 #[.val (.int x0), .val (.int x1), .val (.int (0 : Int32)), .unset, .unset, .unset, .unset] [(.int (1 : Int32)), (.int x1)])
    refine Go.step (fun _ k => XS.iand X0.here hx rfl (hb hby at_9) rfl k) ?_
    show Go _ _ _ _ _ _ _ _ s₁ (mkF m 10 #[.val (.int x0), .val (.int x1), .val (.int (0 : Int32)), .unset, .unset, .unset, .unset] [(.int (x1 &&& (1 : Int32)))])
    by_cases hc10_1 : (x1 &&& (1 : Int32)) = (0 : Int32)
    · refine Go.step (fun _ k => XS.ifYes X0.here hx rfl (pc0 := 10) (pc' := 17) rfl (hb hby at_10) rfl ((if0 _ _).trans (teq hc10_1).1) (by decide) (by decide) k) ?_
      show Go _ _ _ _ _ _ _ _ s₁ (mkF m 17 #[.val (.int x0), .val (.int x1), .val (.int (0 : Int32)), .unset, .unset, .unset, .unset] [])
      refine Go.step (fun _ k => XS.iconst X0.here hx rfl (hb hby at_17)  k) ?_
      show Go _ _ _ _ _ _ _ _ s₁ (mkF m 18 #[.val (.int x0), .val (.int x1), .val (.int (0 : Int32)), .unset, .unset, .unset, .unset] [(.int (0 : Int32))])
      refine Go.step (fun _ k => XS.istoreN X0.here hx rfl (hb hby at_18) rfl (l' := #[.val (.int x0), .val (.int x1), .val (.int (0 : Int32)), .val (.int (0 : Int32)), .unset, .unset, .unset]) rfl k) ?_
      show Go _ _ _ _ _ _ _ _ s₁ (mkF m 19 #[.val (.int x0), .val (.int x1), .val (.int (0 : Int32)), .val (.int (0 : Int32)), .unset, .unset, .unset] [])
      refine Go.step (fun _ k => XS.iloadN X0.here hx rfl (hb hby at_19) rfl k) ?_
      show Go _ _ _ _ _ _ _ _ s₁ (mkF m 20 #[.val (.int x0), .val (.int x1), .val (.int (0 : Int32)), .val (.int (0 : Int32)), .unset, .unset, .unset] [(.int (0 : Int32))])
      obtain ⟨_, _, ⟨T2, L2, k2, n2⟩, -, X2, ⟨Lc2, hQ2, l2, y2, z2⟩, st2⟩ := Jvm.LawKit.callS X0 hx (y := (⟨"com/example/settleline/settleline/gsh/FaultFlagPinLaw", "pick", "(I)Lcom/example/settleline/settleline/gsh/Fault;"⟩ : MethodName)) hown (mvT hZ (hw _ (List.mem_of_getElem? (i := 1) rfl))) (mvT hZ (hw _ (List.mem_of_getElem? (i := 2) rfl))) (mvT hZ (hw _ (List.mem_of_getElem? (i := 3) rfl))) (mvT hZ (hw _ (List.mem_of_getElem? (i := 4) rfl))) (by decide) (backOf (W := 0) (rm_1 l Z a0 hw [] (0 : Int32) dA rA nA dA h0 O0 S_D S_R S_N (by simp)) hZ (hw _ (List.mem_of_getElem? (i := 4) rfl)) (hw _ (List.mem_of_getElem? (i := 3) rfl)) (by decide) (by decide)) (g := (mkF m 20 #[.val (.int x0), .val (.int x1), .val (.int (0 : Int32)), .val (.int (0 : Int32)), .unset, .unset, .unset] [(.int (0 : Int32))])) rfl (by rw [hml]; rfl) (argsL := [(.int (0 : Int32))]) (rest := []) (lenOf pd_LIRLcom_example_settleline_settleline_gsh_Fault_ rfl) rfl (by show 2 * 0 + _ ≤ _; exact Nat.le_of_eq rfl) (hb hby at_20) (fun _ _ => ⟨rfl, e0, (by decide : 0 + 0 ≤ _), (by decide : 0 + 0 ≤ _)⟩)
      dsimp only [Pt.U, Pt.locs, Pt.cells, Pt.slots] at X2 l2 y2 z2 st2 hQ2
      subst l2 y2 z2
      obtain ⟨rfl, Nq2, e2⟩ := hQ2
      have N2_ := Fr.app N0 Nq2
      refine Go.step st2 ?_
      show Go _ _ _ _ _ _ _ _ T2 (mkF m 23 #[.val (.int x0), .val (.int x1), .val (.int (0 : Int32)), .val (.int (0 : Int32)), .unset, .unset, .unset] [(.ref dA)])
      refine Go.step (fun _ k => XS.astore X2.here hx rfl (hb hby at_23) rfl rfl (l' := #[.val (.int x0), .val (.int x1), .val (.int (0 : Int32)), .val (.int (0 : Int32)), .val (.ref dA), .unset, .unset]) rfl k) ?_
      show Go _ _ _ _ _ _ _ _ T2 (mkF m 25 #[.val (.int x0), .val (.int x1), .val (.int (0 : Int32)), .val (.int (0 : Int32)), .val (.ref dA), .unset, .unset] [])
      refine Go.step (fun _ k => XS.iloadN X2.here hx rfl (hb hby at_25) rfl k) ?_
      show Go _ _ _ _ _ _ _ _ T2 (mkF m 26 #[.val (.int x0), .val (.int x1), .val (.int (0 : Int32)), .val (.int (0 : Int32)), .val (.ref dA), .unset, .unset] [(.int (0 : Int32))])
      refine Go.step (fun _ k => XS.iconst X2.here hx rfl (hb hby at_26)  k) ?_
      show Go _ _ _ _ _ _ _ _ T2 (mkF m 27 #[.val (.int x0), .val (.int x1), .val (.int (0 : Int32)), .val (.int (0 : Int32)), .val (.ref dA), .unset, .unset] [(.int (2 : Int32)), (.int (0 : Int32))])
      refine Go.step (fun _ k => XS.icmpYes X2.here hx rfl (pc0 := 27) (pc' := 36) rfl (hb hby at_27) rfl (feq (by decide : ¬ ((0 : Int32) = (2 : Int32)))).2 (by decide) (by decide) k) ?_
      show Go _ _ _ _ _ _ _ _ T2 (mkF m 36 #[.val (.int x0), .val (.int x1), .val (.int (0 : Int32)), .val (.int (0 : Int32)), .val (.ref dA), .unset, .unset] [])
      refine Go.step (fun _ k => XS.iloadN X2.here hx rfl (hb hby at_36) rfl k) ?_
      show Go _ _ _ _ _ _ _ _ T2 (mkF m 37 #[.val (.int x0), .val (.int x1), .val (.int (0 : Int32)), .val (.int (0 : Int32)), .val (.ref dA), .unset, .unset] [(.int (0 : Int32))])
      refine Go.step (fun _ k => XS.ifNo X2.here hx rfl (hb hby at_37) rfl ((if0 _ _).trans (teq (by decide : (0 : Int32) = (0 : Int32))).2) k) ?_
      show Go _ _ _ _ _ _ _ _ T2 (mkF m 40 #[.val (.int x0), .val (.int x1), .val (.int (0 : Int32)), .val (.int (0 : Int32)), .val (.ref dA), .unset, .unset] [])
      refine Go.step (fun _ k => XS.iloadN X2.here hx rfl (hb hby at_40) rfl k) ?_
      show Go _ _ _ _ _ _ _ _ T2 (mkF m 41 #[.val (.int x0), .val (.int x1), .val (.int (0 : Int32)), .val (.int (0 : Int32)), .val (.ref dA), .unset, .unset] [(.int (0 : Int32))])
      refine Go.step (fun _ k => XS.ifNo X2.here hx rfl (hb hby at_41) rfl ((if0 _ _).trans (teq (by decide : (0 : Int32) = (0 : Int32))).2) k) ?_
      show Go _ _ _ _ _ _ _ _ T2 (mkF m 44 #[.val (.int x0), .val (.int x1), .val (.int (0 : Int32)), .val (.int (0 : Int32)), .val (.ref dA), .unset, .unset] [])
      refine Go.step (fun _ k => XS.iloadN X2.here hx rfl (hb hby at_44) rfl k) ?_
      show Go _ _ _ _ _ _ _ _ T2 (mkF m 45 #[.val (.int x0), .val (.int x1), .val (.int (0 : Int32)), .val (.int (0 : Int32)), .val (.ref dA), .unset, .unset] [(.int (0 : Int32))])
      refine Go.step (fun _ k => XS.iconst X2.here hx rfl (hb hby at_45)  k) ?_
      show Go _ _ _ _ _ _ _ _ T2 (mkF m 46 #[.val (.int x0), .val (.int x1), .val (.int (0 : Int32)), .val (.int (0 : Int32)), .val (.ref dA), .unset, .unset] [(.int (1 : Int32)), (.int (0 : Int32))])
      refine Go.step (fun _ k => XS.icmpYes X2.here hx rfl (pc0 := 46) (pc' := 57) rfl (hb hby at_46) rfl (feq (by decide : ¬ ((0 : Int32) = (1 : Int32)))).2 (by decide) (by decide) k) ?_
      show Go _ _ _ _ _ _ _ _ T2 (mkF m 57 #[.val (.int x0), .val (.int x1), .val (.int (0 : Int32)), .val (.int (0 : Int32)), .val (.ref dA), .unset, .unset] [])
      refine Go.step (fun _ k => XS.iconst X2.here hx rfl (hb hby at_57)  k) ?_
      show Go _ _ _ _ _ _ _ _ T2 (mkF m 58 #[.val (.int x0), .val (.int x1), .val (.int (0 : Int32)), .val (.int (0 : Int32)), .val (.ref dA), .unset, .unset] [(.int (0 : Int32))])
      refine Go.step (fun _ k => XS.istore X2.here hx rfl (hb hby at_58) rfl (l' := #[.val (.int x0), .val (.int x1), .val (.int (0 : Int32)), .val (.int (0 : Int32)), .val (.ref dA), .unset, .val (.int (0 : Int32))]) rfl k) ?_
      show Go _ _ _ _ _ _ _ _ T2 (mkF m 60 #[.val (.int x0), .val (.int x1), .val (.int (0 : Int32)), .val (.int (0 : Int32)), .val (.ref dA), .unset, .val (.int (0 : Int32))] [])
      refine Go.step (fun _ k => XS.iload X2.here hx rfl (hb hby at_60) rfl k) ?_
      show Go _ _ _ _ _ _ _ _ T2 (mkF m 62 #[.val (.int x0), .val (.int x1), .val (.int (0 : Int32)), .val (.int (0 : Int32)), .val (.ref dA), .unset, .val (.int (0 : Int32))] [(.int (0 : Int32))])
      refine Go.step (fun _ k => XS.ifYes X2.here hx rfl (pc0 := 62) (pc' := 71) rfl (hb hby at_62) rfl ((if0 _ _).trans (teq (by decide : (0 : Int32) = (0 : Int32))).1) (by decide) (by decide) k) ?_
      show Go _ _ _ _ _ _ _ _ T2 (mkF m 71 #[.val (.int x0), .val (.int x1), .val (.int (0 : Int32)), .val (.int (0 : Int32)), .val (.ref dA), .unset, .val (.int (0 : Int32))] [])
      refine Go.step (fun _ k => XS.iconst X2.here hx rfl (hb hby at_71)  k) ?_
      show Go _ _ _ _ _ _ _ _ T2 (mkF m 72 #[.val (.int x0), .val (.int x1), .val (.int (0 : Int32)), .val (.int (0 : Int32)), .val (.ref dA), .unset, .val (.int (0 : Int32))] [(.int (-1 : Int32))])
      refine Go.step (fun _ k => XS.istore X2.here hx rfl (hb hby at_72) rfl (l' := #[.val (.int x0), .val (.int x1), .val (.int (0 : Int32)), .val (.int (0 : Int32)), .val (.ref dA), .val (.int (-1 : Int32)), .val (.int (0 : Int32))]) rfl k) ?_
      show Go _ _ _ _ _ _ _ _ T2 (mkF m 74 #[.val (.int x0), .val (.int x1), .val (.int (0 : Int32)), .val (.int (0 : Int32)), .val (.ref dA), .val (.int (-1 : Int32)), .val (.int (0 : Int32))] [])
      refine Go.step (fun _ k => XS.aload X2.here hx rfl (hb hby at_74) rfl rfl k) ?_
      show Go _ _ _ _ _ _ _ _ T2 (mkF m 76 #[.val (.int x0), .val (.int x1), .val (.int (0 : Int32)), .val (.int (0 : Int32)), .val (.ref dA), .val (.int (-1 : Int32)), .val (.int (0 : Int32))] [(.ref dA)])
      refine Go.step (fun _ k => XS.iloadN X2.here hx rfl (hb hby at_76) rfl k) ?_
      show Go _ _ _ _ _ _ _ _ T2 (mkF m 77 #[.val (.int x0), .val (.int x1), .val (.int (0 : Int32)), .val (.int (0 : Int32)), .val (.ref dA), .val (.int (-1 : Int32)), .val (.int (0 : Int32))] [(.int (0 : Int32)), (.ref dA)])
      obtain ⟨cq3, kq3, q3a, q3b, q3c⟩ := isOf hZ e2 (Exa.ext O0 X_D)
      obtain ⟨_, _, ⟨T3, L3, k3, n3⟩, -, X3, ⟨Lc3, hQ3, l3, y3, z3⟩, st3⟩ := X2.virtualBack hx (y := (⟨"com/example/settleline/settleline/gsh/Fault", "flag", "(Z)I"⟩ : MethodName)) (z := (⟨"com/example/settleline/settleline/gsh/Fault", "flag", "(Z)I"⟩ : MethodName)) hown (mvT hZ (hw _ (List.mem_of_getElem? (i := 8) rfl))) (mvT hZ (hw _ (List.mem_of_getElem? (i := 9) rfl))) (notFace_of_selects (args := #[]) (mvT hZ (hw _ (List.mem_of_getElem? (i := 11) rfl)))) (mvT hZ (hw _ (List.mem_of_getElem? (i := 11) rfl))) (mvT hZ (hw _ (List.mem_of_getElem? (i := 10) rfl))) (by decide) (backOf (W := 0) (rm_2 l Z a0 hw [] dA (0 : Int32) (1 : Int32) (-1 : Int32) h0 O0 F_D (by decide)) hZ (hw _ (List.mem_of_getElem? (i := 12) rfl)) (hw _ (List.mem_of_getElem? (i := 6) rfl)) (by decide) (by decide)) q3a q3c (g := (mkF m 77 #[.val (.int x0), .val (.int x1), .val (.int (0 : Int32)), .val (.int (0 : Int32)), .val (.ref dA), .val (.int (-1 : Int32)), .val (.int (0 : Int32))] [(.int (0 : Int32)), (.ref dA)])) rfl (by rw [hml]; rfl) (Steps.refl _) (argsL := [(.int (0 : Int32))]) (rest := []) (lenOf pd_LZRI rfl) rfl (by show 2 * 0 + _ ≤ _; exact Nat.le_of_eq rfl) (hb hby at_77) (fun _ _ => ⟨rfl, e2, (by decide : 0 + 0 ≤ _), (by decide : 0 + 0 ≤ _)⟩)
      dsimp only [Pt.U, Pt.locs, Pt.cells, Pt.slots] at X3 l3 y3 z3 st3 hQ3
      subst l3 y3 z3
      obtain ⟨rfl, Nq3, e3⟩ := hQ3
      have N3_ := Fr.app N2_ Nq3
      refine Go.trans st3 ?_
      show Go _ _ _ _ _ _ _ _ T3 (mkF m 80 #[.val (.int x0), .val (.int x1), .val (.int (0 : Int32)), .val (.int (0 : Int32)), .val (.ref dA), .val (.int (-1 : Int32)), .val (.int (0 : Int32))] [(.int (-1 : Int32))])
      refine Go.step (fun _ k => XS.iload X3.here hx rfl (hb hby at_80) rfl k) ?_
      show Go _ _ _ _ _ _ _ _ T3 (mkF m 82 #[.val (.int x0), .val (.int x1), .val (.int (0 : Int32)), .val (.int (0 : Int32)), .val (.ref dA), .val (.int (-1 : Int32)), .val (.int (0 : Int32))] [(.int (-1 : Int32)), (.int (-1 : Int32))])
      refine Go.step (fun _ k => XS.icmpNo X3.here hx rfl (hb hby at_82) rfl (teq (by decide : (-1 : Int32) = (-1 : Int32))).2 k) ?_
      show Go _ _ _ _ _ _ _ _ T3 (mkF m 85 #[.val (.int x0), .val (.int x1), .val (.int (0 : Int32)), .val (.int (0 : Int32)), .val (.ref dA), .val (.int (-1 : Int32)), .val (.int (0 : Int32))] [])
      refine Go.step (fun _ k => XS.iconst X3.here hx rfl (hb hby at_85)  k) ?_
      show Go _ _ _ _ _ _ _ _ T3 (mkF m 86 #[.val (.int x0), .val (.int x1), .val (.int (0 : Int32)), .val (.int (0 : Int32)), .val (.ref dA), .val (.int (-1 : Int32)), .val (.int (0 : Int32))] [(.int (1 : Int32))])
      refine Go.step (fun _ k => XS.goto X3.here hx rfl (pc0 := 86) (pc' := 90) rfl (hb hby at_86) (by decide) (by decide) k) ?_
      show Go _ _ _ _ _ _ _ _ T3 (mkF m 90 #[.val (.int x0), .val (.int x1), .val (.int (0 : Int32)), .val (.int (0 : Int32)), .val (.ref dA), .val (.int (-1 : Int32)), .val (.int (0 : Int32))] [(.int (1 : Int32))])
      exact Go.retN X3 hx (t := .boolean) Bd.returns (by simp) hlk (hb hby at_90) (by decide) (by decide) (by show _ ∧ _ ∧ _; rw [e3]; exact ⟨rfl, N3_, rfl⟩)
    · refine Go.step (fun _ k => XS.ifNo X0.here hx rfl (hb hby at_10) rfl ((if0 _ _).trans (feq hc10_1).1) k) ?_
      show Go _ _ _ _ _ _ _ _ s₁ (mkF m 13 #[.val (.int x0), .val (.int x1), .val (.int (0 : Int32)), .unset, .unset, .unset, .unset] [])
      refine Go.step (fun _ k => XS.iconst X0.here hx rfl (hb hby at_13)  k) ?_
      show Go _ _ _ _ _ _ _ _ s₁ (mkF m 14 #[.val (.int x0), .val (.int x1), .val (.int (0 : Int32)), .unset, .unset, .unset, .unset] [(.int (1 : Int32))])
      refine Go.step (fun _ k => XS.goto X0.here hx rfl (pc0 := 14) (pc' := 18) rfl (hb hby at_14) (by decide) (by decide) k) ?_
      show Go _ _ _ _ _ _ _ _ s₁ (mkF m 18 #[.val (.int x0), .val (.int x1), .val (.int (0 : Int32)), .unset, .unset, .unset, .unset] [(.int (1 : Int32))])
      refine Go.step (fun _ k => XS.istoreN X0.here hx rfl (hb hby at_18) rfl (l' := #[.val (.int x0), .val (.int x1), .val (.int (0 : Int32)), .val (.int (1 : Int32)), .unset, .unset, .unset]) rfl k) ?_
      show Go _ _ _ _ _ _ _ _ s₁ (mkF m 19 #[.val (.int x0), .val (.int x1), .val (.int (0 : Int32)), .val (.int (1 : Int32)), .unset, .unset, .unset] [])
      refine Go.step (fun _ k => XS.iloadN X0.here hx rfl (hb hby at_19) rfl k) ?_
      show Go _ _ _ _ _ _ _ _ s₁ (mkF m 20 #[.val (.int x0), .val (.int x1), .val (.int (0 : Int32)), .val (.int (1 : Int32)), .unset, .unset, .unset] [(.int (0 : Int32))])
      obtain ⟨_, _, ⟨T4, L4, k4, n4⟩, -, X4, ⟨Lc4, hQ4, l4, y4, z4⟩, st4⟩ := Jvm.LawKit.callS X0 hx (y := (⟨"com/example/settleline/settleline/gsh/FaultFlagPinLaw", "pick", "(I)Lcom/example/settleline/settleline/gsh/Fault;"⟩ : MethodName)) hown (mvT hZ (hw _ (List.mem_of_getElem? (i := 1) rfl))) (mvT hZ (hw _ (List.mem_of_getElem? (i := 2) rfl))) (mvT hZ (hw _ (List.mem_of_getElem? (i := 3) rfl))) (mvT hZ (hw _ (List.mem_of_getElem? (i := 4) rfl))) (by decide) (backOf (W := 0) (rm_1 l Z a0 hw [] (0 : Int32) dA rA nA dA h0 O0 S_D S_R S_N (by simp)) hZ (hw _ (List.mem_of_getElem? (i := 4) rfl)) (hw _ (List.mem_of_getElem? (i := 3) rfl)) (by decide) (by decide)) (g := (mkF m 20 #[.val (.int x0), .val (.int x1), .val (.int (0 : Int32)), .val (.int (1 : Int32)), .unset, .unset, .unset] [(.int (0 : Int32))])) rfl (by rw [hml]; rfl) (argsL := [(.int (0 : Int32))]) (rest := []) (lenOf pd_LIRLcom_example_settleline_settleline_gsh_Fault_ rfl) rfl (by show 2 * 0 + _ ≤ _; exact Nat.le_of_eq rfl) (hb hby at_20) (fun _ _ => ⟨rfl, e0, (by decide : 0 + 0 ≤ _), (by decide : 0 + 0 ≤ _)⟩)
      dsimp only [Pt.U, Pt.locs, Pt.cells, Pt.slots] at X4 l4 y4 z4 st4 hQ4
      subst l4 y4 z4
      obtain ⟨rfl, Nq4, e4⟩ := hQ4
      have N4_ := Fr.app N0 Nq4
      refine Go.step st4 ?_
      show Go _ _ _ _ _ _ _ _ T4 (mkF m 23 #[.val (.int x0), .val (.int x1), .val (.int (0 : Int32)), .val (.int (1 : Int32)), .unset, .unset, .unset] [(.ref dA)])
      refine Go.step (fun _ k => XS.astore X4.here hx rfl (hb hby at_23) rfl rfl (l' := #[.val (.int x0), .val (.int x1), .val (.int (0 : Int32)), .val (.int (1 : Int32)), .val (.ref dA), .unset, .unset]) rfl k) ?_
      show Go _ _ _ _ _ _ _ _ T4 (mkF m 25 #[.val (.int x0), .val (.int x1), .val (.int (0 : Int32)), .val (.int (1 : Int32)), .val (.ref dA), .unset, .unset] [])
      refine Go.step (fun _ k => XS.iloadN X4.here hx rfl (hb hby at_25) rfl k) ?_
      show Go _ _ _ _ _ _ _ _ T4 (mkF m 26 #[.val (.int x0), .val (.int x1), .val (.int (0 : Int32)), .val (.int (1 : Int32)), .val (.ref dA), .unset, .unset] [(.int (0 : Int32))])
      refine Go.step (fun _ k => XS.iconst X4.here hx rfl (hb hby at_26)  k) ?_
      show Go _ _ _ _ _ _ _ _ T4 (mkF m 27 #[.val (.int x0), .val (.int x1), .val (.int (0 : Int32)), .val (.int (1 : Int32)), .val (.ref dA), .unset, .unset] [(.int (2 : Int32)), (.int (0 : Int32))])
      refine Go.step (fun _ k => XS.icmpYes X4.here hx rfl (pc0 := 27) (pc' := 36) rfl (hb hby at_27) rfl (feq (by decide : ¬ ((0 : Int32) = (2 : Int32)))).2 (by decide) (by decide) k) ?_
      show Go _ _ _ _ _ _ _ _ T4 (mkF m 36 #[.val (.int x0), .val (.int x1), .val (.int (0 : Int32)), .val (.int (1 : Int32)), .val (.ref dA), .unset, .unset] [])
      refine Go.step (fun _ k => XS.iloadN X4.here hx rfl (hb hby at_36) rfl k) ?_
      show Go _ _ _ _ _ _ _ _ T4 (mkF m 37 #[.val (.int x0), .val (.int x1), .val (.int (0 : Int32)), .val (.int (1 : Int32)), .val (.ref dA), .unset, .unset] [(.int (0 : Int32))])
      refine Go.step (fun _ k => XS.ifNo X4.here hx rfl (hb hby at_37) rfl ((if0 _ _).trans (teq (by decide : (0 : Int32) = (0 : Int32))).2) k) ?_
      show Go _ _ _ _ _ _ _ _ T4 (mkF m 40 #[.val (.int x0), .val (.int x1), .val (.int (0 : Int32)), .val (.int (1 : Int32)), .val (.ref dA), .unset, .unset] [])
      refine Go.step (fun _ k => XS.iloadN X4.here hx rfl (hb hby at_40) rfl k) ?_
      show Go _ _ _ _ _ _ _ _ T4 (mkF m 41 #[.val (.int x0), .val (.int x1), .val (.int (0 : Int32)), .val (.int (1 : Int32)), .val (.ref dA), .unset, .unset] [(.int (1 : Int32))])
      refine Go.step (fun _ k => XS.ifYes X4.here hx rfl (pc0 := 41) (pc' := 53) rfl (hb hby at_41) rfl ((if0 _ _).trans (feq (by decide : ¬ ((1 : Int32) = (0 : Int32)))).2) (by decide) (by decide) k) ?_
      show Go _ _ _ _ _ _ _ _ T4 (mkF m 53 #[.val (.int x0), .val (.int x1), .val (.int (0 : Int32)), .val (.int (1 : Int32)), .val (.ref dA), .unset, .unset] [])
      refine Go.step (fun _ k => XS.iconst X4.here hx rfl (hb hby at_53)  k) ?_
      show Go _ _ _ _ _ _ _ _ T4 (mkF m 54 #[.val (.int x0), .val (.int x1), .val (.int (0 : Int32)), .val (.int (1 : Int32)), .val (.ref dA), .unset, .unset] [(.int (1 : Int32))])
      refine Go.step (fun _ k => XS.goto X4.here hx rfl (pc0 := 54) (pc' := 58) rfl (hb hby at_54) (by decide) (by decide) k) ?_
      show Go _ _ _ _ _ _ _ _ T4 (mkF m 58 #[.val (.int x0), .val (.int x1), .val (.int (0 : Int32)), .val (.int (1 : Int32)), .val (.ref dA), .unset, .unset] [(.int (1 : Int32))])
      refine Go.step (fun _ k => XS.istore X4.here hx rfl (hb hby at_58) rfl (l' := #[.val (.int x0), .val (.int x1), .val (.int (0 : Int32)), .val (.int (1 : Int32)), .val (.ref dA), .unset, .val (.int (1 : Int32))]) rfl k) ?_
      show Go _ _ _ _ _ _ _ _ T4 (mkF m 60 #[.val (.int x0), .val (.int x1), .val (.int (0 : Int32)), .val (.int (1 : Int32)), .val (.ref dA), .unset, .val (.int (1 : Int32))] [])
      refine Go.step (fun _ k => XS.iload X4.here hx rfl (hb hby at_60) rfl k) ?_
      show Go _ _ _ _ _ _ _ _ T4 (mkF m 62 #[.val (.int x0), .val (.int x1), .val (.int (0 : Int32)), .val (.int (1 : Int32)), .val (.ref dA), .unset, .val (.int (1 : Int32))] [(.int (1 : Int32))])
      refine Go.step (fun _ k => XS.ifNo X4.here hx rfl (hb hby at_62) rfl ((if0 _ _).trans (feq (by decide : ¬ ((1 : Int32) = (0 : Int32)))).1) k) ?_
      show Go _ _ _ _ _ _ _ _ T4 (mkF m 65 #[.val (.int x0), .val (.int x1), .val (.int (0 : Int32)), .val (.int (1 : Int32)), .val (.ref dA), .unset, .val (.int (1 : Int32))] [])
      refine Go.step (fun _ k => XS.iconst X4.here hx rfl (hb hby at_65)  k) ?_
      show Go _ _ _ _ _ _ _ _ T4 (mkF m 66 #[.val (.int x0), .val (.int x1), .val (.int (0 : Int32)), .val (.int (1 : Int32)), .val (.ref dA), .unset, .val (.int (1 : Int32))] [(.int (1 : Int32))])
      refine Go.step (fun _ k => XS.istore X4.here hx rfl (hb hby at_66) rfl (l' := #[.val (.int x0), .val (.int x1), .val (.int (0 : Int32)), .val (.int (1 : Int32)), .val (.ref dA), .val (.int (1 : Int32)), .val (.int (1 : Int32))]) rfl k) ?_
      show Go _ _ _ _ _ _ _ _ T4 (mkF m 68 #[.val (.int x0), .val (.int x1), .val (.int (0 : Int32)), .val (.int (1 : Int32)), .val (.ref dA), .val (.int (1 : Int32)), .val (.int (1 : Int32))] [])
      refine Go.step (fun _ k => XS.goto X4.here hx rfl (pc0 := 68) (pc' := 74) rfl (hb hby at_68) (by decide) (by decide) k) ?_
      show Go _ _ _ _ _ _ _ _ T4 (mkF m 74 #[.val (.int x0), .val (.int x1), .val (.int (0 : Int32)), .val (.int (1 : Int32)), .val (.ref dA), .val (.int (1 : Int32)), .val (.int (1 : Int32))] [])
      refine Go.step (fun _ k => XS.aload X4.here hx rfl (hb hby at_74) rfl rfl k) ?_
      show Go _ _ _ _ _ _ _ _ T4 (mkF m 76 #[.val (.int x0), .val (.int x1), .val (.int (0 : Int32)), .val (.int (1 : Int32)), .val (.ref dA), .val (.int (1 : Int32)), .val (.int (1 : Int32))] [(.ref dA)])
      refine Go.step (fun _ k => XS.iloadN X4.here hx rfl (hb hby at_76) rfl k) ?_
      show Go _ _ _ _ _ _ _ _ T4 (mkF m 77 #[.val (.int x0), .val (.int x1), .val (.int (0 : Int32)), .val (.int (1 : Int32)), .val (.ref dA), .val (.int (1 : Int32)), .val (.int (1 : Int32))] [(.int (1 : Int32)), (.ref dA)])
      obtain ⟨cq5, kq5, q5a, q5b, q5c⟩ := isOf hZ e4 (Exa.ext O0 X_D)
      obtain ⟨_, _, ⟨T5, L5, k5, n5⟩, -, X5, ⟨Lc5, hQ5, l5, y5, z5⟩, st5⟩ := X4.virtualBack hx (y := (⟨"com/example/settleline/settleline/gsh/Fault", "flag", "(Z)I"⟩ : MethodName)) (z := (⟨"com/example/settleline/settleline/gsh/Fault", "flag", "(Z)I"⟩ : MethodName)) hown (mvT hZ (hw _ (List.mem_of_getElem? (i := 8) rfl))) (mvT hZ (hw _ (List.mem_of_getElem? (i := 9) rfl))) (notFace_of_selects (args := #[]) (mvT hZ (hw _ (List.mem_of_getElem? (i := 11) rfl)))) (mvT hZ (hw _ (List.mem_of_getElem? (i := 11) rfl))) (mvT hZ (hw _ (List.mem_of_getElem? (i := 10) rfl))) (by decide) (backOf (W := 0) (rm_2 l Z a0 hw [] dA (1 : Int32) (1 : Int32) (1 : Int32) h0 O0 F_D (by decide)) hZ (hw _ (List.mem_of_getElem? (i := 12) rfl)) (hw _ (List.mem_of_getElem? (i := 6) rfl)) (by decide) (by decide)) q5a q5c (g := (mkF m 77 #[.val (.int x0), .val (.int x1), .val (.int (0 : Int32)), .val (.int (1 : Int32)), .val (.ref dA), .val (.int (1 : Int32)), .val (.int (1 : Int32))] [(.int (1 : Int32)), (.ref dA)])) rfl (by rw [hml]; rfl) (Steps.refl _) (argsL := [(.int (1 : Int32))]) (rest := []) (lenOf pd_LZRI rfl) rfl (by show 2 * 0 + _ ≤ _; exact Nat.le_of_eq rfl) (hb hby at_77) (fun _ _ => ⟨rfl, e4, (by decide : 0 + 0 ≤ _), (by decide : 0 + 0 ≤ _)⟩)
      dsimp only [Pt.U, Pt.locs, Pt.cells, Pt.slots] at X5 l5 y5 z5 st5 hQ5
      subst l5 y5 z5
      obtain ⟨rfl, Nq5, e5⟩ := hQ5
      have N5_ := Fr.app N4_ Nq5
      refine Go.trans st5 ?_
      show Go _ _ _ _ _ _ _ _ T5 (mkF m 80 #[.val (.int x0), .val (.int x1), .val (.int (0 : Int32)), .val (.int (1 : Int32)), .val (.ref dA), .val (.int (1 : Int32)), .val (.int (1 : Int32))] [(.int (1 : Int32))])
      refine Go.step (fun _ k => XS.iload X5.here hx rfl (hb hby at_80) rfl k) ?_
      show Go _ _ _ _ _ _ _ _ T5 (mkF m 82 #[.val (.int x0), .val (.int x1), .val (.int (0 : Int32)), .val (.int (1 : Int32)), .val (.ref dA), .val (.int (1 : Int32)), .val (.int (1 : Int32))] [(.int (1 : Int32)), (.int (1 : Int32))])
      refine Go.step (fun _ k => XS.icmpNo X5.here hx rfl (hb hby at_82) rfl (teq (by decide : (1 : Int32) = (1 : Int32))).2 k) ?_
      show Go _ _ _ _ _ _ _ _ T5 (mkF m 85 #[.val (.int x0), .val (.int x1), .val (.int (0 : Int32)), .val (.int (1 : Int32)), .val (.ref dA), .val (.int (1 : Int32)), .val (.int (1 : Int32))] [])
      refine Go.step (fun _ k => XS.iconst X5.here hx rfl (hb hby at_85)  k) ?_
      show Go _ _ _ _ _ _ _ _ T5 (mkF m 86 #[.val (.int x0), .val (.int x1), .val (.int (0 : Int32)), .val (.int (1 : Int32)), .val (.ref dA), .val (.int (1 : Int32)), .val (.int (1 : Int32))] [(.int (1 : Int32))])
      refine Go.step (fun _ k => XS.goto X5.here hx rfl (pc0 := 86) (pc' := 90) rfl (hb hby at_86) (by decide) (by decide) k) ?_
      show Go _ _ _ _ _ _ _ _ T5 (mkF m 90 #[.val (.int x0), .val (.int x1), .val (.int (0 : Int32)), .val (.int (1 : Int32)), .val (.ref dA), .val (.int (1 : Int32)), .val (.int (1 : Int32))] [(.int (1 : Int32))])
      exact Go.retN X5 hx (t := .boolean) Bd.returns (by simp) hlk (hb hby at_90) (by decide) (by decide) (by show _ ∧ _ ∧ _; rw [e5]; exact ⟨rfl, N5_, rfl⟩)
  · rw [hk]
    show Go _ _ _ _ _ _ _ _ s₁ (mkF m 6 #[.val (.int x0), .val (.int x1), .unset, .unset, .unset, .unset, .unset] [(.int (1 : Int32))])
    refine Go.step (fun _ k => XS.istoreN X0.here hx rfl (hb hby at_6) rfl (l' := #[.val (.int x0), .val (.int x1), .val (.int (1 : Int32)), .unset, .unset, .unset, .unset]) rfl k) ?_
    show Go _ _ _ _ _ _ _ _ s₁ (mkF m 7 #[.val (.int x0), .val (.int x1), .val (.int (1 : Int32)), .unset, .unset, .unset, .unset] [])
    refine Go.step (fun _ k => XS.iloadN X0.here hx rfl (hb hby at_7) rfl k) ?_
    show Go _ _ _ _ _ _ _ _ s₁ (mkF m 8 #[.val (.int x0), .val (.int x1), .val (.int (1 : Int32)), .unset, .unset, .unset, .unset] [(.int x1)])
    refine Go.step (fun _ k => XS.iconst X0.here hx rfl (hb hby at_8)  k) ?_
    show Go _ _ _ _ _ _ _ _ s₁ (mkF m 9 #[.val (.int x0), .val (.int x1), .val (.int (1 : Int32)), .unset, .unset, .unset, .unset] [(.int (1 : Int32)), (.int x1)])
    refine Go.step (fun _ k => XS.iand X0.here hx rfl (hb hby at_9) rfl k) ?_
    show Go _ _ _ _ _ _ _ _ s₁ (mkF m 10 #[.val (.int x0), .val (.int x1), .val (.int (1 : Int32)), .unset, .unset, .unset, .unset] [(.int (x1 &&& (1 : Int32)))])
    by_cases hc10_6 : (x1 &&& (1 : Int32)) = (0 : Int32)
    · refine Go.step (fun _ k => XS.ifYes X0.here hx rfl (pc0 := 10) (pc' := 17) rfl (hb hby at_10) rfl ((if0 _ _).trans (teq hc10_6).1) (by decide) (by decide) k) ?_
      show Go _ _ _ _ _ _ _ _ s₁ (mkF m 17 #[.val (.int x0), .val (.int x1), .val (.int (1 : Int32)), .unset, .unset, .unset, .unset] [])
      refine Go.step (fun _ k => XS.iconst X0.here hx rfl (hb hby at_17)  k) ?_
      show Go _ _ _ _ _ _ _ _ s₁ (mkF m 18 #[.val (.int x0), .val (.int x1), .val (.int (1 : Int32)), .unset, .unset, .unset, .unset] [(.int (0 : Int32))])
      refine Go.step (fun _ k => XS.istoreN X0.here hx rfl (hb hby at_18) rfl (l' := #[.val (.int x0), .val (.int x1), .val (.int (1 : Int32)), .val (.int (0 : Int32)), .unset, .unset, .unset]) rfl k) ?_
      show Go _ _ _ _ _ _ _ _ s₁ (mkF m 19 #[.val (.int x0), .val (.int x1), .val (.int (1 : Int32)), .val (.int (0 : Int32)), .unset, .unset, .unset] [])
      refine Go.step (fun _ k => XS.iloadN X0.here hx rfl (hb hby at_19) rfl k) ?_
      show Go _ _ _ _ _ _ _ _ s₁ (mkF m 20 #[.val (.int x0), .val (.int x1), .val (.int (1 : Int32)), .val (.int (0 : Int32)), .unset, .unset, .unset] [(.int (1 : Int32))])
      obtain ⟨_, _, ⟨T7, L7, k7, n7⟩, -, X7, ⟨Lc7, hQ7, l7, y7, z7⟩, st7⟩ := Jvm.LawKit.callS X0 hx (y := (⟨"com/example/settleline/settleline/gsh/FaultFlagPinLaw", "pick", "(I)Lcom/example/settleline/settleline/gsh/Fault;"⟩ : MethodName)) hown (mvT hZ (hw _ (List.mem_of_getElem? (i := 1) rfl))) (mvT hZ (hw _ (List.mem_of_getElem? (i := 2) rfl))) (mvT hZ (hw _ (List.mem_of_getElem? (i := 3) rfl))) (mvT hZ (hw _ (List.mem_of_getElem? (i := 4) rfl))) (by decide) (backOf (W := 0) (rm_1 l Z a0 hw [] (1 : Int32) dA rA nA rA h0 O0 S_D S_R S_N (by simp)) hZ (hw _ (List.mem_of_getElem? (i := 4) rfl)) (hw _ (List.mem_of_getElem? (i := 3) rfl)) (by decide) (by decide)) (g := (mkF m 20 #[.val (.int x0), .val (.int x1), .val (.int (1 : Int32)), .val (.int (0 : Int32)), .unset, .unset, .unset] [(.int (1 : Int32))])) rfl (by rw [hml]; rfl) (argsL := [(.int (1 : Int32))]) (rest := []) (lenOf pd_LIRLcom_example_settleline_settleline_gsh_Fault_ rfl) rfl (by show 2 * 0 + _ ≤ _; exact Nat.le_of_eq rfl) (hb hby at_20) (fun _ _ => ⟨rfl, e0, (by decide : 0 + 0 ≤ _), (by decide : 0 + 0 ≤ _)⟩)
      dsimp only [Pt.U, Pt.locs, Pt.cells, Pt.slots] at X7 l7 y7 z7 st7 hQ7
      subst l7 y7 z7
      obtain ⟨rfl, Nq7, e7⟩ := hQ7
      have N7_ := Fr.app N0 Nq7
      refine Go.step st7 ?_
      show Go _ _ _ _ _ _ _ _ T7 (mkF m 23 #[.val (.int x0), .val (.int x1), .val (.int (1 : Int32)), .val (.int (0 : Int32)), .unset, .unset, .unset] [(.ref rA)])
      refine Go.step (fun _ k => XS.astore X7.here hx rfl (hb hby at_23) rfl rfl (l' := #[.val (.int x0), .val (.int x1), .val (.int (1 : Int32)), .val (.int (0 : Int32)), .val (.ref rA), .unset, .unset]) rfl k) ?_
      show Go _ _ _ _ _ _ _ _ T7 (mkF m 25 #[.val (.int x0), .val (.int x1), .val (.int (1 : Int32)), .val (.int (0 : Int32)), .val (.ref rA), .unset, .unset] [])
      refine Go.step (fun _ k => XS.iloadN X7.here hx rfl (hb hby at_25) rfl k) ?_
      show Go _ _ _ _ _ _ _ _ T7 (mkF m 26 #[.val (.int x0), .val (.int x1), .val (.int (1 : Int32)), .val (.int (0 : Int32)), .val (.ref rA), .unset, .unset] [(.int (1 : Int32))])
      refine Go.step (fun _ k => XS.iconst X7.here hx rfl (hb hby at_26)  k) ?_
      show Go _ _ _ _ _ _ _ _ T7 (mkF m 27 #[.val (.int x0), .val (.int x1), .val (.int (1 : Int32)), .val (.int (0 : Int32)), .val (.ref rA), .unset, .unset] [(.int (2 : Int32)), (.int (1 : Int32))])
      refine Go.step (fun _ k => XS.icmpYes X7.here hx rfl (pc0 := 27) (pc' := 36) rfl (hb hby at_27) rfl (feq (by decide : ¬ ((1 : Int32) = (2 : Int32)))).2 (by decide) (by decide) k) ?_
      show Go _ _ _ _ _ _ _ _ T7 (mkF m 36 #[.val (.int x0), .val (.int x1), .val (.int (1 : Int32)), .val (.int (0 : Int32)), .val (.ref rA), .unset, .unset] [])
      refine Go.step (fun _ k => XS.iloadN X7.here hx rfl (hb hby at_36) rfl k) ?_
      show Go _ _ _ _ _ _ _ _ T7 (mkF m 37 #[.val (.int x0), .val (.int x1), .val (.int (1 : Int32)), .val (.int (0 : Int32)), .val (.ref rA), .unset, .unset] [(.int (1 : Int32))])
      refine Go.step (fun _ k => XS.ifYes X7.here hx rfl (pc0 := 37) (pc' := 44) rfl (hb hby at_37) rfl ((if0 _ _).trans (feq (by decide : ¬ ((1 : Int32) = (0 : Int32)))).2) (by decide) (by decide) k) ?_
      show Go _ _ _ _ _ _ _ _ T7 (mkF m 44 #[.val (.int x0), .val (.int x1), .val (.int (1 : Int32)), .val (.int (0 : Int32)), .val (.ref rA), .unset, .unset] [])
      refine Go.step (fun _ k => XS.iloadN X7.here hx rfl (hb hby at_44) rfl k) ?_
      show Go _ _ _ _ _ _ _ _ T7 (mkF m 45 #[.val (.int x0), .val (.int x1), .val (.int (1 : Int32)), .val (.int (0 : Int32)), .val (.ref rA), .unset, .unset] [(.int (1 : Int32))])
      refine Go.step (fun _ k => XS.iconst X7.here hx rfl (hb hby at_45)  k) ?_
      show Go _ _ _ _ _ _ _ _ T7 (mkF m 46 #[.val (.int x0), .val (.int x1), .val (.int (1 : Int32)), .val (.int (0 : Int32)), .val (.ref rA), .unset, .unset] [(.int (1 : Int32)), (.int (1 : Int32))])
      refine Go.step (fun _ k => XS.icmpNo X7.here hx rfl (hb hby at_46) rfl (teq (by decide : (1 : Int32) = (1 : Int32))).2 k) ?_
      show Go _ _ _ _ _ _ _ _ T7 (mkF m 49 #[.val (.int x0), .val (.int x1), .val (.int (1 : Int32)), .val (.int (0 : Int32)), .val (.ref rA), .unset, .unset] [])
      refine Go.step (fun _ k => XS.iloadN X7.here hx rfl (hb hby at_49) rfl k) ?_
      show Go _ _ _ _ _ _ _ _ T7 (mkF m 50 #[.val (.int x0), .val (.int x1), .val (.int (1 : Int32)), .val (.int (0 : Int32)), .val (.ref rA), .unset, .unset] [(.int (0 : Int32))])
      refine Go.step (fun _ k => XS.ifNo X7.here hx rfl (hb hby at_50) rfl ((if0 _ _).trans (teq (by decide : (0 : Int32) = (0 : Int32))).2) k) ?_
      show Go _ _ _ _ _ _ _ _ T7 (mkF m 53 #[.val (.int x0), .val (.int x1), .val (.int (1 : Int32)), .val (.int (0 : Int32)), .val (.ref rA), .unset, .unset] [])
      refine Go.step (fun _ k => XS.iconst X7.here hx rfl (hb hby at_53)  k) ?_
      show Go _ _ _ _ _ _ _ _ T7 (mkF m 54 #[.val (.int x0), .val (.int x1), .val (.int (1 : Int32)), .val (.int (0 : Int32)), .val (.ref rA), .unset, .unset] [(.int (1 : Int32))])
      refine Go.step (fun _ k => XS.goto X7.here hx rfl (pc0 := 54) (pc' := 58) rfl (hb hby at_54) (by decide) (by decide) k) ?_
      show Go _ _ _ _ _ _ _ _ T7 (mkF m 58 #[.val (.int x0), .val (.int x1), .val (.int (1 : Int32)), .val (.int (0 : Int32)), .val (.ref rA), .unset, .unset] [(.int (1 : Int32))])
      refine Go.step (fun _ k => XS.istore X7.here hx rfl (hb hby at_58) rfl (l' := #[.val (.int x0), .val (.int x1), .val (.int (1 : Int32)), .val (.int (0 : Int32)), .val (.ref rA), .unset, .val (.int (1 : Int32))]) rfl k) ?_
      show Go _ _ _ _ _ _ _ _ T7 (mkF m 60 #[.val (.int x0), .val (.int x1), .val (.int (1 : Int32)), .val (.int (0 : Int32)), .val (.ref rA), .unset, .val (.int (1 : Int32))] [])
      refine Go.step (fun _ k => XS.iload X7.here hx rfl (hb hby at_60) rfl k) ?_
      show Go _ _ _ _ _ _ _ _ T7 (mkF m 62 #[.val (.int x0), .val (.int x1), .val (.int (1 : Int32)), .val (.int (0 : Int32)), .val (.ref rA), .unset, .val (.int (1 : Int32))] [(.int (1 : Int32))])
      refine Go.step (fun _ k => XS.ifNo X7.here hx rfl (hb hby at_62) rfl ((if0 _ _).trans (feq (by decide : ¬ ((1 : Int32) = (0 : Int32)))).1) k) ?_
      show Go _ _ _ _ _ _ _ _ T7 (mkF m 65 #[.val (.int x0), .val (.int x1), .val (.int (1 : Int32)), .val (.int (0 : Int32)), .val (.ref rA), .unset, .val (.int (1 : Int32))] [])
      refine Go.step (fun _ k => XS.iconst X7.here hx rfl (hb hby at_65)  k) ?_
      show Go _ _ _ _ _ _ _ _ T7 (mkF m 66 #[.val (.int x0), .val (.int x1), .val (.int (1 : Int32)), .val (.int (0 : Int32)), .val (.ref rA), .unset, .val (.int (1 : Int32))] [(.int (1 : Int32))])
      refine Go.step (fun _ k => XS.istore X7.here hx rfl (hb hby at_66) rfl (l' := #[.val (.int x0), .val (.int x1), .val (.int (1 : Int32)), .val (.int (0 : Int32)), .val (.ref rA), .val (.int (1 : Int32)), .val (.int (1 : Int32))]) rfl k) ?_
      show Go _ _ _ _ _ _ _ _ T7 (mkF m 68 #[.val (.int x0), .val (.int x1), .val (.int (1 : Int32)), .val (.int (0 : Int32)), .val (.ref rA), .val (.int (1 : Int32)), .val (.int (1 : Int32))] [])
      refine Go.step (fun _ k => XS.goto X7.here hx rfl (pc0 := 68) (pc' := 74) rfl (hb hby at_68) (by decide) (by decide) k) ?_
      show Go _ _ _ _ _ _ _ _ T7 (mkF m 74 #[.val (.int x0), .val (.int x1), .val (.int (1 : Int32)), .val (.int (0 : Int32)), .val (.ref rA), .val (.int (1 : Int32)), .val (.int (1 : Int32))] [])
      refine Go.step (fun _ k => XS.aload X7.here hx rfl (hb hby at_74) rfl rfl k) ?_
      show Go _ _ _ _ _ _ _ _ T7 (mkF m 76 #[.val (.int x0), .val (.int x1), .val (.int (1 : Int32)), .val (.int (0 : Int32)), .val (.ref rA), .val (.int (1 : Int32)), .val (.int (1 : Int32))] [(.ref rA)])
      refine Go.step (fun _ k => XS.iloadN X7.here hx rfl (hb hby at_76) rfl k) ?_
      show Go _ _ _ _ _ _ _ _ T7 (mkF m 77 #[.val (.int x0), .val (.int x1), .val (.int (1 : Int32)), .val (.int (0 : Int32)), .val (.ref rA), .val (.int (1 : Int32)), .val (.int (1 : Int32))] [(.int (0 : Int32)), (.ref rA)])
      obtain ⟨cq8, kq8, q8a, q8b, q8c⟩ := isOf hZ e7 (Exa.ext O0 X_R)
      obtain ⟨_, _, ⟨T8, L8, k8, n8⟩, -, X8, ⟨Lc8, hQ8, l8, y8, z8⟩, st8⟩ := X7.virtualBack hx (y := (⟨"com/example/settleline/settleline/gsh/Fault", "flag", "(Z)I"⟩ : MethodName)) (z := (⟨"com/example/settleline/settleline/gsh/Fault", "flag", "(Z)I"⟩ : MethodName)) hown (mvT hZ (hw _ (List.mem_of_getElem? (i := 8) rfl))) (mvT hZ (hw _ (List.mem_of_getElem? (i := 9) rfl))) (notFace_of_selects (args := #[]) (mvT hZ (hw _ (List.mem_of_getElem? (i := 11) rfl)))) (mvT hZ (hw _ (List.mem_of_getElem? (i := 11) rfl))) (mvT hZ (hw _ (List.mem_of_getElem? (i := 10) rfl))) (by decide) (backOf (W := 0) (rm_2 l Z a0 hw [] rA (0 : Int32) (-1 : Int32) (1 : Int32) h0 O0 F_R (by decide)) hZ (hw _ (List.mem_of_getElem? (i := 12) rfl)) (hw _ (List.mem_of_getElem? (i := 6) rfl)) (by decide) (by decide)) q8a q8c (g := (mkF m 77 #[.val (.int x0), .val (.int x1), .val (.int (1 : Int32)), .val (.int (0 : Int32)), .val (.ref rA), .val (.int (1 : Int32)), .val (.int (1 : Int32))] [(.int (0 : Int32)), (.ref rA)])) rfl (by rw [hml]; rfl) (Steps.refl _) (argsL := [(.int (0 : Int32))]) (rest := []) (lenOf pd_LZRI rfl) rfl (by show 2 * 0 + _ ≤ _; exact Nat.le_of_eq rfl) (hb hby at_77) (fun _ _ => ⟨rfl, e7, (by decide : 0 + 0 ≤ _), (by decide : 0 + 0 ≤ _)⟩)
      dsimp only [Pt.U, Pt.locs, Pt.cells, Pt.slots] at X8 l8 y8 z8 st8 hQ8
      subst l8 y8 z8
      obtain ⟨rfl, Nq8, e8⟩ := hQ8
      have N8_ := Fr.app N7_ Nq8
      refine Go.trans st8 ?_
      show Go _ _ _ _ _ _ _ _ T8 (mkF m 80 #[.val (.int x0), .val (.int x1), .val (.int (1 : Int32)), .val (.int (0 : Int32)), .val (.ref rA), .val (.int (1 : Int32)), .val (.int (1 : Int32))] [(.int (1 : Int32))])
      refine Go.step (fun _ k => XS.iload X8.here hx rfl (hb hby at_80) rfl k) ?_
      show Go _ _ _ _ _ _ _ _ T8 (mkF m 82 #[.val (.int x0), .val (.int x1), .val (.int (1 : Int32)), .val (.int (0 : Int32)), .val (.ref rA), .val (.int (1 : Int32)), .val (.int (1 : Int32))] [(.int (1 : Int32)), (.int (1 : Int32))])
      refine Go.step (fun _ k => XS.icmpNo X8.here hx rfl (hb hby at_82) rfl (teq (by decide : (1 : Int32) = (1 : Int32))).2 k) ?_
      show Go _ _ _ _ _ _ _ _ T8 (mkF m 85 #[.val (.int x0), .val (.int x1), .val (.int (1 : Int32)), .val (.int (0 : Int32)), .val (.ref rA), .val (.int (1 : Int32)), .val (.int (1 : Int32))] [])
      refine Go.step (fun _ k => XS.iconst X8.here hx rfl (hb hby at_85)  k) ?_
      show Go _ _ _ _ _ _ _ _ T8 (mkF m 86 #[.val (.int x0), .val (.int x1), .val (.int (1 : Int32)), .val (.int (0 : Int32)), .val (.ref rA), .val (.int (1 : Int32)), .val (.int (1 : Int32))] [(.int (1 : Int32))])
      refine Go.step (fun _ k => XS.goto X8.here hx rfl (pc0 := 86) (pc' := 90) rfl (hb hby at_86) (by decide) (by decide) k) ?_
      show Go _ _ _ _ _ _ _ _ T8 (mkF m 90 #[.val (.int x0), .val (.int x1), .val (.int (1 : Int32)), .val (.int (0 : Int32)), .val (.ref rA), .val (.int (1 : Int32)), .val (.int (1 : Int32))] [(.int (1 : Int32))])
      exact Go.retN X8 hx (t := .boolean) Bd.returns (by simp) hlk (hb hby at_90) (by decide) (by decide) (by show _ ∧ _ ∧ _; rw [e8]; exact ⟨rfl, N8_, rfl⟩)
    · refine Go.step (fun _ k => XS.ifNo X0.here hx rfl (hb hby at_10) rfl ((if0 _ _).trans (feq hc10_6).1) k) ?_
      show Go _ _ _ _ _ _ _ _ s₁ (mkF m 13 #[.val (.int x0), .val (.int x1), .val (.int (1 : Int32)), .unset, .unset, .unset, .unset] [])
      refine Go.step (fun _ k => XS.iconst X0.here hx rfl (hb hby at_13)  k) ?_
      show Go _ _ _ _ _ _ _ _ s₁ (mkF m 14 #[.val (.int x0), .val (.int x1), .val (.int (1 : Int32)), .unset, .unset, .unset, .unset] [(.int (1 : Int32))])
      refine Go.step (fun _ k => XS.goto X0.here hx rfl (pc0 := 14) (pc' := 18) rfl (hb hby at_14) (by decide) (by decide) k) ?_
      show Go _ _ _ _ _ _ _ _ s₁ (mkF m 18 #[.val (.int x0), .val (.int x1), .val (.int (1 : Int32)), .unset, .unset, .unset, .unset] [(.int (1 : Int32))])
      refine Go.step (fun _ k => XS.istoreN X0.here hx rfl (hb hby at_18) rfl (l' := #[.val (.int x0), .val (.int x1), .val (.int (1 : Int32)), .val (.int (1 : Int32)), .unset, .unset, .unset]) rfl k) ?_
      show Go _ _ _ _ _ _ _ _ s₁ (mkF m 19 #[.val (.int x0), .val (.int x1), .val (.int (1 : Int32)), .val (.int (1 : Int32)), .unset, .unset, .unset] [])
      refine Go.step (fun _ k => XS.iloadN X0.here hx rfl (hb hby at_19) rfl k) ?_
      show Go _ _ _ _ _ _ _ _ s₁ (mkF m 20 #[.val (.int x0), .val (.int x1), .val (.int (1 : Int32)), .val (.int (1 : Int32)), .unset, .unset, .unset] [(.int (1 : Int32))])
      obtain ⟨_, _, ⟨T9, L9, k9, n9⟩, -, X9, ⟨Lc9, hQ9, l9, y9, z9⟩, st9⟩ := Jvm.LawKit.callS X0 hx (y := (⟨"com/example/settleline/settleline/gsh/FaultFlagPinLaw", "pick", "(I)Lcom/example/settleline/settleline/gsh/Fault;"⟩ : MethodName)) hown (mvT hZ (hw _ (List.mem_of_getElem? (i := 1) rfl))) (mvT hZ (hw _ (List.mem_of_getElem? (i := 2) rfl))) (mvT hZ (hw _ (List.mem_of_getElem? (i := 3) rfl))) (mvT hZ (hw _ (List.mem_of_getElem? (i := 4) rfl))) (by decide) (backOf (W := 0) (rm_1 l Z a0 hw [] (1 : Int32) dA rA nA rA h0 O0 S_D S_R S_N (by simp)) hZ (hw _ (List.mem_of_getElem? (i := 4) rfl)) (hw _ (List.mem_of_getElem? (i := 3) rfl)) (by decide) (by decide)) (g := (mkF m 20 #[.val (.int x0), .val (.int x1), .val (.int (1 : Int32)), .val (.int (1 : Int32)), .unset, .unset, .unset] [(.int (1 : Int32))])) rfl (by rw [hml]; rfl) (argsL := [(.int (1 : Int32))]) (rest := []) (lenOf pd_LIRLcom_example_settleline_settleline_gsh_Fault_ rfl) rfl (by show 2 * 0 + _ ≤ _; exact Nat.le_of_eq rfl) (hb hby at_20) (fun _ _ => ⟨rfl, e0, (by decide : 0 + 0 ≤ _), (by decide : 0 + 0 ≤ _)⟩)
      dsimp only [Pt.U, Pt.locs, Pt.cells, Pt.slots] at X9 l9 y9 z9 st9 hQ9
      subst l9 y9 z9
      obtain ⟨rfl, Nq9, e9⟩ := hQ9
      have N9_ := Fr.app N0 Nq9
      refine Go.step st9 ?_
      show Go _ _ _ _ _ _ _ _ T9 (mkF m 23 #[.val (.int x0), .val (.int x1), .val (.int (1 : Int32)), .val (.int (1 : Int32)), .unset, .unset, .unset] [(.ref rA)])
      refine Go.step (fun _ k => XS.astore X9.here hx rfl (hb hby at_23) rfl rfl (l' := #[.val (.int x0), .val (.int x1), .val (.int (1 : Int32)), .val (.int (1 : Int32)), .val (.ref rA), .unset, .unset]) rfl k) ?_
      show Go _ _ _ _ _ _ _ _ T9 (mkF m 25 #[.val (.int x0), .val (.int x1), .val (.int (1 : Int32)), .val (.int (1 : Int32)), .val (.ref rA), .unset, .unset] [])
      refine Go.step (fun _ k => XS.iloadN X9.here hx rfl (hb hby at_25) rfl k) ?_
      show Go _ _ _ _ _ _ _ _ T9 (mkF m 26 #[.val (.int x0), .val (.int x1), .val (.int (1 : Int32)), .val (.int (1 : Int32)), .val (.ref rA), .unset, .unset] [(.int (1 : Int32))])
      refine Go.step (fun _ k => XS.iconst X9.here hx rfl (hb hby at_26)  k) ?_
      show Go _ _ _ _ _ _ _ _ T9 (mkF m 27 #[.val (.int x0), .val (.int x1), .val (.int (1 : Int32)), .val (.int (1 : Int32)), .val (.ref rA), .unset, .unset] [(.int (2 : Int32)), (.int (1 : Int32))])
      refine Go.step (fun _ k => XS.icmpYes X9.here hx rfl (pc0 := 27) (pc' := 36) rfl (hb hby at_27) rfl (feq (by decide : ¬ ((1 : Int32) = (2 : Int32)))).2 (by decide) (by decide) k) ?_
      show Go _ _ _ _ _ _ _ _ T9 (mkF m 36 #[.val (.int x0), .val (.int x1), .val (.int (1 : Int32)), .val (.int (1 : Int32)), .val (.ref rA), .unset, .unset] [])
      refine Go.step (fun _ k => XS.iloadN X9.here hx rfl (hb hby at_36) rfl k) ?_
      show Go _ _ _ _ _ _ _ _ T9 (mkF m 37 #[.val (.int x0), .val (.int x1), .val (.int (1 : Int32)), .val (.int (1 : Int32)), .val (.ref rA), .unset, .unset] [(.int (1 : Int32))])
      refine Go.step (fun _ k => XS.ifYes X9.here hx rfl (pc0 := 37) (pc' := 44) rfl (hb hby at_37) rfl ((if0 _ _).trans (feq (by decide : ¬ ((1 : Int32) = (0 : Int32)))).2) (by decide) (by decide) k) ?_
      show Go _ _ _ _ _ _ _ _ T9 (mkF m 44 #[.val (.int x0), .val (.int x1), .val (.int (1 : Int32)), .val (.int (1 : Int32)), .val (.ref rA), .unset, .unset] [])
      refine Go.step (fun _ k => XS.iloadN X9.here hx rfl (hb hby at_44) rfl k) ?_
      show Go _ _ _ _ _ _ _ _ T9 (mkF m 45 #[.val (.int x0), .val (.int x1), .val (.int (1 : Int32)), .val (.int (1 : Int32)), .val (.ref rA), .unset, .unset] [(.int (1 : Int32))])
      refine Go.step (fun _ k => XS.iconst X9.here hx rfl (hb hby at_45)  k) ?_
      show Go _ _ _ _ _ _ _ _ T9 (mkF m 46 #[.val (.int x0), .val (.int x1), .val (.int (1 : Int32)), .val (.int (1 : Int32)), .val (.ref rA), .unset, .unset] [(.int (1 : Int32)), (.int (1 : Int32))])
      refine Go.step (fun _ k => XS.icmpNo X9.here hx rfl (hb hby at_46) rfl (teq (by decide : (1 : Int32) = (1 : Int32))).2 k) ?_
      show Go _ _ _ _ _ _ _ _ T9 (mkF m 49 #[.val (.int x0), .val (.int x1), .val (.int (1 : Int32)), .val (.int (1 : Int32)), .val (.ref rA), .unset, .unset] [])
      refine Go.step (fun _ k => XS.iloadN X9.here hx rfl (hb hby at_49) rfl k) ?_
      show Go _ _ _ _ _ _ _ _ T9 (mkF m 50 #[.val (.int x0), .val (.int x1), .val (.int (1 : Int32)), .val (.int (1 : Int32)), .val (.ref rA), .unset, .unset] [(.int (1 : Int32))])
      refine Go.step (fun _ k => XS.ifYes X9.here hx rfl (pc0 := 50) (pc' := 57) rfl (hb hby at_50) rfl ((if0 _ _).trans (feq (by decide : ¬ ((1 : Int32) = (0 : Int32)))).2) (by decide) (by decide) k) ?_
      show Go _ _ _ _ _ _ _ _ T9 (mkF m 57 #[.val (.int x0), .val (.int x1), .val (.int (1 : Int32)), .val (.int (1 : Int32)), .val (.ref rA), .unset, .unset] [])
      refine Go.step (fun _ k => XS.iconst X9.here hx rfl (hb hby at_57)  k) ?_
      show Go _ _ _ _ _ _ _ _ T9 (mkF m 58 #[.val (.int x0), .val (.int x1), .val (.int (1 : Int32)), .val (.int (1 : Int32)), .val (.ref rA), .unset, .unset] [(.int (0 : Int32))])
      refine Go.step (fun _ k => XS.istore X9.here hx rfl (hb hby at_58) rfl (l' := #[.val (.int x0), .val (.int x1), .val (.int (1 : Int32)), .val (.int (1 : Int32)), .val (.ref rA), .unset, .val (.int (0 : Int32))]) rfl k) ?_
      show Go _ _ _ _ _ _ _ _ T9 (mkF m 60 #[.val (.int x0), .val (.int x1), .val (.int (1 : Int32)), .val (.int (1 : Int32)), .val (.ref rA), .unset, .val (.int (0 : Int32))] [])
      refine Go.step (fun _ k => XS.iload X9.here hx rfl (hb hby at_60) rfl k) ?_
      show Go _ _ _ _ _ _ _ _ T9 (mkF m 62 #[.val (.int x0), .val (.int x1), .val (.int (1 : Int32)), .val (.int (1 : Int32)), .val (.ref rA), .unset, .val (.int (0 : Int32))] [(.int (0 : Int32))])
      refine Go.step (fun _ k => XS.ifYes X9.here hx rfl (pc0 := 62) (pc' := 71) rfl (hb hby at_62) rfl ((if0 _ _).trans (teq (by decide : (0 : Int32) = (0 : Int32))).1) (by decide) (by decide) k) ?_
      show Go _ _ _ _ _ _ _ _ T9 (mkF m 71 #[.val (.int x0), .val (.int x1), .val (.int (1 : Int32)), .val (.int (1 : Int32)), .val (.ref rA), .unset, .val (.int (0 : Int32))] [])
      refine Go.step (fun _ k => XS.iconst X9.here hx rfl (hb hby at_71)  k) ?_
      show Go _ _ _ _ _ _ _ _ T9 (mkF m 72 #[.val (.int x0), .val (.int x1), .val (.int (1 : Int32)), .val (.int (1 : Int32)), .val (.ref rA), .unset, .val (.int (0 : Int32))] [(.int (-1 : Int32))])
      refine Go.step (fun _ k => XS.istore X9.here hx rfl (hb hby at_72) rfl (l' := #[.val (.int x0), .val (.int x1), .val (.int (1 : Int32)), .val (.int (1 : Int32)), .val (.ref rA), .val (.int (-1 : Int32)), .val (.int (0 : Int32))]) rfl k) ?_
      show Go _ _ _ _ _ _ _ _ T9 (mkF m 74 #[.val (.int x0), .val (.int x1), .val (.int (1 : Int32)), .val (.int (1 : Int32)), .val (.ref rA), .val (.int (-1 : Int32)), .val (.int (0 : Int32))] [])
      refine Go.step (fun _ k => XS.aload X9.here hx rfl (hb hby at_74) rfl rfl k) ?_
      show Go _ _ _ _ _ _ _ _ T9 (mkF m 76 #[.val (.int x0), .val (.int x1), .val (.int (1 : Int32)), .val (.int (1 : Int32)), .val (.ref rA), .val (.int (-1 : Int32)), .val (.int (0 : Int32))] [(.ref rA)])
      refine Go.step (fun _ k => XS.iloadN X9.here hx rfl (hb hby at_76) rfl k) ?_
      show Go _ _ _ _ _ _ _ _ T9 (mkF m 77 #[.val (.int x0), .val (.int x1), .val (.int (1 : Int32)), .val (.int (1 : Int32)), .val (.ref rA), .val (.int (-1 : Int32)), .val (.int (0 : Int32))] [(.int (1 : Int32)), (.ref rA)])
      obtain ⟨cq10, kq10, q10a, q10b, q10c⟩ := isOf hZ e9 (Exa.ext O0 X_R)
      obtain ⟨_, _, ⟨T10, L10, k10, n10⟩, -, X10, ⟨Lc10, hQ10, l10, y10, z10⟩, st10⟩ := X9.virtualBack hx (y := (⟨"com/example/settleline/settleline/gsh/Fault", "flag", "(Z)I"⟩ : MethodName)) (z := (⟨"com/example/settleline/settleline/gsh/Fault", "flag", "(Z)I"⟩ : MethodName)) hown (mvT hZ (hw _ (List.mem_of_getElem? (i := 8) rfl))) (mvT hZ (hw _ (List.mem_of_getElem? (i := 9) rfl))) (notFace_of_selects (args := #[]) (mvT hZ (hw _ (List.mem_of_getElem? (i := 11) rfl)))) (mvT hZ (hw _ (List.mem_of_getElem? (i := 11) rfl))) (mvT hZ (hw _ (List.mem_of_getElem? (i := 10) rfl))) (by decide) (backOf (W := 0) (rm_2 l Z a0 hw [] rA (1 : Int32) (-1 : Int32) (-1 : Int32) h0 O0 F_R (by decide)) hZ (hw _ (List.mem_of_getElem? (i := 12) rfl)) (hw _ (List.mem_of_getElem? (i := 6) rfl)) (by decide) (by decide)) q10a q10c (g := (mkF m 77 #[.val (.int x0), .val (.int x1), .val (.int (1 : Int32)), .val (.int (1 : Int32)), .val (.ref rA), .val (.int (-1 : Int32)), .val (.int (0 : Int32))] [(.int (1 : Int32)), (.ref rA)])) rfl (by rw [hml]; rfl) (Steps.refl _) (argsL := [(.int (1 : Int32))]) (rest := []) (lenOf pd_LZRI rfl) rfl (by show 2 * 0 + _ ≤ _; exact Nat.le_of_eq rfl) (hb hby at_77) (fun _ _ => ⟨rfl, e9, (by decide : 0 + 0 ≤ _), (by decide : 0 + 0 ≤ _)⟩)
      dsimp only [Pt.U, Pt.locs, Pt.cells, Pt.slots] at X10 l10 y10 z10 st10 hQ10
      subst l10 y10 z10
      obtain ⟨rfl, Nq10, e10⟩ := hQ10
      have N10_ := Fr.app N9_ Nq10
      refine Go.trans st10 ?_
      show Go _ _ _ _ _ _ _ _ T10 (mkF m 80 #[.val (.int x0), .val (.int x1), .val (.int (1 : Int32)), .val (.int (1 : Int32)), .val (.ref rA), .val (.int (-1 : Int32)), .val (.int (0 : Int32))] [(.int (-1 : Int32))])
      refine Go.step (fun _ k => XS.iload X10.here hx rfl (hb hby at_80) rfl k) ?_
      show Go _ _ _ _ _ _ _ _ T10 (mkF m 82 #[.val (.int x0), .val (.int x1), .val (.int (1 : Int32)), .val (.int (1 : Int32)), .val (.ref rA), .val (.int (-1 : Int32)), .val (.int (0 : Int32))] [(.int (-1 : Int32)), (.int (-1 : Int32))])
      refine Go.step (fun _ k => XS.icmpNo X10.here hx rfl (hb hby at_82) rfl (teq (by decide : (-1 : Int32) = (-1 : Int32))).2 k) ?_
      show Go _ _ _ _ _ _ _ _ T10 (mkF m 85 #[.val (.int x0), .val (.int x1), .val (.int (1 : Int32)), .val (.int (1 : Int32)), .val (.ref rA), .val (.int (-1 : Int32)), .val (.int (0 : Int32))] [])
      refine Go.step (fun _ k => XS.iconst X10.here hx rfl (hb hby at_85)  k) ?_
      show Go _ _ _ _ _ _ _ _ T10 (mkF m 86 #[.val (.int x0), .val (.int x1), .val (.int (1 : Int32)), .val (.int (1 : Int32)), .val (.ref rA), .val (.int (-1 : Int32)), .val (.int (0 : Int32))] [(.int (1 : Int32))])
      refine Go.step (fun _ k => XS.goto X10.here hx rfl (pc0 := 86) (pc' := 90) rfl (hb hby at_86) (by decide) (by decide) k) ?_
      show Go _ _ _ _ _ _ _ _ T10 (mkF m 90 #[.val (.int x0), .val (.int x1), .val (.int (1 : Int32)), .val (.int (1 : Int32)), .val (.ref rA), .val (.int (-1 : Int32)), .val (.int (0 : Int32))] [(.int (1 : Int32))])
      exact Go.retN X10 hx (t := .boolean) Bd.returns (by simp) hlk (hb hby at_90) (by decide) (by decide) (by show _ ∧ _ ∧ _; rw [e10]; exact ⟨rfl, N10_, rfl⟩)
  · rw [hk]
    show Go _ _ _ _ _ _ _ _ s₁ (mkF m 6 #[.val (.int x0), .val (.int x1), .unset, .unset, .unset, .unset, .unset] [(.int (2 : Int32))])
    refine Go.step (fun _ k => XS.istoreN X0.here hx rfl (hb hby at_6) rfl (l' := #[.val (.int x0), .val (.int x1), .val (.int (2 : Int32)), .unset, .unset, .unset, .unset]) rfl k) ?_
    show Go _ _ _ _ _ _ _ _ s₁ (mkF m 7 #[.val (.int x0), .val (.int x1), .val (.int (2 : Int32)), .unset, .unset, .unset, .unset] [])
    refine Go.step (fun _ k => XS.iloadN X0.here hx rfl (hb hby at_7) rfl k) ?_
    show Go _ _ _ _ _ _ _ _ s₁ (mkF m 8 #[.val (.int x0), .val (.int x1), .val (.int (2 : Int32)), .unset, .unset, .unset, .unset] [(.int x1)])
    refine Go.step (fun _ k => XS.iconst X0.here hx rfl (hb hby at_8)  k) ?_
    show Go _ _ _ _ _ _ _ _ s₁ (mkF m 9 #[.val (.int x0), .val (.int x1), .val (.int (2 : Int32)), .unset, .unset, .unset, .unset] [(.int (1 : Int32)), (.int x1)])
    refine Go.step (fun _ k => XS.iand X0.here hx rfl (hb hby at_9) rfl k) ?_
    show Go _ _ _ _ _ _ _ _ s₁ (mkF m 10 #[.val (.int x0), .val (.int x1), .val (.int (2 : Int32)), .unset, .unset, .unset, .unset] [(.int (x1 &&& (1 : Int32)))])
    by_cases hc10_11 : (x1 &&& (1 : Int32)) = (0 : Int32)
    · refine Go.step (fun _ k => XS.ifYes X0.here hx rfl (pc0 := 10) (pc' := 17) rfl (hb hby at_10) rfl ((if0 _ _).trans (teq hc10_11).1) (by decide) (by decide) k) ?_
      show Go _ _ _ _ _ _ _ _ s₁ (mkF m 17 #[.val (.int x0), .val (.int x1), .val (.int (2 : Int32)), .unset, .unset, .unset, .unset] [])
      refine Go.step (fun _ k => XS.iconst X0.here hx rfl (hb hby at_17)  k) ?_
      show Go _ _ _ _ _ _ _ _ s₁ (mkF m 18 #[.val (.int x0), .val (.int x1), .val (.int (2 : Int32)), .unset, .unset, .unset, .unset] [(.int (0 : Int32))])
      refine Go.step (fun _ k => XS.istoreN X0.here hx rfl (hb hby at_18) rfl (l' := #[.val (.int x0), .val (.int x1), .val (.int (2 : Int32)), .val (.int (0 : Int32)), .unset, .unset, .unset]) rfl k) ?_
      show Go _ _ _ _ _ _ _ _ s₁ (mkF m 19 #[.val (.int x0), .val (.int x1), .val (.int (2 : Int32)), .val (.int (0 : Int32)), .unset, .unset, .unset] [])
      refine Go.step (fun _ k => XS.iloadN X0.here hx rfl (hb hby at_19) rfl k) ?_
      show Go _ _ _ _ _ _ _ _ s₁ (mkF m 20 #[.val (.int x0), .val (.int x1), .val (.int (2 : Int32)), .val (.int (0 : Int32)), .unset, .unset, .unset] [(.int (2 : Int32))])
      obtain ⟨_, _, ⟨T12, L12, k12, n12⟩, -, X12, ⟨Lc12, hQ12, l12, y12, z12⟩, st12⟩ := Jvm.LawKit.callS X0 hx (y := (⟨"com/example/settleline/settleline/gsh/FaultFlagPinLaw", "pick", "(I)Lcom/example/settleline/settleline/gsh/Fault;"⟩ : MethodName)) hown (mvT hZ (hw _ (List.mem_of_getElem? (i := 1) rfl))) (mvT hZ (hw _ (List.mem_of_getElem? (i := 2) rfl))) (mvT hZ (hw _ (List.mem_of_getElem? (i := 3) rfl))) (mvT hZ (hw _ (List.mem_of_getElem? (i := 4) rfl))) (by decide) (backOf (W := 0) (rm_1 l Z a0 hw [] (2 : Int32) dA rA nA nA h0 O0 S_D S_R S_N (by simp)) hZ (hw _ (List.mem_of_getElem? (i := 4) rfl)) (hw _ (List.mem_of_getElem? (i := 3) rfl)) (by decide) (by decide)) (g := (mkF m 20 #[.val (.int x0), .val (.int x1), .val (.int (2 : Int32)), .val (.int (0 : Int32)), .unset, .unset, .unset] [(.int (2 : Int32))])) rfl (by rw [hml]; rfl) (argsL := [(.int (2 : Int32))]) (rest := []) (lenOf pd_LIRLcom_example_settleline_settleline_gsh_Fault_ rfl) rfl (by show 2 * 0 + _ ≤ _; exact Nat.le_of_eq rfl) (hb hby at_20) (fun _ _ => ⟨rfl, e0, (by decide : 0 + 0 ≤ _), (by decide : 0 + 0 ≤ _)⟩)
      dsimp only [Pt.U, Pt.locs, Pt.cells, Pt.slots] at X12 l12 y12 z12 st12 hQ12
      subst l12 y12 z12
      obtain ⟨rfl, Nq12, e12⟩ := hQ12
      have N12_ := Fr.app N0 Nq12
      refine Go.step st12 ?_
      show Go _ _ _ _ _ _ _ _ T12 (mkF m 23 #[.val (.int x0), .val (.int x1), .val (.int (2 : Int32)), .val (.int (0 : Int32)), .unset, .unset, .unset] [(.ref nA)])
      refine Go.step (fun _ k => XS.astore X12.here hx rfl (hb hby at_23) rfl rfl (l' := #[.val (.int x0), .val (.int x1), .val (.int (2 : Int32)), .val (.int (0 : Int32)), .val (.ref nA), .unset, .unset]) rfl k) ?_
      show Go _ _ _ _ _ _ _ _ T12 (mkF m 25 #[.val (.int x0), .val (.int x1), .val (.int (2 : Int32)), .val (.int (0 : Int32)), .val (.ref nA), .unset, .unset] [])
      refine Go.step (fun _ k => XS.iloadN X12.here hx rfl (hb hby at_25) rfl k) ?_
      show Go _ _ _ _ _ _ _ _ T12 (mkF m 26 #[.val (.int x0), .val (.int x1), .val (.int (2 : Int32)), .val (.int (0 : Int32)), .val (.ref nA), .unset, .unset] [(.int (2 : Int32))])
      refine Go.step (fun _ k => XS.iconst X12.here hx rfl (hb hby at_26)  k) ?_
      show Go _ _ _ _ _ _ _ _ T12 (mkF m 27 #[.val (.int x0), .val (.int x1), .val (.int (2 : Int32)), .val (.int (0 : Int32)), .val (.ref nA), .unset, .unset] [(.int (2 : Int32)), (.int (2 : Int32))])
      refine Go.step (fun _ k => XS.icmpNo X12.here hx rfl (hb hby at_27) rfl (teq (by decide : (2 : Int32) = (2 : Int32))).2 k) ?_
      show Go _ _ _ _ _ _ _ _ T12 (mkF m 30 #[.val (.int x0), .val (.int x1), .val (.int (2 : Int32)), .val (.int (0 : Int32)), .val (.ref nA), .unset, .unset] [])
      refine Go.step (fun _ k => XS.iconst X12.here hx rfl (hb hby at_30)  k) ?_
      show Go _ _ _ _ _ _ _ _ T12 (mkF m 31 #[.val (.int x0), .val (.int x1), .val (.int (2 : Int32)), .val (.int (0 : Int32)), .val (.ref nA), .unset, .unset] [(.int (0 : Int32))])
      refine Go.step (fun _ k => XS.istore X12.here hx rfl (hb hby at_31) rfl (l' := #[.val (.int x0), .val (.int x1), .val (.int (2 : Int32)), .val (.int (0 : Int32)), .val (.ref nA), .val (.int (0 : Int32)), .unset]) rfl k) ?_
      show Go _ _ _ _ _ _ _ _ T12 (mkF m 33 #[.val (.int x0), .val (.int x1), .val (.int (2 : Int32)), .val (.int (0 : Int32)), .val (.ref nA), .val (.int (0 : Int32)), .unset] [])
      refine Go.step (fun _ k => XS.goto X12.here hx rfl (pc0 := 33) (pc' := 74) rfl (hb hby at_33) (by decide) (by decide) k) ?_
      show Go _ _ _ _ _ _ _ _ T12 (mkF m 74 #[.val (.int x0), .val (.int x1), .val (.int (2 : Int32)), .val (.int (0 : Int32)), .val (.ref nA), .val (.int (0 : Int32)), .unset] [])
      refine Go.step (fun _ k => XS.aload X12.here hx rfl (hb hby at_74) rfl rfl k) ?_
      show Go _ _ _ _ _ _ _ _ T12 (mkF m 76 #[.val (.int x0), .val (.int x1), .val (.int (2 : Int32)), .val (.int (0 : Int32)), .val (.ref nA), .val (.int (0 : Int32)), .unset] [(.ref nA)])
      refine Go.step (fun _ k => XS.iloadN X12.here hx rfl (hb hby at_76) rfl k) ?_
      show Go _ _ _ _ _ _ _ _ T12 (mkF m 77 #[.val (.int x0), .val (.int x1), .val (.int (2 : Int32)), .val (.int (0 : Int32)), .val (.ref nA), .val (.int (0 : Int32)), .unset] [(.int (0 : Int32)), (.ref nA)])
      obtain ⟨cq13, kq13, q13a, q13b, q13c⟩ := isOf hZ e12 (Exa.ext O0 X_N)
      obtain ⟨_, _, ⟨T13, L13, k13, n13⟩, -, X13, ⟨Lc13, hQ13, l13, y13, z13⟩, st13⟩ := X12.virtualBack hx (y := (⟨"com/example/settleline/settleline/gsh/Fault", "flag", "(Z)I"⟩ : MethodName)) (z := (⟨"com/example/settleline/settleline/gsh/Fault", "flag", "(Z)I"⟩ : MethodName)) hown (mvT hZ (hw _ (List.mem_of_getElem? (i := 8) rfl))) (mvT hZ (hw _ (List.mem_of_getElem? (i := 9) rfl))) (notFace_of_selects (args := #[]) (mvT hZ (hw _ (List.mem_of_getElem? (i := 11) rfl)))) (mvT hZ (hw _ (List.mem_of_getElem? (i := 11) rfl))) (mvT hZ (hw _ (List.mem_of_getElem? (i := 10) rfl))) (by decide) (backOf (W := 0) (rm_2 l Z a0 hw [] nA (0 : Int32) (0 : Int32) (0 : Int32) h0 O0 F_N (by decide)) hZ (hw _ (List.mem_of_getElem? (i := 12) rfl)) (hw _ (List.mem_of_getElem? (i := 6) rfl)) (by decide) (by decide)) q13a q13c (g := (mkF m 77 #[.val (.int x0), .val (.int x1), .val (.int (2 : Int32)), .val (.int (0 : Int32)), .val (.ref nA), .val (.int (0 : Int32)), .unset] [(.int (0 : Int32)), (.ref nA)])) rfl (by rw [hml]; rfl) (Steps.refl _) (argsL := [(.int (0 : Int32))]) (rest := []) (lenOf pd_LZRI rfl) rfl (by show 2 * 0 + _ ≤ _; exact Nat.le_of_eq rfl) (hb hby at_77) (fun _ _ => ⟨rfl, e12, (by decide : 0 + 0 ≤ _), (by decide : 0 + 0 ≤ _)⟩)
      dsimp only [Pt.U, Pt.locs, Pt.cells, Pt.slots] at X13 l13 y13 z13 st13 hQ13
      subst l13 y13 z13
      obtain ⟨rfl, Nq13, e13⟩ := hQ13
      have N13_ := Fr.app N12_ Nq13
      refine Go.trans st13 ?_
      show Go _ _ _ _ _ _ _ _ T13 (mkF m 80 #[.val (.int x0), .val (.int x1), .val (.int (2 : Int32)), .val (.int (0 : Int32)), .val (.ref nA), .val (.int (0 : Int32)), .unset] [(.int (0 : Int32))])
      refine Go.step (fun _ k => XS.iload X13.here hx rfl (hb hby at_80) rfl k) ?_
      show Go _ _ _ _ _ _ _ _ T13 (mkF m 82 #[.val (.int x0), .val (.int x1), .val (.int (2 : Int32)), .val (.int (0 : Int32)), .val (.ref nA), .val (.int (0 : Int32)), .unset] [(.int (0 : Int32)), (.int (0 : Int32))])
      refine Go.step (fun _ k => XS.icmpNo X13.here hx rfl (hb hby at_82) rfl (teq (by decide : (0 : Int32) = (0 : Int32))).2 k) ?_
      show Go _ _ _ _ _ _ _ _ T13 (mkF m 85 #[.val (.int x0), .val (.int x1), .val (.int (2 : Int32)), .val (.int (0 : Int32)), .val (.ref nA), .val (.int (0 : Int32)), .unset] [])
      refine Go.step (fun _ k => XS.iconst X13.here hx rfl (hb hby at_85)  k) ?_
      show Go _ _ _ _ _ _ _ _ T13 (mkF m 86 #[.val (.int x0), .val (.int x1), .val (.int (2 : Int32)), .val (.int (0 : Int32)), .val (.ref nA), .val (.int (0 : Int32)), .unset] [(.int (1 : Int32))])
      refine Go.step (fun _ k => XS.goto X13.here hx rfl (pc0 := 86) (pc' := 90) rfl (hb hby at_86) (by decide) (by decide) k) ?_
      show Go _ _ _ _ _ _ _ _ T13 (mkF m 90 #[.val (.int x0), .val (.int x1), .val (.int (2 : Int32)), .val (.int (0 : Int32)), .val (.ref nA), .val (.int (0 : Int32)), .unset] [(.int (1 : Int32))])
      exact Go.retN X13 hx (t := .boolean) Bd.returns (by simp) hlk (hb hby at_90) (by decide) (by decide) (by show _ ∧ _ ∧ _; rw [e13]; exact ⟨rfl, N13_, rfl⟩)
    · refine Go.step (fun _ k => XS.ifNo X0.here hx rfl (hb hby at_10) rfl ((if0 _ _).trans (feq hc10_11).1) k) ?_
      show Go _ _ _ _ _ _ _ _ s₁ (mkF m 13 #[.val (.int x0), .val (.int x1), .val (.int (2 : Int32)), .unset, .unset, .unset, .unset] [])
      refine Go.step (fun _ k => XS.iconst X0.here hx rfl (hb hby at_13)  k) ?_
      show Go _ _ _ _ _ _ _ _ s₁ (mkF m 14 #[.val (.int x0), .val (.int x1), .val (.int (2 : Int32)), .unset, .unset, .unset, .unset] [(.int (1 : Int32))])
      refine Go.step (fun _ k => XS.goto X0.here hx rfl (pc0 := 14) (pc' := 18) rfl (hb hby at_14) (by decide) (by decide) k) ?_
      show Go _ _ _ _ _ _ _ _ s₁ (mkF m 18 #[.val (.int x0), .val (.int x1), .val (.int (2 : Int32)), .unset, .unset, .unset, .unset] [(.int (1 : Int32))])
      refine Go.step (fun _ k => XS.istoreN X0.here hx rfl (hb hby at_18) rfl (l' := #[.val (.int x0), .val (.int x1), .val (.int (2 : Int32)), .val (.int (1 : Int32)), .unset, .unset, .unset]) rfl k) ?_
      show Go _ _ _ _ _ _ _ _ s₁ (mkF m 19 #[.val (.int x0), .val (.int x1), .val (.int (2 : Int32)), .val (.int (1 : Int32)), .unset, .unset, .unset] [])
      refine Go.step (fun _ k => XS.iloadN X0.here hx rfl (hb hby at_19) rfl k) ?_
      show Go _ _ _ _ _ _ _ _ s₁ (mkF m 20 #[.val (.int x0), .val (.int x1), .val (.int (2 : Int32)), .val (.int (1 : Int32)), .unset, .unset, .unset] [(.int (2 : Int32))])
      obtain ⟨_, _, ⟨T14, L14, k14, n14⟩, -, X14, ⟨Lc14, hQ14, l14, y14, z14⟩, st14⟩ := Jvm.LawKit.callS X0 hx (y := (⟨"com/example/settleline/settleline/gsh/FaultFlagPinLaw", "pick", "(I)Lcom/example/settleline/settleline/gsh/Fault;"⟩ : MethodName)) hown (mvT hZ (hw _ (List.mem_of_getElem? (i := 1) rfl))) (mvT hZ (hw _ (List.mem_of_getElem? (i := 2) rfl))) (mvT hZ (hw _ (List.mem_of_getElem? (i := 3) rfl))) (mvT hZ (hw _ (List.mem_of_getElem? (i := 4) rfl))) (by decide) (backOf (W := 0) (rm_1 l Z a0 hw [] (2 : Int32) dA rA nA nA h0 O0 S_D S_R S_N (by simp)) hZ (hw _ (List.mem_of_getElem? (i := 4) rfl)) (hw _ (List.mem_of_getElem? (i := 3) rfl)) (by decide) (by decide)) (g := (mkF m 20 #[.val (.int x0), .val (.int x1), .val (.int (2 : Int32)), .val (.int (1 : Int32)), .unset, .unset, .unset] [(.int (2 : Int32))])) rfl (by rw [hml]; rfl) (argsL := [(.int (2 : Int32))]) (rest := []) (lenOf pd_LIRLcom_example_settleline_settleline_gsh_Fault_ rfl) rfl (by show 2 * 0 + _ ≤ _; exact Nat.le_of_eq rfl) (hb hby at_20) (fun _ _ => ⟨rfl, e0, (by decide : 0 + 0 ≤ _), (by decide : 0 + 0 ≤ _)⟩)
      dsimp only [Pt.U, Pt.locs, Pt.cells, Pt.slots] at X14 l14 y14 z14 st14 hQ14
      subst l14 y14 z14
      obtain ⟨rfl, Nq14, e14⟩ := hQ14
      have N14_ := Fr.app N0 Nq14
      refine Go.step st14 ?_
      show Go _ _ _ _ _ _ _ _ T14 (mkF m 23 #[.val (.int x0), .val (.int x1), .val (.int (2 : Int32)), .val (.int (1 : Int32)), .unset, .unset, .unset] [(.ref nA)])
      refine Go.step (fun _ k => XS.astore X14.here hx rfl (hb hby at_23) rfl rfl (l' := #[.val (.int x0), .val (.int x1), .val (.int (2 : Int32)), .val (.int (1 : Int32)), .val (.ref nA), .unset, .unset]) rfl k) ?_
      show Go _ _ _ _ _ _ _ _ T14 (mkF m 25 #[.val (.int x0), .val (.int x1), .val (.int (2 : Int32)), .val (.int (1 : Int32)), .val (.ref nA), .unset, .unset] [])
      refine Go.step (fun _ k => XS.iloadN X14.here hx rfl (hb hby at_25) rfl k) ?_
      show Go _ _ _ _ _ _ _ _ T14 (mkF m 26 #[.val (.int x0), .val (.int x1), .val (.int (2 : Int32)), .val (.int (1 : Int32)), .val (.ref nA), .unset, .unset] [(.int (2 : Int32))])
      refine Go.step (fun _ k => XS.iconst X14.here hx rfl (hb hby at_26)  k) ?_
      show Go _ _ _ _ _ _ _ _ T14 (mkF m 27 #[.val (.int x0), .val (.int x1), .val (.int (2 : Int32)), .val (.int (1 : Int32)), .val (.ref nA), .unset, .unset] [(.int (2 : Int32)), (.int (2 : Int32))])
      refine Go.step (fun _ k => XS.icmpNo X14.here hx rfl (hb hby at_27) rfl (teq (by decide : (2 : Int32) = (2 : Int32))).2 k) ?_
      show Go _ _ _ _ _ _ _ _ T14 (mkF m 30 #[.val (.int x0), .val (.int x1), .val (.int (2 : Int32)), .val (.int (1 : Int32)), .val (.ref nA), .unset, .unset] [])
      refine Go.step (fun _ k => XS.iconst X14.here hx rfl (hb hby at_30)  k) ?_
      show Go _ _ _ _ _ _ _ _ T14 (mkF m 31 #[.val (.int x0), .val (.int x1), .val (.int (2 : Int32)), .val (.int (1 : Int32)), .val (.ref nA), .unset, .unset] [(.int (0 : Int32))])
      refine Go.step (fun _ k => XS.istore X14.here hx rfl (hb hby at_31) rfl (l' := #[.val (.int x0), .val (.int x1), .val (.int (2 : Int32)), .val (.int (1 : Int32)), .val (.ref nA), .val (.int (0 : Int32)), .unset]) rfl k) ?_
      show Go _ _ _ _ _ _ _ _ T14 (mkF m 33 #[.val (.int x0), .val (.int x1), .val (.int (2 : Int32)), .val (.int (1 : Int32)), .val (.ref nA), .val (.int (0 : Int32)), .unset] [])
      refine Go.step (fun _ k => XS.goto X14.here hx rfl (pc0 := 33) (pc' := 74) rfl (hb hby at_33) (by decide) (by decide) k) ?_
      show Go _ _ _ _ _ _ _ _ T14 (mkF m 74 #[.val (.int x0), .val (.int x1), .val (.int (2 : Int32)), .val (.int (1 : Int32)), .val (.ref nA), .val (.int (0 : Int32)), .unset] [])
      refine Go.step (fun _ k => XS.aload X14.here hx rfl (hb hby at_74) rfl rfl k) ?_
      show Go _ _ _ _ _ _ _ _ T14 (mkF m 76 #[.val (.int x0), .val (.int x1), .val (.int (2 : Int32)), .val (.int (1 : Int32)), .val (.ref nA), .val (.int (0 : Int32)), .unset] [(.ref nA)])
      refine Go.step (fun _ k => XS.iloadN X14.here hx rfl (hb hby at_76) rfl k) ?_
      show Go _ _ _ _ _ _ _ _ T14 (mkF m 77 #[.val (.int x0), .val (.int x1), .val (.int (2 : Int32)), .val (.int (1 : Int32)), .val (.ref nA), .val (.int (0 : Int32)), .unset] [(.int (1 : Int32)), (.ref nA)])
      obtain ⟨cq15, kq15, q15a, q15b, q15c⟩ := isOf hZ e14 (Exa.ext O0 X_N)
      obtain ⟨_, _, ⟨T15, L15, k15, n15⟩, -, X15, ⟨Lc15, hQ15, l15, y15, z15⟩, st15⟩ := X14.virtualBack hx (y := (⟨"com/example/settleline/settleline/gsh/Fault", "flag", "(Z)I"⟩ : MethodName)) (z := (⟨"com/example/settleline/settleline/gsh/Fault", "flag", "(Z)I"⟩ : MethodName)) hown (mvT hZ (hw _ (List.mem_of_getElem? (i := 8) rfl))) (mvT hZ (hw _ (List.mem_of_getElem? (i := 9) rfl))) (notFace_of_selects (args := #[]) (mvT hZ (hw _ (List.mem_of_getElem? (i := 11) rfl)))) (mvT hZ (hw _ (List.mem_of_getElem? (i := 11) rfl))) (mvT hZ (hw _ (List.mem_of_getElem? (i := 10) rfl))) (by decide) (backOf (W := 0) (rm_2 l Z a0 hw [] nA (1 : Int32) (0 : Int32) (0 : Int32) h0 O0 F_N (by decide)) hZ (hw _ (List.mem_of_getElem? (i := 12) rfl)) (hw _ (List.mem_of_getElem? (i := 6) rfl)) (by decide) (by decide)) q15a q15c (g := (mkF m 77 #[.val (.int x0), .val (.int x1), .val (.int (2 : Int32)), .val (.int (1 : Int32)), .val (.ref nA), .val (.int (0 : Int32)), .unset] [(.int (1 : Int32)), (.ref nA)])) rfl (by rw [hml]; rfl) (Steps.refl _) (argsL := [(.int (1 : Int32))]) (rest := []) (lenOf pd_LZRI rfl) rfl (by show 2 * 0 + _ ≤ _; exact Nat.le_of_eq rfl) (hb hby at_77) (fun _ _ => ⟨rfl, e14, (by decide : 0 + 0 ≤ _), (by decide : 0 + 0 ≤ _)⟩)
      dsimp only [Pt.U, Pt.locs, Pt.cells, Pt.slots] at X15 l15 y15 z15 st15 hQ15
      subst l15 y15 z15
      obtain ⟨rfl, Nq15, e15⟩ := hQ15
      have N15_ := Fr.app N14_ Nq15
      refine Go.trans st15 ?_
      show Go _ _ _ _ _ _ _ _ T15 (mkF m 80 #[.val (.int x0), .val (.int x1), .val (.int (2 : Int32)), .val (.int (1 : Int32)), .val (.ref nA), .val (.int (0 : Int32)), .unset] [(.int (0 : Int32))])
      refine Go.step (fun _ k => XS.iload X15.here hx rfl (hb hby at_80) rfl k) ?_
      show Go _ _ _ _ _ _ _ _ T15 (mkF m 82 #[.val (.int x0), .val (.int x1), .val (.int (2 : Int32)), .val (.int (1 : Int32)), .val (.ref nA), .val (.int (0 : Int32)), .unset] [(.int (0 : Int32)), (.int (0 : Int32))])
      refine Go.step (fun _ k => XS.icmpNo X15.here hx rfl (hb hby at_82) rfl (teq (by decide : (0 : Int32) = (0 : Int32))).2 k) ?_
      show Go _ _ _ _ _ _ _ _ T15 (mkF m 85 #[.val (.int x0), .val (.int x1), .val (.int (2 : Int32)), .val (.int (1 : Int32)), .val (.ref nA), .val (.int (0 : Int32)), .unset] [])
      refine Go.step (fun _ k => XS.iconst X15.here hx rfl (hb hby at_85)  k) ?_
      show Go _ _ _ _ _ _ _ _ T15 (mkF m 86 #[.val (.int x0), .val (.int x1), .val (.int (2 : Int32)), .val (.int (1 : Int32)), .val (.ref nA), .val (.int (0 : Int32)), .unset] [(.int (1 : Int32))])
      refine Go.step (fun _ k => XS.goto X15.here hx rfl (pc0 := 86) (pc' := 90) rfl (hb hby at_86) (by decide) (by decide) k) ?_
      show Go _ _ _ _ _ _ _ _ T15 (mkF m 90 #[.val (.int x0), .val (.int x1), .val (.int (2 : Int32)), .val (.int (1 : Int32)), .val (.ref nA), .val (.int (0 : Int32)), .unset] [(.int (1 : Int32))])
      exact Go.retN X15 hx (t := .boolean) Bd.returns (by simp) hlk (hb hby at_90) (by decide) (by decide) (by show _ ∧ _ ∧ _; rw [e15]; exact ⟨rfl, N15_, rfl⟩)
set_option maxRecDepth 65536 in
set_option maxHeartbeats 40000000 in
theorem comes_1 {Post : Tables → Env → Array Value → State → Outcome → State → Prop} (hpost : ∀ tb e args s v u, (limb_1_1.after args s (.returned v) u = true ∧ limb_1_2.after args s (.returned v) u = true ∧ True) → FrameEnd s (.returned v) u (Jvm.fieldLocs frame_1_writes args s ++ Jvm.arrayLocs frame_1_arrays args s ++ Jvm.staticLocs frame_1_statics s) 0 0 → Post tb e args s (.returned v) u) :
    ArmFor flags0 classFile x code maxLocals ret World_1 tables_1 room_1 Calls_1 rest_1 Pre_1 Post := by
  intro l hfl _ _ p e ha hc hk s m args below hf hA hF happ hP
  obtain ⟨hcalls, hrest, hpre⟩ := hP
  obtain ⟨-, -, -, hnamed, -, -, -, hat⟩ := (Spec.applies_iff hf).mp happ
  obtain ⟨hg, hn⟩ := and_e (Cond.before_iff.mp (show (Jvm.Cond.and given_1 narrow_1).before args s = true from hpre))
  obtain ⟨hcount, gr0⟩ := and_e hg
  obtain ⟨ga0, gr1⟩ := and_e gr0
  have ga1 := gr1
  obtain ⟨w0, w1, rfl⟩ : ∃ w0 w1 : Value, args = #[w0, w1] := by
    have hs : args.size = 2 := by simpa [Cond.value, given_1] using hcount
    obtain ⟨L⟩ := args
    match L, hs with
    | [w0, w1], _ => exact ⟨w0, w1, rfl⟩
  have hw := fun d (hd : d ∈ tables_1) => atoms_spec (ws := Jvm.Cond.code x code maxLocals ret :: tables_1) hat d (List.mem_cons_of_mem _ hd)
  have hfit : Fit s := fun {y c} hc i hi => by
    obtain ⟨ha, rfl⟩ := Array.getElem?_eq_some_iff.mp hc
    have q := List.all_eq_true.mp ((Array.all_eq_true_iff_forall_mem.mp hF) _ (Array.getElem_mem ha)) i (List.mem_range.mpr hi)
    simpa [Array.getElem?_eq_getElem hi] using q
  obtain ⟨i0, ei0⟩ := is_v ga0
  obtain rfl : w0 = (.int i0) := Option.some.inj ei0
  obtain ⟨i1, ei1⟩ := is_v ga1
  obtain rfl : w1 = (.int i1) := Option.some.inj ei1
  obtain ⟨nw0, nr0⟩ := and_e hn
  obtain ⟨nw1, nr1⟩ := and_e nr0
  obtain ⟨nw2, nr2⟩ := and_e nr1
  obtain ⟨nw3, nr3⟩ := and_e nr2
  obtain ⟨nw4, nr4⟩ := and_e nr3
  have nw5 := nr4
  obtain ⟨a_0, ev_0⟩ := exa_v nw0
  have S_0 : Sta s s.heap "com/example/settleline/settleline/gsh/Fault" "DELIVERY" "Lcom/example/settleline/settleline/gsh/Fault;" (.ref a_0) := Sta.start ev_0 (Or.inr ⟨(hw _ (List.mem_of_getElem? (i := 6) rfl)), (hw _ (List.mem_of_getElem? (i := 7) rfl))⟩)
  have X_0 : Exa s s.heap a_0 "com/example/settleline/settleline/gsh/Fault" := Exa.start ev_0 nw0
  obtain ⟨a_2, ev_2⟩ := exa_v nw2
  have S_2 : Sta s s.heap "com/example/settleline/settleline/gsh/Fault" "NO_FAULT" "Lcom/example/settleline/settleline/gsh/Fault;" (.ref a_2) := Sta.start ev_2 (Or.inr ⟨(hw _ (List.mem_of_getElem? (i := 6) rfl)), (hw _ (List.mem_of_getElem? (i := 16) rfl))⟩)
  have X_2 : Exa s s.heap a_2 "com/example/settleline/settleline/gsh/Fault" := Exa.start ev_2 nw2
  obtain ⟨a_4, ev_4⟩ := exa_v nw4
  have S_4 : Sta s s.heap "com/example/settleline/settleline/gsh/Fault" "RECEIPT" "Lcom/example/settleline/settleline/gsh/Fault;" (.ref a_4) := Sta.start ev_4 (Or.inr ⟨(hw _ (List.mem_of_getElem? (i := 6) rfl)), (hw _ (List.mem_of_getElem? (i := 18) rfl))⟩)
  have X_4 : Exa s s.heap a_4 "com/example/settleline/settleline/gsh/Fault" := Exa.start ev_4 nw4
  have F_1 : Fld s s.heap a_0 "com/example/settleline/settleline/gsh/Fault" "deliveringFlag" "I" (.int (1 : Int32)) := fldStart ev_0 nw1
  have F_3 : Fld s s.heap a_2 "com/example/settleline/settleline/gsh/Fault" "deliveringFlag" "I" (.int (0 : Int32)) := fldStart ev_2 nw3
  have F_5 : Fld s s.heap a_4 "com/example/settleline/settleline/gsh/Fault" "deliveringFlag" "I" (.int (-1 : Int32)) := fldStart ev_4 nw5
  obtain ⟨n, o, h1, h2, h3, _, L, rfl, ⟨rfl, N, -⟩, hq⟩ := rm_0 l s _ hw tables_1 i0 i1 a_0 a_4 a_2 s.heap (extRfl _) S_0 S_4 S_2 X_0 X_4 X_2 F_1 F_5 F_3 p e ha hc hk s m _ below hf ((Spec.applies_iff_loose hf).mp happ).1 ⟨rfl, State.Warmed39.refl s, rfl⟩ trivial
  refine ⟨n, _, h1, h2, h3, hpost _ _ _ _ _ _ ⟨Cond.after_iff.mpr rfl, Cond.after_iff.mpr (eq_i res_at (Term.int_eval (1)) rfl), trivial⟩ ⟨hq.1, hq.2.1, (hq.2.2.sift fun y hy => Or.inr (N y hy)).mono (by decide) (by decide)⟩⟩
theorem main_1_1 : Claimed_1_1 := comes_1 fun _ _ _ _ _ _ h hF => ⟨h.1, hF⟩
theorem main_1_2 : Claimed_1_2 := comes_1 fun _ _ _ _ _ _ h hF => ⟨h.2.1, hF⟩
end Jvm.Pilot.@@N@@
namespace Jvm.Pilot.@@N@@
open Jvm Jvm.ClassFile Sem Op Lib Jvm.Free Jvm.Stand Jvm.Pilot.@@N@@.Jvm.D
/-! MADE BY PROGRAM (witnessworld.py) out of the Statement's table words and the real class files: 12 classes; the members and pool entries that the words name. The judged class is class 1, her method 2. -/
namespace start1
open Jvm.ClassFile
def u (s : String) : CpInfo := .utf8 (stringToUtf16 s)
/-- a pool by its gaps: so many unusable entries, then the entry; so many at the end -/
def gap : Nat → List CpInfo → List CpInfo
  | 0, r => r
  | n + 1, r => .unusable :: gap n r
def poolList (es : List (Nat × CpInfo)) (last : Nat) : List CpInfo := es.foldr (fun e r => gap e.1 (e.2 :: r)) (gap last [])
def pool (es : List (Nat × CpInfo)) (last : Nat) : Array CpInfo := ⟨poolList es last⟩
def fileOf (pool : Array CpInfo) (this : Nat) (attrs : Array Attribute := #[]) (ms : Array MethodInfo := #[]) (fl : Nat := 33) (sup : Nat := 0) (ifs : Array Nat := #[]) (fds : Array FieldInfo := #[]) : ClassFile where
  minorVersion := 0
  majorVersion := 65
  constantPool := pool
  accessFlags := fl
  thisClass := this
  superClass := sup
  interfaces := ifs
  fields := fds
  methods := ms
  attributes := attrs
def plain (name : String) (sup : Option ClassId) : Class where
  name := name
  kind := .ordinary
  loader := none
  accessFlags := 33
  super := sup
  interfaces := #[]
  cf := none
  fields := #[]
  methods := #[]
  instanceTypes := #[]
  staticTypes := #[]
  resolved := #[]
  callSites := []
  init := .initialized
  statics := none
  mirror := none

def pool0 : Array CpInfo := pool [(5, u "<init>"), (0, u "()V"), (1, .class_ 10), (1, u "java/lang/Object")] 113

def k0m0 : Method := { name := "<init>", desc := "()V", sig := { parameters := [], returnType := none }, accessFlags := 1, code := none }
/-- java/lang/Object -/
def k0 : Class := { plain "java/lang/Object" none with
  accessFlags := 33
  interfaces := #[]
  cf := some (fileOf pool0 8 #[] #[{ accessFlags := 1, nameIndex := 5, descriptorIndex := 6, attributes := #[] }] 33 0 #[] #[])
  fields := #[]
  methods := #[k0m0]
  instanceTypes := #[]
  staticTypes := #[]
  resolved := Array.replicate 124 none
  statics := none }

def pool1 : Array CpInfo := pool [(2, .class_ 4), (1, u "java/lang/Object"), (0, u "<init>"), (0, u "()V"), (0, .fieldref 8 9), (0, .class_ 10), (0, .nameAndType 11 12), (0, u "com/example/settleline/settleline/gsh/Fault"), (0, u "DELIVERY"), (0, u "Lcom/example/settleline/settleline/gsh/Fault;"), (0, .fieldref 8 14), (0, .nameAndType 15 12), (0, u "RECEIPT"), (0, .fieldref 8 17), (0, .nameAndType 18 12), (0, u "NO_FAULT"), (0, .integer 2147483647), (0, .methodref 21 22), (0, .class_ 23), (0, .nameAndType 24 25), (0, u "com/example/settleline/settleline/gsh/FaultFlagPinLaw"), (0, u "pick"), (0, u "(I)Lcom/example/settleline/settleline/gsh/Fault;"), (0, .methodref 8 27), (0, .nameAndType 28 29), (0, u "flag"), (0, u "(Z)I"), (3, u "law"), (0, u "(II)Z")] 2

def k1m0 : Method := { name := "<init>", desc := "()V", sig := { parameters := [], returnType := none }, accessFlags := 1, code := none }
def k1c1 : Code := { maxStack := 2, maxLocals := 1, code := method_2_code, exceptionTable := #[], attributes := #[] }
def k1m1 : Method := { name := "pick", desc := "(I)Lcom/example/settleline/settleline/gsh/Fault;", sig := { parameters := [.int], returnType := some (.object "com/example/settleline/settleline/gsh/Fault") }, accessFlags := 10, code := some k1c1 }
def k1c2 : Code := { maxStack := 2, maxLocals := 7, code := code, exceptionTable := #[], attributes := #[] }
def k1m2 : Method := { name := "law", desc := "(II)Z", sig := { parameters := [.int, .int], returnType := some .boolean }, accessFlags := 9, code := some k1c2 }
/-- com/example/settleline/settleline/gsh/FaultFlagPinLaw -/
def k1 : Class := { plain "com/example/settleline/settleline/gsh/FaultFlagPinLaw" (some 0) with
  accessFlags := 49
  interfaces := #[]
  cf := some (fileOf pool1 21 #[] #[{ accessFlags := 1, nameIndex := 5, descriptorIndex := 6, attributes := #[] }, { accessFlags := 10, nameIndex := 24, descriptorIndex := 25, attributes := #[] }, { accessFlags := 9, nameIndex := 33, descriptorIndex := 34, attributes := #[] }] 49 2 #[] #[])
  fields := #[]
  methods := #[k1m0, k1m1, k1m2]
  instanceTypes := #[]
  staticTypes := #[]
  resolved := Array.replicate 37 none
  statics := none }

def pool2 : Array CpInfo := pool [(1, .class_ 2), (0, u "java/lang/constant/Constable"), (0, .class_ 4), (0, u "java/lang/Object")] 6

/-- java/lang/constant/Constable -/
def k2 : Class := { plain "java/lang/constant/Constable" (some 0) with
  accessFlags := 1537
  interfaces := #[]
  cf := some (fileOf pool2 1 #[] #[] 1537 3 #[] #[])
  fields := #[]
  methods := #[]
  instanceTypes := #[]
  staticTypes := #[]
  resolved := Array.replicate 11 none
  statics := none }

def pool3 : Array CpInfo := pool [(1, .class_ 2), (0, u "java/lang/Comparable"), (0, .class_ 4), (0, u "java/lang/Object")] 7

/-- java/lang/Comparable -/
def k3 : Class := { plain "java/lang/Comparable" (some 0) with
  accessFlags := 1537
  interfaces := #[]
  cf := some (fileOf pool3 1 #[] #[] 1537 3 #[] #[])
  fields := #[]
  methods := #[]
  instanceTypes := #[]
  staticTypes := #[]
  resolved := Array.replicate 12 none
  statics := none }

def pool4 : Array CpInfo := pool [(1, .class_ 2), (0, u "java/io/Serializable"), (0, .class_ 4), (0, u "java/lang/Object")] 2

/-- java/io/Serializable -/
def k4 : Class := { plain "java/io/Serializable" (some 0) with
  accessFlags := 1537
  interfaces := #[]
  cf := some (fileOf pool4 1 #[] #[] 1537 3 #[] #[])
  fields := #[]
  methods := #[]
  instanceTypes := #[]
  staticTypes := #[]
  resolved := Array.replicate 7 none
  statics := none }

def pool5 : Array CpInfo := pool [(2, .class_ 4), (1, u "java/lang/Enum"), (0, u "name"), (0, u "Ljava/lang/String;"), (2, u "ordinal"), (0, u "I"), (1, .class_ 14), (1, u "java/lang/Object"), (4, u "hash"), (86, .class_ 108), (1, u "java/lang/Enum$EnumDesc"), (2, .class_ 112), (0, u "java/lang/constant/Constable"), (0, .class_ 114), (0, u "java/lang/Comparable"), (0, .class_ 116), (0, u "java/io/Serializable")] 87

/-- java/lang/Enum -/
def k5 : Class := { plain "java/lang/Enum" (some 0) with
  accessFlags := 1057
  interfaces := #[2, 3, 4]
  cf := some (fileOf pool5 2 #[.nestMembers #[106]] #[] 1057 12 #[111, 113, 115] #[{ accessFlags := 18, nameIndex := 5, descriptorIndex := 6, attributes := #[] }, { accessFlags := 18, nameIndex := 9, descriptorIndex := 10, attributes := #[] }, { accessFlags := 2, nameIndex := 19, descriptorIndex := 10, attributes := #[] }])
  fields := #[{ name := "name", type := (.object "java/lang/String"), accessFlags := 18, slot := 0, constantValue := 0 }, { name := "ordinal", type := .int, accessFlags := 18, slot := 1, constantValue := 0 }, { name := "hash", type := .int, accessFlags := 2, slot := 2, constantValue := 0 }]
  methods := #[]
  instanceTypes := #[(.object "java/lang/String"), .int, .int]
  staticTypes := #[]
  resolved := Array.replicate 204 none
  statics := none }

def pool6 : Array CpInfo := pool [(1, .class_ 2), (0, u "com/example/settleline/settleline/gsh/Fault"), (2, u "DELIVERY"), (0, u "Lcom/example/settleline/settleline/gsh/Fault;"), (2, u "RECEIPT"), (2, u "NO_FAULT"), (2, u "$VALUES"), (0, u "[Lcom/example/settleline/settleline/gsh/Fault;"), (6, .class_ 25), (1, u "java/lang/Enum"), (8, u "written"), (0, u "Ljava/lang/String;"), (0, .fieldref 1 37), (0, .nameAndType 38 39), (0, u "deliveringFlag"), (0, u "I"), (46, u "BY_NAME"), (0, u "Ljava/util/Map;"), (6, u "flag"), (0, u "(Z)I")] 34

def k6c0 : Code := { maxStack := 1, maxLocals := 2, code := prog_18_method_4_code, exceptionTable := #[], attributes := #[] }
def k6m0 : Method := { name := "flag", desc := "(Z)I", sig := { parameters := [.boolean], returnType := some .int }, accessFlags := 0, code := some k6c0 }
/-- com/example/settleline/settleline/gsh/Fault -/
def k6 : Class := { plain "com/example/settleline/settleline/gsh/Fault" (some 5) with
  accessFlags := 16432
  interfaces := #[]
  cf := some (fileOf pool6 1 #[] #[{ accessFlags := 0, nameIndex := 94, descriptorIndex := 95, attributes := #[] }] 16432 23 #[] #[{ accessFlags := 16409, nameIndex := 5, descriptorIndex := 6, attributes := #[] }, { accessFlags := 16409, nameIndex := 9, descriptorIndex := 6, attributes := #[] }, { accessFlags := 16409, nameIndex := 12, descriptorIndex := 6, attributes := #[] }, { accessFlags := 24, nameIndex := 86, descriptorIndex := 87, attributes := #[] }, { accessFlags := 18, nameIndex := 34, descriptorIndex := 35, attributes := #[] }, { accessFlags := 18, nameIndex := 38, descriptorIndex := 39, attributes := #[] }, { accessFlags := 4122, nameIndex := 15, descriptorIndex := 16, attributes := #[] }])
  fields := #[{ name := "DELIVERY", type := (.object "com/example/settleline/settleline/gsh/Fault"), accessFlags := 16409, slot := 0, constantValue := 0 }, { name := "RECEIPT", type := (.object "com/example/settleline/settleline/gsh/Fault"), accessFlags := 16409, slot := 1, constantValue := 0 }, { name := "NO_FAULT", type := (.object "com/example/settleline/settleline/gsh/Fault"), accessFlags := 16409, slot := 2, constantValue := 0 }, { name := "BY_NAME", type := (.object "java/util/Map"), accessFlags := 24, slot := 3, constantValue := 0 }, { name := "written", type := (.object "java/lang/String"), accessFlags := 18, slot := 3, constantValue := 0 }, { name := "deliveringFlag", type := .int, accessFlags := 18, slot := 4, constantValue := 0 }, { name := "$VALUES", type := (.array (.object "com/example/settleline/settleline/gsh/Fault")), accessFlags := 4122, slot := 4, constantValue := 0 }]
  methods := #[k6m0]
  instanceTypes := #[(.object "java/lang/String"), .int, .int, (.object "java/lang/String"), .int]
  staticTypes := #[(.object "com/example/settleline/settleline/gsh/Fault"), (.object "com/example/settleline/settleline/gsh/Fault"), (.object "com/example/settleline/settleline/gsh/Fault"), (.object "java/util/Map"), (.array (.object "com/example/settleline/settleline/gsh/Fault"))]
  resolved := Array.replicate 130 none
  statics := some 0 }

def pool7 : Array CpInfo := pool [(1, u "java/lang/Cloneable"), (0, .class_ 1), (0, u "java/lang/Object"), (0, .class_ 3)] 3

/-- java/lang/Cloneable -/
def k7 : Class := { plain "java/lang/Cloneable" (some 0) with
  accessFlags := 1537
  interfaces := #[]
  cf := some (fileOf pool7 2 #[] #[] 1537 4 #[] #[])
  fields := #[]
  methods := #[]
  instanceTypes := #[]
  staticTypes := #[]
  resolved := Array.replicate 8 none
  statics := none }

/-- the primitive byte -/
def k8 : Class := { plain "byte" none with kind := .primitive 'B', accessFlags := 0x411 }
/-- [B -/
def k9 : Class := { plain "[B" (some 0) with kind := .array 8 .byte, interfaces := #[7, 4], accessFlags := 1041 }

/-- the primitive int -/
def k10 : Class := { plain "int" none with kind := .primitive 'I', accessFlags := 0x411 }
/-- [I -/
def k11 : Class := { plain "[I" (some 0) with kind := .array 10 .int, interfaces := #[7, 4], accessFlags := 1041 }

def heap : Heap := #[{ cls := 6, slots := #[.ref 1, .ref 2, .ref 3, .null, .null], vm := .statics 6 },
  { cls := 6, slots := #[.null, .int 0, .int 0, .null, .int 1], vm := .none },
  { cls := 6, slots := #[.null, .int 1, .int 0, .null, .int (-1)], vm := .none },
  { cls := 6, slots := #[.null, .int 2, .int 0, .null, .int 0], vm := .none }]
def classes : Array Class := #[k0, k1, k2, k3, k4, k5, k6, k7, k8, k9, k10, k11]
def interned : List (Array UInt16 × Addr) := []
def slotsUsed : Nat := 20
def theMethod : MethodId := ⟨1, 2⟩
def args0 : Array Value := #[.int 5, .int 6]
def aboutOver (below : List Frame) : State where
  vm := { classes := classes, interned := interned.toArray }
  heap := heap
  slotsUsed := slotsUsed
  threads := #[{ frames := .invoking theMethod args0 :: below }]
def below0 : List Frame := [.native { method := ⟨0, 0⟩, args := #[] }]
def about1 : State := aboutOver below0
def p0 : Program := .bare "" "" ""
def e0 : Env := launch0.env 0 0 0
theorem w_frames : about1.frames = Frame.invoking theMethod args0 :: below0 := rfl
set_option maxRecDepth 65536 in
theorem w_args : argsFit about1.vm theMethod args0 = true := by decide +kernel
set_option maxRecDepth 65536 in
theorem w_heap : heapFits about1 = true := by decide +kernel
set_option maxRecDepth 65536 in
theorem w_runnable : about1.curStatus? = some .runnable := by decide +kernel
set_option maxRecDepth 65536 in
theorem w_alone : about1.alone = true := by decide +kernel
set_option maxRecDepth 65536 in
theorem w_named : about1.methodNamed? x = some theMethod := by decide +kernel
set_option maxRecDepth 65536 in
theorem w_hears : about1.hears theMethod below0 = true := by decide +kernel
set_option maxRecDepth 65536 in
theorem w_ripe : about1.ripe theMethod args0 below0 = true := by decide +kernel
theorem w_running : about1.status = .running := rfl
set_option maxRecDepth 65536 in
theorem w_room : about1.hasRoom e0.platform room_1 = true :=
  launch0.hasRoom_least _ room_1 (by decide +kernel) (by decide +kernel) (by decide +kernel) (by decide +kernel) (by decide +kernel) (by decide +kernel)
theorem allAtoms_all (ts : List Jvm.Cond) (a : Array Jvm.Value) (st : Jvm.State) : (allAtoms ts).before a st = ts.all (fun c => c.before a st) := by
  induction ts with
  | nil => rfl
  | cons c t ih =>
    show (Jvm.Cond.and c (allAtoms t)).before a st = _
    rw [Jvm.Cond.before_and, ih, List.all_cons]
def words1 : List Jvm.Cond := Jvm.Cond.code x code maxLocals ret :: tables_1
/-- a 'code' word, met by the world's own term for the bytes: nothing is compared byte by byte -/
theorem code_word {y : MethodName} {bytes : ByteArray} {mx : Nat} {rt : Option FieldType} {a : Array Value} {s : State} {m : MethodId} {meth : Method} {c : Code} (h1 : s.methodNamed? y = some m) (h2 : s.vm.method? m = some meth) (h3 : meth.code = some c) (h4 : c.code = bytes)
    (h5 : (c.maxLocals == mx && c.exceptionTable.isEmpty && decide (c.maxStack ≤ mostOperands) && decide (meth.sig.returnType = rt) && !meth.locks && decide (parseMethodDescriptor y.desc = some meth.sig)) = true) : (Jvm.Cond.code y bytes mx rt).before a s = true := by
  simp only [Bool.and_eq_true, beq_iff_eq, Bool.not_eq_true', decide_eq_true_eq] at h5
  obtain ⟨⟨⟨⟨⟨g1, g2⟩, g3⟩, g4⟩, g5⟩, g6⟩ := h5
  simp [Cond.before, Cond.holds, Cond.value, h1, h2, h3, h4, g1, g2, g3, g4, g5, g6]
def isCode : Jvm.Cond → Bool
  | .code _ _ _ _ => true
  | _ => false
theorem all_split {L : List Jvm.Cond} {P : Jvm.Cond → Bool} (h1 : L.all (fun c => isCode c || P c) = true) (h2 : ∀ c ∈ L.filter isCode, P c = true) : L.all P = true := by
  refine List.all_eq_true.mpr fun c hc => ?_
  have h := List.all_eq_true.mp h1 c hc
  rcases Bool.eq_false_or_eq_true (isCode c) with hi | hi
  · exact h2 c (List.mem_filter.mpr ⟨hc, hi⟩)
  · simpa [hi] using h
set_option maxRecDepth 65536 in
theorem w_c0 : (Jvm.Cond.code x code maxLocals ret).before args0 about1 = true := code_word (m := ⟨1, 2⟩) (meth := k1m2) (c := k1c2) (by decide +kernel) rfl rfl rfl (by decide +kernel)
set_option maxRecDepth 65536 in
theorem w_c1 : (Jvm.Cond.code ({ cls := "com/example/settleline/settleline/gsh/FaultFlagPinLaw", name := "pick", desc := "(I)Lcom/example/settleline/settleline/gsh/Fault;" } : Jvm.MethodName) method_2_code (1 : Nat) (Option.some (Jvm.ClassFile.FieldType.object "com/example/settleline/settleline/gsh/Fault"))).before args0 about1 = true := code_word (m := ⟨1, 1⟩) (meth := k1m1) (c := k1c1) (by decide +kernel) rfl rfl rfl (by decide +kernel)
set_option maxRecDepth 65536 in
theorem w_c2 : (Jvm.Cond.code ({ cls := "com/example/settleline/settleline/gsh/Fault", name := "flag", desc := "(Z)I" } : Jvm.MethodName) prog_18_method_4_code (2 : Nat) (Option.some Jvm.ClassFile.FieldType.int)).before args0 about1 = true := code_word (m := ⟨6, 0⟩) (meth := k6m0) (c := k6c0) (by decide +kernel) rfl rfl rfl (by decide +kernel)
def codes1 : List Jvm.Cond := [Jvm.Cond.code x code maxLocals ret, Jvm.Cond.code ({ cls := "com/example/settleline/settleline/gsh/FaultFlagPinLaw", name := "pick", desc := "(I)Lcom/example/settleline/settleline/gsh/Fault;" } : Jvm.MethodName) method_2_code (1 : Nat) (Option.some (Jvm.ClassFile.FieldType.object "com/example/settleline/settleline/gsh/Fault")), Jvm.Cond.code ({ cls := "com/example/settleline/settleline/gsh/Fault", name := "flag", desc := "(Z)I" } : Jvm.MethodName) prog_18_method_4_code (2 : Nat) (Option.some Jvm.ClassFile.FieldType.int)]
set_option maxRecDepth 65536 in
theorem codes_eq : words1.filter isCode = codes1 := rfl
theorem w_codes : ∀ c ∈ words1.filter isCode, c.before args0 about1 = true := by
  rw [codes_eq]
  intro c hc
  simp only [codes1, List.mem_cons, List.not_mem_nil, or_false] at hc
  rcases hc with rfl | rfl | rfl
  · exact w_c0
  · exact w_c1
  · exact w_c2
set_option maxRecDepth 65536 in
theorem w_t1 : words1.all (fun c => isCode c || c.before args0 about1) = true := by decide +kernel
theorem w_tables : (allAtoms (Jvm.Cond.code x code maxLocals ret :: tables_1)).before args0 about1 = true := by
  rw [allAtoms_all]
  show words1.all (fun c => c.before args0 about1) = true
  refine all_split ?_ w_codes
  rw [w_t1]
set_option maxRecDepth 65536 in
theorem w_case : (Jvm.Cond.and given_1 narrow_1).before args0 about1 = true := by decide +kernel
theorem w_applies : (headSpec (Jvm.Cond.code x code maxLocals ret :: tables_1) room_1).applies x e0.platform about1 = true :=
  (Spec.applies_iff w_frames).mpr ⟨w_running, w_runnable, w_alone, w_named, w_hears, w_ripe, w_room, w_tables⟩
theorem atStart : AtStart classFile x code maxLocals ret World_1 tables_1 room_1 Calls_1 rest_1 Pre_1 launch0 p0 e0 about1 theMethod args0 below0 :=
  ⟨lists_1, trivial, launch0.admits_env _ _ _, launch0.least_env, fairChoices_fair.cas, fairChoices_fair.clock, w_frames, w_args, w_heap, w_applies, trivial, trivial, w_case⟩
end start1
theorem witness_1 : WitnessClaimed_1 := ⟨start1.p0, start1.e0, start1.about1, start1.theMethod, start1.args0, start1.below0, start1.atStart⟩
end Jvm.Pilot.@@N@@
