import JvmDerived
import JvmDerived.Pilot.@@N@@Statement
import JvmDerived.Pilot.@@N@@Code
set_option linter.unusedVariables false
set_option linter.unusedSimpArgs false
namespace Jvm.Pilot.@@N@@
open Jvm Jvm.ClassFile Sem Op Lib Jvm.Free Jvm.Stand Jvm.LawKit Jvm.RoadKit Bundle Jvm.Pilot.@@N@@.Jvm.D
/-! the walk in continuation form: 'Go' says that from here the body comes to its end with Q -/
def Go (EN : State → Outcome → State → List Loc → Nat → Nat → Prop) (p : Program) (e : Env) (below : List Frame) (s : State) (kc ks : Nat) (Q : Option Value → Heap → List Loc → Prop) (T : State) (g : JFrame) : Prop :=
  ∃ s₂ o, Steps p.tables e below (T.setTop g) s₂ ∧ s₂.status = .running ∧ Ended s₂ below o ∧ ∃ v L, o = .returned v ∧ Q v s₂.heap L ∧ EN s o s₂ L kc ks
section GoLaws
variable {p : Program} {l : Launch} {e : Env} {R : Room} {s : State} {m : MethodId} {args : Array Value} {below : List Frame} {meth : Method} {c : Code} {T T' : State} {locs : List Loc} {cells slots kc ks : Nat} {Q : Option Value → Heap → List Loc → Prop} {g g' : JFrame} {EN : State → Outcome → State → List Loc → Nat → Nat → Prop}
theorem Go.step (st : ∀ t, Steps p.tables e below (T'.setTop g') t → Steps p.tables e below (T.setTop g) t) (k : Go EN p e below s kc ks Q T' g') : Go EN p e below s kc ks Q T g := by
  obtain ⟨a, b, h1, h2⟩ := k
  exact ⟨a, b, st _ h1, h2⟩
theorem Go.trans (st : Steps p.tables e below (T.setTop g) (T'.setTop g')) (k : Go EN p e below s kc ks Q T' g') : Go EN p e below s kc ks Q T g := by
  obtain ⟨a, b, h1, h2⟩ := k
  exact ⟨a, b, st.trans h1, h2⟩
theorem Go.cast (q : g = g') (k : Go EN p e below s kc ks Q T g') : Go EN p e below s kc ks Q T g := q ▸ k
theorem Go.retN (X : Stand p l e R s m args below meth c T locs cells slots) (hx : p.tables.exec = Jvm.exec) {pc : Nat} {Ls : Array Slot} {z : Int32} {t : FieldType} {rest : List Value} (hret : meth.sig.returnType = some t) (ht : t = .boolean ∨ t = .byte ∨ t = .char ∨ t = .short) (hlk : meth.locks = false)
    (hd : decode c.code pc = .ok (.ireturn, 1)) (hc : cells ≤ kc) (hs : slots ≤ ks) (q : Q (some (.int (nar t z))) T.heap locs) : Go FrameEnd p e below s kc ks Q T (mkF m pc Ls (.int z :: rest)) := by
  obtain ⟨fs, hr, hrun, hended, hW, hsame⟩ := X.leave (v := some (.int (nar t z))) (fun h => by rw [hret] at h; cases h) hlk
  exact ⟨_, _, RoadKit.retN X hx hret ht hd hr, hrun, hended, _, _, rfl, q, ⟨_, rfl⟩, hW, hsame.mono hc hs⟩
theorem Go.retI (X : Stand p l e R s m args below meth c T locs cells slots) (hx : p.tables.exec = Jvm.exec) {pc : Nat} {Ls : Array Slot} {z : Int32} {rest : List Value} (hret : meth.sig.returnType = some .int) (hlk : meth.locks = false)
    (hd : decode c.code pc = .ok (.ireturn, 1)) (hc : cells ≤ kc) (hs : slots ≤ ks) (q : Q (some (.int z)) T.heap locs) : Go FrameEnd p e below s kc ks Q T (mkF m pc Ls (.int z :: rest)) := by
  obtain ⟨fs, hr, hrun, hended, hW, hsame⟩ := X.leave (v := some (.int z)) (fun h => by rw [hret] at h; cases h) hlk
  exact ⟨_, _, RoadKit.retOut X hx hret rfl (Or.inl ⟨rfl, Or.inl rfl, _, rfl⟩) hd hr, hrun, hended, _, _, rfl, q, ⟨_, rfl⟩, hW, hsame.mono hc hs⟩
theorem Go.retJ (X : Stand p l e R s m args below meth c T locs cells slots) (hx : p.tables.exec = Jvm.exec) {pc : Nat} {Ls : Array Slot} {z : Int64} {rest : List Value} (hret : meth.sig.returnType = some .long) (hlk : meth.locks = false)
    (hd : decode c.code pc = .ok (.lreturn, 1)) (hc : cells ≤ kc) (hs : slots ≤ ks) (q : Q (some (.long z)) T.heap locs) : Go FrameEnd p e below s kc ks Q T (mkF m pc Ls (.long z :: rest)) := by
  obtain ⟨fs, hr, hrun, hended, hW, hsame⟩ := X.leave (v := some (.long z)) (fun h => by rw [hret] at h; cases h) hlk
  exact ⟨_, _, RoadKit.retOut X hx hret rfl (Or.inr (Or.inl ⟨rfl, rfl, _, rfl⟩)) hd hr, hrun, hended, _, _, rfl, q, ⟨_, rfl⟩, hW, hsame.mono hc hs⟩
theorem Go.retA (X : Stand p l e R s m args below meth c T locs cells slots) (hx : p.tables.exec = Jvm.exec) {pc : Nat} {Ls : Array Slot} {z : Value} {t : FieldType} {rest : List Value} (hret : meth.sig.returnType = some t) (ht : t.isReference = true) (hz : z.isRef = true) (hlk : meth.locks = false)
    (hd : decode c.code pc = .ok (.areturn, 1)) (hc : cells ≤ kc) (hs : slots ≤ ks) (q : Q (some z) T.heap locs) : Go FrameEnd p e below s kc ks Q T (mkF m pc Ls (z :: rest)) := by
  obtain ⟨fs, hr, hrun, hended, hW, hsame⟩ := X.leave (v := some z) (fun h => by rw [hret] at h; cases h) hlk
  exact ⟨_, _, RoadKit.retOut X hx hret (by cases t <;> cases z <;> first | rfl | (cases ht; done) | (cases hz; done)) (Or.inr (Or.inr (Or.inr (Or.inr ⟨rfl, ht, hz⟩)))) hd hr, hrun, hended, _, _, rfl, q, ⟨_, rfl⟩, hW, hsame.mono hc hs⟩
theorem Go.retV (X : Stand p l e R s m args below meth c T locs cells slots) (hx : p.tables.exec = Jvm.exec) {pc : Nat} {Ls : Array Slot} (hret : meth.sig.returnType = none) (hlk : meth.locks = false)
    (hd : decode c.code pc = .ok (.return_, 1)) (hc : cells ≤ kc) (hs : slots ≤ ks) (q : Q none T.heap locs) : Go FrameEnd p e below s kc ks Q T (mkF m pc Ls []) := by
  obtain ⟨fs, hr, hrun, hended, hW, hsame⟩ := X.leave (v := none) (fun _ => rfl) hlk
  exact ⟨_, _, X.returnOut hx hret hd hr, hrun, hended, _, _, rfl, q, ⟨_, rfl⟩, hW, hsame.mono hc hs⟩
theorem rewMono {s t : State} {o : Outcome} {L : List Loc} {k n k' n' : Nat} (h : ReturnedEndW s o t L k n) (hk : k ≤ k') (hn : n ≤ n') : ReturnedEndW s o t L k' n' := ⟨h.1, h.2.1, h.2.2.1, h.2.2.2.mono hk hn⟩
theorem Go.retNW {vm0 : Vm} {k0 : Nat} (X : Stand p l e R (s.setVm vm0) m args below meth c T locs cells slots) (hS : s.Since vm0 k0) (hk : k0 ≤ T.heap.size) (hx : p.tables.exec = Jvm.exec) {pc : Nat} {Ls : Array Slot} {z : Int32} {t : FieldType} {rest : List Value} (hret : meth.sig.returnType = some t) (ht : t = .boolean ∨ t = .byte ∨ t = .char ∨ t = .short) (hlk : meth.locks = false)
    (hd : decode c.code pc = .ok (.ireturn, 1)) (hc : cells ≤ kc) (hs : slots ≤ ks) (q : Q (some (.int (nar t z))) T.heap locs) : Go ReturnedEndW p e below s kc ks Q T (mkF m pc Ls (.int z :: rest)) := by
  obtain ⟨fs, hr, hrun, hended, hW⟩ := X.leaveW hS hk (v := some (.int (nar t z))) (fun h => by rw [hret] at h; cases h) hlk
  exact ⟨_, _, RoadKit.retN X hx hret ht hd hr, hrun, hended, _, _, rfl, q, rewMono hW hc hs⟩
theorem Go.retIW {vm0 : Vm} {k0 : Nat} (X : Stand p l e R (s.setVm vm0) m args below meth c T locs cells slots) (hS : s.Since vm0 k0) (hk : k0 ≤ T.heap.size) (hx : p.tables.exec = Jvm.exec) {pc : Nat} {Ls : Array Slot} {z : Int32} {rest : List Value} (hret : meth.sig.returnType = some .int) (hlk : meth.locks = false)
    (hd : decode c.code pc = .ok (.ireturn, 1)) (hc : cells ≤ kc) (hs : slots ≤ ks) (q : Q (some (.int z)) T.heap locs) : Go ReturnedEndW p e below s kc ks Q T (mkF m pc Ls (.int z :: rest)) := by
  obtain ⟨fs, hr, hrun, hended, hW⟩ := X.leaveW hS hk (v := some (.int z)) (fun h => by rw [hret] at h; cases h) hlk
  exact ⟨_, _, RoadKit.retOut X hx hret rfl (Or.inl ⟨rfl, Or.inl rfl, _, rfl⟩) hd hr, hrun, hended, _, _, rfl, q, rewMono hW hc hs⟩
theorem Go.retJW {vm0 : Vm} {k0 : Nat} (X : Stand p l e R (s.setVm vm0) m args below meth c T locs cells slots) (hS : s.Since vm0 k0) (hk : k0 ≤ T.heap.size) (hx : p.tables.exec = Jvm.exec) {pc : Nat} {Ls : Array Slot} {z : Int64} {rest : List Value} (hret : meth.sig.returnType = some .long) (hlk : meth.locks = false)
    (hd : decode c.code pc = .ok (.lreturn, 1)) (hc : cells ≤ kc) (hs : slots ≤ ks) (q : Q (some (.long z)) T.heap locs) : Go ReturnedEndW p e below s kc ks Q T (mkF m pc Ls (.long z :: rest)) := by
  obtain ⟨fs, hr, hrun, hended, hW⟩ := X.leaveW hS hk (v := some (.long z)) (fun h => by rw [hret] at h; cases h) hlk
  exact ⟨_, _, RoadKit.retOut X hx hret rfl (Or.inr (Or.inl ⟨rfl, rfl, _, rfl⟩)) hd hr, hrun, hended, _, _, rfl, q, rewMono hW hc hs⟩
theorem Go.retAW {vm0 : Vm} {k0 : Nat} (X : Stand p l e R (s.setVm vm0) m args below meth c T locs cells slots) (hS : s.Since vm0 k0) (hk : k0 ≤ T.heap.size) (hx : p.tables.exec = Jvm.exec) {pc : Nat} {Ls : Array Slot} {z : Value} {t : FieldType} {rest : List Value} (hret : meth.sig.returnType = some t) (ht : t.isReference = true) (hz : z.isRef = true) (hlk : meth.locks = false)
    (hd : decode c.code pc = .ok (.areturn, 1)) (hc : cells ≤ kc) (hs : slots ≤ ks) (q : Q (some z) T.heap locs) : Go ReturnedEndW p e below s kc ks Q T (mkF m pc Ls (z :: rest)) := by
  obtain ⟨fs, hr, hrun, hended, hW⟩ := X.leaveW hS hk (v := some z) (fun h => by rw [hret] at h; cases h) hlk
  exact ⟨_, _, RoadKit.retOut X hx hret (by cases t <;> cases z <;> first | rfl | (cases ht; done) | (cases hz; done)) (Or.inr (Or.inr (Or.inr (Or.inr ⟨rfl, ht, hz⟩)))) hd hr, hrun, hended, _, _, rfl, q, rewMono hW hc hs⟩
theorem Go.retVW {vm0 : Vm} {k0 : Nat} (X : Stand p l e R (s.setVm vm0) m args below meth c T locs cells slots) (hS : s.Since vm0 k0) (hk : k0 ≤ T.heap.size) (hx : p.tables.exec = Jvm.exec) {pc : Nat} {Ls : Array Slot} (hret : meth.sig.returnType = none) (hlk : meth.locks = false)
    (hd : decode c.code pc = .ok (.return_, 1)) (hc : cells ≤ kc) (hs : slots ≤ ks) (q : Q none T.heap locs) : Go ReturnedEndW p e below s kc ks Q T (mkF m pc Ls []) := by
  obtain ⟨fs, hr, hrun, hended, hW⟩ := X.leaveW hS hk (v := none) (fun _ => rfl) hlk
  exact ⟨_, _, X.returnOut hx hret hd hr, hrun, hended, _, _, rfl, q, rewMono hW hc hs⟩
theorem extRfl (h : Heap) : Ext h h := ⟨Nat.le_refl _, fun _ _ q => q⟩
theorem extTr {h1 h2 h3 : Heap} (A : Ext h1 h2) (B : Ext h2 h3) : Ext h1 h3 := ⟨Nat.le_trans A.1 B.1, fun a c q => B.2 a c (A.2 a c q)⟩
theorem extKeep {h1 h2 h3 : Heap} {ws : List Addr} (A : Ext h1 h2) (K : Keep h2 h3 ws) (q : ∀ x ∈ ws, h1.size ≤ x) : Ext h1 h3 := ⟨Nat.le_trans A.1 K.1, fun a c r => K.2.1 a c (A.2 a c r) fun z => absurd (Array.getElem?_eq_some_iff.mp r).1 (Nat.not_lt.mpr (q a z))⟩
theorem extWr {h1 h2 h3 : Heap} {a : Addr} {sl : Nat} {v : Value} (A : Ext h1 h2) (W : Wr h2 h3 a sl v) (q : h1.size ≤ a) : Ext h1 h3 := extKeep A (Keep.of_wr W) (allS q all0)
end GoLaws
theorem fldStart {Z : State} {args : Array Value} {t : Jvm.Term} {a : Addr} {C n d : String} {k : Int32} (ev : t.eval args Z none [] Z = some (.ref a)) (h : (Jvm.Cond.eq (.field t C n d) (.int k)).value args Z none Z [] = some true) : Fld Z Z.heap a C n d (.int k) :=
  Fld.start ((fld_at ev).symm.trans (eqv_i (Term.int_eval k) h))
/-- putfield through an entry that the sheet says resolved -/
theorem putRdy {p : Program} {l : Launch} {e : Env} {R : Room} {s : State} {m : MethodId} {args : Array Value} {below : List Frame} {meth : Method} {c : Code} {T : State} {locs : List Loc} {cells slots : Nat} {Z : State} {a0 : Array Value} {h : Heap}
    (X : Stand p l e R s m args below meth c T locs cells slots) (hx : p.tables.exec = Jvm.exec) (hZ : Z.Warmed39 s.vm) {own O n d C : String} {index kk : Nat} {ty : FieldType} (hown : s.vm.findClass own = some m.cls) (w : (Jvm.Cond.fieldRef own index O n d).before a0 Z = true)
    (eT : T.heap = h) {a : Addr} {v old : Value} (F : Fld Z h a O n d old) (E : Exa Z h a C) (L : (Jvm.Cond.lays C O n d).before a0 Z = true) (wi : (Jvm.Cond.instantiable C kk).before a0 Z = true)
    (hty : parseFieldDescriptor d = some ty) (hn : narrow ty v = v) (hf : fits ty v = true) {g : JFrame} (hg : g.method = m) {rest : List Value} (hs : g.stack = v :: .ref a :: rest) (hd : decode c.code g.pc = .ok (.putfield index, 3)) :
    ∃ T' h', Stand p l e R s m args below meth c T' (locs ++ [⟨a, Jvm.RoadKit.slotOf Z O n d⟩]) cells slots ∧ T'.heap = h' ∧ Wr h h' a (Jvm.RoadKit.slotOf Z O n d) v ∧ ∀ target, Steps p.tables e below (T'.setTop { g with pc := g.pc + 3, stack := rest }) target → Steps p.tables e below (T.setTop g) target := by
  have hT : Z.Warmed39 T.vm := wtrans hZ X.warmed
  obtain ⟨cell, cf, k, i, f, h1, h2, h3, h4, h5, -, h7⟩ := F
  obtain ⟨cell', kc, e1, e2, e3, -⟩ := E
  cases h1.symm.trans e1
  obtain ⟨c1, k1, cf1, kf1, i1, f1, a1, a2, a3, -, -, a6, -⟩ := Laid.spec (Or.inl L)
  cases h2.symm.trans a3
  cases e2.symm.trans a1
  obtain ⟨c2, k2, i1, i2, i3, -⟩ := Cond.instantiable_spec wi
  cases e2.symm.trans i1
  cases a2.symm.trans i2
  have ht := (State.fieldFound?_type h2 hty).2
  have hfit : Z.fitsSlot cell.cls cell.vm f.slot v = true := by
    have q : Z.slotType? cell.cls cell.vm f.slot = some ty := by
      simp only [State.slotType?, a2, Option.bind_eq_bind, Option.bind_some, i3]
      cases hq : cell.vm <;> first | (rw [hq] at h5; exact Bool.noConfusion h5) | (rw [a6, ht])
    simp [State.fitsSlot, q, hf]
  have hfitT : T.fitsSlot cell.cls cell.vm f.slot v = true := by rw [← State.fitsSlot_setVm hT.alike] at hfit; exact hfit
  obtain ⟨_, _, _, _, _, _, -, -, b3, -, b5, -⟩ := Cond.lays_spec L
  cases h2.symm.trans b3
  have hcur : (Z.setVm T.vm).vm.findClass own = some m.cls := by
    show T.vm.findClass own = _
    rw [hT.alike.findClass, ← hZ.alike.findClass]; exact hown
  obtain ⟨cq, kq, iq, fq, q1, q2⟩ := Cond.fieldRef_spec hcur (Cond.fieldRef_warmed39 hT w)
  obtain ⟨k', q3, -⟩ := State.fieldFound?_setVm (s := Z) hT.alike h2
  cases q1.symm.trans q3
  have hlt := (Array.getElem?_eq_some_iff.mp h7).1
  have es : Jvm.RoadKit.slotOf Z O n d = f.slot := by simp [Jvm.RoadKit.slotOf, h2]
  rw [es]
  obtain ⟨X', st⟩ := X.putfieldReady hx q2 h3 (Or.inl b5) (by rw [eT]; exact h1) h4 hlt (by rw [ht]; exact hn) hfitT hg hs hd
  exact ⟨_, _, X', rfl, ⟨cell, h1, h5, hlt, by rw [← eT]; rfl⟩, st⟩
theorem own_mod (x y : Int32) (d : Int) (hy : y.toInt = d) (hd : 0 < d) : 0 ≤ ((x &&& 2147483647) % y).toInt ∧ ((x &&& 2147483647) % y).toInt < d := by
  have h1 := c_mask x 2147483647 31 (by decide) (by decide)
  have h2 := (c_irem (x &&& 2147483647) y d hy).1 (by rw [h1]; omega)
  rw [h2]
  exact ⟨Int.emod_nonneg _ (by omega), Int.emod_lt_of_pos _ hd⟩
theorem d1_0 : decode prog_34_method_9_code 0 = .ok (.iload_n 1, 1) := by decide +kernel
theorem d1_1 : decode prog_34_method_9_code 1 = .ok (.aload_n 0, 1) := by decide +kernel
theorem d1_2 : decode prog_34_method_9_code 2 = .ok (.getfield 84, 3) := by decide +kernel
theorem d1_5 : decode prog_34_method_9_code 5 = .ok (.if_icmp .lt 15, 3) := by decide +kernel
theorem d1_20 : decode prog_34_method_9_code 20 = .ok (.iconst 0, 1) := by decide +kernel
theorem d1_21 : decode prog_34_method_9_code 21 = .ok (.ireturn, 1) := by decide +kernel
theorem d1_8 : decode prog_34_method_9_code 8 = .ok (.iload_n 1, 1) := by decide +kernel
theorem d1_9 : decode prog_34_method_9_code 9 = .ok (.aload_n 0, 1) := by decide +kernel
theorem d1_10 : decode prog_34_method_9_code 10 = .ok (.getfield 87, 3) := by decide +kernel
theorem d1_13 : decode prog_34_method_9_code 13 = .ok (.if_icmp .gt 7, 3) := by decide +kernel
theorem d1_16 : decode prog_34_method_9_code 16 = .ok (.iconst 1, 1) := by decide +kernel
theorem d1_17 : decode prog_34_method_9_code 17 = .ok (.goto 4, 3) := by decide +kernel
theorem pn_1 : plainName "com/example/clean_epoch/cleanepoch/protocol/ApiKey" = true := by first | (simp [plainName, overriddenIn]; done) | decide +kernel
theorem ef_1 (m : MethodId) (y0 : Addr) (y1 : Int32) : entryFrame m #[(.ref y0), (.int y1)] 2 = mkF m 0 #[.val (.ref y0), .val (.int y1)] [] := by first | (simp [entryFrame, mkF, argsToLocals, Value.category]; done) | rfl
def Q_1 (Z : State) (x0 : Addr) (x1 : Int32) (lo : Int32) (hi : Int32) (r : Int32) (h0 : Heap) (v : Option Value) (h : Heap) (L : List Loc) : Prop := v = some (.int r) ∧ Fr Z.heap.size L ∧ h = h0
set_option maxRecDepth 65536 in
set_option maxHeartbeats 40000000 in
theorem rm_1 (l : Launch) (Z : State) (a0 : Array Value) (hw : ∀ d ∈ tables_1, d.before a0 Z = true) (ws : List Jvm.Cond) (x0 : Addr) (x1 : Int32) (lo : Int32) (hi : Int32) (r : Int32) (h0 : Heap) (O0 : Ext Z.heap h0) (F_m : Fld Z Z.heap x0 "com/example/clean_epoch/cleanepoch/protocol/ApiKey" "minVersion" "S" (.int lo)) (F_M : Fld Z Z.heap x0 "com/example/clean_epoch/cleanepoch/protocol/ApiKey" "maxVersion" "S" (.int hi)) (hr : r = if x1 < lo then 0 else if hi < x1 then 0 else 1) :
    MetFree l (⟨"com/example/clean_epoch/cleanepoch/protocol/ApiKey", "serves", "(S)Z"⟩ : MethodName) (head1 (Jvm.Cond.code (⟨"com/example/clean_epoch/cleanepoch/protocol/ApiKey", "serves", "(S)Z"⟩ : MethodName) prog_34_method_9_code 2 (some .boolean) :: ws) ({ frames := 0, cells := 0, slots := 0, locals := 0 } : Room)) (fun a U => a = #[(.ref x0), (.int x1)] ∧ Z.Warmed39 U.vm ∧ U.heap = h0) (fun _ _ _ _ _ => True) (fun _ U o U' => ∃ v L, o = .returned v ∧ Q_1 Z x0 x1 lo hi r h0 v U'.heap L ∧ FrameEnd U o U' L ({ frames := 0, cells := 0, slots := 0, locals := 0 } : Room).cells ({ frames := 0, cells := 0, slots := 0, locals := 0 } : Room).slots) := by
  refine MetFree.of_bodySF (plainFor_of_name pn_1) hisR ?_
  intro p e s m args below meth c s₁ Bd hml0 hP hK
  obtain ⟨rfl, hZ, hh⟩ := hP
  have hx := Bd.exec
  have hby := Bd.bytes
  have hlk := Bd.notSynchronized
  have hml : c.maxLocals = 2 := hml0
  have hown : s.vm.findClass "com/example/clean_epoch/cleanepoch/protocol/ApiKey" = some m.cls := findClass_of_methodNamed Bd.named
  have hnm := (name_of_methodNamed Bd.named Bd.method).1
  have X0 : Stand p l e ({ frames := 0, cells := 0, slots := 0, locals := 0 } : Room) s m #[(.ref x0), (.int x1)] below meth c s₁ [] 0 0 := Stand.of_body Bd
  have e0 : s₁.heap = h0 := by rw [← hh, Bd.state]; rfl
  have N0 := Fr.nil Z.heap.size
  show Go FrameEnd p e below s ({ frames := 0, cells := 0, slots := 0, locals := 0 } : Room).cells ({ frames := 0, cells := 0, slots := 0, locals := 0 } : Room).slots (Q_1 Z x0 x1 lo hi r h0) s₁ (entryFrame m #[(.ref x0), (.int x1)] 2)
  refine Go.cast (ef_1 m x0 x1) ?_
  show Go _ _ _ _ _ _ _ _ s₁ (mkF m 0 #[.val (.ref x0), .val (.int x1)] [])
  refine Go.step (fun _ kt_ => XS.iloadN X0.here hx rfl (hb hby d1_0) rfl kt_) ?_
  show Go _ _ _ _ _ _ _ _ s₁ (mkF m 1 #[.val (.ref x0), .val (.int x1)] [(.int x1)])
  refine Go.step (fun _ kt_ => XS.aloadN X0.here hx rfl (hb hby d1_1) rfl rfl kt_) ?_
  show Go _ _ _ _ _ _ _ _ s₁ (mkF m 2 #[.val (.ref x0), .val (.int x1)] [(.ref x0), (.int x1)])
  obtain ⟨T1, X1, e1, st1⟩ := getF X0 hx hZ hown (host := "") (Or.inl (hw _ (List.mem_of_getElem? (i := 49) rfl))) Via.refl e0 (Fld.ext O0 F_m) (g := (mkF m 2 #[.val (.ref x0), .val (.int x1)] [(.ref x0), (.int x1)])) rfl rfl (hb hby d1_2)
  refine Go.step st1 ?_
  show Go _ _ _ _ _ _ _ _ T1 (mkF m 5 #[.val (.ref x0), .val (.int x1)] [(.int lo), (.int x1)])
  by_cases hc5_2 : x1 < lo
  · refine Go.step (fun _ kt_ => XS.icmpYes X1.here hx rfl (pc0 := 5) (pc' := 20) rfl (hb hby d1_5) rfl (tlt hc5_2).1 (by decide) (by decide) kt_) ?_
    show Go _ _ _ _ _ _ _ _ T1 (mkF m 20 #[.val (.ref x0), .val (.int x1)] [])
    refine Go.step (fun _ kt_ => XS.iconst X1.here hx rfl (hb hby d1_20)  kt_) ?_
    show Go _ _ _ _ _ _ _ _ T1 (mkF m 21 #[.val (.ref x0), .val (.int x1)] [(.int (0 : Int32))])
    exact Go.retN X1 hx (t := .boolean) Bd.returns (by simp) hlk (hb hby d1_21) (by decide) (by decide) (by show _ ∧ _ ∧ _; rw [e1]; refine ⟨congrArg (fun z => some (Value.int z)) ?_, N0, rfl⟩; rw [hr]; ((try simp only [lw_lt, lw_gt, lw_eq] at hc5_2); simp only [hc5_2, if_true, if_false, ite_self, eq_self, not_false_eq_true, true_or, or_true, false_or, or_false, or_self]); try rfl)
  · refine Go.step (fun _ kt_ => XS.icmpNo X1.here hx rfl (hb hby d1_5) rfl (flt hc5_2).1 kt_) ?_
    show Go _ _ _ _ _ _ _ _ T1 (mkF m 8 #[.val (.ref x0), .val (.int x1)] [])
    refine Go.step (fun _ kt_ => XS.iloadN X1.here hx rfl (hb hby d1_8) rfl kt_) ?_
    show Go _ _ _ _ _ _ _ _ T1 (mkF m 9 #[.val (.ref x0), .val (.int x1)] [(.int x1)])
    refine Go.step (fun _ kt_ => XS.aloadN X1.here hx rfl (hb hby d1_9) rfl rfl kt_) ?_
    show Go _ _ _ _ _ _ _ _ T1 (mkF m 10 #[.val (.ref x0), .val (.int x1)] [(.ref x0), (.int x1)])
    obtain ⟨T3, X3, e3, st3⟩ := getF X1 hx hZ hown (host := "") (Or.inl (hw _ (List.mem_of_getElem? (i := 51) rfl))) Via.refl e1 (Fld.ext O0 F_M) (g := (mkF m 10 #[.val (.ref x0), .val (.int x1)] [(.ref x0), (.int x1)])) rfl rfl (hb hby d1_10)
    refine Go.step st3 ?_
    show Go _ _ _ _ _ _ _ _ T3 (mkF m 13 #[.val (.ref x0), .val (.int x1)] [(.int hi), (.int x1)])
    by_cases hc13_4 : hi < x1
    · refine Go.step (fun _ kt_ => XS.icmpYes X3.here hx rfl (pc0 := 13) (pc' := 20) rfl (hb hby d1_13) rfl (tlt hc13_4).2.2.1 (by decide) (by decide) kt_) ?_
      show Go _ _ _ _ _ _ _ _ T3 (mkF m 20 #[.val (.ref x0), .val (.int x1)] [])
      refine Go.step (fun _ kt_ => XS.iconst X3.here hx rfl (hb hby d1_20)  kt_) ?_
      show Go _ _ _ _ _ _ _ _ T3 (mkF m 21 #[.val (.ref x0), .val (.int x1)] [(.int (0 : Int32))])
      exact Go.retN X3 hx (t := .boolean) Bd.returns (by simp) hlk (hb hby d1_21) (by decide) (by decide) (by show _ ∧ _ ∧ _; rw [e3]; refine ⟨congrArg (fun z => some (Value.int z)) ?_, N0, rfl⟩; rw [hr]; ((try simp only [lw_lt, lw_gt, lw_eq] at hc5_2 hc13_4); simp only [hc5_2, hc13_4, if_true, if_false, ite_self, eq_self, not_false_eq_true, true_or, or_true, false_or, or_false, or_self]); try rfl)
    · refine Go.step (fun _ kt_ => XS.icmpNo X3.here hx rfl (hb hby d1_13) rfl (flt hc13_4).2.2.1 kt_) ?_
      show Go _ _ _ _ _ _ _ _ T3 (mkF m 16 #[.val (.ref x0), .val (.int x1)] [])
      refine Go.step (fun _ kt_ => XS.iconst X3.here hx rfl (hb hby d1_16)  kt_) ?_
      show Go _ _ _ _ _ _ _ _ T3 (mkF m 17 #[.val (.ref x0), .val (.int x1)] [(.int (1 : Int32))])
      refine Go.step (fun _ kt_ => XS.goto X3.here hx rfl (pc0 := 17) (pc' := 21) rfl (hb hby d1_17) (by decide) (by decide) kt_) ?_
      show Go _ _ _ _ _ _ _ _ T3 (mkF m 21 #[.val (.ref x0), .val (.int x1)] [(.int (1 : Int32))])
      exact Go.retN X3 hx (t := .boolean) Bd.returns (by simp) hlk (hb hby d1_21) (by decide) (by decide) (by show _ ∧ _ ∧ _; rw [e3]; refine ⟨congrArg (fun z => some (Value.int z)) ?_, N0, rfl⟩; rw [hr]; ((try simp only [lw_lt, lw_gt, lw_eq] at hc5_2 hc13_4); simp only [hc5_2, hc13_4, if_true, if_false, ite_self, eq_self, not_false_eq_true, true_or, or_true, false_or, or_false, or_self]); try rfl)
theorem pd_LSRZ : parseMethodDescriptor "(S)Z" = some ⟨[.short], some .boolean⟩ := by decide +kernel
theorem pn_0 : plainName "com/example/clean_epoch/cleanepoch/protocol/ApiKeyServesPinLaw" = true := by first | (simp [plainName, overriddenIn]; done) | decide +kernel
theorem ef_0 (m : MethodId) (y0 : Int32) (y1 : Int32) (y2 : Int32) : entryFrame m #[(.int y0), (.int y1), (.int y2)] maxLocals = mkF m 0 #[.val (.int y0), .val (.int y1), .val (.int y2), .unset, .unset, .unset, .unset, .unset, .unset, .unset, .unset, .unset] [] := by first | (simp [entryFrame, mkF, argsToLocals, Value.category, maxLocals]; done) | rfl
def Q_0 (Z : State) (x0 : Int32) (x1 : Int32) (x2 : Int32) (c0 : Addr) (c1 : Addr) (c2 : Addr) (c3 : Addr) (c4 : Addr) (c5 : Addr) (c6 : Addr) (c7 : Addr) (c8 : Addr) (c9 : Addr) (c10 : Addr) (c11 : Addr) (c12 : Addr) (c13 : Addr) (c14 : Addr) (c15 : Addr) (c16 : Addr) (c17 : Addr) (c18 : Addr) (h0 : Heap) (v : Option Value) (h : Heap) (L : List Loc) : Prop := v = some (.int 1) ∧ Fr Z.heap.size L ∧ True
set_option maxRecDepth 65536 in
set_option maxHeartbeats 40000000 in
theorem rm_0 (l : Launch) (Z : State) (a0 : Array Value) (hw : ∀ d ∈ tables_1, d.before a0 Z = true) (ws : List Jvm.Cond) (x0 : Int32) (x1 : Int32) (x2 : Int32) (c0 : Addr) (c1 : Addr) (c2 : Addr) (c3 : Addr) (c4 : Addr) (c5 : Addr) (c6 : Addr) (c7 : Addr) (c8 : Addr) (c9 : Addr) (c10 : Addr) (c11 : Addr) (c12 : Addr) (c13 : Addr) (c14 : Addr) (c15 : Addr) (c16 : Addr) (c17 : Addr) (c18 : Addr) (h0 : Heap) (O0 : Ext Z.heap h0) (S_0 : Sta Z Z.heap "com/example/clean_epoch/cleanepoch/protocol/ApiKey" "PRODUCE" "Lcom/example/clean_epoch/cleanepoch/protocol/ApiKey;" (.ref c0)) (S_1 : Sta Z Z.heap "com/example/clean_epoch/cleanepoch/protocol/ApiKey" "FETCH" "Lcom/example/clean_epoch/cleanepoch/protocol/ApiKey;" (.ref c1)) (S_2 : Sta Z Z.heap "com/example/clean_epoch/cleanepoch/protocol/ApiKey" "LIST_OFFSETS" "Lcom/example/clean_epoch/cleanepoch/protocol/ApiKey;" (.ref c2)) (S_3 : Sta Z Z.heap "com/example/clean_epoch/cleanepoch/protocol/ApiKey" "METADATA" "Lcom/example/clean_epoch/cleanepoch/protocol/ApiKey;" (.ref c3)) (S_4 : Sta Z Z.heap "com/example/clean_epoch/cleanepoch/protocol/ApiKey" "OFFSET_COMMIT" "Lcom/example/clean_epoch/cleanepoch/protocol/ApiKey;" (.ref c4)) (S_5 : Sta Z Z.heap "com/example/clean_epoch/cleanepoch/protocol/ApiKey" "OFFSET_FETCH" "Lcom/example/clean_epoch/cleanepoch/protocol/ApiKey;" (.ref c5)) (S_6 : Sta Z Z.heap "com/example/clean_epoch/cleanepoch/protocol/ApiKey" "FIND_COORDINATOR" "Lcom/example/clean_epoch/cleanepoch/protocol/ApiKey;" (.ref c6)) (S_7 : Sta Z Z.heap "com/example/clean_epoch/cleanepoch/protocol/ApiKey" "JOIN_GROUP" "Lcom/example/clean_epoch/cleanepoch/protocol/ApiKey;" (.ref c7)) (S_8 : Sta Z Z.heap "com/example/clean_epoch/cleanepoch/protocol/ApiKey" "HEARTBEAT" "Lcom/example/clean_epoch/cleanepoch/protocol/ApiKey;" (.ref c8)) (S_9 : Sta Z Z.heap "com/example/clean_epoch/cleanepoch/protocol/ApiKey" "LEAVE_GROUP" "Lcom/example/clean_epoch/cleanepoch/protocol/ApiKey;" (.ref c9)) (S_10 : Sta Z Z.heap "com/example/clean_epoch/cleanepoch/protocol/ApiKey" "SYNC_GROUP" "Lcom/example/clean_epoch/cleanepoch/protocol/ApiKey;" (.ref c10)) (S_11 : Sta Z Z.heap "com/example/clean_epoch/cleanepoch/protocol/ApiKey" "API_VERSIONS" "Lcom/example/clean_epoch/cleanepoch/protocol/ApiKey;" (.ref c11)) (S_12 : Sta Z Z.heap "com/example/clean_epoch/cleanepoch/protocol/ApiKey" "OFFSET_FOR_LEADER_EPOCH" "Lcom/example/clean_epoch/cleanepoch/protocol/ApiKey;" (.ref c12)) (S_13 : Sta Z Z.heap "com/example/clean_epoch/cleanepoch/protocol/ApiKey" "CREATE_TOPIC" "Lcom/example/clean_epoch/cleanepoch/protocol/ApiKey;" (.ref c13)) (S_14 : Sta Z Z.heap "com/example/clean_epoch/cleanepoch/protocol/ApiKey" "CLUSTER_STATE" "Lcom/example/clean_epoch/cleanepoch/protocol/ApiKey;" (.ref c14)) (S_15 : Sta Z Z.heap "com/example/clean_epoch/cleanepoch/protocol/ApiKey" "ELECT_LEADER" "Lcom/example/clean_epoch/cleanepoch/protocol/ApiKey;" (.ref c15)) (S_16 : Sta Z Z.heap "com/example/clean_epoch/cleanepoch/protocol/ApiKey" "CHANGE_IN_SYNC_SET" "Lcom/example/clean_epoch/cleanepoch/protocol/ApiKey;" (.ref c16)) (S_17 : Sta Z Z.heap "com/example/clean_epoch/cleanepoch/protocol/ApiKey" "CONTROLLER_VOTE" "Lcom/example/clean_epoch/cleanepoch/protocol/ApiKey;" (.ref c17)) (S_18 : Sta Z Z.heap "com/example/clean_epoch/cleanepoch/protocol/ApiKey" "CONTROLLER_HEARTBEAT" "Lcom/example/clean_epoch/cleanepoch/protocol/ApiKey;" (.ref c18)) (X_0 : Exa Z Z.heap c0 "com/example/clean_epoch/cleanepoch/protocol/ApiKey") (X_1 : Exa Z Z.heap c1 "com/example/clean_epoch/cleanepoch/protocol/ApiKey") (X_2 : Exa Z Z.heap c2 "com/example/clean_epoch/cleanepoch/protocol/ApiKey") (X_3 : Exa Z Z.heap c3 "com/example/clean_epoch/cleanepoch/protocol/ApiKey") (X_4 : Exa Z Z.heap c4 "com/example/clean_epoch/cleanepoch/protocol/ApiKey") (X_5 : Exa Z Z.heap c5 "com/example/clean_epoch/cleanepoch/protocol/ApiKey") (X_6 : Exa Z Z.heap c6 "com/example/clean_epoch/cleanepoch/protocol/ApiKey") (X_7 : Exa Z Z.heap c7 "com/example/clean_epoch/cleanepoch/protocol/ApiKey") (X_8 : Exa Z Z.heap c8 "com/example/clean_epoch/cleanepoch/protocol/ApiKey") (X_9 : Exa Z Z.heap c9 "com/example/clean_epoch/cleanepoch/protocol/ApiKey") (X_10 : Exa Z Z.heap c10 "com/example/clean_epoch/cleanepoch/protocol/ApiKey") (X_11 : Exa Z Z.heap c11 "com/example/clean_epoch/cleanepoch/protocol/ApiKey") (X_12 : Exa Z Z.heap c12 "com/example/clean_epoch/cleanepoch/protocol/ApiKey") (X_13 : Exa Z Z.heap c13 "com/example/clean_epoch/cleanepoch/protocol/ApiKey") (X_14 : Exa Z Z.heap c14 "com/example/clean_epoch/cleanepoch/protocol/ApiKey") (X_15 : Exa Z Z.heap c15 "com/example/clean_epoch/cleanepoch/protocol/ApiKey") (X_16 : Exa Z Z.heap c16 "com/example/clean_epoch/cleanepoch/protocol/ApiKey") (X_17 : Exa Z Z.heap c17 "com/example/clean_epoch/cleanepoch/protocol/ApiKey") (X_18 : Exa Z Z.heap c18 "com/example/clean_epoch/cleanepoch/protocol/ApiKey") (F_0 : Fld Z Z.heap c0 "com/example/clean_epoch/cleanepoch/protocol/ApiKey" "minVersion" "S" (.int (3 : Int32))) (F_1 : Fld Z Z.heap c1 "com/example/clean_epoch/cleanepoch/protocol/ApiKey" "minVersion" "S" (.int (4 : Int32))) (F_2 : Fld Z Z.heap c2 "com/example/clean_epoch/cleanepoch/protocol/ApiKey" "minVersion" "S" (.int (1 : Int32))) (F_3 : Fld Z Z.heap c3 "com/example/clean_epoch/cleanepoch/protocol/ApiKey" "minVersion" "S" (.int (0 : Int32))) (F_4 : Fld Z Z.heap c4 "com/example/clean_epoch/cleanepoch/protocol/ApiKey" "minVersion" "S" (.int (2 : Int32))) (F_5 : Fld Z Z.heap c5 "com/example/clean_epoch/cleanepoch/protocol/ApiKey" "minVersion" "S" (.int (1 : Int32))) (F_6 : Fld Z Z.heap c6 "com/example/clean_epoch/cleanepoch/protocol/ApiKey" "minVersion" "S" (.int (0 : Int32))) (F_7 : Fld Z Z.heap c7 "com/example/clean_epoch/cleanepoch/protocol/ApiKey" "minVersion" "S" (.int (0 : Int32))) (F_8 : Fld Z Z.heap c8 "com/example/clean_epoch/cleanepoch/protocol/ApiKey" "minVersion" "S" (.int (0 : Int32))) (F_9 : Fld Z Z.heap c9 "com/example/clean_epoch/cleanepoch/protocol/ApiKey" "minVersion" "S" (.int (0 : Int32))) (F_10 : Fld Z Z.heap c10 "com/example/clean_epoch/cleanepoch/protocol/ApiKey" "minVersion" "S" (.int (0 : Int32))) (F_11 : Fld Z Z.heap c11 "com/example/clean_epoch/cleanepoch/protocol/ApiKey" "minVersion" "S" (.int (0 : Int32))) (F_12 : Fld Z Z.heap c12 "com/example/clean_epoch/cleanepoch/protocol/ApiKey" "minVersion" "S" (.int (3 : Int32))) (F_13 : Fld Z Z.heap c13 "com/example/clean_epoch/cleanepoch/protocol/ApiKey" "minVersion" "S" (.int (0 : Int32))) (F_14 : Fld Z Z.heap c14 "com/example/clean_epoch/cleanepoch/protocol/ApiKey" "minVersion" "S" (.int (0 : Int32))) (F_15 : Fld Z Z.heap c15 "com/example/clean_epoch/cleanepoch/protocol/ApiKey" "minVersion" "S" (.int (0 : Int32))) (F_16 : Fld Z Z.heap c16 "com/example/clean_epoch/cleanepoch/protocol/ApiKey" "minVersion" "S" (.int (0 : Int32))) (F_17 : Fld Z Z.heap c17 "com/example/clean_epoch/cleanepoch/protocol/ApiKey" "minVersion" "S" (.int (0 : Int32))) (F_18 : Fld Z Z.heap c18 "com/example/clean_epoch/cleanepoch/protocol/ApiKey" "minVersion" "S" (.int (0 : Int32))) (G_0 : Fld Z Z.heap c0 "com/example/clean_epoch/cleanepoch/protocol/ApiKey" "maxVersion" "S" (.int (7 : Int32))) (G_1 : Fld Z Z.heap c1 "com/example/clean_epoch/cleanepoch/protocol/ApiKey" "maxVersion" "S" (.int (11 : Int32))) (G_2 : Fld Z Z.heap c2 "com/example/clean_epoch/cleanepoch/protocol/ApiKey" "maxVersion" "S" (.int (4 : Int32))) (G_3 : Fld Z Z.heap c3 "com/example/clean_epoch/cleanepoch/protocol/ApiKey" "maxVersion" "S" (.int (7 : Int32))) (G_4 : Fld Z Z.heap c4 "com/example/clean_epoch/cleanepoch/protocol/ApiKey" "maxVersion" "S" (.int (7 : Int32))) (G_5 : Fld Z Z.heap c5 "com/example/clean_epoch/cleanepoch/protocol/ApiKey" "maxVersion" "S" (.int (7 : Int32))) (G_6 : Fld Z Z.heap c6 "com/example/clean_epoch/cleanepoch/protocol/ApiKey" "maxVersion" "S" (.int (2 : Int32))) (G_7 : Fld Z Z.heap c7 "com/example/clean_epoch/cleanepoch/protocol/ApiKey" "maxVersion" "S" (.int (5 : Int32))) (G_8 : Fld Z Z.heap c8 "com/example/clean_epoch/cleanepoch/protocol/ApiKey" "maxVersion" "S" (.int (3 : Int32))) (G_9 : Fld Z Z.heap c9 "com/example/clean_epoch/cleanepoch/protocol/ApiKey" "maxVersion" "S" (.int (1 : Int32))) (G_10 : Fld Z Z.heap c10 "com/example/clean_epoch/cleanepoch/protocol/ApiKey" "maxVersion" "S" (.int (3 : Int32))) (G_11 : Fld Z Z.heap c11 "com/example/clean_epoch/cleanepoch/protocol/ApiKey" "maxVersion" "S" (.int (3 : Int32))) (G_12 : Fld Z Z.heap c12 "com/example/clean_epoch/cleanepoch/protocol/ApiKey" "maxVersion" "S" (.int (3 : Int32))) (G_13 : Fld Z Z.heap c13 "com/example/clean_epoch/cleanepoch/protocol/ApiKey" "maxVersion" "S" (.int (2 : Int32))) (G_14 : Fld Z Z.heap c14 "com/example/clean_epoch/cleanepoch/protocol/ApiKey" "maxVersion" "S" (.int (2 : Int32))) (G_15 : Fld Z Z.heap c15 "com/example/clean_epoch/cleanepoch/protocol/ApiKey" "maxVersion" "S" (.int (0 : Int32))) (G_16 : Fld Z Z.heap c16 "com/example/clean_epoch/cleanepoch/protocol/ApiKey" "maxVersion" "S" (.int (1 : Int32))) (G_17 : Fld Z Z.heap c17 "com/example/clean_epoch/cleanepoch/protocol/ApiKey" "maxVersion" "S" (.int (1 : Int32))) (G_18 : Fld Z Z.heap c18 "com/example/clean_epoch/cleanepoch/protocol/ApiKey" "maxVersion" "S" (.int (0 : Int32))) :
    MetFree l x (head1 (Jvm.Cond.code x code maxLocals ret :: ws) room_1) (fun a U => a = #[(.int x0), (.int x1), (.int x2)] ∧ Z.Warmed39 U.vm ∧ U.heap = h0) (fun _ _ _ _ _ => True) (fun _ U o U' => ∃ v L, o = .returned v ∧ Q_0 Z x0 x1 x2 c0 c1 c2 c3 c4 c5 c6 c7 c8 c9 c10 c11 c12 c13 c14 c15 c16 c17 c18 h0 v U'.heap L ∧ FrameEnd U o U' L room_1.cells room_1.slots) := by
  refine MetFree.of_bodySF (plainFor_of_name pn_0) hisR ?_
  intro p e s m args below meth c s₁ Bd hml0 hP hK
  obtain ⟨rfl, hZ, hh⟩ := hP
  have hx := Bd.exec
  have hby := Bd.bytes
  have hlk := Bd.notSynchronized
  have hml : c.maxLocals = 12 := hml0
  have hown : s.vm.findClass "com/example/clean_epoch/cleanepoch/protocol/ApiKeyServesPinLaw" = some m.cls := findClass_of_methodNamed Bd.named
  have hnm := (name_of_methodNamed Bd.named Bd.method).1
  have X0 : Stand p l e room_1 s m #[(.int x0), (.int x1), (.int x2)] below meth c s₁ [] 0 0 := Stand.of_body Bd
  have e0 : s₁.heap = h0 := by rw [← hh, Bd.state]; rfl
  have N0 := Fr.nil Z.heap.size
  show Go FrameEnd p e below s room_1.cells room_1.slots (Q_0 Z x0 x1 x2 c0 c1 c2 c3 c4 c5 c6 c7 c8 c9 c10 c11 c12 c13 c14 c15 c16 c17 c18 h0) s₁ (entryFrame m #[(.int x0), (.int x1), (.int x2)] maxLocals)
  refine Go.cast (ef_0 m x0 x1 x2) ?_
  show Go _ _ _ _ _ _ _ _ s₁ (mkF m 0 #[.val (.int x0), .val (.int x1), .val (.int x2), .unset, .unset, .unset, .unset, .unset, .unset, .unset, .unset, .unset] [])
  refine Go.step (fun _ kt_ => XS.bipush X0.here hx rfl (hb hby at_0)  kt_) ?_
  show Go _ _ _ _ _ _ _ _ s₁ (mkF m 2 #[.val (.int x0), .val (.int x1), .val (.int x2), .unset, .unset, .unset, .unset, .unset, .unset, .unset, .unset, .unset] [(.int (19 : Int32))])
  obtain ⟨T1, h1, k1, X1, e1, E1, A1, B1, O1, st1⟩ := newRE X0 hx hZ hown (hw _ (List.mem_of_getElem? (i := 0) rfl)) (hw _ (List.mem_of_getElem? (i := 1) rfl)) e0 (g := (mkF m 2 #[.val (.int x0), .val (.int x1), .val (.int x2), .unset, .unset, .unset, .unset, .unset, .unset, .unset, .unset, .unset] [(.int (19 : Int32))])) rfl (hb hby at_2) rfl (by decide) (cap := 19) (by decide) (by decide) (by decide) (by decide) rfl
  obtain ⟨b1, hb1⟩ : ∃ z, z = h0.size := ⟨_, rfl⟩
  rw [← hb1] at A1 B1 st1
  refine Go.step st1 ?_
  have g_b1 : Z.heap.size ≤ b1 := Nat.le_trans O0.1 (Nat.le_of_eq hb1.symm)
  have O1_ : Ext Z.heap h1 := extTr O0 E1
  have V1 : Arv Z h1 b1 k1 (.object "com/example/clean_epoch/cleanepoch/protocol/ApiKey") (19 : Int32) [.null, .null, .null, .null, .null, .null, .null, .null, .null, .null, .null, .null, .null, .null, .null, .null, .null, .null, .null] .null := (Arv.new A1 (by decide)).pad (pad_rep [] .null 19)
  show Go _ _ _ _ _ _ _ _ T1 (mkF m 5 #[.val (.int x0), .val (.int x1), .val (.int x2), .unset, .unset, .unset, .unset, .unset, .unset, .unset, .unset, .unset] [(.ref b1)])
  refine Go.step (fun _ kt_ => XS.dup X1.here hx rfl (hb hby at_5) rfl rfl kt_) ?_
  show Go _ _ _ _ _ _ _ _ T1 (mkF m 6 #[.val (.int x0), .val (.int x1), .val (.int x2), .unset, .unset, .unset, .unset, .unset, .unset, .unset, .unset, .unset] [(.ref b1), (.ref b1)])
  refine Go.step (fun _ kt_ => XS.iconst X1.here hx rfl (hb hby at_6)  kt_) ?_
  show Go _ _ _ _ _ _ _ _ T1 (mkF m 7 #[.val (.int x0), .val (.int x1), .val (.int x2), .unset, .unset, .unset, .unset, .unset, .unset, .unset, .unset, .unset] [(.int (0 : Int32)), (.ref b1), (.ref b1)])
  obtain ⟨T2, X2, e2, st2⟩ := getS2 X1 hx hZ hown (host := "") (Or.inl (hw _ (List.mem_of_getElem? (i := 2) rfl))) Via.refl e1 (Sta.ext O1_ S_0) (g := (mkF m 7 #[.val (.int x0), .val (.int x1), .val (.int x2), .unset, .unset, .unset, .unset, .unset, .unset, .unset, .unset, .unset] [(.int (0 : Int32)), (.ref b1), (.ref b1)])) rfl (hb hby at_7)
  refine Go.step st2 ?_
  show Go _ _ _ _ _ _ _ _ T2 (mkF m 10 #[.val (.int x0), .val (.int x1), .val (.int x2), .unset, .unset, .unset, .unset, .unset, .unset, .unset, .unset, .unset] [(.ref c0), (.int (0 : Int32)), (.ref b1), (.ref b1)])
  obtain ⟨cl3, Ar3, q3, S3, N3, H3, G3⟩ := V1
  have hin3 : ¬ ((0 : Int32) < 0 ∨ cl3.slots.size ≤ ((0 : Int32)).toNatClampNeg) := inb_of S3 ⟨by decide, by decide⟩
  obtain ⟨T3, h3, X3, e3, W3, st3⟩ := stR X2 hx hZ e2 Ar3 (j := (0 : Int32)) hin3 rfl (Sto.ofV Ar3 q3 O1 (Ins.self (Exa.ext O1_ X_0))) (g := (mkF m 10 #[.val (.int x0), .val (.int x1), .val (.int x2), .unset, .unset, .unset, .unset, .unset, .unset, .unset, .unset, .unset] [(.ref c0), (.int (0 : Int32)), (.ref b1), (.ref b1)])) rfl rfl (hb hby at_10)
  refine Go.step st3 ?_
  have V3 : Arv Z h3 b1 k1 (.object "com/example/clean_epoch/cleanepoch/protocol/ApiKey") (19 : Int32) [(.ref c0), .null, .null, .null, .null, .null, .null, .null, .null, .null, .null, .null, .null, .null, .null, .null, .null, .null, .null] .null := Arv.set Ar3 q3 S3 N3 H3 G3 rfl W3 0 rfl (Nat.le_of_ble_eq_true rfl)
  have N3_ := Fr.snoc X3 N0 g_b1
  have O3_ : Ext Z.heap h3 := extWr O1_ W3 g_b1
  show Go _ _ _ _ _ _ _ _ T3 (mkF m 11 #[.val (.int x0), .val (.int x1), .val (.int x2), .unset, .unset, .unset, .unset, .unset, .unset, .unset, .unset, .unset] [(.ref b1)])
  refine Go.step (fun _ kt_ => XS.dup X3.here hx rfl (hb hby at_11) rfl rfl kt_) ?_
  show Go _ _ _ _ _ _ _ _ T3 (mkF m 12 #[.val (.int x0), .val (.int x1), .val (.int x2), .unset, .unset, .unset, .unset, .unset, .unset, .unset, .unset, .unset] [(.ref b1), (.ref b1)])
  refine Go.step (fun _ kt_ => XS.iconst X3.here hx rfl (hb hby at_12)  kt_) ?_
  show Go _ _ _ _ _ _ _ _ T3 (mkF m 13 #[.val (.int x0), .val (.int x1), .val (.int x2), .unset, .unset, .unset, .unset, .unset, .unset, .unset, .unset, .unset] [(.int (1 : Int32)), (.ref b1), (.ref b1)])
  obtain ⟨T4, X4, e4, st4⟩ := getS2 X3 hx hZ hown (host := "") (Or.inl (hw _ (List.mem_of_getElem? (i := 6) rfl))) Via.refl e3 (Sta.ext O3_ S_1) (g := (mkF m 13 #[.val (.int x0), .val (.int x1), .val (.int x2), .unset, .unset, .unset, .unset, .unset, .unset, .unset, .unset, .unset] [(.int (1 : Int32)), (.ref b1), (.ref b1)])) rfl (hb hby at_13)
  refine Go.step st4 ?_
  show Go _ _ _ _ _ _ _ _ T4 (mkF m 16 #[.val (.int x0), .val (.int x1), .val (.int x2), .unset, .unset, .unset, .unset, .unset, .unset, .unset, .unset, .unset] [(.ref c1), (.int (1 : Int32)), (.ref b1), (.ref b1)])
  obtain ⟨cl5, Ar5, q5, S5, N5, H5, G5⟩ := V3
  have hin5 : ¬ ((1 : Int32) < 0 ∨ cl5.slots.size ≤ ((1 : Int32)).toNatClampNeg) := inb_of S5 ⟨by decide, by decide⟩
  obtain ⟨T5, h5, X5, e5, W5, st5⟩ := stR X4 hx hZ e4 Ar5 (j := (1 : Int32)) hin5 rfl (Sto.ofV Ar5 q5 O1 (Ins.self (Exa.ext O3_ X_1))) (g := (mkF m 16 #[.val (.int x0), .val (.int x1), .val (.int x2), .unset, .unset, .unset, .unset, .unset, .unset, .unset, .unset, .unset] [(.ref c1), (.int (1 : Int32)), (.ref b1), (.ref b1)])) rfl rfl (hb hby at_16)
  refine Go.step st5 ?_
  have V5 : Arv Z h5 b1 k1 (.object "com/example/clean_epoch/cleanepoch/protocol/ApiKey") (19 : Int32) [(.ref c0), (.ref c1), .null, .null, .null, .null, .null, .null, .null, .null, .null, .null, .null, .null, .null, .null, .null, .null, .null] .null := Arv.set Ar5 q5 S5 N5 H5 G5 rfl W5 1 rfl (Nat.le_of_ble_eq_true rfl)
  have N5_ := Fr.snoc X5 N3_ g_b1
  have O5_ : Ext Z.heap h5 := extWr O3_ W5 g_b1
  show Go _ _ _ _ _ _ _ _ T5 (mkF m 17 #[.val (.int x0), .val (.int x1), .val (.int x2), .unset, .unset, .unset, .unset, .unset, .unset, .unset, .unset, .unset] [(.ref b1)])
  refine Go.step (fun _ kt_ => XS.dup X5.here hx rfl (hb hby at_17) rfl rfl kt_) ?_
  show Go _ _ _ _ _ _ _ _ T5 (mkF m 18 #[.val (.int x0), .val (.int x1), .val (.int x2), .unset, .unset, .unset, .unset, .unset, .unset, .unset, .unset, .unset] [(.ref b1), (.ref b1)])
  refine Go.step (fun _ kt_ => XS.iconst X5.here hx rfl (hb hby at_18)  kt_) ?_
  show Go _ _ _ _ _ _ _ _ T5 (mkF m 19 #[.val (.int x0), .val (.int x1), .val (.int x2), .unset, .unset, .unset, .unset, .unset, .unset, .unset, .unset, .unset] [(.int (2 : Int32)), (.ref b1), (.ref b1)])
  obtain ⟨T6, X6, e6, st6⟩ := getS2 X5 hx hZ hown (host := "") (Or.inl (hw _ (List.mem_of_getElem? (i := 8) rfl))) Via.refl e5 (Sta.ext O5_ S_2) (g := (mkF m 19 #[.val (.int x0), .val (.int x1), .val (.int x2), .unset, .unset, .unset, .unset, .unset, .unset, .unset, .unset, .unset] [(.int (2 : Int32)), (.ref b1), (.ref b1)])) rfl (hb hby at_19)
  refine Go.step st6 ?_
  show Go _ _ _ _ _ _ _ _ T6 (mkF m 22 #[.val (.int x0), .val (.int x1), .val (.int x2), .unset, .unset, .unset, .unset, .unset, .unset, .unset, .unset, .unset] [(.ref c2), (.int (2 : Int32)), (.ref b1), (.ref b1)])
  obtain ⟨cl7, Ar7, q7, S7, N7, H7, G7⟩ := V5
  have hin7 : ¬ ((2 : Int32) < 0 ∨ cl7.slots.size ≤ ((2 : Int32)).toNatClampNeg) := inb_of S7 ⟨by decide, by decide⟩
  obtain ⟨T7, h7, X7, e7, W7, st7⟩ := stR X6 hx hZ e6 Ar7 (j := (2 : Int32)) hin7 rfl (Sto.ofV Ar7 q7 O1 (Ins.self (Exa.ext O5_ X_2))) (g := (mkF m 22 #[.val (.int x0), .val (.int x1), .val (.int x2), .unset, .unset, .unset, .unset, .unset, .unset, .unset, .unset, .unset] [(.ref c2), (.int (2 : Int32)), (.ref b1), (.ref b1)])) rfl rfl (hb hby at_22)
  refine Go.step st7 ?_
  have V7 : Arv Z h7 b1 k1 (.object "com/example/clean_epoch/cleanepoch/protocol/ApiKey") (19 : Int32) [(.ref c0), (.ref c1), (.ref c2), .null, .null, .null, .null, .null, .null, .null, .null, .null, .null, .null, .null, .null, .null, .null, .null] .null := Arv.set Ar7 q7 S7 N7 H7 G7 rfl W7 2 rfl (Nat.le_of_ble_eq_true rfl)
  have N7_ := Fr.snoc X7 N5_ g_b1
  have O7_ : Ext Z.heap h7 := extWr O5_ W7 g_b1
  show Go _ _ _ _ _ _ _ _ T7 (mkF m 23 #[.val (.int x0), .val (.int x1), .val (.int x2), .unset, .unset, .unset, .unset, .unset, .unset, .unset, .unset, .unset] [(.ref b1)])
  refine Go.step (fun _ kt_ => XS.dup X7.here hx rfl (hb hby at_23) rfl rfl kt_) ?_
  show Go _ _ _ _ _ _ _ _ T7 (mkF m 24 #[.val (.int x0), .val (.int x1), .val (.int x2), .unset, .unset, .unset, .unset, .unset, .unset, .unset, .unset, .unset] [(.ref b1), (.ref b1)])
  refine Go.step (fun _ kt_ => XS.iconst X7.here hx rfl (hb hby at_24)  kt_) ?_
  show Go _ _ _ _ _ _ _ _ T7 (mkF m 25 #[.val (.int x0), .val (.int x1), .val (.int x2), .unset, .unset, .unset, .unset, .unset, .unset, .unset, .unset, .unset] [(.int (3 : Int32)), (.ref b1), (.ref b1)])
  obtain ⟨T8, X8, e8, st8⟩ := getS2 X7 hx hZ hown (host := "") (Or.inl (hw _ (List.mem_of_getElem? (i := 10) rfl))) Via.refl e7 (Sta.ext O7_ S_3) (g := (mkF m 25 #[.val (.int x0), .val (.int x1), .val (.int x2), .unset, .unset, .unset, .unset, .unset, .unset, .unset, .unset, .unset] [(.int (3 : Int32)), (.ref b1), (.ref b1)])) rfl (hb hby at_25)
  refine Go.step st8 ?_
  show Go _ _ _ _ _ _ _ _ T8 (mkF m 28 #[.val (.int x0), .val (.int x1), .val (.int x2), .unset, .unset, .unset, .unset, .unset, .unset, .unset, .unset, .unset] [(.ref c3), (.int (3 : Int32)), (.ref b1), (.ref b1)])
  obtain ⟨cl9, Ar9, q9, S9, N9, H9, G9⟩ := V7
  have hin9 : ¬ ((3 : Int32) < 0 ∨ cl9.slots.size ≤ ((3 : Int32)).toNatClampNeg) := inb_of S9 ⟨by decide, by decide⟩
  obtain ⟨T9, h9, X9, e9, W9, st9⟩ := stR X8 hx hZ e8 Ar9 (j := (3 : Int32)) hin9 rfl (Sto.ofV Ar9 q9 O1 (Ins.self (Exa.ext O7_ X_3))) (g := (mkF m 28 #[.val (.int x0), .val (.int x1), .val (.int x2), .unset, .unset, .unset, .unset, .unset, .unset, .unset, .unset, .unset] [(.ref c3), (.int (3 : Int32)), (.ref b1), (.ref b1)])) rfl rfl (hb hby at_28)
  refine Go.step st9 ?_
  have V9 : Arv Z h9 b1 k1 (.object "com/example/clean_epoch/cleanepoch/protocol/ApiKey") (19 : Int32) [(.ref c0), (.ref c1), (.ref c2), (.ref c3), .null, .null, .null, .null, .null, .null, .null, .null, .null, .null, .null, .null, .null, .null, .null] .null := Arv.set Ar9 q9 S9 N9 H9 G9 rfl W9 3 rfl (Nat.le_of_ble_eq_true rfl)
  have N9_ := Fr.snoc X9 N7_ g_b1
  have O9_ : Ext Z.heap h9 := extWr O7_ W9 g_b1
  show Go _ _ _ _ _ _ _ _ T9 (mkF m 29 #[.val (.int x0), .val (.int x1), .val (.int x2), .unset, .unset, .unset, .unset, .unset, .unset, .unset, .unset, .unset] [(.ref b1)])
  refine Go.step (fun _ kt_ => XS.dup X9.here hx rfl (hb hby at_29) rfl rfl kt_) ?_
  show Go _ _ _ _ _ _ _ _ T9 (mkF m 30 #[.val (.int x0), .val (.int x1), .val (.int x2), .unset, .unset, .unset, .unset, .unset, .unset, .unset, .unset, .unset] [(.ref b1), (.ref b1)])
  refine Go.step (fun _ kt_ => XS.iconst X9.here hx rfl (hb hby at_30)  kt_) ?_
  show Go _ _ _ _ _ _ _ _ T9 (mkF m 31 #[.val (.int x0), .val (.int x1), .val (.int x2), .unset, .unset, .unset, .unset, .unset, .unset, .unset, .unset, .unset] [(.int (4 : Int32)), (.ref b1), (.ref b1)])
  obtain ⟨T10, X10, e10, st10⟩ := getS2 X9 hx hZ hown (host := "") (Or.inl (hw _ (List.mem_of_getElem? (i := 12) rfl))) Via.refl e9 (Sta.ext O9_ S_4) (g := (mkF m 31 #[.val (.int x0), .val (.int x1), .val (.int x2), .unset, .unset, .unset, .unset, .unset, .unset, .unset, .unset, .unset] [(.int (4 : Int32)), (.ref b1), (.ref b1)])) rfl (hb hby at_31)
  refine Go.step st10 ?_
  show Go _ _ _ _ _ _ _ _ T10 (mkF m 34 #[.val (.int x0), .val (.int x1), .val (.int x2), .unset, .unset, .unset, .unset, .unset, .unset, .unset, .unset, .unset] [(.ref c4), (.int (4 : Int32)), (.ref b1), (.ref b1)])
  obtain ⟨cl11, Ar11, q11, S11, N11, H11, G11⟩ := V9
  have hin11 : ¬ ((4 : Int32) < 0 ∨ cl11.slots.size ≤ ((4 : Int32)).toNatClampNeg) := inb_of S11 ⟨by decide, by decide⟩
  obtain ⟨T11, h11, X11, e11, W11, st11⟩ := stR X10 hx hZ e10 Ar11 (j := (4 : Int32)) hin11 rfl (Sto.ofV Ar11 q11 O1 (Ins.self (Exa.ext O9_ X_4))) (g := (mkF m 34 #[.val (.int x0), .val (.int x1), .val (.int x2), .unset, .unset, .unset, .unset, .unset, .unset, .unset, .unset, .unset] [(.ref c4), (.int (4 : Int32)), (.ref b1), (.ref b1)])) rfl rfl (hb hby at_34)
  refine Go.step st11 ?_
  have V11 : Arv Z h11 b1 k1 (.object "com/example/clean_epoch/cleanepoch/protocol/ApiKey") (19 : Int32) [(.ref c0), (.ref c1), (.ref c2), (.ref c3), (.ref c4), .null, .null, .null, .null, .null, .null, .null, .null, .null, .null, .null, .null, .null, .null] .null := Arv.set Ar11 q11 S11 N11 H11 G11 rfl W11 4 rfl (Nat.le_of_ble_eq_true rfl)
  have N11_ := Fr.snoc X11 N9_ g_b1
  have O11_ : Ext Z.heap h11 := extWr O9_ W11 g_b1
  show Go _ _ _ _ _ _ _ _ T11 (mkF m 35 #[.val (.int x0), .val (.int x1), .val (.int x2), .unset, .unset, .unset, .unset, .unset, .unset, .unset, .unset, .unset] [(.ref b1)])
  refine Go.step (fun _ kt_ => XS.dup X11.here hx rfl (hb hby at_35) rfl rfl kt_) ?_
  show Go _ _ _ _ _ _ _ _ T11 (mkF m 36 #[.val (.int x0), .val (.int x1), .val (.int x2), .unset, .unset, .unset, .unset, .unset, .unset, .unset, .unset, .unset] [(.ref b1), (.ref b1)])
  refine Go.step (fun _ kt_ => XS.iconst X11.here hx rfl (hb hby at_36)  kt_) ?_
  show Go _ _ _ _ _ _ _ _ T11 (mkF m 37 #[.val (.int x0), .val (.int x1), .val (.int x2), .unset, .unset, .unset, .unset, .unset, .unset, .unset, .unset, .unset] [(.int (5 : Int32)), (.ref b1), (.ref b1)])
  obtain ⟨T12, X12, e12, st12⟩ := getS2 X11 hx hZ hown (host := "") (Or.inl (hw _ (List.mem_of_getElem? (i := 14) rfl))) Via.refl e11 (Sta.ext O11_ S_5) (g := (mkF m 37 #[.val (.int x0), .val (.int x1), .val (.int x2), .unset, .unset, .unset, .unset, .unset, .unset, .unset, .unset, .unset] [(.int (5 : Int32)), (.ref b1), (.ref b1)])) rfl (hb hby at_37)
  refine Go.step st12 ?_
  show Go _ _ _ _ _ _ _ _ T12 (mkF m 40 #[.val (.int x0), .val (.int x1), .val (.int x2), .unset, .unset, .unset, .unset, .unset, .unset, .unset, .unset, .unset] [(.ref c5), (.int (5 : Int32)), (.ref b1), (.ref b1)])
  obtain ⟨cl13, Ar13, q13, S13, N13, H13, G13⟩ := V11
  have hin13 : ¬ ((5 : Int32) < 0 ∨ cl13.slots.size ≤ ((5 : Int32)).toNatClampNeg) := inb_of S13 ⟨by decide, by decide⟩
  obtain ⟨T13, h13, X13, e13, W13, st13⟩ := stR X12 hx hZ e12 Ar13 (j := (5 : Int32)) hin13 rfl (Sto.ofV Ar13 q13 O1 (Ins.self (Exa.ext O11_ X_5))) (g := (mkF m 40 #[.val (.int x0), .val (.int x1), .val (.int x2), .unset, .unset, .unset, .unset, .unset, .unset, .unset, .unset, .unset] [(.ref c5), (.int (5 : Int32)), (.ref b1), (.ref b1)])) rfl rfl (hb hby at_40)
  refine Go.step st13 ?_
  have V13 : Arv Z h13 b1 k1 (.object "com/example/clean_epoch/cleanepoch/protocol/ApiKey") (19 : Int32) [(.ref c0), (.ref c1), (.ref c2), (.ref c3), (.ref c4), (.ref c5), .null, .null, .null, .null, .null, .null, .null, .null, .null, .null, .null, .null, .null] .null := Arv.set Ar13 q13 S13 N13 H13 G13 rfl W13 5 rfl (Nat.le_of_ble_eq_true rfl)
  have N13_ := Fr.snoc X13 N11_ g_b1
  have O13_ : Ext Z.heap h13 := extWr O11_ W13 g_b1
  show Go _ _ _ _ _ _ _ _ T13 (mkF m 41 #[.val (.int x0), .val (.int x1), .val (.int x2), .unset, .unset, .unset, .unset, .unset, .unset, .unset, .unset, .unset] [(.ref b1)])
  refine Go.step (fun _ kt_ => XS.dup X13.here hx rfl (hb hby at_41) rfl rfl kt_) ?_
  show Go _ _ _ _ _ _ _ _ T13 (mkF m 42 #[.val (.int x0), .val (.int x1), .val (.int x2), .unset, .unset, .unset, .unset, .unset, .unset, .unset, .unset, .unset] [(.ref b1), (.ref b1)])
  refine Go.step (fun _ kt_ => XS.bipush X13.here hx rfl (hb hby at_42)  kt_) ?_
  show Go _ _ _ _ _ _ _ _ T13 (mkF m 44 #[.val (.int x0), .val (.int x1), .val (.int x2), .unset, .unset, .unset, .unset, .unset, .unset, .unset, .unset, .unset] [(.int (6 : Int32)), (.ref b1), (.ref b1)])
  obtain ⟨T14, X14, e14, st14⟩ := getS2 X13 hx hZ hown (host := "") (Or.inl (hw _ (List.mem_of_getElem? (i := 16) rfl))) Via.refl e13 (Sta.ext O13_ S_6) (g := (mkF m 44 #[.val (.int x0), .val (.int x1), .val (.int x2), .unset, .unset, .unset, .unset, .unset, .unset, .unset, .unset, .unset] [(.int (6 : Int32)), (.ref b1), (.ref b1)])) rfl (hb hby at_44)
  refine Go.step st14 ?_
  show Go _ _ _ _ _ _ _ _ T14 (mkF m 47 #[.val (.int x0), .val (.int x1), .val (.int x2), .unset, .unset, .unset, .unset, .unset, .unset, .unset, .unset, .unset] [(.ref c6), (.int (6 : Int32)), (.ref b1), (.ref b1)])
  obtain ⟨cl15, Ar15, q15, S15, N15, H15, G15⟩ := V13
  have hin15 : ¬ ((6 : Int32) < 0 ∨ cl15.slots.size ≤ ((6 : Int32)).toNatClampNeg) := inb_of S15 ⟨by decide, by decide⟩
  obtain ⟨T15, h15, X15, e15, W15, st15⟩ := stR X14 hx hZ e14 Ar15 (j := (6 : Int32)) hin15 rfl (Sto.ofV Ar15 q15 O1 (Ins.self (Exa.ext O13_ X_6))) (g := (mkF m 47 #[.val (.int x0), .val (.int x1), .val (.int x2), .unset, .unset, .unset, .unset, .unset, .unset, .unset, .unset, .unset] [(.ref c6), (.int (6 : Int32)), (.ref b1), (.ref b1)])) rfl rfl (hb hby at_47)
  refine Go.step st15 ?_
  have V15 : Arv Z h15 b1 k1 (.object "com/example/clean_epoch/cleanepoch/protocol/ApiKey") (19 : Int32) [(.ref c0), (.ref c1), (.ref c2), (.ref c3), (.ref c4), (.ref c5), (.ref c6), .null, .null, .null, .null, .null, .null, .null, .null, .null, .null, .null, .null] .null := Arv.set Ar15 q15 S15 N15 H15 G15 rfl W15 6 rfl (Nat.le_of_ble_eq_true rfl)
  have N15_ := Fr.snoc X15 N13_ g_b1
  have O15_ : Ext Z.heap h15 := extWr O13_ W15 g_b1
  show Go _ _ _ _ _ _ _ _ T15 (mkF m 48 #[.val (.int x0), .val (.int x1), .val (.int x2), .unset, .unset, .unset, .unset, .unset, .unset, .unset, .unset, .unset] [(.ref b1)])
  refine Go.step (fun _ kt_ => XS.dup X15.here hx rfl (hb hby at_48) rfl rfl kt_) ?_
  show Go _ _ _ _ _ _ _ _ T15 (mkF m 49 #[.val (.int x0), .val (.int x1), .val (.int x2), .unset, .unset, .unset, .unset, .unset, .unset, .unset, .unset, .unset] [(.ref b1), (.ref b1)])
  refine Go.step (fun _ kt_ => XS.bipush X15.here hx rfl (hb hby at_49)  kt_) ?_
  show Go _ _ _ _ _ _ _ _ T15 (mkF m 51 #[.val (.int x0), .val (.int x1), .val (.int x2), .unset, .unset, .unset, .unset, .unset, .unset, .unset, .unset, .unset] [(.int (7 : Int32)), (.ref b1), (.ref b1)])
  obtain ⟨T16, X16, e16, st16⟩ := getS2 X15 hx hZ hown (host := "") (Or.inl (hw _ (List.mem_of_getElem? (i := 18) rfl))) Via.refl e15 (Sta.ext O15_ S_7) (g := (mkF m 51 #[.val (.int x0), .val (.int x1), .val (.int x2), .unset, .unset, .unset, .unset, .unset, .unset, .unset, .unset, .unset] [(.int (7 : Int32)), (.ref b1), (.ref b1)])) rfl (hb hby at_51)
  refine Go.step st16 ?_
  show Go _ _ _ _ _ _ _ _ T16 (mkF m 54 #[.val (.int x0), .val (.int x1), .val (.int x2), .unset, .unset, .unset, .unset, .unset, .unset, .unset, .unset, .unset] [(.ref c7), (.int (7 : Int32)), (.ref b1), (.ref b1)])
  obtain ⟨cl17, Ar17, q17, S17, N17, H17, G17⟩ := V15
  have hin17 : ¬ ((7 : Int32) < 0 ∨ cl17.slots.size ≤ ((7 : Int32)).toNatClampNeg) := inb_of S17 ⟨by decide, by decide⟩
  obtain ⟨T17, h17, X17, e17, W17, st17⟩ := stR X16 hx hZ e16 Ar17 (j := (7 : Int32)) hin17 rfl (Sto.ofV Ar17 q17 O1 (Ins.self (Exa.ext O15_ X_7))) (g := (mkF m 54 #[.val (.int x0), .val (.int x1), .val (.int x2), .unset, .unset, .unset, .unset, .unset, .unset, .unset, .unset, .unset] [(.ref c7), (.int (7 : Int32)), (.ref b1), (.ref b1)])) rfl rfl (hb hby at_54)
  refine Go.step st17 ?_
  have V17 : Arv Z h17 b1 k1 (.object "com/example/clean_epoch/cleanepoch/protocol/ApiKey") (19 : Int32) [(.ref c0), (.ref c1), (.ref c2), (.ref c3), (.ref c4), (.ref c5), (.ref c6), (.ref c7), .null, .null, .null, .null, .null, .null, .null, .null, .null, .null, .null] .null := Arv.set Ar17 q17 S17 N17 H17 G17 rfl W17 7 rfl (Nat.le_of_ble_eq_true rfl)
  have N17_ := Fr.snoc X17 N15_ g_b1
  have O17_ : Ext Z.heap h17 := extWr O15_ W17 g_b1
  show Go _ _ _ _ _ _ _ _ T17 (mkF m 55 #[.val (.int x0), .val (.int x1), .val (.int x2), .unset, .unset, .unset, .unset, .unset, .unset, .unset, .unset, .unset] [(.ref b1)])
  refine Go.step (fun _ kt_ => XS.dup X17.here hx rfl (hb hby at_55) rfl rfl kt_) ?_
  show Go _ _ _ _ _ _ _ _ T17 (mkF m 56 #[.val (.int x0), .val (.int x1), .val (.int x2), .unset, .unset, .unset, .unset, .unset, .unset, .unset, .unset, .unset] [(.ref b1), (.ref b1)])
  refine Go.step (fun _ kt_ => XS.bipush X17.here hx rfl (hb hby at_56)  kt_) ?_
  show Go _ _ _ _ _ _ _ _ T17 (mkF m 58 #[.val (.int x0), .val (.int x1), .val (.int x2), .unset, .unset, .unset, .unset, .unset, .unset, .unset, .unset, .unset] [(.int (8 : Int32)), (.ref b1), (.ref b1)])
  obtain ⟨T18, X18, e18, st18⟩ := getS2 X17 hx hZ hown (host := "") (Or.inl (hw _ (List.mem_of_getElem? (i := 20) rfl))) Via.refl e17 (Sta.ext O17_ S_8) (g := (mkF m 58 #[.val (.int x0), .val (.int x1), .val (.int x2), .unset, .unset, .unset, .unset, .unset, .unset, .unset, .unset, .unset] [(.int (8 : Int32)), (.ref b1), (.ref b1)])) rfl (hb hby at_58)
  refine Go.step st18 ?_
  show Go _ _ _ _ _ _ _ _ T18 (mkF m 61 #[.val (.int x0), .val (.int x1), .val (.int x2), .unset, .unset, .unset, .unset, .unset, .unset, .unset, .unset, .unset] [(.ref c8), (.int (8 : Int32)), (.ref b1), (.ref b1)])
  obtain ⟨cl19, Ar19, q19, S19, N19, H19, G19⟩ := V17
  have hin19 : ¬ ((8 : Int32) < 0 ∨ cl19.slots.size ≤ ((8 : Int32)).toNatClampNeg) := inb_of S19 ⟨by decide, by decide⟩
  obtain ⟨T19, h19, X19, e19, W19, st19⟩ := stR X18 hx hZ e18 Ar19 (j := (8 : Int32)) hin19 rfl (Sto.ofV Ar19 q19 O1 (Ins.self (Exa.ext O17_ X_8))) (g := (mkF m 61 #[.val (.int x0), .val (.int x1), .val (.int x2), .unset, .unset, .unset, .unset, .unset, .unset, .unset, .unset, .unset] [(.ref c8), (.int (8 : Int32)), (.ref b1), (.ref b1)])) rfl rfl (hb hby at_61)
  refine Go.step st19 ?_
  have V19 : Arv Z h19 b1 k1 (.object "com/example/clean_epoch/cleanepoch/protocol/ApiKey") (19 : Int32) [(.ref c0), (.ref c1), (.ref c2), (.ref c3), (.ref c4), (.ref c5), (.ref c6), (.ref c7), (.ref c8), .null, .null, .null, .null, .null, .null, .null, .null, .null, .null] .null := Arv.set Ar19 q19 S19 N19 H19 G19 rfl W19 8 rfl (Nat.le_of_ble_eq_true rfl)
  have N19_ := Fr.snoc X19 N17_ g_b1
  have O19_ : Ext Z.heap h19 := extWr O17_ W19 g_b1
  show Go _ _ _ _ _ _ _ _ T19 (mkF m 62 #[.val (.int x0), .val (.int x1), .val (.int x2), .unset, .unset, .unset, .unset, .unset, .unset, .unset, .unset, .unset] [(.ref b1)])
  refine Go.step (fun _ kt_ => XS.dup X19.here hx rfl (hb hby at_62) rfl rfl kt_) ?_
  show Go _ _ _ _ _ _ _ _ T19 (mkF m 63 #[.val (.int x0), .val (.int x1), .val (.int x2), .unset, .unset, .unset, .unset, .unset, .unset, .unset, .unset, .unset] [(.ref b1), (.ref b1)])
  refine Go.step (fun _ kt_ => XS.bipush X19.here hx rfl (hb hby at_63)  kt_) ?_
  show Go _ _ _ _ _ _ _ _ T19 (mkF m 65 #[.val (.int x0), .val (.int x1), .val (.int x2), .unset, .unset, .unset, .unset, .unset, .unset, .unset, .unset, .unset] [(.int (9 : Int32)), (.ref b1), (.ref b1)])
  obtain ⟨T20, X20, e20, st20⟩ := getS2 X19 hx hZ hown (host := "") (Or.inl (hw _ (List.mem_of_getElem? (i := 22) rfl))) Via.refl e19 (Sta.ext O19_ S_9) (g := (mkF m 65 #[.val (.int x0), .val (.int x1), .val (.int x2), .unset, .unset, .unset, .unset, .unset, .unset, .unset, .unset, .unset] [(.int (9 : Int32)), (.ref b1), (.ref b1)])) rfl (hb hby at_65)
  refine Go.step st20 ?_
  show Go _ _ _ _ _ _ _ _ T20 (mkF m 68 #[.val (.int x0), .val (.int x1), .val (.int x2), .unset, .unset, .unset, .unset, .unset, .unset, .unset, .unset, .unset] [(.ref c9), (.int (9 : Int32)), (.ref b1), (.ref b1)])
  obtain ⟨cl21, Ar21, q21, S21, N21, H21, G21⟩ := V19
  have hin21 : ¬ ((9 : Int32) < 0 ∨ cl21.slots.size ≤ ((9 : Int32)).toNatClampNeg) := inb_of S21 ⟨by decide, by decide⟩
  obtain ⟨T21, h21, X21, e21, W21, st21⟩ := stR X20 hx hZ e20 Ar21 (j := (9 : Int32)) hin21 rfl (Sto.ofV Ar21 q21 O1 (Ins.self (Exa.ext O19_ X_9))) (g := (mkF m 68 #[.val (.int x0), .val (.int x1), .val (.int x2), .unset, .unset, .unset, .unset, .unset, .unset, .unset, .unset, .unset] [(.ref c9), (.int (9 : Int32)), (.ref b1), (.ref b1)])) rfl rfl (hb hby at_68)
  refine Go.step st21 ?_
  have V21 : Arv Z h21 b1 k1 (.object "com/example/clean_epoch/cleanepoch/protocol/ApiKey") (19 : Int32) [(.ref c0), (.ref c1), (.ref c2), (.ref c3), (.ref c4), (.ref c5), (.ref c6), (.ref c7), (.ref c8), (.ref c9), .null, .null, .null, .null, .null, .null, .null, .null, .null] .null := Arv.set Ar21 q21 S21 N21 H21 G21 rfl W21 9 rfl (Nat.le_of_ble_eq_true rfl)
  have N21_ := Fr.snoc X21 N19_ g_b1
  have O21_ : Ext Z.heap h21 := extWr O19_ W21 g_b1
  show Go _ _ _ _ _ _ _ _ T21 (mkF m 69 #[.val (.int x0), .val (.int x1), .val (.int x2), .unset, .unset, .unset, .unset, .unset, .unset, .unset, .unset, .unset] [(.ref b1)])
  refine Go.step (fun _ kt_ => XS.dup X21.here hx rfl (hb hby at_69) rfl rfl kt_) ?_
  show Go _ _ _ _ _ _ _ _ T21 (mkF m 70 #[.val (.int x0), .val (.int x1), .val (.int x2), .unset, .unset, .unset, .unset, .unset, .unset, .unset, .unset, .unset] [(.ref b1), (.ref b1)])
  refine Go.step (fun _ kt_ => XS.bipush X21.here hx rfl (hb hby at_70)  kt_) ?_
  show Go _ _ _ _ _ _ _ _ T21 (mkF m 72 #[.val (.int x0), .val (.int x1), .val (.int x2), .unset, .unset, .unset, .unset, .unset, .unset, .unset, .unset, .unset] [(.int (10 : Int32)), (.ref b1), (.ref b1)])
  obtain ⟨T22, X22, e22, st22⟩ := getS2 X21 hx hZ hown (host := "") (Or.inl (hw _ (List.mem_of_getElem? (i := 24) rfl))) Via.refl e21 (Sta.ext O21_ S_10) (g := (mkF m 72 #[.val (.int x0), .val (.int x1), .val (.int x2), .unset, .unset, .unset, .unset, .unset, .unset, .unset, .unset, .unset] [(.int (10 : Int32)), (.ref b1), (.ref b1)])) rfl (hb hby at_72)
  refine Go.step st22 ?_
  show Go _ _ _ _ _ _ _ _ T22 (mkF m 75 #[.val (.int x0), .val (.int x1), .val (.int x2), .unset, .unset, .unset, .unset, .unset, .unset, .unset, .unset, .unset] [(.ref c10), (.int (10 : Int32)), (.ref b1), (.ref b1)])
  obtain ⟨cl23, Ar23, q23, S23, N23, H23, G23⟩ := V21
  have hin23 : ¬ ((10 : Int32) < 0 ∨ cl23.slots.size ≤ ((10 : Int32)).toNatClampNeg) := inb_of S23 ⟨by decide, by decide⟩
  obtain ⟨T23, h23, X23, e23, W23, st23⟩ := stR X22 hx hZ e22 Ar23 (j := (10 : Int32)) hin23 rfl (Sto.ofV Ar23 q23 O1 (Ins.self (Exa.ext O21_ X_10))) (g := (mkF m 75 #[.val (.int x0), .val (.int x1), .val (.int x2), .unset, .unset, .unset, .unset, .unset, .unset, .unset, .unset, .unset] [(.ref c10), (.int (10 : Int32)), (.ref b1), (.ref b1)])) rfl rfl (hb hby at_75)
  refine Go.step st23 ?_
  have V23 : Arv Z h23 b1 k1 (.object "com/example/clean_epoch/cleanepoch/protocol/ApiKey") (19 : Int32) [(.ref c0), (.ref c1), (.ref c2), (.ref c3), (.ref c4), (.ref c5), (.ref c6), (.ref c7), (.ref c8), (.ref c9), (.ref c10), .null, .null, .null, .null, .null, .null, .null, .null] .null := Arv.set Ar23 q23 S23 N23 H23 G23 rfl W23 10 rfl (Nat.le_of_ble_eq_true rfl)
  have N23_ := Fr.snoc X23 N21_ g_b1
  have O23_ : Ext Z.heap h23 := extWr O21_ W23 g_b1
  show Go _ _ _ _ _ _ _ _ T23 (mkF m 76 #[.val (.int x0), .val (.int x1), .val (.int x2), .unset, .unset, .unset, .unset, .unset, .unset, .unset, .unset, .unset] [(.ref b1)])
  refine Go.step (fun _ kt_ => XS.dup X23.here hx rfl (hb hby at_76) rfl rfl kt_) ?_
  show Go _ _ _ _ _ _ _ _ T23 (mkF m 77 #[.val (.int x0), .val (.int x1), .val (.int x2), .unset, .unset, .unset, .unset, .unset, .unset, .unset, .unset, .unset] [(.ref b1), (.ref b1)])
  refine Go.step (fun _ kt_ => XS.bipush X23.here hx rfl (hb hby at_77)  kt_) ?_
  show Go _ _ _ _ _ _ _ _ T23 (mkF m 79 #[.val (.int x0), .val (.int x1), .val (.int x2), .unset, .unset, .unset, .unset, .unset, .unset, .unset, .unset, .unset] [(.int (11 : Int32)), (.ref b1), (.ref b1)])
  obtain ⟨T24, X24, e24, st24⟩ := getS2 X23 hx hZ hown (host := "") (Or.inl (hw _ (List.mem_of_getElem? (i := 26) rfl))) Via.refl e23 (Sta.ext O23_ S_11) (g := (mkF m 79 #[.val (.int x0), .val (.int x1), .val (.int x2), .unset, .unset, .unset, .unset, .unset, .unset, .unset, .unset, .unset] [(.int (11 : Int32)), (.ref b1), (.ref b1)])) rfl (hb hby at_79)
  refine Go.step st24 ?_
  show Go _ _ _ _ _ _ _ _ T24 (mkF m 82 #[.val (.int x0), .val (.int x1), .val (.int x2), .unset, .unset, .unset, .unset, .unset, .unset, .unset, .unset, .unset] [(.ref c11), (.int (11 : Int32)), (.ref b1), (.ref b1)])
  obtain ⟨cl25, Ar25, q25, S25, N25, H25, G25⟩ := V23
  have hin25 : ¬ ((11 : Int32) < 0 ∨ cl25.slots.size ≤ ((11 : Int32)).toNatClampNeg) := inb_of S25 ⟨by decide, by decide⟩
  obtain ⟨T25, h25, X25, e25, W25, st25⟩ := stR X24 hx hZ e24 Ar25 (j := (11 : Int32)) hin25 rfl (Sto.ofV Ar25 q25 O1 (Ins.self (Exa.ext O23_ X_11))) (g := (mkF m 82 #[.val (.int x0), .val (.int x1), .val (.int x2), .unset, .unset, .unset, .unset, .unset, .unset, .unset, .unset, .unset] [(.ref c11), (.int (11 : Int32)), (.ref b1), (.ref b1)])) rfl rfl (hb hby at_82)
  refine Go.step st25 ?_
  have V25 : Arv Z h25 b1 k1 (.object "com/example/clean_epoch/cleanepoch/protocol/ApiKey") (19 : Int32) [(.ref c0), (.ref c1), (.ref c2), (.ref c3), (.ref c4), (.ref c5), (.ref c6), (.ref c7), (.ref c8), (.ref c9), (.ref c10), (.ref c11), .null, .null, .null, .null, .null, .null, .null] .null := Arv.set Ar25 q25 S25 N25 H25 G25 rfl W25 11 rfl (Nat.le_of_ble_eq_true rfl)
  have N25_ := Fr.snoc X25 N23_ g_b1
  have O25_ : Ext Z.heap h25 := extWr O23_ W25 g_b1
  show Go _ _ _ _ _ _ _ _ T25 (mkF m 83 #[.val (.int x0), .val (.int x1), .val (.int x2), .unset, .unset, .unset, .unset, .unset, .unset, .unset, .unset, .unset] [(.ref b1)])
  refine Go.step (fun _ kt_ => XS.dup X25.here hx rfl (hb hby at_83) rfl rfl kt_) ?_
  show Go _ _ _ _ _ _ _ _ T25 (mkF m 84 #[.val (.int x0), .val (.int x1), .val (.int x2), .unset, .unset, .unset, .unset, .unset, .unset, .unset, .unset, .unset] [(.ref b1), (.ref b1)])
  refine Go.step (fun _ kt_ => XS.bipush X25.here hx rfl (hb hby at_84)  kt_) ?_
  show Go _ _ _ _ _ _ _ _ T25 (mkF m 86 #[.val (.int x0), .val (.int x1), .val (.int x2), .unset, .unset, .unset, .unset, .unset, .unset, .unset, .unset, .unset] [(.int (12 : Int32)), (.ref b1), (.ref b1)])
  obtain ⟨T26, X26, e26, st26⟩ := getS2 X25 hx hZ hown (host := "") (Or.inl (hw _ (List.mem_of_getElem? (i := 28) rfl))) Via.refl e25 (Sta.ext O25_ S_12) (g := (mkF m 86 #[.val (.int x0), .val (.int x1), .val (.int x2), .unset, .unset, .unset, .unset, .unset, .unset, .unset, .unset, .unset] [(.int (12 : Int32)), (.ref b1), (.ref b1)])) rfl (hb hby at_86)
  refine Go.step st26 ?_
  show Go _ _ _ _ _ _ _ _ T26 (mkF m 89 #[.val (.int x0), .val (.int x1), .val (.int x2), .unset, .unset, .unset, .unset, .unset, .unset, .unset, .unset, .unset] [(.ref c12), (.int (12 : Int32)), (.ref b1), (.ref b1)])
  obtain ⟨cl27, Ar27, q27, S27, N27, H27, G27⟩ := V25
  have hin27 : ¬ ((12 : Int32) < 0 ∨ cl27.slots.size ≤ ((12 : Int32)).toNatClampNeg) := inb_of S27 ⟨by decide, by decide⟩
  obtain ⟨T27, h27, X27, e27, W27, st27⟩ := stR X26 hx hZ e26 Ar27 (j := (12 : Int32)) hin27 rfl (Sto.ofV Ar27 q27 O1 (Ins.self (Exa.ext O25_ X_12))) (g := (mkF m 89 #[.val (.int x0), .val (.int x1), .val (.int x2), .unset, .unset, .unset, .unset, .unset, .unset, .unset, .unset, .unset] [(.ref c12), (.int (12 : Int32)), (.ref b1), (.ref b1)])) rfl rfl (hb hby at_89)
  refine Go.step st27 ?_
  have V27 : Arv Z h27 b1 k1 (.object "com/example/clean_epoch/cleanepoch/protocol/ApiKey") (19 : Int32) [(.ref c0), (.ref c1), (.ref c2), (.ref c3), (.ref c4), (.ref c5), (.ref c6), (.ref c7), (.ref c8), (.ref c9), (.ref c10), (.ref c11), (.ref c12), .null, .null, .null, .null, .null, .null] .null := Arv.set Ar27 q27 S27 N27 H27 G27 rfl W27 12 rfl (Nat.le_of_ble_eq_true rfl)
  have N27_ := Fr.snoc X27 N25_ g_b1
  have O27_ : Ext Z.heap h27 := extWr O25_ W27 g_b1
  show Go _ _ _ _ _ _ _ _ T27 (mkF m 90 #[.val (.int x0), .val (.int x1), .val (.int x2), .unset, .unset, .unset, .unset, .unset, .unset, .unset, .unset, .unset] [(.ref b1)])
  refine Go.step (fun _ kt_ => XS.dup X27.here hx rfl (hb hby at_90) rfl rfl kt_) ?_
  show Go _ _ _ _ _ _ _ _ T27 (mkF m 91 #[.val (.int x0), .val (.int x1), .val (.int x2), .unset, .unset, .unset, .unset, .unset, .unset, .unset, .unset, .unset] [(.ref b1), (.ref b1)])
  refine Go.step (fun _ kt_ => XS.bipush X27.here hx rfl (hb hby at_91)  kt_) ?_
  show Go _ _ _ _ _ _ _ _ T27 (mkF m 93 #[.val (.int x0), .val (.int x1), .val (.int x2), .unset, .unset, .unset, .unset, .unset, .unset, .unset, .unset, .unset] [(.int (13 : Int32)), (.ref b1), (.ref b1)])
  obtain ⟨T28, X28, e28, st28⟩ := getS2 X27 hx hZ hown (host := "") (Or.inl (hw _ (List.mem_of_getElem? (i := 30) rfl))) Via.refl e27 (Sta.ext O27_ S_13) (g := (mkF m 93 #[.val (.int x0), .val (.int x1), .val (.int x2), .unset, .unset, .unset, .unset, .unset, .unset, .unset, .unset, .unset] [(.int (13 : Int32)), (.ref b1), (.ref b1)])) rfl (hb hby at_93)
  refine Go.step st28 ?_
  show Go _ _ _ _ _ _ _ _ T28 (mkF m 96 #[.val (.int x0), .val (.int x1), .val (.int x2), .unset, .unset, .unset, .unset, .unset, .unset, .unset, .unset, .unset] [(.ref c13), (.int (13 : Int32)), (.ref b1), (.ref b1)])
  obtain ⟨cl29, Ar29, q29, S29, N29, H29, G29⟩ := V27
  have hin29 : ¬ ((13 : Int32) < 0 ∨ cl29.slots.size ≤ ((13 : Int32)).toNatClampNeg) := inb_of S29 ⟨by decide, by decide⟩
  obtain ⟨T29, h29, X29, e29, W29, st29⟩ := stR X28 hx hZ e28 Ar29 (j := (13 : Int32)) hin29 rfl (Sto.ofV Ar29 q29 O1 (Ins.self (Exa.ext O27_ X_13))) (g := (mkF m 96 #[.val (.int x0), .val (.int x1), .val (.int x2), .unset, .unset, .unset, .unset, .unset, .unset, .unset, .unset, .unset] [(.ref c13), (.int (13 : Int32)), (.ref b1), (.ref b1)])) rfl rfl (hb hby at_96)
  refine Go.step st29 ?_
  have V29 : Arv Z h29 b1 k1 (.object "com/example/clean_epoch/cleanepoch/protocol/ApiKey") (19 : Int32) [(.ref c0), (.ref c1), (.ref c2), (.ref c3), (.ref c4), (.ref c5), (.ref c6), (.ref c7), (.ref c8), (.ref c9), (.ref c10), (.ref c11), (.ref c12), (.ref c13), .null, .null, .null, .null, .null] .null := Arv.set Ar29 q29 S29 N29 H29 G29 rfl W29 13 rfl (Nat.le_of_ble_eq_true rfl)
  have N29_ := Fr.snoc X29 N27_ g_b1
  have O29_ : Ext Z.heap h29 := extWr O27_ W29 g_b1
  show Go _ _ _ _ _ _ _ _ T29 (mkF m 97 #[.val (.int x0), .val (.int x1), .val (.int x2), .unset, .unset, .unset, .unset, .unset, .unset, .unset, .unset, .unset] [(.ref b1)])
  refine Go.step (fun _ kt_ => XS.dup X29.here hx rfl (hb hby at_97) rfl rfl kt_) ?_
  show Go _ _ _ _ _ _ _ _ T29 (mkF m 98 #[.val (.int x0), .val (.int x1), .val (.int x2), .unset, .unset, .unset, .unset, .unset, .unset, .unset, .unset, .unset] [(.ref b1), (.ref b1)])
  refine Go.step (fun _ kt_ => XS.bipush X29.here hx rfl (hb hby at_98)  kt_) ?_
  show Go _ _ _ _ _ _ _ _ T29 (mkF m 100 #[.val (.int x0), .val (.int x1), .val (.int x2), .unset, .unset, .unset, .unset, .unset, .unset, .unset, .unset, .unset] [(.int (14 : Int32)), (.ref b1), (.ref b1)])
  obtain ⟨T30, X30, e30, st30⟩ := getS2 X29 hx hZ hown (host := "") (Or.inl (hw _ (List.mem_of_getElem? (i := 32) rfl))) Via.refl e29 (Sta.ext O29_ S_14) (g := (mkF m 100 #[.val (.int x0), .val (.int x1), .val (.int x2), .unset, .unset, .unset, .unset, .unset, .unset, .unset, .unset, .unset] [(.int (14 : Int32)), (.ref b1), (.ref b1)])) rfl (hb hby at_100)
  refine Go.step st30 ?_
  show Go _ _ _ _ _ _ _ _ T30 (mkF m 103 #[.val (.int x0), .val (.int x1), .val (.int x2), .unset, .unset, .unset, .unset, .unset, .unset, .unset, .unset, .unset] [(.ref c14), (.int (14 : Int32)), (.ref b1), (.ref b1)])
  obtain ⟨cl31, Ar31, q31, S31, N31, H31, G31⟩ := V29
  have hin31 : ¬ ((14 : Int32) < 0 ∨ cl31.slots.size ≤ ((14 : Int32)).toNatClampNeg) := inb_of S31 ⟨by decide, by decide⟩
  obtain ⟨T31, h31, X31, e31, W31, st31⟩ := stR X30 hx hZ e30 Ar31 (j := (14 : Int32)) hin31 rfl (Sto.ofV Ar31 q31 O1 (Ins.self (Exa.ext O29_ X_14))) (g := (mkF m 103 #[.val (.int x0), .val (.int x1), .val (.int x2), .unset, .unset, .unset, .unset, .unset, .unset, .unset, .unset, .unset] [(.ref c14), (.int (14 : Int32)), (.ref b1), (.ref b1)])) rfl rfl (hb hby at_103)
  refine Go.step st31 ?_
  have V31 : Arv Z h31 b1 k1 (.object "com/example/clean_epoch/cleanepoch/protocol/ApiKey") (19 : Int32) [(.ref c0), (.ref c1), (.ref c2), (.ref c3), (.ref c4), (.ref c5), (.ref c6), (.ref c7), (.ref c8), (.ref c9), (.ref c10), (.ref c11), (.ref c12), (.ref c13), (.ref c14), .null, .null, .null, .null] .null := Arv.set Ar31 q31 S31 N31 H31 G31 rfl W31 14 rfl (Nat.le_of_ble_eq_true rfl)
  have N31_ := Fr.snoc X31 N29_ g_b1
  have O31_ : Ext Z.heap h31 := extWr O29_ W31 g_b1
  show Go _ _ _ _ _ _ _ _ T31 (mkF m 104 #[.val (.int x0), .val (.int x1), .val (.int x2), .unset, .unset, .unset, .unset, .unset, .unset, .unset, .unset, .unset] [(.ref b1)])
  refine Go.step (fun _ kt_ => XS.dup X31.here hx rfl (hb hby at_104) rfl rfl kt_) ?_
  show Go _ _ _ _ _ _ _ _ T31 (mkF m 105 #[.val (.int x0), .val (.int x1), .val (.int x2), .unset, .unset, .unset, .unset, .unset, .unset, .unset, .unset, .unset] [(.ref b1), (.ref b1)])
  refine Go.step (fun _ kt_ => XS.bipush X31.here hx rfl (hb hby at_105)  kt_) ?_
  show Go _ _ _ _ _ _ _ _ T31 (mkF m 107 #[.val (.int x0), .val (.int x1), .val (.int x2), .unset, .unset, .unset, .unset, .unset, .unset, .unset, .unset, .unset] [(.int (15 : Int32)), (.ref b1), (.ref b1)])
  obtain ⟨T32, X32, e32, st32⟩ := getS2 X31 hx hZ hown (host := "") (Or.inl (hw _ (List.mem_of_getElem? (i := 34) rfl))) Via.refl e31 (Sta.ext O31_ S_15) (g := (mkF m 107 #[.val (.int x0), .val (.int x1), .val (.int x2), .unset, .unset, .unset, .unset, .unset, .unset, .unset, .unset, .unset] [(.int (15 : Int32)), (.ref b1), (.ref b1)])) rfl (hb hby at_107)
  refine Go.step st32 ?_
  show Go _ _ _ _ _ _ _ _ T32 (mkF m 110 #[.val (.int x0), .val (.int x1), .val (.int x2), .unset, .unset, .unset, .unset, .unset, .unset, .unset, .unset, .unset] [(.ref c15), (.int (15 : Int32)), (.ref b1), (.ref b1)])
  obtain ⟨cl33, Ar33, q33, S33, N33, H33, G33⟩ := V31
  have hin33 : ¬ ((15 : Int32) < 0 ∨ cl33.slots.size ≤ ((15 : Int32)).toNatClampNeg) := inb_of S33 ⟨by decide, by decide⟩
  obtain ⟨T33, h33, X33, e33, W33, st33⟩ := stR X32 hx hZ e32 Ar33 (j := (15 : Int32)) hin33 rfl (Sto.ofV Ar33 q33 O1 (Ins.self (Exa.ext O31_ X_15))) (g := (mkF m 110 #[.val (.int x0), .val (.int x1), .val (.int x2), .unset, .unset, .unset, .unset, .unset, .unset, .unset, .unset, .unset] [(.ref c15), (.int (15 : Int32)), (.ref b1), (.ref b1)])) rfl rfl (hb hby at_110)
  refine Go.step st33 ?_
  have V33 : Arv Z h33 b1 k1 (.object "com/example/clean_epoch/cleanepoch/protocol/ApiKey") (19 : Int32) [(.ref c0), (.ref c1), (.ref c2), (.ref c3), (.ref c4), (.ref c5), (.ref c6), (.ref c7), (.ref c8), (.ref c9), (.ref c10), (.ref c11), (.ref c12), (.ref c13), (.ref c14), (.ref c15), .null, .null, .null] .null := Arv.set Ar33 q33 S33 N33 H33 G33 rfl W33 15 rfl (Nat.le_of_ble_eq_true rfl)
  have N33_ := Fr.snoc X33 N31_ g_b1
  have O33_ : Ext Z.heap h33 := extWr O31_ W33 g_b1
  show Go _ _ _ _ _ _ _ _ T33 (mkF m 111 #[.val (.int x0), .val (.int x1), .val (.int x2), .unset, .unset, .unset, .unset, .unset, .unset, .unset, .unset, .unset] [(.ref b1)])
  refine Go.step (fun _ kt_ => XS.dup X33.here hx rfl (hb hby at_111) rfl rfl kt_) ?_
  show Go _ _ _ _ _ _ _ _ T33 (mkF m 112 #[.val (.int x0), .val (.int x1), .val (.int x2), .unset, .unset, .unset, .unset, .unset, .unset, .unset, .unset, .unset] [(.ref b1), (.ref b1)])
  refine Go.step (fun _ kt_ => XS.bipush X33.here hx rfl (hb hby at_112)  kt_) ?_
  show Go _ _ _ _ _ _ _ _ T33 (mkF m 114 #[.val (.int x0), .val (.int x1), .val (.int x2), .unset, .unset, .unset, .unset, .unset, .unset, .unset, .unset, .unset] [(.int (16 : Int32)), (.ref b1), (.ref b1)])
  obtain ⟨T34, X34, e34, st34⟩ := getS2 X33 hx hZ hown (host := "") (Or.inl (hw _ (List.mem_of_getElem? (i := 36) rfl))) Via.refl e33 (Sta.ext O33_ S_16) (g := (mkF m 114 #[.val (.int x0), .val (.int x1), .val (.int x2), .unset, .unset, .unset, .unset, .unset, .unset, .unset, .unset, .unset] [(.int (16 : Int32)), (.ref b1), (.ref b1)])) rfl (hb hby at_114)
  refine Go.step st34 ?_
  show Go _ _ _ _ _ _ _ _ T34 (mkF m 117 #[.val (.int x0), .val (.int x1), .val (.int x2), .unset, .unset, .unset, .unset, .unset, .unset, .unset, .unset, .unset] [(.ref c16), (.int (16 : Int32)), (.ref b1), (.ref b1)])
  obtain ⟨cl35, Ar35, q35, S35, N35, H35, G35⟩ := V33
  have hin35 : ¬ ((16 : Int32) < 0 ∨ cl35.slots.size ≤ ((16 : Int32)).toNatClampNeg) := inb_of S35 ⟨by decide, by decide⟩
  obtain ⟨T35, h35, X35, e35, W35, st35⟩ := stR X34 hx hZ e34 Ar35 (j := (16 : Int32)) hin35 rfl (Sto.ofV Ar35 q35 O1 (Ins.self (Exa.ext O33_ X_16))) (g := (mkF m 117 #[.val (.int x0), .val (.int x1), .val (.int x2), .unset, .unset, .unset, .unset, .unset, .unset, .unset, .unset, .unset] [(.ref c16), (.int (16 : Int32)), (.ref b1), (.ref b1)])) rfl rfl (hb hby at_117)
  refine Go.step st35 ?_
  have V35 : Arv Z h35 b1 k1 (.object "com/example/clean_epoch/cleanepoch/protocol/ApiKey") (19 : Int32) [(.ref c0), (.ref c1), (.ref c2), (.ref c3), (.ref c4), (.ref c5), (.ref c6), (.ref c7), (.ref c8), (.ref c9), (.ref c10), (.ref c11), (.ref c12), (.ref c13), (.ref c14), (.ref c15), (.ref c16), .null, .null] .null := Arv.set Ar35 q35 S35 N35 H35 G35 rfl W35 16 rfl (Nat.le_of_ble_eq_true rfl)
  have N35_ := Fr.snoc X35 N33_ g_b1
  have O35_ : Ext Z.heap h35 := extWr O33_ W35 g_b1
  show Go _ _ _ _ _ _ _ _ T35 (mkF m 118 #[.val (.int x0), .val (.int x1), .val (.int x2), .unset, .unset, .unset, .unset, .unset, .unset, .unset, .unset, .unset] [(.ref b1)])
  refine Go.step (fun _ kt_ => XS.dup X35.here hx rfl (hb hby at_118) rfl rfl kt_) ?_
  show Go _ _ _ _ _ _ _ _ T35 (mkF m 119 #[.val (.int x0), .val (.int x1), .val (.int x2), .unset, .unset, .unset, .unset, .unset, .unset, .unset, .unset, .unset] [(.ref b1), (.ref b1)])
  refine Go.step (fun _ kt_ => XS.bipush X35.here hx rfl (hb hby at_119)  kt_) ?_
  show Go _ _ _ _ _ _ _ _ T35 (mkF m 121 #[.val (.int x0), .val (.int x1), .val (.int x2), .unset, .unset, .unset, .unset, .unset, .unset, .unset, .unset, .unset] [(.int (17 : Int32)), (.ref b1), (.ref b1)])
  obtain ⟨T36, X36, e36, st36⟩ := getS2 X35 hx hZ hown (host := "") (Or.inl (hw _ (List.mem_of_getElem? (i := 38) rfl))) Via.refl e35 (Sta.ext O35_ S_17) (g := (mkF m 121 #[.val (.int x0), .val (.int x1), .val (.int x2), .unset, .unset, .unset, .unset, .unset, .unset, .unset, .unset, .unset] [(.int (17 : Int32)), (.ref b1), (.ref b1)])) rfl (hb hby at_121)
  refine Go.step st36 ?_
  show Go _ _ _ _ _ _ _ _ T36 (mkF m 124 #[.val (.int x0), .val (.int x1), .val (.int x2), .unset, .unset, .unset, .unset, .unset, .unset, .unset, .unset, .unset] [(.ref c17), (.int (17 : Int32)), (.ref b1), (.ref b1)])
  obtain ⟨cl37, Ar37, q37, S37, N37, H37, G37⟩ := V35
  have hin37 : ¬ ((17 : Int32) < 0 ∨ cl37.slots.size ≤ ((17 : Int32)).toNatClampNeg) := inb_of S37 ⟨by decide, by decide⟩
  obtain ⟨T37, h37, X37, e37, W37, st37⟩ := stR X36 hx hZ e36 Ar37 (j := (17 : Int32)) hin37 rfl (Sto.ofV Ar37 q37 O1 (Ins.self (Exa.ext O35_ X_17))) (g := (mkF m 124 #[.val (.int x0), .val (.int x1), .val (.int x2), .unset, .unset, .unset, .unset, .unset, .unset, .unset, .unset, .unset] [(.ref c17), (.int (17 : Int32)), (.ref b1), (.ref b1)])) rfl rfl (hb hby at_124)
  refine Go.step st37 ?_
  have V37 : Arv Z h37 b1 k1 (.object "com/example/clean_epoch/cleanepoch/protocol/ApiKey") (19 : Int32) [(.ref c0), (.ref c1), (.ref c2), (.ref c3), (.ref c4), (.ref c5), (.ref c6), (.ref c7), (.ref c8), (.ref c9), (.ref c10), (.ref c11), (.ref c12), (.ref c13), (.ref c14), (.ref c15), (.ref c16), (.ref c17), .null] .null := Arv.set Ar37 q37 S37 N37 H37 G37 rfl W37 17 rfl (Nat.le_of_ble_eq_true rfl)
  have N37_ := Fr.snoc X37 N35_ g_b1
  have O37_ : Ext Z.heap h37 := extWr O35_ W37 g_b1
  show Go _ _ _ _ _ _ _ _ T37 (mkF m 125 #[.val (.int x0), .val (.int x1), .val (.int x2), .unset, .unset, .unset, .unset, .unset, .unset, .unset, .unset, .unset] [(.ref b1)])
  refine Go.step (fun _ kt_ => XS.dup X37.here hx rfl (hb hby at_125) rfl rfl kt_) ?_
  show Go _ _ _ _ _ _ _ _ T37 (mkF m 126 #[.val (.int x0), .val (.int x1), .val (.int x2), .unset, .unset, .unset, .unset, .unset, .unset, .unset, .unset, .unset] [(.ref b1), (.ref b1)])
  refine Go.step (fun _ kt_ => XS.bipush X37.here hx rfl (hb hby at_126)  kt_) ?_
  show Go _ _ _ _ _ _ _ _ T37 (mkF m 128 #[.val (.int x0), .val (.int x1), .val (.int x2), .unset, .unset, .unset, .unset, .unset, .unset, .unset, .unset, .unset] [(.int (18 : Int32)), (.ref b1), (.ref b1)])
  obtain ⟨T38, X38, e38, st38⟩ := getS2 X37 hx hZ hown (host := "") (Or.inl (hw _ (List.mem_of_getElem? (i := 40) rfl))) Via.refl e37 (Sta.ext O37_ S_18) (g := (mkF m 128 #[.val (.int x0), .val (.int x1), .val (.int x2), .unset, .unset, .unset, .unset, .unset, .unset, .unset, .unset, .unset] [(.int (18 : Int32)), (.ref b1), (.ref b1)])) rfl (hb hby at_128)
  refine Go.step st38 ?_
  show Go _ _ _ _ _ _ _ _ T38 (mkF m 131 #[.val (.int x0), .val (.int x1), .val (.int x2), .unset, .unset, .unset, .unset, .unset, .unset, .unset, .unset, .unset] [(.ref c18), (.int (18 : Int32)), (.ref b1), (.ref b1)])
  obtain ⟨cl39, Ar39, q39, S39, N39, H39, G39⟩ := V37
  have hin39 : ¬ ((18 : Int32) < 0 ∨ cl39.slots.size ≤ ((18 : Int32)).toNatClampNeg) := inb_of S39 ⟨by decide, by decide⟩
  obtain ⟨T39, h39, X39, e39, W39, st39⟩ := stR X38 hx hZ e38 Ar39 (j := (18 : Int32)) hin39 rfl (Sto.ofV Ar39 q39 O1 (Ins.self (Exa.ext O37_ X_18))) (g := (mkF m 131 #[.val (.int x0), .val (.int x1), .val (.int x2), .unset, .unset, .unset, .unset, .unset, .unset, .unset, .unset, .unset] [(.ref c18), (.int (18 : Int32)), (.ref b1), (.ref b1)])) rfl rfl (hb hby at_131)
  refine Go.step st39 ?_
  have V39 : Arv Z h39 b1 k1 (.object "com/example/clean_epoch/cleanepoch/protocol/ApiKey") (19 : Int32) [(.ref c0), (.ref c1), (.ref c2), (.ref c3), (.ref c4), (.ref c5), (.ref c6), (.ref c7), (.ref c8), (.ref c9), (.ref c10), (.ref c11), (.ref c12), (.ref c13), (.ref c14), (.ref c15), (.ref c16), (.ref c17), (.ref c18)] .null := Arv.set Ar39 q39 S39 N39 H39 G39 rfl W39 18 rfl (Nat.le_of_ble_eq_true rfl)
  have N39_ := Fr.snoc X39 N37_ g_b1
  have O39_ : Ext Z.heap h39 := extWr O37_ W39 g_b1
  show Go _ _ _ _ _ _ _ _ T39 (mkF m 132 #[.val (.int x0), .val (.int x1), .val (.int x2), .unset, .unset, .unset, .unset, .unset, .unset, .unset, .unset, .unset] [(.ref b1)])
  refine Go.step (fun _ kt_ => XS.astoreN X39.here hx rfl (hb hby at_132) rfl rfl (l' := #[.val (.int x0), .val (.int x1), .val (.int x2), .val (.ref b1), .unset, .unset, .unset, .unset, .unset, .unset, .unset, .unset]) rfl kt_) ?_
  show Go _ _ _ _ _ _ _ _ T39 (mkF m 133 #[.val (.int x0), .val (.int x1), .val (.int x2), .val (.ref b1), .unset, .unset, .unset, .unset, .unset, .unset, .unset, .unset] [])
  refine Go.step (fun _ kt_ => XS.bipush X39.here hx rfl (hb hby at_133)  kt_) ?_
  show Go _ _ _ _ _ _ _ _ T39 (mkF m 135 #[.val (.int x0), .val (.int x1), .val (.int x2), .val (.ref b1), .unset, .unset, .unset, .unset, .unset, .unset, .unset, .unset] [(.int (19 : Int32))])
  obtain ⟨T40, h40, k40, X40, e40, E40, A40, st40⟩ := newP X39 hx hZ (hw _ (List.mem_of_getElem? (i := 42) rfl)) e39 (g := (mkF m 135 #[.val (.int x0), .val (.int x1), .val (.int x2), .val (.ref b1), .unset, .unset, .unset, .unset, .unset, .unset, .unset, .unset] [(.int (19 : Int32))])) rfl (hb hby at_135) rfl (by decide) (cap := 19) (by decide) (by decide) (by decide) (by decide)
  obtain ⟨b40, hb40⟩ : ∃ z, z = h39.size := ⟨_, rfl⟩
  rw [← hb40] at A40 st40
  refine Go.step st40 ?_
  have g_b40 : Z.heap.size ≤ b40 := Nat.le_trans O39_.1 (Nat.le_of_eq hb40.symm)
  have O40_ : Ext Z.heap h40 := extTr O39_ E40
  have V40 : Arv Z h40 b40 k40 .int (19 : Int32) [(.int (0 : Int32)), (.int (0 : Int32)), (.int (0 : Int32)), (.int (0 : Int32)), (.int (0 : Int32)), (.int (0 : Int32)), (.int (0 : Int32)), (.int (0 : Int32)), (.int (0 : Int32)), (.int (0 : Int32)), (.int (0 : Int32)), (.int (0 : Int32)), (.int (0 : Int32)), (.int (0 : Int32)), (.int (0 : Int32)), (.int (0 : Int32)), (.int (0 : Int32)), (.int (0 : Int32)), (.int (0 : Int32))] (.int (0 : Int32)) := (Arv.new A40 (by decide)).pad (pad_rep [] (.int (0 : Int32)) 19)
  show Go _ _ _ _ _ _ _ _ T40 (mkF m 137 #[.val (.int x0), .val (.int x1), .val (.int x2), .val (.ref b1), .unset, .unset, .unset, .unset, .unset, .unset, .unset, .unset] [(.ref b40)])
  refine Go.step (fun _ kt_ => XS.dup X40.here hx rfl (hb hby at_137) rfl rfl kt_) ?_
  show Go _ _ _ _ _ _ _ _ T40 (mkF m 138 #[.val (.int x0), .val (.int x1), .val (.int x2), .val (.ref b1), .unset, .unset, .unset, .unset, .unset, .unset, .unset, .unset] [(.ref b40), (.ref b40)])
  refine Go.step (fun _ kt_ => XS.iconst X40.here hx rfl (hb hby at_138)  kt_) ?_
  show Go _ _ _ _ _ _ _ _ T40 (mkF m 139 #[.val (.int x0), .val (.int x1), .val (.int x2), .val (.ref b1), .unset, .unset, .unset, .unset, .unset, .unset, .unset, .unset] [(.int (0 : Int32)), (.ref b40), (.ref b40)])
  refine Go.step (fun _ kt_ => XS.iconst X40.here hx rfl (hb hby at_139)  kt_) ?_
  show Go _ _ _ _ _ _ _ _ T40 (mkF m 140 #[.val (.int x0), .val (.int x1), .val (.int x2), .val (.ref b1), .unset, .unset, .unset, .unset, .unset, .unset, .unset, .unset] [(.int (3 : Int32)), (.int (0 : Int32)), (.ref b40), (.ref b40)])
  obtain ⟨cl41, Ar41, q41, S41, N41, H41, G41⟩ := V40
  have hin41 : ¬ ((0 : Int32) < 0 ∨ cl41.slots.size ≤ ((0 : Int32)).toNatClampNeg) := inb_of S41 ⟨by decide, by decide⟩
  obtain ⟨T41, h41, X41, e41, W41, st41⟩ := stI X40 hx hZ e40 Ar41 (j := (0 : Int32)) hin41 (g := (mkF m 140 #[.val (.int x0), .val (.int x1), .val (.int x2), .val (.ref b1), .unset, .unset, .unset, .unset, .unset, .unset, .unset, .unset] [(.int (3 : Int32)), (.int (0 : Int32)), (.ref b40), (.ref b40)])) rfl rfl (hb hby at_140)
  refine Go.step st41 ?_
  have V41 : Arv Z h41 b40 k40 .int (19 : Int32) [(.int (3 : Int32)), (.int (0 : Int32)), (.int (0 : Int32)), (.int (0 : Int32)), (.int (0 : Int32)), (.int (0 : Int32)), (.int (0 : Int32)), (.int (0 : Int32)), (.int (0 : Int32)), (.int (0 : Int32)), (.int (0 : Int32)), (.int (0 : Int32)), (.int (0 : Int32)), (.int (0 : Int32)), (.int (0 : Int32)), (.int (0 : Int32)), (.int (0 : Int32)), (.int (0 : Int32)), (.int (0 : Int32))] (.int (0 : Int32)) := Arv.set Ar41 q41 S41 N41 H41 G41 rfl W41 0 rfl (Nat.le_of_ble_eq_true rfl)
  have N41_ := Fr.snoc X41 N39_ g_b40
  have O41_ : Ext Z.heap h41 := extWr O40_ W41 g_b40
  show Go _ _ _ _ _ _ _ _ T41 (mkF m 141 #[.val (.int x0), .val (.int x1), .val (.int x2), .val (.ref b1), .unset, .unset, .unset, .unset, .unset, .unset, .unset, .unset] [(.ref b40)])
  refine Go.step (fun _ kt_ => XS.dup X41.here hx rfl (hb hby at_141) rfl rfl kt_) ?_
  show Go _ _ _ _ _ _ _ _ T41 (mkF m 142 #[.val (.int x0), .val (.int x1), .val (.int x2), .val (.ref b1), .unset, .unset, .unset, .unset, .unset, .unset, .unset, .unset] [(.ref b40), (.ref b40)])
  refine Go.step (fun _ kt_ => XS.iconst X41.here hx rfl (hb hby at_142)  kt_) ?_
  show Go _ _ _ _ _ _ _ _ T41 (mkF m 143 #[.val (.int x0), .val (.int x1), .val (.int x2), .val (.ref b1), .unset, .unset, .unset, .unset, .unset, .unset, .unset, .unset] [(.int (1 : Int32)), (.ref b40), (.ref b40)])
  refine Go.step (fun _ kt_ => XS.iconst X41.here hx rfl (hb hby at_143)  kt_) ?_
  show Go _ _ _ _ _ _ _ _ T41 (mkF m 144 #[.val (.int x0), .val (.int x1), .val (.int x2), .val (.ref b1), .unset, .unset, .unset, .unset, .unset, .unset, .unset, .unset] [(.int (4 : Int32)), (.int (1 : Int32)), (.ref b40), (.ref b40)])
  obtain ⟨cl42, Ar42, q42, S42, N42, H42, G42⟩ := V41
  have hin42 : ¬ ((1 : Int32) < 0 ∨ cl42.slots.size ≤ ((1 : Int32)).toNatClampNeg) := inb_of S42 ⟨by decide, by decide⟩
  obtain ⟨T42, h42, X42, e42, W42, st42⟩ := stI X41 hx hZ e41 Ar42 (j := (1 : Int32)) hin42 (g := (mkF m 144 #[.val (.int x0), .val (.int x1), .val (.int x2), .val (.ref b1), .unset, .unset, .unset, .unset, .unset, .unset, .unset, .unset] [(.int (4 : Int32)), (.int (1 : Int32)), (.ref b40), (.ref b40)])) rfl rfl (hb hby at_144)
  refine Go.step st42 ?_
  have V42 : Arv Z h42 b40 k40 .int (19 : Int32) [(.int (3 : Int32)), (.int (4 : Int32)), (.int (0 : Int32)), (.int (0 : Int32)), (.int (0 : Int32)), (.int (0 : Int32)), (.int (0 : Int32)), (.int (0 : Int32)), (.int (0 : Int32)), (.int (0 : Int32)), (.int (0 : Int32)), (.int (0 : Int32)), (.int (0 : Int32)), (.int (0 : Int32)), (.int (0 : Int32)), (.int (0 : Int32)), (.int (0 : Int32)), (.int (0 : Int32)), (.int (0 : Int32))] (.int (0 : Int32)) := Arv.set Ar42 q42 S42 N42 H42 G42 rfl W42 1 rfl (Nat.le_of_ble_eq_true rfl)
  have N42_ := Fr.snoc X42 N41_ g_b40
  have O42_ : Ext Z.heap h42 := extWr O41_ W42 g_b40
  show Go _ _ _ _ _ _ _ _ T42 (mkF m 145 #[.val (.int x0), .val (.int x1), .val (.int x2), .val (.ref b1), .unset, .unset, .unset, .unset, .unset, .unset, .unset, .unset] [(.ref b40)])
  refine Go.step (fun _ kt_ => XS.dup X42.here hx rfl (hb hby at_145) rfl rfl kt_) ?_
  show Go _ _ _ _ _ _ _ _ T42 (mkF m 146 #[.val (.int x0), .val (.int x1), .val (.int x2), .val (.ref b1), .unset, .unset, .unset, .unset, .unset, .unset, .unset, .unset] [(.ref b40), (.ref b40)])
  refine Go.step (fun _ kt_ => XS.iconst X42.here hx rfl (hb hby at_146)  kt_) ?_
  show Go _ _ _ _ _ _ _ _ T42 (mkF m 147 #[.val (.int x0), .val (.int x1), .val (.int x2), .val (.ref b1), .unset, .unset, .unset, .unset, .unset, .unset, .unset, .unset] [(.int (2 : Int32)), (.ref b40), (.ref b40)])
  refine Go.step (fun _ kt_ => XS.iconst X42.here hx rfl (hb hby at_147)  kt_) ?_
  show Go _ _ _ _ _ _ _ _ T42 (mkF m 148 #[.val (.int x0), .val (.int x1), .val (.int x2), .val (.ref b1), .unset, .unset, .unset, .unset, .unset, .unset, .unset, .unset] [(.int (1 : Int32)), (.int (2 : Int32)), (.ref b40), (.ref b40)])
  obtain ⟨cl43, Ar43, q43, S43, N43, H43, G43⟩ := V42
  have hin43 : ¬ ((2 : Int32) < 0 ∨ cl43.slots.size ≤ ((2 : Int32)).toNatClampNeg) := inb_of S43 ⟨by decide, by decide⟩
  obtain ⟨T43, h43, X43, e43, W43, st43⟩ := stI X42 hx hZ e42 Ar43 (j := (2 : Int32)) hin43 (g := (mkF m 148 #[.val (.int x0), .val (.int x1), .val (.int x2), .val (.ref b1), .unset, .unset, .unset, .unset, .unset, .unset, .unset, .unset] [(.int (1 : Int32)), (.int (2 : Int32)), (.ref b40), (.ref b40)])) rfl rfl (hb hby at_148)
  refine Go.step st43 ?_
  have V43 : Arv Z h43 b40 k40 .int (19 : Int32) [(.int (3 : Int32)), (.int (4 : Int32)), (.int (1 : Int32)), (.int (0 : Int32)), (.int (0 : Int32)), (.int (0 : Int32)), (.int (0 : Int32)), (.int (0 : Int32)), (.int (0 : Int32)), (.int (0 : Int32)), (.int (0 : Int32)), (.int (0 : Int32)), (.int (0 : Int32)), (.int (0 : Int32)), (.int (0 : Int32)), (.int (0 : Int32)), (.int (0 : Int32)), (.int (0 : Int32)), (.int (0 : Int32))] (.int (0 : Int32)) := Arv.set Ar43 q43 S43 N43 H43 G43 rfl W43 2 rfl (Nat.le_of_ble_eq_true rfl)
  have N43_ := Fr.snoc X43 N42_ g_b40
  have O43_ : Ext Z.heap h43 := extWr O42_ W43 g_b40
  show Go _ _ _ _ _ _ _ _ T43 (mkF m 149 #[.val (.int x0), .val (.int x1), .val (.int x2), .val (.ref b1), .unset, .unset, .unset, .unset, .unset, .unset, .unset, .unset] [(.ref b40)])
  refine Go.step (fun _ kt_ => XS.dup X43.here hx rfl (hb hby at_149) rfl rfl kt_) ?_
  show Go _ _ _ _ _ _ _ _ T43 (mkF m 150 #[.val (.int x0), .val (.int x1), .val (.int x2), .val (.ref b1), .unset, .unset, .unset, .unset, .unset, .unset, .unset, .unset] [(.ref b40), (.ref b40)])
  refine Go.step (fun _ kt_ => XS.iconst X43.here hx rfl (hb hby at_150)  kt_) ?_
  show Go _ _ _ _ _ _ _ _ T43 (mkF m 151 #[.val (.int x0), .val (.int x1), .val (.int x2), .val (.ref b1), .unset, .unset, .unset, .unset, .unset, .unset, .unset, .unset] [(.int (3 : Int32)), (.ref b40), (.ref b40)])
  refine Go.step (fun _ kt_ => XS.iconst X43.here hx rfl (hb hby at_151)  kt_) ?_
  show Go _ _ _ _ _ _ _ _ T43 (mkF m 152 #[.val (.int x0), .val (.int x1), .val (.int x2), .val (.ref b1), .unset, .unset, .unset, .unset, .unset, .unset, .unset, .unset] [(.int (0 : Int32)), (.int (3 : Int32)), (.ref b40), (.ref b40)])
  obtain ⟨cl44, Ar44, q44, S44, N44, H44, G44⟩ := V43
  have hin44 : ¬ ((3 : Int32) < 0 ∨ cl44.slots.size ≤ ((3 : Int32)).toNatClampNeg) := inb_of S44 ⟨by decide, by decide⟩
  obtain ⟨T44, h44, X44, e44, W44, st44⟩ := stI X43 hx hZ e43 Ar44 (j := (3 : Int32)) hin44 (g := (mkF m 152 #[.val (.int x0), .val (.int x1), .val (.int x2), .val (.ref b1), .unset, .unset, .unset, .unset, .unset, .unset, .unset, .unset] [(.int (0 : Int32)), (.int (3 : Int32)), (.ref b40), (.ref b40)])) rfl rfl (hb hby at_152)
  refine Go.step st44 ?_
  have V44 : Arv Z h44 b40 k40 .int (19 : Int32) [(.int (3 : Int32)), (.int (4 : Int32)), (.int (1 : Int32)), (.int (0 : Int32)), (.int (0 : Int32)), (.int (0 : Int32)), (.int (0 : Int32)), (.int (0 : Int32)), (.int (0 : Int32)), (.int (0 : Int32)), (.int (0 : Int32)), (.int (0 : Int32)), (.int (0 : Int32)), (.int (0 : Int32)), (.int (0 : Int32)), (.int (0 : Int32)), (.int (0 : Int32)), (.int (0 : Int32)), (.int (0 : Int32))] (.int (0 : Int32)) := Arv.set Ar44 q44 S44 N44 H44 G44 rfl W44 3 rfl (Nat.le_of_ble_eq_true rfl)
  have N44_ := Fr.snoc X44 N43_ g_b40
  have O44_ : Ext Z.heap h44 := extWr O43_ W44 g_b40
  show Go _ _ _ _ _ _ _ _ T44 (mkF m 153 #[.val (.int x0), .val (.int x1), .val (.int x2), .val (.ref b1), .unset, .unset, .unset, .unset, .unset, .unset, .unset, .unset] [(.ref b40)])
  refine Go.step (fun _ kt_ => XS.dup X44.here hx rfl (hb hby at_153) rfl rfl kt_) ?_
  show Go _ _ _ _ _ _ _ _ T44 (mkF m 154 #[.val (.int x0), .val (.int x1), .val (.int x2), .val (.ref b1), .unset, .unset, .unset, .unset, .unset, .unset, .unset, .unset] [(.ref b40), (.ref b40)])
  refine Go.step (fun _ kt_ => XS.iconst X44.here hx rfl (hb hby at_154)  kt_) ?_
  show Go _ _ _ _ _ _ _ _ T44 (mkF m 155 #[.val (.int x0), .val (.int x1), .val (.int x2), .val (.ref b1), .unset, .unset, .unset, .unset, .unset, .unset, .unset, .unset] [(.int (4 : Int32)), (.ref b40), (.ref b40)])
  refine Go.step (fun _ kt_ => XS.iconst X44.here hx rfl (hb hby at_155)  kt_) ?_
  show Go _ _ _ _ _ _ _ _ T44 (mkF m 156 #[.val (.int x0), .val (.int x1), .val (.int x2), .val (.ref b1), .unset, .unset, .unset, .unset, .unset, .unset, .unset, .unset] [(.int (2 : Int32)), (.int (4 : Int32)), (.ref b40), (.ref b40)])
  obtain ⟨cl45, Ar45, q45, S45, N45, H45, G45⟩ := V44
  have hin45 : ¬ ((4 : Int32) < 0 ∨ cl45.slots.size ≤ ((4 : Int32)).toNatClampNeg) := inb_of S45 ⟨by decide, by decide⟩
  obtain ⟨T45, h45, X45, e45, W45, st45⟩ := stI X44 hx hZ e44 Ar45 (j := (4 : Int32)) hin45 (g := (mkF m 156 #[.val (.int x0), .val (.int x1), .val (.int x2), .val (.ref b1), .unset, .unset, .unset, .unset, .unset, .unset, .unset, .unset] [(.int (2 : Int32)), (.int (4 : Int32)), (.ref b40), (.ref b40)])) rfl rfl (hb hby at_156)
  refine Go.step st45 ?_
  have V45 : Arv Z h45 b40 k40 .int (19 : Int32) [(.int (3 : Int32)), (.int (4 : Int32)), (.int (1 : Int32)), (.int (0 : Int32)), (.int (2 : Int32)), (.int (0 : Int32)), (.int (0 : Int32)), (.int (0 : Int32)), (.int (0 : Int32)), (.int (0 : Int32)), (.int (0 : Int32)), (.int (0 : Int32)), (.int (0 : Int32)), (.int (0 : Int32)), (.int (0 : Int32)), (.int (0 : Int32)), (.int (0 : Int32)), (.int (0 : Int32)), (.int (0 : Int32))] (.int (0 : Int32)) := Arv.set Ar45 q45 S45 N45 H45 G45 rfl W45 4 rfl (Nat.le_of_ble_eq_true rfl)
  have N45_ := Fr.snoc X45 N44_ g_b40
  have O45_ : Ext Z.heap h45 := extWr O44_ W45 g_b40
  show Go _ _ _ _ _ _ _ _ T45 (mkF m 157 #[.val (.int x0), .val (.int x1), .val (.int x2), .val (.ref b1), .unset, .unset, .unset, .unset, .unset, .unset, .unset, .unset] [(.ref b40)])
  refine Go.step (fun _ kt_ => XS.dup X45.here hx rfl (hb hby at_157) rfl rfl kt_) ?_
  show Go _ _ _ _ _ _ _ _ T45 (mkF m 158 #[.val (.int x0), .val (.int x1), .val (.int x2), .val (.ref b1), .unset, .unset, .unset, .unset, .unset, .unset, .unset, .unset] [(.ref b40), (.ref b40)])
  refine Go.step (fun _ kt_ => XS.iconst X45.here hx rfl (hb hby at_158)  kt_) ?_
  show Go _ _ _ _ _ _ _ _ T45 (mkF m 159 #[.val (.int x0), .val (.int x1), .val (.int x2), .val (.ref b1), .unset, .unset, .unset, .unset, .unset, .unset, .unset, .unset] [(.int (5 : Int32)), (.ref b40), (.ref b40)])
  refine Go.step (fun _ kt_ => XS.iconst X45.here hx rfl (hb hby at_159)  kt_) ?_
  show Go _ _ _ _ _ _ _ _ T45 (mkF m 160 #[.val (.int x0), .val (.int x1), .val (.int x2), .val (.ref b1), .unset, .unset, .unset, .unset, .unset, .unset, .unset, .unset] [(.int (1 : Int32)), (.int (5 : Int32)), (.ref b40), (.ref b40)])
  obtain ⟨cl46, Ar46, q46, S46, N46, H46, G46⟩ := V45
  have hin46 : ¬ ((5 : Int32) < 0 ∨ cl46.slots.size ≤ ((5 : Int32)).toNatClampNeg) := inb_of S46 ⟨by decide, by decide⟩
  obtain ⟨T46, h46, X46, e46, W46, st46⟩ := stI X45 hx hZ e45 Ar46 (j := (5 : Int32)) hin46 (g := (mkF m 160 #[.val (.int x0), .val (.int x1), .val (.int x2), .val (.ref b1), .unset, .unset, .unset, .unset, .unset, .unset, .unset, .unset] [(.int (1 : Int32)), (.int (5 : Int32)), (.ref b40), (.ref b40)])) rfl rfl (hb hby at_160)
  refine Go.step st46 ?_
  have V46 : Arv Z h46 b40 k40 .int (19 : Int32) [(.int (3 : Int32)), (.int (4 : Int32)), (.int (1 : Int32)), (.int (0 : Int32)), (.int (2 : Int32)), (.int (1 : Int32)), (.int (0 : Int32)), (.int (0 : Int32)), (.int (0 : Int32)), (.int (0 : Int32)), (.int (0 : Int32)), (.int (0 : Int32)), (.int (0 : Int32)), (.int (0 : Int32)), (.int (0 : Int32)), (.int (0 : Int32)), (.int (0 : Int32)), (.int (0 : Int32)), (.int (0 : Int32))] (.int (0 : Int32)) := Arv.set Ar46 q46 S46 N46 H46 G46 rfl W46 5 rfl (Nat.le_of_ble_eq_true rfl)
  have N46_ := Fr.snoc X46 N45_ g_b40
  have O46_ : Ext Z.heap h46 := extWr O45_ W46 g_b40
  show Go _ _ _ _ _ _ _ _ T46 (mkF m 161 #[.val (.int x0), .val (.int x1), .val (.int x2), .val (.ref b1), .unset, .unset, .unset, .unset, .unset, .unset, .unset, .unset] [(.ref b40)])
  refine Go.step (fun _ kt_ => XS.dup X46.here hx rfl (hb hby at_161) rfl rfl kt_) ?_
  show Go _ _ _ _ _ _ _ _ T46 (mkF m 162 #[.val (.int x0), .val (.int x1), .val (.int x2), .val (.ref b1), .unset, .unset, .unset, .unset, .unset, .unset, .unset, .unset] [(.ref b40), (.ref b40)])
  refine Go.step (fun _ kt_ => XS.bipush X46.here hx rfl (hb hby at_162)  kt_) ?_
  show Go _ _ _ _ _ _ _ _ T46 (mkF m 164 #[.val (.int x0), .val (.int x1), .val (.int x2), .val (.ref b1), .unset, .unset, .unset, .unset, .unset, .unset, .unset, .unset] [(.int (6 : Int32)), (.ref b40), (.ref b40)])
  refine Go.step (fun _ kt_ => XS.iconst X46.here hx rfl (hb hby at_164)  kt_) ?_
  show Go _ _ _ _ _ _ _ _ T46 (mkF m 165 #[.val (.int x0), .val (.int x1), .val (.int x2), .val (.ref b1), .unset, .unset, .unset, .unset, .unset, .unset, .unset, .unset] [(.int (0 : Int32)), (.int (6 : Int32)), (.ref b40), (.ref b40)])
  obtain ⟨cl47, Ar47, q47, S47, N47, H47, G47⟩ := V46
  have hin47 : ¬ ((6 : Int32) < 0 ∨ cl47.slots.size ≤ ((6 : Int32)).toNatClampNeg) := inb_of S47 ⟨by decide, by decide⟩
  obtain ⟨T47, h47, X47, e47, W47, st47⟩ := stI X46 hx hZ e46 Ar47 (j := (6 : Int32)) hin47 (g := (mkF m 165 #[.val (.int x0), .val (.int x1), .val (.int x2), .val (.ref b1), .unset, .unset, .unset, .unset, .unset, .unset, .unset, .unset] [(.int (0 : Int32)), (.int (6 : Int32)), (.ref b40), (.ref b40)])) rfl rfl (hb hby at_165)
  refine Go.step st47 ?_
  have V47 : Arv Z h47 b40 k40 .int (19 : Int32) [(.int (3 : Int32)), (.int (4 : Int32)), (.int (1 : Int32)), (.int (0 : Int32)), (.int (2 : Int32)), (.int (1 : Int32)), (.int (0 : Int32)), (.int (0 : Int32)), (.int (0 : Int32)), (.int (0 : Int32)), (.int (0 : Int32)), (.int (0 : Int32)), (.int (0 : Int32)), (.int (0 : Int32)), (.int (0 : Int32)), (.int (0 : Int32)), (.int (0 : Int32)), (.int (0 : Int32)), (.int (0 : Int32))] (.int (0 : Int32)) := Arv.set Ar47 q47 S47 N47 H47 G47 rfl W47 6 rfl (Nat.le_of_ble_eq_true rfl)
  have N47_ := Fr.snoc X47 N46_ g_b40
  have O47_ : Ext Z.heap h47 := extWr O46_ W47 g_b40
  show Go _ _ _ _ _ _ _ _ T47 (mkF m 166 #[.val (.int x0), .val (.int x1), .val (.int x2), .val (.ref b1), .unset, .unset, .unset, .unset, .unset, .unset, .unset, .unset] [(.ref b40)])
  refine Go.step (fun _ kt_ => XS.dup X47.here hx rfl (hb hby at_166) rfl rfl kt_) ?_
  show Go _ _ _ _ _ _ _ _ T47 (mkF m 167 #[.val (.int x0), .val (.int x1), .val (.int x2), .val (.ref b1), .unset, .unset, .unset, .unset, .unset, .unset, .unset, .unset] [(.ref b40), (.ref b40)])
  refine Go.step (fun _ kt_ => XS.bipush X47.here hx rfl (hb hby at_167)  kt_) ?_
  show Go _ _ _ _ _ _ _ _ T47 (mkF m 169 #[.val (.int x0), .val (.int x1), .val (.int x2), .val (.ref b1), .unset, .unset, .unset, .unset, .unset, .unset, .unset, .unset] [(.int (7 : Int32)), (.ref b40), (.ref b40)])
  refine Go.step (fun _ kt_ => XS.iconst X47.here hx rfl (hb hby at_169)  kt_) ?_
  show Go _ _ _ _ _ _ _ _ T47 (mkF m 170 #[.val (.int x0), .val (.int x1), .val (.int x2), .val (.ref b1), .unset, .unset, .unset, .unset, .unset, .unset, .unset, .unset] [(.int (0 : Int32)), (.int (7 : Int32)), (.ref b40), (.ref b40)])
  obtain ⟨cl48, Ar48, q48, S48, N48, H48, G48⟩ := V47
  have hin48 : ¬ ((7 : Int32) < 0 ∨ cl48.slots.size ≤ ((7 : Int32)).toNatClampNeg) := inb_of S48 ⟨by decide, by decide⟩
  obtain ⟨T48, h48, X48, e48, W48, st48⟩ := stI X47 hx hZ e47 Ar48 (j := (7 : Int32)) hin48 (g := (mkF m 170 #[.val (.int x0), .val (.int x1), .val (.int x2), .val (.ref b1), .unset, .unset, .unset, .unset, .unset, .unset, .unset, .unset] [(.int (0 : Int32)), (.int (7 : Int32)), (.ref b40), (.ref b40)])) rfl rfl (hb hby at_170)
  refine Go.step st48 ?_
  have V48 : Arv Z h48 b40 k40 .int (19 : Int32) [(.int (3 : Int32)), (.int (4 : Int32)), (.int (1 : Int32)), (.int (0 : Int32)), (.int (2 : Int32)), (.int (1 : Int32)), (.int (0 : Int32)), (.int (0 : Int32)), (.int (0 : Int32)), (.int (0 : Int32)), (.int (0 : Int32)), (.int (0 : Int32)), (.int (0 : Int32)), (.int (0 : Int32)), (.int (0 : Int32)), (.int (0 : Int32)), (.int (0 : Int32)), (.int (0 : Int32)), (.int (0 : Int32))] (.int (0 : Int32)) := Arv.set Ar48 q48 S48 N48 H48 G48 rfl W48 7 rfl (Nat.le_of_ble_eq_true rfl)
  have N48_ := Fr.snoc X48 N47_ g_b40
  have O48_ : Ext Z.heap h48 := extWr O47_ W48 g_b40
  show Go _ _ _ _ _ _ _ _ T48 (mkF m 171 #[.val (.int x0), .val (.int x1), .val (.int x2), .val (.ref b1), .unset, .unset, .unset, .unset, .unset, .unset, .unset, .unset] [(.ref b40)])
  refine Go.step (fun _ kt_ => XS.dup X48.here hx rfl (hb hby at_171) rfl rfl kt_) ?_
  show Go _ _ _ _ _ _ _ _ T48 (mkF m 172 #[.val (.int x0), .val (.int x1), .val (.int x2), .val (.ref b1), .unset, .unset, .unset, .unset, .unset, .unset, .unset, .unset] [(.ref b40), (.ref b40)])
  refine Go.step (fun _ kt_ => XS.bipush X48.here hx rfl (hb hby at_172)  kt_) ?_
  show Go _ _ _ _ _ _ _ _ T48 (mkF m 174 #[.val (.int x0), .val (.int x1), .val (.int x2), .val (.ref b1), .unset, .unset, .unset, .unset, .unset, .unset, .unset, .unset] [(.int (8 : Int32)), (.ref b40), (.ref b40)])
  refine Go.step (fun _ kt_ => XS.iconst X48.here hx rfl (hb hby at_174)  kt_) ?_
  show Go _ _ _ _ _ _ _ _ T48 (mkF m 175 #[.val (.int x0), .val (.int x1), .val (.int x2), .val (.ref b1), .unset, .unset, .unset, .unset, .unset, .unset, .unset, .unset] [(.int (0 : Int32)), (.int (8 : Int32)), (.ref b40), (.ref b40)])
  obtain ⟨cl49, Ar49, q49, S49, N49, H49, G49⟩ := V48
  have hin49 : ¬ ((8 : Int32) < 0 ∨ cl49.slots.size ≤ ((8 : Int32)).toNatClampNeg) := inb_of S49 ⟨by decide, by decide⟩
  obtain ⟨T49, h49, X49, e49, W49, st49⟩ := stI X48 hx hZ e48 Ar49 (j := (8 : Int32)) hin49 (g := (mkF m 175 #[.val (.int x0), .val (.int x1), .val (.int x2), .val (.ref b1), .unset, .unset, .unset, .unset, .unset, .unset, .unset, .unset] [(.int (0 : Int32)), (.int (8 : Int32)), (.ref b40), (.ref b40)])) rfl rfl (hb hby at_175)
  refine Go.step st49 ?_
  have V49 : Arv Z h49 b40 k40 .int (19 : Int32) [(.int (3 : Int32)), (.int (4 : Int32)), (.int (1 : Int32)), (.int (0 : Int32)), (.int (2 : Int32)), (.int (1 : Int32)), (.int (0 : Int32)), (.int (0 : Int32)), (.int (0 : Int32)), (.int (0 : Int32)), (.int (0 : Int32)), (.int (0 : Int32)), (.int (0 : Int32)), (.int (0 : Int32)), (.int (0 : Int32)), (.int (0 : Int32)), (.int (0 : Int32)), (.int (0 : Int32)), (.int (0 : Int32))] (.int (0 : Int32)) := Arv.set Ar49 q49 S49 N49 H49 G49 rfl W49 8 rfl (Nat.le_of_ble_eq_true rfl)
  have N49_ := Fr.snoc X49 N48_ g_b40
  have O49_ : Ext Z.heap h49 := extWr O48_ W49 g_b40
  show Go _ _ _ _ _ _ _ _ T49 (mkF m 176 #[.val (.int x0), .val (.int x1), .val (.int x2), .val (.ref b1), .unset, .unset, .unset, .unset, .unset, .unset, .unset, .unset] [(.ref b40)])
  refine Go.step (fun _ kt_ => XS.dup X49.here hx rfl (hb hby at_176) rfl rfl kt_) ?_
  show Go _ _ _ _ _ _ _ _ T49 (mkF m 177 #[.val (.int x0), .val (.int x1), .val (.int x2), .val (.ref b1), .unset, .unset, .unset, .unset, .unset, .unset, .unset, .unset] [(.ref b40), (.ref b40)])
  refine Go.step (fun _ kt_ => XS.bipush X49.here hx rfl (hb hby at_177)  kt_) ?_
  show Go _ _ _ _ _ _ _ _ T49 (mkF m 179 #[.val (.int x0), .val (.int x1), .val (.int x2), .val (.ref b1), .unset, .unset, .unset, .unset, .unset, .unset, .unset, .unset] [(.int (9 : Int32)), (.ref b40), (.ref b40)])
  refine Go.step (fun _ kt_ => XS.iconst X49.here hx rfl (hb hby at_179)  kt_) ?_
  show Go _ _ _ _ _ _ _ _ T49 (mkF m 180 #[.val (.int x0), .val (.int x1), .val (.int x2), .val (.ref b1), .unset, .unset, .unset, .unset, .unset, .unset, .unset, .unset] [(.int (0 : Int32)), (.int (9 : Int32)), (.ref b40), (.ref b40)])
  obtain ⟨cl50, Ar50, q50, S50, N50, H50, G50⟩ := V49
  have hin50 : ¬ ((9 : Int32) < 0 ∨ cl50.slots.size ≤ ((9 : Int32)).toNatClampNeg) := inb_of S50 ⟨by decide, by decide⟩
  obtain ⟨T50, h50, X50, e50, W50, st50⟩ := stI X49 hx hZ e49 Ar50 (j := (9 : Int32)) hin50 (g := (mkF m 180 #[.val (.int x0), .val (.int x1), .val (.int x2), .val (.ref b1), .unset, .unset, .unset, .unset, .unset, .unset, .unset, .unset] [(.int (0 : Int32)), (.int (9 : Int32)), (.ref b40), (.ref b40)])) rfl rfl (hb hby at_180)
  refine Go.step st50 ?_
  have V50 : Arv Z h50 b40 k40 .int (19 : Int32) [(.int (3 : Int32)), (.int (4 : Int32)), (.int (1 : Int32)), (.int (0 : Int32)), (.int (2 : Int32)), (.int (1 : Int32)), (.int (0 : Int32)), (.int (0 : Int32)), (.int (0 : Int32)), (.int (0 : Int32)), (.int (0 : Int32)), (.int (0 : Int32)), (.int (0 : Int32)), (.int (0 : Int32)), (.int (0 : Int32)), (.int (0 : Int32)), (.int (0 : Int32)), (.int (0 : Int32)), (.int (0 : Int32))] (.int (0 : Int32)) := Arv.set Ar50 q50 S50 N50 H50 G50 rfl W50 9 rfl (Nat.le_of_ble_eq_true rfl)
  have N50_ := Fr.snoc X50 N49_ g_b40
  have O50_ : Ext Z.heap h50 := extWr O49_ W50 g_b40
  show Go _ _ _ _ _ _ _ _ T50 (mkF m 181 #[.val (.int x0), .val (.int x1), .val (.int x2), .val (.ref b1), .unset, .unset, .unset, .unset, .unset, .unset, .unset, .unset] [(.ref b40)])
  refine Go.step (fun _ kt_ => XS.dup X50.here hx rfl (hb hby at_181) rfl rfl kt_) ?_
  show Go _ _ _ _ _ _ _ _ T50 (mkF m 182 #[.val (.int x0), .val (.int x1), .val (.int x2), .val (.ref b1), .unset, .unset, .unset, .unset, .unset, .unset, .unset, .unset] [(.ref b40), (.ref b40)])
  refine Go.step (fun _ kt_ => XS.bipush X50.here hx rfl (hb hby at_182)  kt_) ?_
  show Go _ _ _ _ _ _ _ _ T50 (mkF m 184 #[.val (.int x0), .val (.int x1), .val (.int x2), .val (.ref b1), .unset, .unset, .unset, .unset, .unset, .unset, .unset, .unset] [(.int (10 : Int32)), (.ref b40), (.ref b40)])
  refine Go.step (fun _ kt_ => XS.iconst X50.here hx rfl (hb hby at_184)  kt_) ?_
  show Go _ _ _ _ _ _ _ _ T50 (mkF m 185 #[.val (.int x0), .val (.int x1), .val (.int x2), .val (.ref b1), .unset, .unset, .unset, .unset, .unset, .unset, .unset, .unset] [(.int (0 : Int32)), (.int (10 : Int32)), (.ref b40), (.ref b40)])
  obtain ⟨cl51, Ar51, q51, S51, N51, H51, G51⟩ := V50
  have hin51 : ¬ ((10 : Int32) < 0 ∨ cl51.slots.size ≤ ((10 : Int32)).toNatClampNeg) := inb_of S51 ⟨by decide, by decide⟩
  obtain ⟨T51, h51, X51, e51, W51, st51⟩ := stI X50 hx hZ e50 Ar51 (j := (10 : Int32)) hin51 (g := (mkF m 185 #[.val (.int x0), .val (.int x1), .val (.int x2), .val (.ref b1), .unset, .unset, .unset, .unset, .unset, .unset, .unset, .unset] [(.int (0 : Int32)), (.int (10 : Int32)), (.ref b40), (.ref b40)])) rfl rfl (hb hby at_185)
  refine Go.step st51 ?_
  have V51 : Arv Z h51 b40 k40 .int (19 : Int32) [(.int (3 : Int32)), (.int (4 : Int32)), (.int (1 : Int32)), (.int (0 : Int32)), (.int (2 : Int32)), (.int (1 : Int32)), (.int (0 : Int32)), (.int (0 : Int32)), (.int (0 : Int32)), (.int (0 : Int32)), (.int (0 : Int32)), (.int (0 : Int32)), (.int (0 : Int32)), (.int (0 : Int32)), (.int (0 : Int32)), (.int (0 : Int32)), (.int (0 : Int32)), (.int (0 : Int32)), (.int (0 : Int32))] (.int (0 : Int32)) := Arv.set Ar51 q51 S51 N51 H51 G51 rfl W51 10 rfl (Nat.le_of_ble_eq_true rfl)
  have N51_ := Fr.snoc X51 N50_ g_b40
  have O51_ : Ext Z.heap h51 := extWr O50_ W51 g_b40
  show Go _ _ _ _ _ _ _ _ T51 (mkF m 186 #[.val (.int x0), .val (.int x1), .val (.int x2), .val (.ref b1), .unset, .unset, .unset, .unset, .unset, .unset, .unset, .unset] [(.ref b40)])
  refine Go.step (fun _ kt_ => XS.dup X51.here hx rfl (hb hby at_186) rfl rfl kt_) ?_
  show Go _ _ _ _ _ _ _ _ T51 (mkF m 187 #[.val (.int x0), .val (.int x1), .val (.int x2), .val (.ref b1), .unset, .unset, .unset, .unset, .unset, .unset, .unset, .unset] [(.ref b40), (.ref b40)])
  refine Go.step (fun _ kt_ => XS.bipush X51.here hx rfl (hb hby at_187)  kt_) ?_
  show Go _ _ _ _ _ _ _ _ T51 (mkF m 189 #[.val (.int x0), .val (.int x1), .val (.int x2), .val (.ref b1), .unset, .unset, .unset, .unset, .unset, .unset, .unset, .unset] [(.int (11 : Int32)), (.ref b40), (.ref b40)])
  refine Go.step (fun _ kt_ => XS.iconst X51.here hx rfl (hb hby at_189)  kt_) ?_
  show Go _ _ _ _ _ _ _ _ T51 (mkF m 190 #[.val (.int x0), .val (.int x1), .val (.int x2), .val (.ref b1), .unset, .unset, .unset, .unset, .unset, .unset, .unset, .unset] [(.int (0 : Int32)), (.int (11 : Int32)), (.ref b40), (.ref b40)])
  obtain ⟨cl52, Ar52, q52, S52, N52, H52, G52⟩ := V51
  have hin52 : ¬ ((11 : Int32) < 0 ∨ cl52.slots.size ≤ ((11 : Int32)).toNatClampNeg) := inb_of S52 ⟨by decide, by decide⟩
  obtain ⟨T52, h52, X52, e52, W52, st52⟩ := stI X51 hx hZ e51 Ar52 (j := (11 : Int32)) hin52 (g := (mkF m 190 #[.val (.int x0), .val (.int x1), .val (.int x2), .val (.ref b1), .unset, .unset, .unset, .unset, .unset, .unset, .unset, .unset] [(.int (0 : Int32)), (.int (11 : Int32)), (.ref b40), (.ref b40)])) rfl rfl (hb hby at_190)
  refine Go.step st52 ?_
  have V52 : Arv Z h52 b40 k40 .int (19 : Int32) [(.int (3 : Int32)), (.int (4 : Int32)), (.int (1 : Int32)), (.int (0 : Int32)), (.int (2 : Int32)), (.int (1 : Int32)), (.int (0 : Int32)), (.int (0 : Int32)), (.int (0 : Int32)), (.int (0 : Int32)), (.int (0 : Int32)), (.int (0 : Int32)), (.int (0 : Int32)), (.int (0 : Int32)), (.int (0 : Int32)), (.int (0 : Int32)), (.int (0 : Int32)), (.int (0 : Int32)), (.int (0 : Int32))] (.int (0 : Int32)) := Arv.set Ar52 q52 S52 N52 H52 G52 rfl W52 11 rfl (Nat.le_of_ble_eq_true rfl)
  have N52_ := Fr.snoc X52 N51_ g_b40
  have O52_ : Ext Z.heap h52 := extWr O51_ W52 g_b40
  show Go _ _ _ _ _ _ _ _ T52 (mkF m 191 #[.val (.int x0), .val (.int x1), .val (.int x2), .val (.ref b1), .unset, .unset, .unset, .unset, .unset, .unset, .unset, .unset] [(.ref b40)])
  refine Go.step (fun _ kt_ => XS.dup X52.here hx rfl (hb hby at_191) rfl rfl kt_) ?_
  show Go _ _ _ _ _ _ _ _ T52 (mkF m 192 #[.val (.int x0), .val (.int x1), .val (.int x2), .val (.ref b1), .unset, .unset, .unset, .unset, .unset, .unset, .unset, .unset] [(.ref b40), (.ref b40)])
  refine Go.step (fun _ kt_ => XS.bipush X52.here hx rfl (hb hby at_192)  kt_) ?_
  show Go _ _ _ _ _ _ _ _ T52 (mkF m 194 #[.val (.int x0), .val (.int x1), .val (.int x2), .val (.ref b1), .unset, .unset, .unset, .unset, .unset, .unset, .unset, .unset] [(.int (12 : Int32)), (.ref b40), (.ref b40)])
  refine Go.step (fun _ kt_ => XS.iconst X52.here hx rfl (hb hby at_194)  kt_) ?_
  show Go _ _ _ _ _ _ _ _ T52 (mkF m 195 #[.val (.int x0), .val (.int x1), .val (.int x2), .val (.ref b1), .unset, .unset, .unset, .unset, .unset, .unset, .unset, .unset] [(.int (3 : Int32)), (.int (12 : Int32)), (.ref b40), (.ref b40)])
  obtain ⟨cl53, Ar53, q53, S53, N53, H53, G53⟩ := V52
  have hin53 : ¬ ((12 : Int32) < 0 ∨ cl53.slots.size ≤ ((12 : Int32)).toNatClampNeg) := inb_of S53 ⟨by decide, by decide⟩
  obtain ⟨T53, h53, X53, e53, W53, st53⟩ := stI X52 hx hZ e52 Ar53 (j := (12 : Int32)) hin53 (g := (mkF m 195 #[.val (.int x0), .val (.int x1), .val (.int x2), .val (.ref b1), .unset, .unset, .unset, .unset, .unset, .unset, .unset, .unset] [(.int (3 : Int32)), (.int (12 : Int32)), (.ref b40), (.ref b40)])) rfl rfl (hb hby at_195)
  refine Go.step st53 ?_
  have V53 : Arv Z h53 b40 k40 .int (19 : Int32) [(.int (3 : Int32)), (.int (4 : Int32)), (.int (1 : Int32)), (.int (0 : Int32)), (.int (2 : Int32)), (.int (1 : Int32)), (.int (0 : Int32)), (.int (0 : Int32)), (.int (0 : Int32)), (.int (0 : Int32)), (.int (0 : Int32)), (.int (0 : Int32)), (.int (3 : Int32)), (.int (0 : Int32)), (.int (0 : Int32)), (.int (0 : Int32)), (.int (0 : Int32)), (.int (0 : Int32)), (.int (0 : Int32))] (.int (0 : Int32)) := Arv.set Ar53 q53 S53 N53 H53 G53 rfl W53 12 rfl (Nat.le_of_ble_eq_true rfl)
  have N53_ := Fr.snoc X53 N52_ g_b40
  have O53_ : Ext Z.heap h53 := extWr O52_ W53 g_b40
  show Go _ _ _ _ _ _ _ _ T53 (mkF m 196 #[.val (.int x0), .val (.int x1), .val (.int x2), .val (.ref b1), .unset, .unset, .unset, .unset, .unset, .unset, .unset, .unset] [(.ref b40)])
  refine Go.step (fun _ kt_ => XS.dup X53.here hx rfl (hb hby at_196) rfl rfl kt_) ?_
  show Go _ _ _ _ _ _ _ _ T53 (mkF m 197 #[.val (.int x0), .val (.int x1), .val (.int x2), .val (.ref b1), .unset, .unset, .unset, .unset, .unset, .unset, .unset, .unset] [(.ref b40), (.ref b40)])
  refine Go.step (fun _ kt_ => XS.bipush X53.here hx rfl (hb hby at_197)  kt_) ?_
  show Go _ _ _ _ _ _ _ _ T53 (mkF m 199 #[.val (.int x0), .val (.int x1), .val (.int x2), .val (.ref b1), .unset, .unset, .unset, .unset, .unset, .unset, .unset, .unset] [(.int (13 : Int32)), (.ref b40), (.ref b40)])
  refine Go.step (fun _ kt_ => XS.iconst X53.here hx rfl (hb hby at_199)  kt_) ?_
  show Go _ _ _ _ _ _ _ _ T53 (mkF m 200 #[.val (.int x0), .val (.int x1), .val (.int x2), .val (.ref b1), .unset, .unset, .unset, .unset, .unset, .unset, .unset, .unset] [(.int (0 : Int32)), (.int (13 : Int32)), (.ref b40), (.ref b40)])
  obtain ⟨cl54, Ar54, q54, S54, N54, H54, G54⟩ := V53
  have hin54 : ¬ ((13 : Int32) < 0 ∨ cl54.slots.size ≤ ((13 : Int32)).toNatClampNeg) := inb_of S54 ⟨by decide, by decide⟩
  obtain ⟨T54, h54, X54, e54, W54, st54⟩ := stI X53 hx hZ e53 Ar54 (j := (13 : Int32)) hin54 (g := (mkF m 200 #[.val (.int x0), .val (.int x1), .val (.int x2), .val (.ref b1), .unset, .unset, .unset, .unset, .unset, .unset, .unset, .unset] [(.int (0 : Int32)), (.int (13 : Int32)), (.ref b40), (.ref b40)])) rfl rfl (hb hby at_200)
  refine Go.step st54 ?_
  have V54 : Arv Z h54 b40 k40 .int (19 : Int32) [(.int (3 : Int32)), (.int (4 : Int32)), (.int (1 : Int32)), (.int (0 : Int32)), (.int (2 : Int32)), (.int (1 : Int32)), (.int (0 : Int32)), (.int (0 : Int32)), (.int (0 : Int32)), (.int (0 : Int32)), (.int (0 : Int32)), (.int (0 : Int32)), (.int (3 : Int32)), (.int (0 : Int32)), (.int (0 : Int32)), (.int (0 : Int32)), (.int (0 : Int32)), (.int (0 : Int32)), (.int (0 : Int32))] (.int (0 : Int32)) := Arv.set Ar54 q54 S54 N54 H54 G54 rfl W54 13 rfl (Nat.le_of_ble_eq_true rfl)
  have N54_ := Fr.snoc X54 N53_ g_b40
  have O54_ : Ext Z.heap h54 := extWr O53_ W54 g_b40
  show Go _ _ _ _ _ _ _ _ T54 (mkF m 201 #[.val (.int x0), .val (.int x1), .val (.int x2), .val (.ref b1), .unset, .unset, .unset, .unset, .unset, .unset, .unset, .unset] [(.ref b40)])
  refine Go.step (fun _ kt_ => XS.dup X54.here hx rfl (hb hby at_201) rfl rfl kt_) ?_
  show Go _ _ _ _ _ _ _ _ T54 (mkF m 202 #[.val (.int x0), .val (.int x1), .val (.int x2), .val (.ref b1), .unset, .unset, .unset, .unset, .unset, .unset, .unset, .unset] [(.ref b40), (.ref b40)])
  refine Go.step (fun _ kt_ => XS.bipush X54.here hx rfl (hb hby at_202)  kt_) ?_
  show Go _ _ _ _ _ _ _ _ T54 (mkF m 204 #[.val (.int x0), .val (.int x1), .val (.int x2), .val (.ref b1), .unset, .unset, .unset, .unset, .unset, .unset, .unset, .unset] [(.int (14 : Int32)), (.ref b40), (.ref b40)])
  refine Go.step (fun _ kt_ => XS.iconst X54.here hx rfl (hb hby at_204)  kt_) ?_
  show Go _ _ _ _ _ _ _ _ T54 (mkF m 205 #[.val (.int x0), .val (.int x1), .val (.int x2), .val (.ref b1), .unset, .unset, .unset, .unset, .unset, .unset, .unset, .unset] [(.int (0 : Int32)), (.int (14 : Int32)), (.ref b40), (.ref b40)])
  obtain ⟨cl55, Ar55, q55, S55, N55, H55, G55⟩ := V54
  have hin55 : ¬ ((14 : Int32) < 0 ∨ cl55.slots.size ≤ ((14 : Int32)).toNatClampNeg) := inb_of S55 ⟨by decide, by decide⟩
  obtain ⟨T55, h55, X55, e55, W55, st55⟩ := stI X54 hx hZ e54 Ar55 (j := (14 : Int32)) hin55 (g := (mkF m 205 #[.val (.int x0), .val (.int x1), .val (.int x2), .val (.ref b1), .unset, .unset, .unset, .unset, .unset, .unset, .unset, .unset] [(.int (0 : Int32)), (.int (14 : Int32)), (.ref b40), (.ref b40)])) rfl rfl (hb hby at_205)
  refine Go.step st55 ?_
  have V55 : Arv Z h55 b40 k40 .int (19 : Int32) [(.int (3 : Int32)), (.int (4 : Int32)), (.int (1 : Int32)), (.int (0 : Int32)), (.int (2 : Int32)), (.int (1 : Int32)), (.int (0 : Int32)), (.int (0 : Int32)), (.int (0 : Int32)), (.int (0 : Int32)), (.int (0 : Int32)), (.int (0 : Int32)), (.int (3 : Int32)), (.int (0 : Int32)), (.int (0 : Int32)), (.int (0 : Int32)), (.int (0 : Int32)), (.int (0 : Int32)), (.int (0 : Int32))] (.int (0 : Int32)) := Arv.set Ar55 q55 S55 N55 H55 G55 rfl W55 14 rfl (Nat.le_of_ble_eq_true rfl)
  have N55_ := Fr.snoc X55 N54_ g_b40
  have O55_ : Ext Z.heap h55 := extWr O54_ W55 g_b40
  show Go _ _ _ _ _ _ _ _ T55 (mkF m 206 #[.val (.int x0), .val (.int x1), .val (.int x2), .val (.ref b1), .unset, .unset, .unset, .unset, .unset, .unset, .unset, .unset] [(.ref b40)])
  refine Go.step (fun _ kt_ => XS.dup X55.here hx rfl (hb hby at_206) rfl rfl kt_) ?_
  show Go _ _ _ _ _ _ _ _ T55 (mkF m 207 #[.val (.int x0), .val (.int x1), .val (.int x2), .val (.ref b1), .unset, .unset, .unset, .unset, .unset, .unset, .unset, .unset] [(.ref b40), (.ref b40)])
  refine Go.step (fun _ kt_ => XS.bipush X55.here hx rfl (hb hby at_207)  kt_) ?_
  show Go _ _ _ _ _ _ _ _ T55 (mkF m 209 #[.val (.int x0), .val (.int x1), .val (.int x2), .val (.ref b1), .unset, .unset, .unset, .unset, .unset, .unset, .unset, .unset] [(.int (15 : Int32)), (.ref b40), (.ref b40)])
  refine Go.step (fun _ kt_ => XS.iconst X55.here hx rfl (hb hby at_209)  kt_) ?_
  show Go _ _ _ _ _ _ _ _ T55 (mkF m 210 #[.val (.int x0), .val (.int x1), .val (.int x2), .val (.ref b1), .unset, .unset, .unset, .unset, .unset, .unset, .unset, .unset] [(.int (0 : Int32)), (.int (15 : Int32)), (.ref b40), (.ref b40)])
  obtain ⟨cl56, Ar56, q56, S56, N56, H56, G56⟩ := V55
  have hin56 : ¬ ((15 : Int32) < 0 ∨ cl56.slots.size ≤ ((15 : Int32)).toNatClampNeg) := inb_of S56 ⟨by decide, by decide⟩
  obtain ⟨T56, h56, X56, e56, W56, st56⟩ := stI X55 hx hZ e55 Ar56 (j := (15 : Int32)) hin56 (g := (mkF m 210 #[.val (.int x0), .val (.int x1), .val (.int x2), .val (.ref b1), .unset, .unset, .unset, .unset, .unset, .unset, .unset, .unset] [(.int (0 : Int32)), (.int (15 : Int32)), (.ref b40), (.ref b40)])) rfl rfl (hb hby at_210)
  refine Go.step st56 ?_
  have V56 : Arv Z h56 b40 k40 .int (19 : Int32) [(.int (3 : Int32)), (.int (4 : Int32)), (.int (1 : Int32)), (.int (0 : Int32)), (.int (2 : Int32)), (.int (1 : Int32)), (.int (0 : Int32)), (.int (0 : Int32)), (.int (0 : Int32)), (.int (0 : Int32)), (.int (0 : Int32)), (.int (0 : Int32)), (.int (3 : Int32)), (.int (0 : Int32)), (.int (0 : Int32)), (.int (0 : Int32)), (.int (0 : Int32)), (.int (0 : Int32)), (.int (0 : Int32))] (.int (0 : Int32)) := Arv.set Ar56 q56 S56 N56 H56 G56 rfl W56 15 rfl (Nat.le_of_ble_eq_true rfl)
  have N56_ := Fr.snoc X56 N55_ g_b40
  have O56_ : Ext Z.heap h56 := extWr O55_ W56 g_b40
  show Go _ _ _ _ _ _ _ _ T56 (mkF m 211 #[.val (.int x0), .val (.int x1), .val (.int x2), .val (.ref b1), .unset, .unset, .unset, .unset, .unset, .unset, .unset, .unset] [(.ref b40)])
  refine Go.step (fun _ kt_ => XS.dup X56.here hx rfl (hb hby at_211) rfl rfl kt_) ?_
  show Go _ _ _ _ _ _ _ _ T56 (mkF m 212 #[.val (.int x0), .val (.int x1), .val (.int x2), .val (.ref b1), .unset, .unset, .unset, .unset, .unset, .unset, .unset, .unset] [(.ref b40), (.ref b40)])
  refine Go.step (fun _ kt_ => XS.bipush X56.here hx rfl (hb hby at_212)  kt_) ?_
  show Go _ _ _ _ _ _ _ _ T56 (mkF m 214 #[.val (.int x0), .val (.int x1), .val (.int x2), .val (.ref b1), .unset, .unset, .unset, .unset, .unset, .unset, .unset, .unset] [(.int (16 : Int32)), (.ref b40), (.ref b40)])
  refine Go.step (fun _ kt_ => XS.iconst X56.here hx rfl (hb hby at_214)  kt_) ?_
  show Go _ _ _ _ _ _ _ _ T56 (mkF m 215 #[.val (.int x0), .val (.int x1), .val (.int x2), .val (.ref b1), .unset, .unset, .unset, .unset, .unset, .unset, .unset, .unset] [(.int (0 : Int32)), (.int (16 : Int32)), (.ref b40), (.ref b40)])
  obtain ⟨cl57, Ar57, q57, S57, N57, H57, G57⟩ := V56
  have hin57 : ¬ ((16 : Int32) < 0 ∨ cl57.slots.size ≤ ((16 : Int32)).toNatClampNeg) := inb_of S57 ⟨by decide, by decide⟩
  obtain ⟨T57, h57, X57, e57, W57, st57⟩ := stI X56 hx hZ e56 Ar57 (j := (16 : Int32)) hin57 (g := (mkF m 215 #[.val (.int x0), .val (.int x1), .val (.int x2), .val (.ref b1), .unset, .unset, .unset, .unset, .unset, .unset, .unset, .unset] [(.int (0 : Int32)), (.int (16 : Int32)), (.ref b40), (.ref b40)])) rfl rfl (hb hby at_215)
  refine Go.step st57 ?_
  have V57 : Arv Z h57 b40 k40 .int (19 : Int32) [(.int (3 : Int32)), (.int (4 : Int32)), (.int (1 : Int32)), (.int (0 : Int32)), (.int (2 : Int32)), (.int (1 : Int32)), (.int (0 : Int32)), (.int (0 : Int32)), (.int (0 : Int32)), (.int (0 : Int32)), (.int (0 : Int32)), (.int (0 : Int32)), (.int (3 : Int32)), (.int (0 : Int32)), (.int (0 : Int32)), (.int (0 : Int32)), (.int (0 : Int32)), (.int (0 : Int32)), (.int (0 : Int32))] (.int (0 : Int32)) := Arv.set Ar57 q57 S57 N57 H57 G57 rfl W57 16 rfl (Nat.le_of_ble_eq_true rfl)
  have N57_ := Fr.snoc X57 N56_ g_b40
  have O57_ : Ext Z.heap h57 := extWr O56_ W57 g_b40
  show Go _ _ _ _ _ _ _ _ T57 (mkF m 216 #[.val (.int x0), .val (.int x1), .val (.int x2), .val (.ref b1), .unset, .unset, .unset, .unset, .unset, .unset, .unset, .unset] [(.ref b40)])
  refine Go.step (fun _ kt_ => XS.dup X57.here hx rfl (hb hby at_216) rfl rfl kt_) ?_
  show Go _ _ _ _ _ _ _ _ T57 (mkF m 217 #[.val (.int x0), .val (.int x1), .val (.int x2), .val (.ref b1), .unset, .unset, .unset, .unset, .unset, .unset, .unset, .unset] [(.ref b40), (.ref b40)])
  refine Go.step (fun _ kt_ => XS.bipush X57.here hx rfl (hb hby at_217)  kt_) ?_
  show Go _ _ _ _ _ _ _ _ T57 (mkF m 219 #[.val (.int x0), .val (.int x1), .val (.int x2), .val (.ref b1), .unset, .unset, .unset, .unset, .unset, .unset, .unset, .unset] [(.int (17 : Int32)), (.ref b40), (.ref b40)])
  refine Go.step (fun _ kt_ => XS.iconst X57.here hx rfl (hb hby at_219)  kt_) ?_
  show Go _ _ _ _ _ _ _ _ T57 (mkF m 220 #[.val (.int x0), .val (.int x1), .val (.int x2), .val (.ref b1), .unset, .unset, .unset, .unset, .unset, .unset, .unset, .unset] [(.int (0 : Int32)), (.int (17 : Int32)), (.ref b40), (.ref b40)])
  obtain ⟨cl58, Ar58, q58, S58, N58, H58, G58⟩ := V57
  have hin58 : ¬ ((17 : Int32) < 0 ∨ cl58.slots.size ≤ ((17 : Int32)).toNatClampNeg) := inb_of S58 ⟨by decide, by decide⟩
  obtain ⟨T58, h58, X58, e58, W58, st58⟩ := stI X57 hx hZ e57 Ar58 (j := (17 : Int32)) hin58 (g := (mkF m 220 #[.val (.int x0), .val (.int x1), .val (.int x2), .val (.ref b1), .unset, .unset, .unset, .unset, .unset, .unset, .unset, .unset] [(.int (0 : Int32)), (.int (17 : Int32)), (.ref b40), (.ref b40)])) rfl rfl (hb hby at_220)
  refine Go.step st58 ?_
  have V58 : Arv Z h58 b40 k40 .int (19 : Int32) [(.int (3 : Int32)), (.int (4 : Int32)), (.int (1 : Int32)), (.int (0 : Int32)), (.int (2 : Int32)), (.int (1 : Int32)), (.int (0 : Int32)), (.int (0 : Int32)), (.int (0 : Int32)), (.int (0 : Int32)), (.int (0 : Int32)), (.int (0 : Int32)), (.int (3 : Int32)), (.int (0 : Int32)), (.int (0 : Int32)), (.int (0 : Int32)), (.int (0 : Int32)), (.int (0 : Int32)), (.int (0 : Int32))] (.int (0 : Int32)) := Arv.set Ar58 q58 S58 N58 H58 G58 rfl W58 17 rfl (Nat.le_of_ble_eq_true rfl)
  have N58_ := Fr.snoc X58 N57_ g_b40
  have O58_ : Ext Z.heap h58 := extWr O57_ W58 g_b40
  show Go _ _ _ _ _ _ _ _ T58 (mkF m 221 #[.val (.int x0), .val (.int x1), .val (.int x2), .val (.ref b1), .unset, .unset, .unset, .unset, .unset, .unset, .unset, .unset] [(.ref b40)])
  refine Go.step (fun _ kt_ => XS.dup X58.here hx rfl (hb hby at_221) rfl rfl kt_) ?_
  show Go _ _ _ _ _ _ _ _ T58 (mkF m 222 #[.val (.int x0), .val (.int x1), .val (.int x2), .val (.ref b1), .unset, .unset, .unset, .unset, .unset, .unset, .unset, .unset] [(.ref b40), (.ref b40)])
  refine Go.step (fun _ kt_ => XS.bipush X58.here hx rfl (hb hby at_222)  kt_) ?_
  show Go _ _ _ _ _ _ _ _ T58 (mkF m 224 #[.val (.int x0), .val (.int x1), .val (.int x2), .val (.ref b1), .unset, .unset, .unset, .unset, .unset, .unset, .unset, .unset] [(.int (18 : Int32)), (.ref b40), (.ref b40)])
  refine Go.step (fun _ kt_ => XS.iconst X58.here hx rfl (hb hby at_224)  kt_) ?_
  show Go _ _ _ _ _ _ _ _ T58 (mkF m 225 #[.val (.int x0), .val (.int x1), .val (.int x2), .val (.ref b1), .unset, .unset, .unset, .unset, .unset, .unset, .unset, .unset] [(.int (0 : Int32)), (.int (18 : Int32)), (.ref b40), (.ref b40)])
  obtain ⟨cl59, Ar59, q59, S59, N59, H59, G59⟩ := V58
  have hin59 : ¬ ((18 : Int32) < 0 ∨ cl59.slots.size ≤ ((18 : Int32)).toNatClampNeg) := inb_of S59 ⟨by decide, by decide⟩
  obtain ⟨T59, h59, X59, e59, W59, st59⟩ := stI X58 hx hZ e58 Ar59 (j := (18 : Int32)) hin59 (g := (mkF m 225 #[.val (.int x0), .val (.int x1), .val (.int x2), .val (.ref b1), .unset, .unset, .unset, .unset, .unset, .unset, .unset, .unset] [(.int (0 : Int32)), (.int (18 : Int32)), (.ref b40), (.ref b40)])) rfl rfl (hb hby at_225)
  refine Go.step st59 ?_
  have V59 : Arv Z h59 b40 k40 .int (19 : Int32) [(.int (3 : Int32)), (.int (4 : Int32)), (.int (1 : Int32)), (.int (0 : Int32)), (.int (2 : Int32)), (.int (1 : Int32)), (.int (0 : Int32)), (.int (0 : Int32)), (.int (0 : Int32)), (.int (0 : Int32)), (.int (0 : Int32)), (.int (0 : Int32)), (.int (3 : Int32)), (.int (0 : Int32)), (.int (0 : Int32)), (.int (0 : Int32)), (.int (0 : Int32)), (.int (0 : Int32)), (.int (0 : Int32))] (.int (0 : Int32)) := Arv.set Ar59 q59 S59 N59 H59 G59 rfl W59 18 rfl (Nat.le_of_ble_eq_true rfl)
  have N59_ := Fr.snoc X59 N58_ g_b40
  have O59_ : Ext Z.heap h59 := extWr O58_ W59 g_b40
  show Go _ _ _ _ _ _ _ _ T59 (mkF m 226 #[.val (.int x0), .val (.int x1), .val (.int x2), .val (.ref b1), .unset, .unset, .unset, .unset, .unset, .unset, .unset, .unset] [(.ref b40)])
  refine Go.step (fun _ kt_ => XS.astore X59.here hx rfl (hb hby at_226) rfl rfl (l' := #[.val (.int x0), .val (.int x1), .val (.int x2), .val (.ref b1), .val (.ref b40), .unset, .unset, .unset, .unset, .unset, .unset, .unset]) rfl kt_) ?_
  show Go _ _ _ _ _ _ _ _ T59 (mkF m 228 #[.val (.int x0), .val (.int x1), .val (.int x2), .val (.ref b1), .val (.ref b40), .unset, .unset, .unset, .unset, .unset, .unset, .unset] [])
  refine Go.step (fun _ kt_ => XS.bipush X59.here hx rfl (hb hby at_228)  kt_) ?_
  show Go _ _ _ _ _ _ _ _ T59 (mkF m 230 #[.val (.int x0), .val (.int x1), .val (.int x2), .val (.ref b1), .val (.ref b40), .unset, .unset, .unset, .unset, .unset, .unset, .unset] [(.int (19 : Int32))])
  obtain ⟨T60, h60, k60, X60, e60, E60, A60, st60⟩ := newP X59 hx hZ (hw _ (List.mem_of_getElem? (i := 42) rfl)) e59 (g := (mkF m 230 #[.val (.int x0), .val (.int x1), .val (.int x2), .val (.ref b1), .val (.ref b40), .unset, .unset, .unset, .unset, .unset, .unset, .unset] [(.int (19 : Int32))])) rfl (hb hby at_230) rfl (by decide) (cap := 19) (by decide) (by decide) (by decide) (by decide)
  obtain ⟨b60, hb60⟩ : ∃ z, z = h59.size := ⟨_, rfl⟩
  rw [← hb60] at A60 st60
  refine Go.step st60 ?_
  have g_b60 : Z.heap.size ≤ b60 := Nat.le_trans O59_.1 (Nat.le_of_eq hb60.symm)
  have O60_ : Ext Z.heap h60 := extTr O59_ E60
  have V60 : Arv Z h60 b60 k60 .int (19 : Int32) [(.int (0 : Int32)), (.int (0 : Int32)), (.int (0 : Int32)), (.int (0 : Int32)), (.int (0 : Int32)), (.int (0 : Int32)), (.int (0 : Int32)), (.int (0 : Int32)), (.int (0 : Int32)), (.int (0 : Int32)), (.int (0 : Int32)), (.int (0 : Int32)), (.int (0 : Int32)), (.int (0 : Int32)), (.int (0 : Int32)), (.int (0 : Int32)), (.int (0 : Int32)), (.int (0 : Int32)), (.int (0 : Int32))] (.int (0 : Int32)) := (Arv.new A60 (by decide)).pad (pad_rep [] (.int (0 : Int32)) 19)
  show Go _ _ _ _ _ _ _ _ T60 (mkF m 232 #[.val (.int x0), .val (.int x1), .val (.int x2), .val (.ref b1), .val (.ref b40), .unset, .unset, .unset, .unset, .unset, .unset, .unset] [(.ref b60)])
  refine Go.step (fun _ kt_ => XS.dup X60.here hx rfl (hb hby at_232) rfl rfl kt_) ?_
  show Go _ _ _ _ _ _ _ _ T60 (mkF m 233 #[.val (.int x0), .val (.int x1), .val (.int x2), .val (.ref b1), .val (.ref b40), .unset, .unset, .unset, .unset, .unset, .unset, .unset] [(.ref b60), (.ref b60)])
  refine Go.step (fun _ kt_ => XS.iconst X60.here hx rfl (hb hby at_233)  kt_) ?_
  show Go _ _ _ _ _ _ _ _ T60 (mkF m 234 #[.val (.int x0), .val (.int x1), .val (.int x2), .val (.ref b1), .val (.ref b40), .unset, .unset, .unset, .unset, .unset, .unset, .unset] [(.int (0 : Int32)), (.ref b60), (.ref b60)])
  refine Go.step (fun _ kt_ => XS.bipush X60.here hx rfl (hb hby at_234)  kt_) ?_
  show Go _ _ _ _ _ _ _ _ T60 (mkF m 236 #[.val (.int x0), .val (.int x1), .val (.int x2), .val (.ref b1), .val (.ref b40), .unset, .unset, .unset, .unset, .unset, .unset, .unset] [(.int (7 : Int32)), (.int (0 : Int32)), (.ref b60), (.ref b60)])
  obtain ⟨cl61, Ar61, q61, S61, N61, H61, G61⟩ := V60
  have hin61 : ¬ ((0 : Int32) < 0 ∨ cl61.slots.size ≤ ((0 : Int32)).toNatClampNeg) := inb_of S61 ⟨by decide, by decide⟩
  obtain ⟨T61, h61, X61, e61, W61, st61⟩ := stI X60 hx hZ e60 Ar61 (j := (0 : Int32)) hin61 (g := (mkF m 236 #[.val (.int x0), .val (.int x1), .val (.int x2), .val (.ref b1), .val (.ref b40), .unset, .unset, .unset, .unset, .unset, .unset, .unset] [(.int (7 : Int32)), (.int (0 : Int32)), (.ref b60), (.ref b60)])) rfl rfl (hb hby at_236)
  refine Go.step st61 ?_
  have V61 : Arv Z h61 b60 k60 .int (19 : Int32) [(.int (7 : Int32)), (.int (0 : Int32)), (.int (0 : Int32)), (.int (0 : Int32)), (.int (0 : Int32)), (.int (0 : Int32)), (.int (0 : Int32)), (.int (0 : Int32)), (.int (0 : Int32)), (.int (0 : Int32)), (.int (0 : Int32)), (.int (0 : Int32)), (.int (0 : Int32)), (.int (0 : Int32)), (.int (0 : Int32)), (.int (0 : Int32)), (.int (0 : Int32)), (.int (0 : Int32)), (.int (0 : Int32))] (.int (0 : Int32)) := Arv.set Ar61 q61 S61 N61 H61 G61 rfl W61 0 rfl (Nat.le_of_ble_eq_true rfl)
  have N61_ := Fr.snoc X61 N59_ g_b60
  have O61_ : Ext Z.heap h61 := extWr O60_ W61 g_b60
  show Go _ _ _ _ _ _ _ _ T61 (mkF m 237 #[.val (.int x0), .val (.int x1), .val (.int x2), .val (.ref b1), .val (.ref b40), .unset, .unset, .unset, .unset, .unset, .unset, .unset] [(.ref b60)])
  refine Go.step (fun _ kt_ => XS.dup X61.here hx rfl (hb hby at_237) rfl rfl kt_) ?_
  show Go _ _ _ _ _ _ _ _ T61 (mkF m 238 #[.val (.int x0), .val (.int x1), .val (.int x2), .val (.ref b1), .val (.ref b40), .unset, .unset, .unset, .unset, .unset, .unset, .unset] [(.ref b60), (.ref b60)])
  refine Go.step (fun _ kt_ => XS.iconst X61.here hx rfl (hb hby at_238)  kt_) ?_
  show Go _ _ _ _ _ _ _ _ T61 (mkF m 239 #[.val (.int x0), .val (.int x1), .val (.int x2), .val (.ref b1), .val (.ref b40), .unset, .unset, .unset, .unset, .unset, .unset, .unset] [(.int (1 : Int32)), (.ref b60), (.ref b60)])
  refine Go.step (fun _ kt_ => XS.bipush X61.here hx rfl (hb hby at_239)  kt_) ?_
  show Go _ _ _ _ _ _ _ _ T61 (mkF m 241 #[.val (.int x0), .val (.int x1), .val (.int x2), .val (.ref b1), .val (.ref b40), .unset, .unset, .unset, .unset, .unset, .unset, .unset] [(.int (11 : Int32)), (.int (1 : Int32)), (.ref b60), (.ref b60)])
  obtain ⟨cl62, Ar62, q62, S62, N62, H62, G62⟩ := V61
  have hin62 : ¬ ((1 : Int32) < 0 ∨ cl62.slots.size ≤ ((1 : Int32)).toNatClampNeg) := inb_of S62 ⟨by decide, by decide⟩
  obtain ⟨T62, h62, X62, e62, W62, st62⟩ := stI X61 hx hZ e61 Ar62 (j := (1 : Int32)) hin62 (g := (mkF m 241 #[.val (.int x0), .val (.int x1), .val (.int x2), .val (.ref b1), .val (.ref b40), .unset, .unset, .unset, .unset, .unset, .unset, .unset] [(.int (11 : Int32)), (.int (1 : Int32)), (.ref b60), (.ref b60)])) rfl rfl (hb hby at_241)
  refine Go.step st62 ?_
  have V62 : Arv Z h62 b60 k60 .int (19 : Int32) [(.int (7 : Int32)), (.int (11 : Int32)), (.int (0 : Int32)), (.int (0 : Int32)), (.int (0 : Int32)), (.int (0 : Int32)), (.int (0 : Int32)), (.int (0 : Int32)), (.int (0 : Int32)), (.int (0 : Int32)), (.int (0 : Int32)), (.int (0 : Int32)), (.int (0 : Int32)), (.int (0 : Int32)), (.int (0 : Int32)), (.int (0 : Int32)), (.int (0 : Int32)), (.int (0 : Int32)), (.int (0 : Int32))] (.int (0 : Int32)) := Arv.set Ar62 q62 S62 N62 H62 G62 rfl W62 1 rfl (Nat.le_of_ble_eq_true rfl)
  have N62_ := Fr.snoc X62 N61_ g_b60
  have O62_ : Ext Z.heap h62 := extWr O61_ W62 g_b60
  show Go _ _ _ _ _ _ _ _ T62 (mkF m 242 #[.val (.int x0), .val (.int x1), .val (.int x2), .val (.ref b1), .val (.ref b40), .unset, .unset, .unset, .unset, .unset, .unset, .unset] [(.ref b60)])
  refine Go.step (fun _ kt_ => XS.dup X62.here hx rfl (hb hby at_242) rfl rfl kt_) ?_
  show Go _ _ _ _ _ _ _ _ T62 (mkF m 243 #[.val (.int x0), .val (.int x1), .val (.int x2), .val (.ref b1), .val (.ref b40), .unset, .unset, .unset, .unset, .unset, .unset, .unset] [(.ref b60), (.ref b60)])
  refine Go.step (fun _ kt_ => XS.iconst X62.here hx rfl (hb hby at_243)  kt_) ?_
  show Go _ _ _ _ _ _ _ _ T62 (mkF m 244 #[.val (.int x0), .val (.int x1), .val (.int x2), .val (.ref b1), .val (.ref b40), .unset, .unset, .unset, .unset, .unset, .unset, .unset] [(.int (2 : Int32)), (.ref b60), (.ref b60)])
  refine Go.step (fun _ kt_ => XS.iconst X62.here hx rfl (hb hby at_244)  kt_) ?_
  show Go _ _ _ _ _ _ _ _ T62 (mkF m 245 #[.val (.int x0), .val (.int x1), .val (.int x2), .val (.ref b1), .val (.ref b40), .unset, .unset, .unset, .unset, .unset, .unset, .unset] [(.int (4 : Int32)), (.int (2 : Int32)), (.ref b60), (.ref b60)])
  obtain ⟨cl63, Ar63, q63, S63, N63, H63, G63⟩ := V62
  have hin63 : ¬ ((2 : Int32) < 0 ∨ cl63.slots.size ≤ ((2 : Int32)).toNatClampNeg) := inb_of S63 ⟨by decide, by decide⟩
  obtain ⟨T63, h63, X63, e63, W63, st63⟩ := stI X62 hx hZ e62 Ar63 (j := (2 : Int32)) hin63 (g := (mkF m 245 #[.val (.int x0), .val (.int x1), .val (.int x2), .val (.ref b1), .val (.ref b40), .unset, .unset, .unset, .unset, .unset, .unset, .unset] [(.int (4 : Int32)), (.int (2 : Int32)), (.ref b60), (.ref b60)])) rfl rfl (hb hby at_245)
  refine Go.step st63 ?_
  have V63 : Arv Z h63 b60 k60 .int (19 : Int32) [(.int (7 : Int32)), (.int (11 : Int32)), (.int (4 : Int32)), (.int (0 : Int32)), (.int (0 : Int32)), (.int (0 : Int32)), (.int (0 : Int32)), (.int (0 : Int32)), (.int (0 : Int32)), (.int (0 : Int32)), (.int (0 : Int32)), (.int (0 : Int32)), (.int (0 : Int32)), (.int (0 : Int32)), (.int (0 : Int32)), (.int (0 : Int32)), (.int (0 : Int32)), (.int (0 : Int32)), (.int (0 : Int32))] (.int (0 : Int32)) := Arv.set Ar63 q63 S63 N63 H63 G63 rfl W63 2 rfl (Nat.le_of_ble_eq_true rfl)
  have N63_ := Fr.snoc X63 N62_ g_b60
  have O63_ : Ext Z.heap h63 := extWr O62_ W63 g_b60
  show Go _ _ _ _ _ _ _ _ T63 (mkF m 246 #[.val (.int x0), .val (.int x1), .val (.int x2), .val (.ref b1), .val (.ref b40), .unset, .unset, .unset, .unset, .unset, .unset, .unset] [(.ref b60)])
  refine Go.step (fun _ kt_ => XS.dup X63.here hx rfl (hb hby at_246) rfl rfl kt_) ?_
  show Go _ _ _ _ _ _ _ _ T63 (mkF m 247 #[.val (.int x0), .val (.int x1), .val (.int x2), .val (.ref b1), .val (.ref b40), .unset, .unset, .unset, .unset, .unset, .unset, .unset] [(.ref b60), (.ref b60)])
  refine Go.step (fun _ kt_ => XS.iconst X63.here hx rfl (hb hby at_247)  kt_) ?_
  show Go _ _ _ _ _ _ _ _ T63 (mkF m 248 #[.val (.int x0), .val (.int x1), .val (.int x2), .val (.ref b1), .val (.ref b40), .unset, .unset, .unset, .unset, .unset, .unset, .unset] [(.int (3 : Int32)), (.ref b60), (.ref b60)])
  refine Go.step (fun _ kt_ => XS.bipush X63.here hx rfl (hb hby at_248)  kt_) ?_
  show Go _ _ _ _ _ _ _ _ T63 (mkF m 250 #[.val (.int x0), .val (.int x1), .val (.int x2), .val (.ref b1), .val (.ref b40), .unset, .unset, .unset, .unset, .unset, .unset, .unset] [(.int (7 : Int32)), (.int (3 : Int32)), (.ref b60), (.ref b60)])
  obtain ⟨cl64, Ar64, q64, S64, N64, H64, G64⟩ := V63
  have hin64 : ¬ ((3 : Int32) < 0 ∨ cl64.slots.size ≤ ((3 : Int32)).toNatClampNeg) := inb_of S64 ⟨by decide, by decide⟩
  obtain ⟨T64, h64, X64, e64, W64, st64⟩ := stI X63 hx hZ e63 Ar64 (j := (3 : Int32)) hin64 (g := (mkF m 250 #[.val (.int x0), .val (.int x1), .val (.int x2), .val (.ref b1), .val (.ref b40), .unset, .unset, .unset, .unset, .unset, .unset, .unset] [(.int (7 : Int32)), (.int (3 : Int32)), (.ref b60), (.ref b60)])) rfl rfl (hb hby at_250)
  refine Go.step st64 ?_
  have V64 : Arv Z h64 b60 k60 .int (19 : Int32) [(.int (7 : Int32)), (.int (11 : Int32)), (.int (4 : Int32)), (.int (7 : Int32)), (.int (0 : Int32)), (.int (0 : Int32)), (.int (0 : Int32)), (.int (0 : Int32)), (.int (0 : Int32)), (.int (0 : Int32)), (.int (0 : Int32)), (.int (0 : Int32)), (.int (0 : Int32)), (.int (0 : Int32)), (.int (0 : Int32)), (.int (0 : Int32)), (.int (0 : Int32)), (.int (0 : Int32)), (.int (0 : Int32))] (.int (0 : Int32)) := Arv.set Ar64 q64 S64 N64 H64 G64 rfl W64 3 rfl (Nat.le_of_ble_eq_true rfl)
  have N64_ := Fr.snoc X64 N63_ g_b60
  have O64_ : Ext Z.heap h64 := extWr O63_ W64 g_b60
  show Go _ _ _ _ _ _ _ _ T64 (mkF m 251 #[.val (.int x0), .val (.int x1), .val (.int x2), .val (.ref b1), .val (.ref b40), .unset, .unset, .unset, .unset, .unset, .unset, .unset] [(.ref b60)])
  refine Go.step (fun _ kt_ => XS.dup X64.here hx rfl (hb hby at_251) rfl rfl kt_) ?_
  show Go _ _ _ _ _ _ _ _ T64 (mkF m 252 #[.val (.int x0), .val (.int x1), .val (.int x2), .val (.ref b1), .val (.ref b40), .unset, .unset, .unset, .unset, .unset, .unset, .unset] [(.ref b60), (.ref b60)])
  refine Go.step (fun _ kt_ => XS.iconst X64.here hx rfl (hb hby at_252)  kt_) ?_
  show Go _ _ _ _ _ _ _ _ T64 (mkF m 253 #[.val (.int x0), .val (.int x1), .val (.int x2), .val (.ref b1), .val (.ref b40), .unset, .unset, .unset, .unset, .unset, .unset, .unset] [(.int (4 : Int32)), (.ref b60), (.ref b60)])
  refine Go.step (fun _ kt_ => XS.bipush X64.here hx rfl (hb hby at_253)  kt_) ?_
  show Go _ _ _ _ _ _ _ _ T64 (mkF m 255 #[.val (.int x0), .val (.int x1), .val (.int x2), .val (.ref b1), .val (.ref b40), .unset, .unset, .unset, .unset, .unset, .unset, .unset] [(.int (7 : Int32)), (.int (4 : Int32)), (.ref b60), (.ref b60)])
  obtain ⟨cl65, Ar65, q65, S65, N65, H65, G65⟩ := V64
  have hin65 : ¬ ((4 : Int32) < 0 ∨ cl65.slots.size ≤ ((4 : Int32)).toNatClampNeg) := inb_of S65 ⟨by decide, by decide⟩
  obtain ⟨T65, h65, X65, e65, W65, st65⟩ := stI X64 hx hZ e64 Ar65 (j := (4 : Int32)) hin65 (g := (mkF m 255 #[.val (.int x0), .val (.int x1), .val (.int x2), .val (.ref b1), .val (.ref b40), .unset, .unset, .unset, .unset, .unset, .unset, .unset] [(.int (7 : Int32)), (.int (4 : Int32)), (.ref b60), (.ref b60)])) rfl rfl (hb hby at_255)
  refine Go.step st65 ?_
  have V65 : Arv Z h65 b60 k60 .int (19 : Int32) [(.int (7 : Int32)), (.int (11 : Int32)), (.int (4 : Int32)), (.int (7 : Int32)), (.int (7 : Int32)), (.int (0 : Int32)), (.int (0 : Int32)), (.int (0 : Int32)), (.int (0 : Int32)), (.int (0 : Int32)), (.int (0 : Int32)), (.int (0 : Int32)), (.int (0 : Int32)), (.int (0 : Int32)), (.int (0 : Int32)), (.int (0 : Int32)), (.int (0 : Int32)), (.int (0 : Int32)), (.int (0 : Int32))] (.int (0 : Int32)) := Arv.set Ar65 q65 S65 N65 H65 G65 rfl W65 4 rfl (Nat.le_of_ble_eq_true rfl)
  have N65_ := Fr.snoc X65 N64_ g_b60
  have O65_ : Ext Z.heap h65 := extWr O64_ W65 g_b60
  show Go _ _ _ _ _ _ _ _ T65 (mkF m 256 #[.val (.int x0), .val (.int x1), .val (.int x2), .val (.ref b1), .val (.ref b40), .unset, .unset, .unset, .unset, .unset, .unset, .unset] [(.ref b60)])
  refine Go.step (fun _ kt_ => XS.dup X65.here hx rfl (hb hby at_256) rfl rfl kt_) ?_
  show Go _ _ _ _ _ _ _ _ T65 (mkF m 257 #[.val (.int x0), .val (.int x1), .val (.int x2), .val (.ref b1), .val (.ref b40), .unset, .unset, .unset, .unset, .unset, .unset, .unset] [(.ref b60), (.ref b60)])
  refine Go.step (fun _ kt_ => XS.iconst X65.here hx rfl (hb hby at_257)  kt_) ?_
  show Go _ _ _ _ _ _ _ _ T65 (mkF m 258 #[.val (.int x0), .val (.int x1), .val (.int x2), .val (.ref b1), .val (.ref b40), .unset, .unset, .unset, .unset, .unset, .unset, .unset] [(.int (5 : Int32)), (.ref b60), (.ref b60)])
  refine Go.step (fun _ kt_ => XS.bipush X65.here hx rfl (hb hby at_258)  kt_) ?_
  show Go _ _ _ _ _ _ _ _ T65 (mkF m 260 #[.val (.int x0), .val (.int x1), .val (.int x2), .val (.ref b1), .val (.ref b40), .unset, .unset, .unset, .unset, .unset, .unset, .unset] [(.int (7 : Int32)), (.int (5 : Int32)), (.ref b60), (.ref b60)])
  obtain ⟨cl66, Ar66, q66, S66, N66, H66, G66⟩ := V65
  have hin66 : ¬ ((5 : Int32) < 0 ∨ cl66.slots.size ≤ ((5 : Int32)).toNatClampNeg) := inb_of S66 ⟨by decide, by decide⟩
  obtain ⟨T66, h66, X66, e66, W66, st66⟩ := stI X65 hx hZ e65 Ar66 (j := (5 : Int32)) hin66 (g := (mkF m 260 #[.val (.int x0), .val (.int x1), .val (.int x2), .val (.ref b1), .val (.ref b40), .unset, .unset, .unset, .unset, .unset, .unset, .unset] [(.int (7 : Int32)), (.int (5 : Int32)), (.ref b60), (.ref b60)])) rfl rfl (hb hby at_260)
  refine Go.step st66 ?_
  have V66 : Arv Z h66 b60 k60 .int (19 : Int32) [(.int (7 : Int32)), (.int (11 : Int32)), (.int (4 : Int32)), (.int (7 : Int32)), (.int (7 : Int32)), (.int (7 : Int32)), (.int (0 : Int32)), (.int (0 : Int32)), (.int (0 : Int32)), (.int (0 : Int32)), (.int (0 : Int32)), (.int (0 : Int32)), (.int (0 : Int32)), (.int (0 : Int32)), (.int (0 : Int32)), (.int (0 : Int32)), (.int (0 : Int32)), (.int (0 : Int32)), (.int (0 : Int32))] (.int (0 : Int32)) := Arv.set Ar66 q66 S66 N66 H66 G66 rfl W66 5 rfl (Nat.le_of_ble_eq_true rfl)
  have N66_ := Fr.snoc X66 N65_ g_b60
  have O66_ : Ext Z.heap h66 := extWr O65_ W66 g_b60
  show Go _ _ _ _ _ _ _ _ T66 (mkF m 261 #[.val (.int x0), .val (.int x1), .val (.int x2), .val (.ref b1), .val (.ref b40), .unset, .unset, .unset, .unset, .unset, .unset, .unset] [(.ref b60)])
  refine Go.step (fun _ kt_ => XS.dup X66.here hx rfl (hb hby at_261) rfl rfl kt_) ?_
  show Go _ _ _ _ _ _ _ _ T66 (mkF m 262 #[.val (.int x0), .val (.int x1), .val (.int x2), .val (.ref b1), .val (.ref b40), .unset, .unset, .unset, .unset, .unset, .unset, .unset] [(.ref b60), (.ref b60)])
  refine Go.step (fun _ kt_ => XS.bipush X66.here hx rfl (hb hby at_262)  kt_) ?_
  show Go _ _ _ _ _ _ _ _ T66 (mkF m 264 #[.val (.int x0), .val (.int x1), .val (.int x2), .val (.ref b1), .val (.ref b40), .unset, .unset, .unset, .unset, .unset, .unset, .unset] [(.int (6 : Int32)), (.ref b60), (.ref b60)])
  refine Go.step (fun _ kt_ => XS.iconst X66.here hx rfl (hb hby at_264)  kt_) ?_
  show Go _ _ _ _ _ _ _ _ T66 (mkF m 265 #[.val (.int x0), .val (.int x1), .val (.int x2), .val (.ref b1), .val (.ref b40), .unset, .unset, .unset, .unset, .unset, .unset, .unset] [(.int (2 : Int32)), (.int (6 : Int32)), (.ref b60), (.ref b60)])
  obtain ⟨cl67, Ar67, q67, S67, N67, H67, G67⟩ := V66
  have hin67 : ¬ ((6 : Int32) < 0 ∨ cl67.slots.size ≤ ((6 : Int32)).toNatClampNeg) := inb_of S67 ⟨by decide, by decide⟩
  obtain ⟨T67, h67, X67, e67, W67, st67⟩ := stI X66 hx hZ e66 Ar67 (j := (6 : Int32)) hin67 (g := (mkF m 265 #[.val (.int x0), .val (.int x1), .val (.int x2), .val (.ref b1), .val (.ref b40), .unset, .unset, .unset, .unset, .unset, .unset, .unset] [(.int (2 : Int32)), (.int (6 : Int32)), (.ref b60), (.ref b60)])) rfl rfl (hb hby at_265)
  refine Go.step st67 ?_
  have V67 : Arv Z h67 b60 k60 .int (19 : Int32) [(.int (7 : Int32)), (.int (11 : Int32)), (.int (4 : Int32)), (.int (7 : Int32)), (.int (7 : Int32)), (.int (7 : Int32)), (.int (2 : Int32)), (.int (0 : Int32)), (.int (0 : Int32)), (.int (0 : Int32)), (.int (0 : Int32)), (.int (0 : Int32)), (.int (0 : Int32)), (.int (0 : Int32)), (.int (0 : Int32)), (.int (0 : Int32)), (.int (0 : Int32)), (.int (0 : Int32)), (.int (0 : Int32))] (.int (0 : Int32)) := Arv.set Ar67 q67 S67 N67 H67 G67 rfl W67 6 rfl (Nat.le_of_ble_eq_true rfl)
  have N67_ := Fr.snoc X67 N66_ g_b60
  have O67_ : Ext Z.heap h67 := extWr O66_ W67 g_b60
  show Go _ _ _ _ _ _ _ _ T67 (mkF m 266 #[.val (.int x0), .val (.int x1), .val (.int x2), .val (.ref b1), .val (.ref b40), .unset, .unset, .unset, .unset, .unset, .unset, .unset] [(.ref b60)])
  refine Go.step (fun _ kt_ => XS.dup X67.here hx rfl (hb hby at_266) rfl rfl kt_) ?_
  show Go _ _ _ _ _ _ _ _ T67 (mkF m 267 #[.val (.int x0), .val (.int x1), .val (.int x2), .val (.ref b1), .val (.ref b40), .unset, .unset, .unset, .unset, .unset, .unset, .unset] [(.ref b60), (.ref b60)])
  refine Go.step (fun _ kt_ => XS.bipush X67.here hx rfl (hb hby at_267)  kt_) ?_
  show Go _ _ _ _ _ _ _ _ T67 (mkF m 269 #[.val (.int x0), .val (.int x1), .val (.int x2), .val (.ref b1), .val (.ref b40), .unset, .unset, .unset, .unset, .unset, .unset, .unset] [(.int (7 : Int32)), (.ref b60), (.ref b60)])
  refine Go.step (fun _ kt_ => XS.iconst X67.here hx rfl (hb hby at_269)  kt_) ?_
  show Go _ _ _ _ _ _ _ _ T67 (mkF m 270 #[.val (.int x0), .val (.int x1), .val (.int x2), .val (.ref b1), .val (.ref b40), .unset, .unset, .unset, .unset, .unset, .unset, .unset] [(.int (5 : Int32)), (.int (7 : Int32)), (.ref b60), (.ref b60)])
  obtain ⟨cl68, Ar68, q68, S68, N68, H68, G68⟩ := V67
  have hin68 : ¬ ((7 : Int32) < 0 ∨ cl68.slots.size ≤ ((7 : Int32)).toNatClampNeg) := inb_of S68 ⟨by decide, by decide⟩
  obtain ⟨T68, h68, X68, e68, W68, st68⟩ := stI X67 hx hZ e67 Ar68 (j := (7 : Int32)) hin68 (g := (mkF m 270 #[.val (.int x0), .val (.int x1), .val (.int x2), .val (.ref b1), .val (.ref b40), .unset, .unset, .unset, .unset, .unset, .unset, .unset] [(.int (5 : Int32)), (.int (7 : Int32)), (.ref b60), (.ref b60)])) rfl rfl (hb hby at_270)
  refine Go.step st68 ?_
  have V68 : Arv Z h68 b60 k60 .int (19 : Int32) [(.int (7 : Int32)), (.int (11 : Int32)), (.int (4 : Int32)), (.int (7 : Int32)), (.int (7 : Int32)), (.int (7 : Int32)), (.int (2 : Int32)), (.int (5 : Int32)), (.int (0 : Int32)), (.int (0 : Int32)), (.int (0 : Int32)), (.int (0 : Int32)), (.int (0 : Int32)), (.int (0 : Int32)), (.int (0 : Int32)), (.int (0 : Int32)), (.int (0 : Int32)), (.int (0 : Int32)), (.int (0 : Int32))] (.int (0 : Int32)) := Arv.set Ar68 q68 S68 N68 H68 G68 rfl W68 7 rfl (Nat.le_of_ble_eq_true rfl)
  have N68_ := Fr.snoc X68 N67_ g_b60
  have O68_ : Ext Z.heap h68 := extWr O67_ W68 g_b60
  show Go _ _ _ _ _ _ _ _ T68 (mkF m 271 #[.val (.int x0), .val (.int x1), .val (.int x2), .val (.ref b1), .val (.ref b40), .unset, .unset, .unset, .unset, .unset, .unset, .unset] [(.ref b60)])
  refine Go.step (fun _ kt_ => XS.dup X68.here hx rfl (hb hby at_271) rfl rfl kt_) ?_
  show Go _ _ _ _ _ _ _ _ T68 (mkF m 272 #[.val (.int x0), .val (.int x1), .val (.int x2), .val (.ref b1), .val (.ref b40), .unset, .unset, .unset, .unset, .unset, .unset, .unset] [(.ref b60), (.ref b60)])
  refine Go.step (fun _ kt_ => XS.bipush X68.here hx rfl (hb hby at_272)  kt_) ?_
  show Go _ _ _ _ _ _ _ _ T68 (mkF m 274 #[.val (.int x0), .val (.int x1), .val (.int x2), .val (.ref b1), .val (.ref b40), .unset, .unset, .unset, .unset, .unset, .unset, .unset] [(.int (8 : Int32)), (.ref b60), (.ref b60)])
  refine Go.step (fun _ kt_ => XS.iconst X68.here hx rfl (hb hby at_274)  kt_) ?_
  show Go _ _ _ _ _ _ _ _ T68 (mkF m 275 #[.val (.int x0), .val (.int x1), .val (.int x2), .val (.ref b1), .val (.ref b40), .unset, .unset, .unset, .unset, .unset, .unset, .unset] [(.int (3 : Int32)), (.int (8 : Int32)), (.ref b60), (.ref b60)])
  obtain ⟨cl69, Ar69, q69, S69, N69, H69, G69⟩ := V68
  have hin69 : ¬ ((8 : Int32) < 0 ∨ cl69.slots.size ≤ ((8 : Int32)).toNatClampNeg) := inb_of S69 ⟨by decide, by decide⟩
  obtain ⟨T69, h69, X69, e69, W69, st69⟩ := stI X68 hx hZ e68 Ar69 (j := (8 : Int32)) hin69 (g := (mkF m 275 #[.val (.int x0), .val (.int x1), .val (.int x2), .val (.ref b1), .val (.ref b40), .unset, .unset, .unset, .unset, .unset, .unset, .unset] [(.int (3 : Int32)), (.int (8 : Int32)), (.ref b60), (.ref b60)])) rfl rfl (hb hby at_275)
  refine Go.step st69 ?_
  have V69 : Arv Z h69 b60 k60 .int (19 : Int32) [(.int (7 : Int32)), (.int (11 : Int32)), (.int (4 : Int32)), (.int (7 : Int32)), (.int (7 : Int32)), (.int (7 : Int32)), (.int (2 : Int32)), (.int (5 : Int32)), (.int (3 : Int32)), (.int (0 : Int32)), (.int (0 : Int32)), (.int (0 : Int32)), (.int (0 : Int32)), (.int (0 : Int32)), (.int (0 : Int32)), (.int (0 : Int32)), (.int (0 : Int32)), (.int (0 : Int32)), (.int (0 : Int32))] (.int (0 : Int32)) := Arv.set Ar69 q69 S69 N69 H69 G69 rfl W69 8 rfl (Nat.le_of_ble_eq_true rfl)
  have N69_ := Fr.snoc X69 N68_ g_b60
  have O69_ : Ext Z.heap h69 := extWr O68_ W69 g_b60
  show Go _ _ _ _ _ _ _ _ T69 (mkF m 276 #[.val (.int x0), .val (.int x1), .val (.int x2), .val (.ref b1), .val (.ref b40), .unset, .unset, .unset, .unset, .unset, .unset, .unset] [(.ref b60)])
  refine Go.step (fun _ kt_ => XS.dup X69.here hx rfl (hb hby at_276) rfl rfl kt_) ?_
  show Go _ _ _ _ _ _ _ _ T69 (mkF m 277 #[.val (.int x0), .val (.int x1), .val (.int x2), .val (.ref b1), .val (.ref b40), .unset, .unset, .unset, .unset, .unset, .unset, .unset] [(.ref b60), (.ref b60)])
  refine Go.step (fun _ kt_ => XS.bipush X69.here hx rfl (hb hby at_277)  kt_) ?_
  show Go _ _ _ _ _ _ _ _ T69 (mkF m 279 #[.val (.int x0), .val (.int x1), .val (.int x2), .val (.ref b1), .val (.ref b40), .unset, .unset, .unset, .unset, .unset, .unset, .unset] [(.int (9 : Int32)), (.ref b60), (.ref b60)])
  refine Go.step (fun _ kt_ => XS.iconst X69.here hx rfl (hb hby at_279)  kt_) ?_
  show Go _ _ _ _ _ _ _ _ T69 (mkF m 280 #[.val (.int x0), .val (.int x1), .val (.int x2), .val (.ref b1), .val (.ref b40), .unset, .unset, .unset, .unset, .unset, .unset, .unset] [(.int (1 : Int32)), (.int (9 : Int32)), (.ref b60), (.ref b60)])
  obtain ⟨cl70, Ar70, q70, S70, N70, H70, G70⟩ := V69
  have hin70 : ¬ ((9 : Int32) < 0 ∨ cl70.slots.size ≤ ((9 : Int32)).toNatClampNeg) := inb_of S70 ⟨by decide, by decide⟩
  obtain ⟨T70, h70, X70, e70, W70, st70⟩ := stI X69 hx hZ e69 Ar70 (j := (9 : Int32)) hin70 (g := (mkF m 280 #[.val (.int x0), .val (.int x1), .val (.int x2), .val (.ref b1), .val (.ref b40), .unset, .unset, .unset, .unset, .unset, .unset, .unset] [(.int (1 : Int32)), (.int (9 : Int32)), (.ref b60), (.ref b60)])) rfl rfl (hb hby at_280)
  refine Go.step st70 ?_
  have V70 : Arv Z h70 b60 k60 .int (19 : Int32) [(.int (7 : Int32)), (.int (11 : Int32)), (.int (4 : Int32)), (.int (7 : Int32)), (.int (7 : Int32)), (.int (7 : Int32)), (.int (2 : Int32)), (.int (5 : Int32)), (.int (3 : Int32)), (.int (1 : Int32)), (.int (0 : Int32)), (.int (0 : Int32)), (.int (0 : Int32)), (.int (0 : Int32)), (.int (0 : Int32)), (.int (0 : Int32)), (.int (0 : Int32)), (.int (0 : Int32)), (.int (0 : Int32))] (.int (0 : Int32)) := Arv.set Ar70 q70 S70 N70 H70 G70 rfl W70 9 rfl (Nat.le_of_ble_eq_true rfl)
  have N70_ := Fr.snoc X70 N69_ g_b60
  have O70_ : Ext Z.heap h70 := extWr O69_ W70 g_b60
  show Go _ _ _ _ _ _ _ _ T70 (mkF m 281 #[.val (.int x0), .val (.int x1), .val (.int x2), .val (.ref b1), .val (.ref b40), .unset, .unset, .unset, .unset, .unset, .unset, .unset] [(.ref b60)])
  refine Go.step (fun _ kt_ => XS.dup X70.here hx rfl (hb hby at_281) rfl rfl kt_) ?_
  show Go _ _ _ _ _ _ _ _ T70 (mkF m 282 #[.val (.int x0), .val (.int x1), .val (.int x2), .val (.ref b1), .val (.ref b40), .unset, .unset, .unset, .unset, .unset, .unset, .unset] [(.ref b60), (.ref b60)])
  refine Go.step (fun _ kt_ => XS.bipush X70.here hx rfl (hb hby at_282)  kt_) ?_
  show Go _ _ _ _ _ _ _ _ T70 (mkF m 284 #[.val (.int x0), .val (.int x1), .val (.int x2), .val (.ref b1), .val (.ref b40), .unset, .unset, .unset, .unset, .unset, .unset, .unset] [(.int (10 : Int32)), (.ref b60), (.ref b60)])
  refine Go.step (fun _ kt_ => XS.iconst X70.here hx rfl (hb hby at_284)  kt_) ?_
  show Go _ _ _ _ _ _ _ _ T70 (mkF m 285 #[.val (.int x0), .val (.int x1), .val (.int x2), .val (.ref b1), .val (.ref b40), .unset, .unset, .unset, .unset, .unset, .unset, .unset] [(.int (3 : Int32)), (.int (10 : Int32)), (.ref b60), (.ref b60)])
  obtain ⟨cl71, Ar71, q71, S71, N71, H71, G71⟩ := V70
  have hin71 : ¬ ((10 : Int32) < 0 ∨ cl71.slots.size ≤ ((10 : Int32)).toNatClampNeg) := inb_of S71 ⟨by decide, by decide⟩
  obtain ⟨T71, h71, X71, e71, W71, st71⟩ := stI X70 hx hZ e70 Ar71 (j := (10 : Int32)) hin71 (g := (mkF m 285 #[.val (.int x0), .val (.int x1), .val (.int x2), .val (.ref b1), .val (.ref b40), .unset, .unset, .unset, .unset, .unset, .unset, .unset] [(.int (3 : Int32)), (.int (10 : Int32)), (.ref b60), (.ref b60)])) rfl rfl (hb hby at_285)
  refine Go.step st71 ?_
  have V71 : Arv Z h71 b60 k60 .int (19 : Int32) [(.int (7 : Int32)), (.int (11 : Int32)), (.int (4 : Int32)), (.int (7 : Int32)), (.int (7 : Int32)), (.int (7 : Int32)), (.int (2 : Int32)), (.int (5 : Int32)), (.int (3 : Int32)), (.int (1 : Int32)), (.int (3 : Int32)), (.int (0 : Int32)), (.int (0 : Int32)), (.int (0 : Int32)), (.int (0 : Int32)), (.int (0 : Int32)), (.int (0 : Int32)), (.int (0 : Int32)), (.int (0 : Int32))] (.int (0 : Int32)) := Arv.set Ar71 q71 S71 N71 H71 G71 rfl W71 10 rfl (Nat.le_of_ble_eq_true rfl)
  have N71_ := Fr.snoc X71 N70_ g_b60
  have O71_ : Ext Z.heap h71 := extWr O70_ W71 g_b60
  show Go _ _ _ _ _ _ _ _ T71 (mkF m 286 #[.val (.int x0), .val (.int x1), .val (.int x2), .val (.ref b1), .val (.ref b40), .unset, .unset, .unset, .unset, .unset, .unset, .unset] [(.ref b60)])
  refine Go.step (fun _ kt_ => XS.dup X71.here hx rfl (hb hby at_286) rfl rfl kt_) ?_
  show Go _ _ _ _ _ _ _ _ T71 (mkF m 287 #[.val (.int x0), .val (.int x1), .val (.int x2), .val (.ref b1), .val (.ref b40), .unset, .unset, .unset, .unset, .unset, .unset, .unset] [(.ref b60), (.ref b60)])
  refine Go.step (fun _ kt_ => XS.bipush X71.here hx rfl (hb hby at_287)  kt_) ?_
  show Go _ _ _ _ _ _ _ _ T71 (mkF m 289 #[.val (.int x0), .val (.int x1), .val (.int x2), .val (.ref b1), .val (.ref b40), .unset, .unset, .unset, .unset, .unset, .unset, .unset] [(.int (11 : Int32)), (.ref b60), (.ref b60)])
  refine Go.step (fun _ kt_ => XS.iconst X71.here hx rfl (hb hby at_289)  kt_) ?_
  show Go _ _ _ _ _ _ _ _ T71 (mkF m 290 #[.val (.int x0), .val (.int x1), .val (.int x2), .val (.ref b1), .val (.ref b40), .unset, .unset, .unset, .unset, .unset, .unset, .unset] [(.int (3 : Int32)), (.int (11 : Int32)), (.ref b60), (.ref b60)])
  obtain ⟨cl72, Ar72, q72, S72, N72, H72, G72⟩ := V71
  have hin72 : ¬ ((11 : Int32) < 0 ∨ cl72.slots.size ≤ ((11 : Int32)).toNatClampNeg) := inb_of S72 ⟨by decide, by decide⟩
  obtain ⟨T72, h72, X72, e72, W72, st72⟩ := stI X71 hx hZ e71 Ar72 (j := (11 : Int32)) hin72 (g := (mkF m 290 #[.val (.int x0), .val (.int x1), .val (.int x2), .val (.ref b1), .val (.ref b40), .unset, .unset, .unset, .unset, .unset, .unset, .unset] [(.int (3 : Int32)), (.int (11 : Int32)), (.ref b60), (.ref b60)])) rfl rfl (hb hby at_290)
  refine Go.step st72 ?_
  have V72 : Arv Z h72 b60 k60 .int (19 : Int32) [(.int (7 : Int32)), (.int (11 : Int32)), (.int (4 : Int32)), (.int (7 : Int32)), (.int (7 : Int32)), (.int (7 : Int32)), (.int (2 : Int32)), (.int (5 : Int32)), (.int (3 : Int32)), (.int (1 : Int32)), (.int (3 : Int32)), (.int (3 : Int32)), (.int (0 : Int32)), (.int (0 : Int32)), (.int (0 : Int32)), (.int (0 : Int32)), (.int (0 : Int32)), (.int (0 : Int32)), (.int (0 : Int32))] (.int (0 : Int32)) := Arv.set Ar72 q72 S72 N72 H72 G72 rfl W72 11 rfl (Nat.le_of_ble_eq_true rfl)
  have N72_ := Fr.snoc X72 N71_ g_b60
  have O72_ : Ext Z.heap h72 := extWr O71_ W72 g_b60
  show Go _ _ _ _ _ _ _ _ T72 (mkF m 291 #[.val (.int x0), .val (.int x1), .val (.int x2), .val (.ref b1), .val (.ref b40), .unset, .unset, .unset, .unset, .unset, .unset, .unset] [(.ref b60)])
  refine Go.step (fun _ kt_ => XS.dup X72.here hx rfl (hb hby at_291) rfl rfl kt_) ?_
  show Go _ _ _ _ _ _ _ _ T72 (mkF m 292 #[.val (.int x0), .val (.int x1), .val (.int x2), .val (.ref b1), .val (.ref b40), .unset, .unset, .unset, .unset, .unset, .unset, .unset] [(.ref b60), (.ref b60)])
  refine Go.step (fun _ kt_ => XS.bipush X72.here hx rfl (hb hby at_292)  kt_) ?_
  show Go _ _ _ _ _ _ _ _ T72 (mkF m 294 #[.val (.int x0), .val (.int x1), .val (.int x2), .val (.ref b1), .val (.ref b40), .unset, .unset, .unset, .unset, .unset, .unset, .unset] [(.int (12 : Int32)), (.ref b60), (.ref b60)])
  refine Go.step (fun _ kt_ => XS.iconst X72.here hx rfl (hb hby at_294)  kt_) ?_
  show Go _ _ _ _ _ _ _ _ T72 (mkF m 295 #[.val (.int x0), .val (.int x1), .val (.int x2), .val (.ref b1), .val (.ref b40), .unset, .unset, .unset, .unset, .unset, .unset, .unset] [(.int (3 : Int32)), (.int (12 : Int32)), (.ref b60), (.ref b60)])
  obtain ⟨cl73, Ar73, q73, S73, N73, H73, G73⟩ := V72
  have hin73 : ¬ ((12 : Int32) < 0 ∨ cl73.slots.size ≤ ((12 : Int32)).toNatClampNeg) := inb_of S73 ⟨by decide, by decide⟩
  obtain ⟨T73, h73, X73, e73, W73, st73⟩ := stI X72 hx hZ e72 Ar73 (j := (12 : Int32)) hin73 (g := (mkF m 295 #[.val (.int x0), .val (.int x1), .val (.int x2), .val (.ref b1), .val (.ref b40), .unset, .unset, .unset, .unset, .unset, .unset, .unset] [(.int (3 : Int32)), (.int (12 : Int32)), (.ref b60), (.ref b60)])) rfl rfl (hb hby at_295)
  refine Go.step st73 ?_
  have V73 : Arv Z h73 b60 k60 .int (19 : Int32) [(.int (7 : Int32)), (.int (11 : Int32)), (.int (4 : Int32)), (.int (7 : Int32)), (.int (7 : Int32)), (.int (7 : Int32)), (.int (2 : Int32)), (.int (5 : Int32)), (.int (3 : Int32)), (.int (1 : Int32)), (.int (3 : Int32)), (.int (3 : Int32)), (.int (3 : Int32)), (.int (0 : Int32)), (.int (0 : Int32)), (.int (0 : Int32)), (.int (0 : Int32)), (.int (0 : Int32)), (.int (0 : Int32))] (.int (0 : Int32)) := Arv.set Ar73 q73 S73 N73 H73 G73 rfl W73 12 rfl (Nat.le_of_ble_eq_true rfl)
  have N73_ := Fr.snoc X73 N72_ g_b60
  have O73_ : Ext Z.heap h73 := extWr O72_ W73 g_b60
  show Go _ _ _ _ _ _ _ _ T73 (mkF m 296 #[.val (.int x0), .val (.int x1), .val (.int x2), .val (.ref b1), .val (.ref b40), .unset, .unset, .unset, .unset, .unset, .unset, .unset] [(.ref b60)])
  refine Go.step (fun _ kt_ => XS.dup X73.here hx rfl (hb hby at_296) rfl rfl kt_) ?_
  show Go _ _ _ _ _ _ _ _ T73 (mkF m 297 #[.val (.int x0), .val (.int x1), .val (.int x2), .val (.ref b1), .val (.ref b40), .unset, .unset, .unset, .unset, .unset, .unset, .unset] [(.ref b60), (.ref b60)])
  refine Go.step (fun _ kt_ => XS.bipush X73.here hx rfl (hb hby at_297)  kt_) ?_
  show Go _ _ _ _ _ _ _ _ T73 (mkF m 299 #[.val (.int x0), .val (.int x1), .val (.int x2), .val (.ref b1), .val (.ref b40), .unset, .unset, .unset, .unset, .unset, .unset, .unset] [(.int (13 : Int32)), (.ref b60), (.ref b60)])
  refine Go.step (fun _ kt_ => XS.iconst X73.here hx rfl (hb hby at_299)  kt_) ?_
  show Go _ _ _ _ _ _ _ _ T73 (mkF m 300 #[.val (.int x0), .val (.int x1), .val (.int x2), .val (.ref b1), .val (.ref b40), .unset, .unset, .unset, .unset, .unset, .unset, .unset] [(.int (2 : Int32)), (.int (13 : Int32)), (.ref b60), (.ref b60)])
  obtain ⟨cl74, Ar74, q74, S74, N74, H74, G74⟩ := V73
  have hin74 : ¬ ((13 : Int32) < 0 ∨ cl74.slots.size ≤ ((13 : Int32)).toNatClampNeg) := inb_of S74 ⟨by decide, by decide⟩
  obtain ⟨T74, h74, X74, e74, W74, st74⟩ := stI X73 hx hZ e73 Ar74 (j := (13 : Int32)) hin74 (g := (mkF m 300 #[.val (.int x0), .val (.int x1), .val (.int x2), .val (.ref b1), .val (.ref b40), .unset, .unset, .unset, .unset, .unset, .unset, .unset] [(.int (2 : Int32)), (.int (13 : Int32)), (.ref b60), (.ref b60)])) rfl rfl (hb hby at_300)
  refine Go.step st74 ?_
  have V74 : Arv Z h74 b60 k60 .int (19 : Int32) [(.int (7 : Int32)), (.int (11 : Int32)), (.int (4 : Int32)), (.int (7 : Int32)), (.int (7 : Int32)), (.int (7 : Int32)), (.int (2 : Int32)), (.int (5 : Int32)), (.int (3 : Int32)), (.int (1 : Int32)), (.int (3 : Int32)), (.int (3 : Int32)), (.int (3 : Int32)), (.int (2 : Int32)), (.int (0 : Int32)), (.int (0 : Int32)), (.int (0 : Int32)), (.int (0 : Int32)), (.int (0 : Int32))] (.int (0 : Int32)) := Arv.set Ar74 q74 S74 N74 H74 G74 rfl W74 13 rfl (Nat.le_of_ble_eq_true rfl)
  have N74_ := Fr.snoc X74 N73_ g_b60
  have O74_ : Ext Z.heap h74 := extWr O73_ W74 g_b60
  show Go _ _ _ _ _ _ _ _ T74 (mkF m 301 #[.val (.int x0), .val (.int x1), .val (.int x2), .val (.ref b1), .val (.ref b40), .unset, .unset, .unset, .unset, .unset, .unset, .unset] [(.ref b60)])
  refine Go.step (fun _ kt_ => XS.dup X74.here hx rfl (hb hby at_301) rfl rfl kt_) ?_
  show Go _ _ _ _ _ _ _ _ T74 (mkF m 302 #[.val (.int x0), .val (.int x1), .val (.int x2), .val (.ref b1), .val (.ref b40), .unset, .unset, .unset, .unset, .unset, .unset, .unset] [(.ref b60), (.ref b60)])
  refine Go.step (fun _ kt_ => XS.bipush X74.here hx rfl (hb hby at_302)  kt_) ?_
  show Go _ _ _ _ _ _ _ _ T74 (mkF m 304 #[.val (.int x0), .val (.int x1), .val (.int x2), .val (.ref b1), .val (.ref b40), .unset, .unset, .unset, .unset, .unset, .unset, .unset] [(.int (14 : Int32)), (.ref b60), (.ref b60)])
  refine Go.step (fun _ kt_ => XS.iconst X74.here hx rfl (hb hby at_304)  kt_) ?_
  show Go _ _ _ _ _ _ _ _ T74 (mkF m 305 #[.val (.int x0), .val (.int x1), .val (.int x2), .val (.ref b1), .val (.ref b40), .unset, .unset, .unset, .unset, .unset, .unset, .unset] [(.int (2 : Int32)), (.int (14 : Int32)), (.ref b60), (.ref b60)])
  obtain ⟨cl75, Ar75, q75, S75, N75, H75, G75⟩ := V74
  have hin75 : ¬ ((14 : Int32) < 0 ∨ cl75.slots.size ≤ ((14 : Int32)).toNatClampNeg) := inb_of S75 ⟨by decide, by decide⟩
  obtain ⟨T75, h75, X75, e75, W75, st75⟩ := stI X74 hx hZ e74 Ar75 (j := (14 : Int32)) hin75 (g := (mkF m 305 #[.val (.int x0), .val (.int x1), .val (.int x2), .val (.ref b1), .val (.ref b40), .unset, .unset, .unset, .unset, .unset, .unset, .unset] [(.int (2 : Int32)), (.int (14 : Int32)), (.ref b60), (.ref b60)])) rfl rfl (hb hby at_305)
  refine Go.step st75 ?_
  have V75 : Arv Z h75 b60 k60 .int (19 : Int32) [(.int (7 : Int32)), (.int (11 : Int32)), (.int (4 : Int32)), (.int (7 : Int32)), (.int (7 : Int32)), (.int (7 : Int32)), (.int (2 : Int32)), (.int (5 : Int32)), (.int (3 : Int32)), (.int (1 : Int32)), (.int (3 : Int32)), (.int (3 : Int32)), (.int (3 : Int32)), (.int (2 : Int32)), (.int (2 : Int32)), (.int (0 : Int32)), (.int (0 : Int32)), (.int (0 : Int32)), (.int (0 : Int32))] (.int (0 : Int32)) := Arv.set Ar75 q75 S75 N75 H75 G75 rfl W75 14 rfl (Nat.le_of_ble_eq_true rfl)
  have N75_ := Fr.snoc X75 N74_ g_b60
  have O75_ : Ext Z.heap h75 := extWr O74_ W75 g_b60
  show Go _ _ _ _ _ _ _ _ T75 (mkF m 306 #[.val (.int x0), .val (.int x1), .val (.int x2), .val (.ref b1), .val (.ref b40), .unset, .unset, .unset, .unset, .unset, .unset, .unset] [(.ref b60)])
  refine Go.step (fun _ kt_ => XS.dup X75.here hx rfl (hb hby at_306) rfl rfl kt_) ?_
  show Go _ _ _ _ _ _ _ _ T75 (mkF m 307 #[.val (.int x0), .val (.int x1), .val (.int x2), .val (.ref b1), .val (.ref b40), .unset, .unset, .unset, .unset, .unset, .unset, .unset] [(.ref b60), (.ref b60)])
  refine Go.step (fun _ kt_ => XS.bipush X75.here hx rfl (hb hby at_307)  kt_) ?_
  show Go _ _ _ _ _ _ _ _ T75 (mkF m 309 #[.val (.int x0), .val (.int x1), .val (.int x2), .val (.ref b1), .val (.ref b40), .unset, .unset, .unset, .unset, .unset, .unset, .unset] [(.int (15 : Int32)), (.ref b60), (.ref b60)])
  refine Go.step (fun _ kt_ => XS.iconst X75.here hx rfl (hb hby at_309)  kt_) ?_
  show Go _ _ _ _ _ _ _ _ T75 (mkF m 310 #[.val (.int x0), .val (.int x1), .val (.int x2), .val (.ref b1), .val (.ref b40), .unset, .unset, .unset, .unset, .unset, .unset, .unset] [(.int (0 : Int32)), (.int (15 : Int32)), (.ref b60), (.ref b60)])
  obtain ⟨cl76, Ar76, q76, S76, N76, H76, G76⟩ := V75
  have hin76 : ¬ ((15 : Int32) < 0 ∨ cl76.slots.size ≤ ((15 : Int32)).toNatClampNeg) := inb_of S76 ⟨by decide, by decide⟩
  obtain ⟨T76, h76, X76, e76, W76, st76⟩ := stI X75 hx hZ e75 Ar76 (j := (15 : Int32)) hin76 (g := (mkF m 310 #[.val (.int x0), .val (.int x1), .val (.int x2), .val (.ref b1), .val (.ref b40), .unset, .unset, .unset, .unset, .unset, .unset, .unset] [(.int (0 : Int32)), (.int (15 : Int32)), (.ref b60), (.ref b60)])) rfl rfl (hb hby at_310)
  refine Go.step st76 ?_
  have V76 : Arv Z h76 b60 k60 .int (19 : Int32) [(.int (7 : Int32)), (.int (11 : Int32)), (.int (4 : Int32)), (.int (7 : Int32)), (.int (7 : Int32)), (.int (7 : Int32)), (.int (2 : Int32)), (.int (5 : Int32)), (.int (3 : Int32)), (.int (1 : Int32)), (.int (3 : Int32)), (.int (3 : Int32)), (.int (3 : Int32)), (.int (2 : Int32)), (.int (2 : Int32)), (.int (0 : Int32)), (.int (0 : Int32)), (.int (0 : Int32)), (.int (0 : Int32))] (.int (0 : Int32)) := Arv.set Ar76 q76 S76 N76 H76 G76 rfl W76 15 rfl (Nat.le_of_ble_eq_true rfl)
  have N76_ := Fr.snoc X76 N75_ g_b60
  have O76_ : Ext Z.heap h76 := extWr O75_ W76 g_b60
  show Go _ _ _ _ _ _ _ _ T76 (mkF m 311 #[.val (.int x0), .val (.int x1), .val (.int x2), .val (.ref b1), .val (.ref b40), .unset, .unset, .unset, .unset, .unset, .unset, .unset] [(.ref b60)])
  refine Go.step (fun _ kt_ => XS.dup X76.here hx rfl (hb hby at_311) rfl rfl kt_) ?_
  show Go _ _ _ _ _ _ _ _ T76 (mkF m 312 #[.val (.int x0), .val (.int x1), .val (.int x2), .val (.ref b1), .val (.ref b40), .unset, .unset, .unset, .unset, .unset, .unset, .unset] [(.ref b60), (.ref b60)])
  refine Go.step (fun _ kt_ => XS.bipush X76.here hx rfl (hb hby at_312)  kt_) ?_
  show Go _ _ _ _ _ _ _ _ T76 (mkF m 314 #[.val (.int x0), .val (.int x1), .val (.int x2), .val (.ref b1), .val (.ref b40), .unset, .unset, .unset, .unset, .unset, .unset, .unset] [(.int (16 : Int32)), (.ref b60), (.ref b60)])
  refine Go.step (fun _ kt_ => XS.iconst X76.here hx rfl (hb hby at_314)  kt_) ?_
  show Go _ _ _ _ _ _ _ _ T76 (mkF m 315 #[.val (.int x0), .val (.int x1), .val (.int x2), .val (.ref b1), .val (.ref b40), .unset, .unset, .unset, .unset, .unset, .unset, .unset] [(.int (1 : Int32)), (.int (16 : Int32)), (.ref b60), (.ref b60)])
  obtain ⟨cl77, Ar77, q77, S77, N77, H77, G77⟩ := V76
  have hin77 : ¬ ((16 : Int32) < 0 ∨ cl77.slots.size ≤ ((16 : Int32)).toNatClampNeg) := inb_of S77 ⟨by decide, by decide⟩
  obtain ⟨T77, h77, X77, e77, W77, st77⟩ := stI X76 hx hZ e76 Ar77 (j := (16 : Int32)) hin77 (g := (mkF m 315 #[.val (.int x0), .val (.int x1), .val (.int x2), .val (.ref b1), .val (.ref b40), .unset, .unset, .unset, .unset, .unset, .unset, .unset] [(.int (1 : Int32)), (.int (16 : Int32)), (.ref b60), (.ref b60)])) rfl rfl (hb hby at_315)
  refine Go.step st77 ?_
  have V77 : Arv Z h77 b60 k60 .int (19 : Int32) [(.int (7 : Int32)), (.int (11 : Int32)), (.int (4 : Int32)), (.int (7 : Int32)), (.int (7 : Int32)), (.int (7 : Int32)), (.int (2 : Int32)), (.int (5 : Int32)), (.int (3 : Int32)), (.int (1 : Int32)), (.int (3 : Int32)), (.int (3 : Int32)), (.int (3 : Int32)), (.int (2 : Int32)), (.int (2 : Int32)), (.int (0 : Int32)), (.int (1 : Int32)), (.int (0 : Int32)), (.int (0 : Int32))] (.int (0 : Int32)) := Arv.set Ar77 q77 S77 N77 H77 G77 rfl W77 16 rfl (Nat.le_of_ble_eq_true rfl)
  have N77_ := Fr.snoc X77 N76_ g_b60
  have O77_ : Ext Z.heap h77 := extWr O76_ W77 g_b60
  show Go _ _ _ _ _ _ _ _ T77 (mkF m 316 #[.val (.int x0), .val (.int x1), .val (.int x2), .val (.ref b1), .val (.ref b40), .unset, .unset, .unset, .unset, .unset, .unset, .unset] [(.ref b60)])
  refine Go.step (fun _ kt_ => XS.dup X77.here hx rfl (hb hby at_316) rfl rfl kt_) ?_
  show Go _ _ _ _ _ _ _ _ T77 (mkF m 317 #[.val (.int x0), .val (.int x1), .val (.int x2), .val (.ref b1), .val (.ref b40), .unset, .unset, .unset, .unset, .unset, .unset, .unset] [(.ref b60), (.ref b60)])
  refine Go.step (fun _ kt_ => XS.bipush X77.here hx rfl (hb hby at_317)  kt_) ?_
  show Go _ _ _ _ _ _ _ _ T77 (mkF m 319 #[.val (.int x0), .val (.int x1), .val (.int x2), .val (.ref b1), .val (.ref b40), .unset, .unset, .unset, .unset, .unset, .unset, .unset] [(.int (17 : Int32)), (.ref b60), (.ref b60)])
  refine Go.step (fun _ kt_ => XS.iconst X77.here hx rfl (hb hby at_319)  kt_) ?_
  show Go _ _ _ _ _ _ _ _ T77 (mkF m 320 #[.val (.int x0), .val (.int x1), .val (.int x2), .val (.ref b1), .val (.ref b40), .unset, .unset, .unset, .unset, .unset, .unset, .unset] [(.int (1 : Int32)), (.int (17 : Int32)), (.ref b60), (.ref b60)])
  obtain ⟨cl78, Ar78, q78, S78, N78, H78, G78⟩ := V77
  have hin78 : ¬ ((17 : Int32) < 0 ∨ cl78.slots.size ≤ ((17 : Int32)).toNatClampNeg) := inb_of S78 ⟨by decide, by decide⟩
  obtain ⟨T78, h78, X78, e78, W78, st78⟩ := stI X77 hx hZ e77 Ar78 (j := (17 : Int32)) hin78 (g := (mkF m 320 #[.val (.int x0), .val (.int x1), .val (.int x2), .val (.ref b1), .val (.ref b40), .unset, .unset, .unset, .unset, .unset, .unset, .unset] [(.int (1 : Int32)), (.int (17 : Int32)), (.ref b60), (.ref b60)])) rfl rfl (hb hby at_320)
  refine Go.step st78 ?_
  have V78 : Arv Z h78 b60 k60 .int (19 : Int32) [(.int (7 : Int32)), (.int (11 : Int32)), (.int (4 : Int32)), (.int (7 : Int32)), (.int (7 : Int32)), (.int (7 : Int32)), (.int (2 : Int32)), (.int (5 : Int32)), (.int (3 : Int32)), (.int (1 : Int32)), (.int (3 : Int32)), (.int (3 : Int32)), (.int (3 : Int32)), (.int (2 : Int32)), (.int (2 : Int32)), (.int (0 : Int32)), (.int (1 : Int32)), (.int (1 : Int32)), (.int (0 : Int32))] (.int (0 : Int32)) := Arv.set Ar78 q78 S78 N78 H78 G78 rfl W78 17 rfl (Nat.le_of_ble_eq_true rfl)
  have N78_ := Fr.snoc X78 N77_ g_b60
  have O78_ : Ext Z.heap h78 := extWr O77_ W78 g_b60
  show Go _ _ _ _ _ _ _ _ T78 (mkF m 321 #[.val (.int x0), .val (.int x1), .val (.int x2), .val (.ref b1), .val (.ref b40), .unset, .unset, .unset, .unset, .unset, .unset, .unset] [(.ref b60)])
  refine Go.step (fun _ kt_ => XS.dup X78.here hx rfl (hb hby at_321) rfl rfl kt_) ?_
  show Go _ _ _ _ _ _ _ _ T78 (mkF m 322 #[.val (.int x0), .val (.int x1), .val (.int x2), .val (.ref b1), .val (.ref b40), .unset, .unset, .unset, .unset, .unset, .unset, .unset] [(.ref b60), (.ref b60)])
  refine Go.step (fun _ kt_ => XS.bipush X78.here hx rfl (hb hby at_322)  kt_) ?_
  show Go _ _ _ _ _ _ _ _ T78 (mkF m 324 #[.val (.int x0), .val (.int x1), .val (.int x2), .val (.ref b1), .val (.ref b40), .unset, .unset, .unset, .unset, .unset, .unset, .unset] [(.int (18 : Int32)), (.ref b60), (.ref b60)])
  refine Go.step (fun _ kt_ => XS.iconst X78.here hx rfl (hb hby at_324)  kt_) ?_
  show Go _ _ _ _ _ _ _ _ T78 (mkF m 325 #[.val (.int x0), .val (.int x1), .val (.int x2), .val (.ref b1), .val (.ref b40), .unset, .unset, .unset, .unset, .unset, .unset, .unset] [(.int (0 : Int32)), (.int (18 : Int32)), (.ref b60), (.ref b60)])
  obtain ⟨cl79, Ar79, q79, S79, N79, H79, G79⟩ := V78
  have hin79 : ¬ ((18 : Int32) < 0 ∨ cl79.slots.size ≤ ((18 : Int32)).toNatClampNeg) := inb_of S79 ⟨by decide, by decide⟩
  obtain ⟨T79, h79, X79, e79, W79, st79⟩ := stI X78 hx hZ e78 Ar79 (j := (18 : Int32)) hin79 (g := (mkF m 325 #[.val (.int x0), .val (.int x1), .val (.int x2), .val (.ref b1), .val (.ref b40), .unset, .unset, .unset, .unset, .unset, .unset, .unset] [(.int (0 : Int32)), (.int (18 : Int32)), (.ref b60), (.ref b60)])) rfl rfl (hb hby at_325)
  refine Go.step st79 ?_
  have V79 : Arv Z h79 b60 k60 .int (19 : Int32) [(.int (7 : Int32)), (.int (11 : Int32)), (.int (4 : Int32)), (.int (7 : Int32)), (.int (7 : Int32)), (.int (7 : Int32)), (.int (2 : Int32)), (.int (5 : Int32)), (.int (3 : Int32)), (.int (1 : Int32)), (.int (3 : Int32)), (.int (3 : Int32)), (.int (3 : Int32)), (.int (2 : Int32)), (.int (2 : Int32)), (.int (0 : Int32)), (.int (1 : Int32)), (.int (1 : Int32)), (.int (0 : Int32))] (.int (0 : Int32)) := Arv.set Ar79 q79 S79 N79 H79 G79 rfl W79 18 rfl (Nat.le_of_ble_eq_true rfl)
  have N79_ := Fr.snoc X79 N78_ g_b60
  have O79_ : Ext Z.heap h79 := extWr O78_ W79 g_b60
  show Go _ _ _ _ _ _ _ _ T79 (mkF m 326 #[.val (.int x0), .val (.int x1), .val (.int x2), .val (.ref b1), .val (.ref b40), .unset, .unset, .unset, .unset, .unset, .unset, .unset] [(.ref b60)])
  refine Go.step (fun _ kt_ => XS.astore X79.here hx rfl (hb hby at_326) rfl rfl (l' := #[.val (.int x0), .val (.int x1), .val (.int x2), .val (.ref b1), .val (.ref b40), .val (.ref b60), .unset, .unset, .unset, .unset, .unset, .unset]) rfl kt_) ?_
  show Go _ _ _ _ _ _ _ _ T79 (mkF m 328 #[.val (.int x0), .val (.int x1), .val (.int x2), .val (.ref b1), .val (.ref b40), .val (.ref b60), .unset, .unset, .unset, .unset, .unset, .unset] [])
  refine Go.step (fun _ kt_ => XS.iloadN X79.here hx rfl (hb hby at_328) rfl kt_) ?_
  show Go _ _ _ _ _ _ _ _ T79 (mkF m 329 #[.val (.int x0), .val (.int x1), .val (.int x2), .val (.ref b1), .val (.ref b40), .val (.ref b60), .unset, .unset, .unset, .unset, .unset, .unset] [(.int x0)])
  refine Go.step (X79.ldcInt hx hown (mvT hZ (hw _ (List.mem_of_getElem? (i := 43) rfl))) (g := (mkF m 329 #[.val (.int x0), .val (.int x1), .val (.int x2), .val (.ref b1), .val (.ref b40), .val (.ref b60), .unset, .unset, .unset, .unset, .unset, .unset] [(.int x0)])) rfl (hb hby at_329)) ?_
  show Go _ _ _ _ _ _ _ _ T79 (mkF m 331 #[.val (.int x0), .val (.int x1), .val (.int x2), .val (.ref b1), .val (.ref b40), .val (.ref b60), .unset, .unset, .unset, .unset, .unset, .unset] [(.int (2147483647 : Int32)), (.int x0)])
  refine Go.step (fun _ kt_ => XS.iand X79.here hx rfl (hb hby at_331) rfl kt_) ?_
  show Go _ _ _ _ _ _ _ _ T79 (mkF m 332 #[.val (.int x0), .val (.int x1), .val (.int x2), .val (.ref b1), .val (.ref b40), .val (.ref b60), .unset, .unset, .unset, .unset, .unset, .unset] [(.int (x0 &&& (2147483647 : Int32)))])
  refine Go.step (fun _ kt_ => XS.bipush X79.here hx rfl (hb hby at_332)  kt_) ?_
  show Go _ _ _ _ _ _ _ _ T79 (mkF m 334 #[.val (.int x0), .val (.int x1), .val (.int x2), .val (.ref b1), .val (.ref b40), .val (.ref b60), .unset, .unset, .unset, .unset, .unset, .unset] [(.int (19 : Int32)), (.int (x0 &&& (2147483647 : Int32)))])
  refine Go.step (fun _ kt_ => iremM X79 hx rfl (hb hby at_334) rfl (by decide) kt_) ?_
  show Go _ _ _ _ _ _ _ _ T79 (mkF m 335 #[.val (.int x0), .val (.int x1), .val (.int x2), .val (.ref b1), .val (.ref b40), .val (.ref b60), .unset, .unset, .unset, .unset, .unset, .unset] [(.int ((x0 &&& (2147483647 : Int32)) % (19 : Int32)))])
  obtain ⟨hk0, hk1⟩ := own_mod x0 19 19 (by decide) (by decide)
  generalize ((x0 &&& (2147483647 : Int32)) % (19 : Int32)) = k at *
  obtain ⟨ka, lo, hi, g1, g2, g3, Xk, Fk, Gk⟩ : ∃ (ka : Addr) (lo hi : Int32), ([(.ref c0), (.ref c1), (.ref c2), (.ref c3), (.ref c4), (.ref c5), (.ref c6), (.ref c7), (.ref c8), (.ref c9), (.ref c10), (.ref c11), (.ref c12), (.ref c13), (.ref c14), (.ref c15), (.ref c16), (.ref c17), (.ref c18)] : List Value).getD k.toNatClampNeg .null = (.ref ka) ∧ ([(.int (3 : Int32)), (.int (4 : Int32)), (.int (1 : Int32)), (.int (0 : Int32)), (.int (2 : Int32)), (.int (1 : Int32)), (.int (0 : Int32)), (.int (0 : Int32)), (.int (0 : Int32)), (.int (0 : Int32)), (.int (0 : Int32)), (.int (0 : Int32)), (.int (3 : Int32)), (.int (0 : Int32)), (.int (0 : Int32)), (.int (0 : Int32)), (.int (0 : Int32)), (.int (0 : Int32)), (.int (0 : Int32))] : List Value).getD k.toNatClampNeg (.int (0 : Int32)) = (.int lo) ∧ ([(.int (7 : Int32)), (.int (11 : Int32)), (.int (4 : Int32)), (.int (7 : Int32)), (.int (7 : Int32)), (.int (7 : Int32)), (.int (2 : Int32)), (.int (5 : Int32)), (.int (3 : Int32)), (.int (1 : Int32)), (.int (3 : Int32)), (.int (3 : Int32)), (.int (3 : Int32)), (.int (2 : Int32)), (.int (2 : Int32)), (.int (0 : Int32)), (.int (1 : Int32)), (.int (1 : Int32)), (.int (0 : Int32))] : List Value).getD k.toNatClampNeg (.int (0 : Int32)) = (.int hi) ∧ Exa Z Z.heap ka "com/example/clean_epoch/cleanepoch/protocol/ApiKey" ∧ Fld Z Z.heap ka "com/example/clean_epoch/cleanepoch/protocol/ApiKey" "minVersion" "S" (.int lo) ∧ Fld Z Z.heap ka "com/example/clean_epoch/cleanepoch/protocol/ApiKey" "maxVersion" "S" (.int hi) := by
    rcases (by omega : k.toInt = 0 ∨ k.toInt = 1 ∨ k.toInt = 2 ∨ k.toInt = 3 ∨ k.toInt = 4 ∨ k.toInt = 5 ∨ k.toInt = 6 ∨ k.toInt = 7 ∨ k.toInt = 8 ∨ k.toInt = 9 ∨ k.toInt = 10 ∨ k.toInt = 11 ∨ k.toInt = 12 ∨ k.toInt = 13 ∨ k.toInt = 14 ∨ k.toInt = 15 ∨ k.toInt = 16 ∨ k.toInt = 17 ∨ k.toInt = 18) with q | q | q | q | q | q | q | q | q | q | q | q | q | q | q | q | q | q | q
    · obtain rfl : k = (0 : Int32) := Int32.toInt_inj.mp q
      exact ⟨c0, (3 : Int32), (7 : Int32), rfl, rfl, rfl, X_0, F_0, G_0⟩
    · obtain rfl : k = (1 : Int32) := Int32.toInt_inj.mp q
      exact ⟨c1, (4 : Int32), (11 : Int32), rfl, rfl, rfl, X_1, F_1, G_1⟩
    · obtain rfl : k = (2 : Int32) := Int32.toInt_inj.mp q
      exact ⟨c2, (1 : Int32), (4 : Int32), rfl, rfl, rfl, X_2, F_2, G_2⟩
    · obtain rfl : k = (3 : Int32) := Int32.toInt_inj.mp q
      exact ⟨c3, (0 : Int32), (7 : Int32), rfl, rfl, rfl, X_3, F_3, G_3⟩
    · obtain rfl : k = (4 : Int32) := Int32.toInt_inj.mp q
      exact ⟨c4, (2 : Int32), (7 : Int32), rfl, rfl, rfl, X_4, F_4, G_4⟩
    · obtain rfl : k = (5 : Int32) := Int32.toInt_inj.mp q
      exact ⟨c5, (1 : Int32), (7 : Int32), rfl, rfl, rfl, X_5, F_5, G_5⟩
    · obtain rfl : k = (6 : Int32) := Int32.toInt_inj.mp q
      exact ⟨c6, (0 : Int32), (2 : Int32), rfl, rfl, rfl, X_6, F_6, G_6⟩
    · obtain rfl : k = (7 : Int32) := Int32.toInt_inj.mp q
      exact ⟨c7, (0 : Int32), (5 : Int32), rfl, rfl, rfl, X_7, F_7, G_7⟩
    · obtain rfl : k = (8 : Int32) := Int32.toInt_inj.mp q
      exact ⟨c8, (0 : Int32), (3 : Int32), rfl, rfl, rfl, X_8, F_8, G_8⟩
    · obtain rfl : k = (9 : Int32) := Int32.toInt_inj.mp q
      exact ⟨c9, (0 : Int32), (1 : Int32), rfl, rfl, rfl, X_9, F_9, G_9⟩
    · obtain rfl : k = (10 : Int32) := Int32.toInt_inj.mp q
      exact ⟨c10, (0 : Int32), (3 : Int32), rfl, rfl, rfl, X_10, F_10, G_10⟩
    · obtain rfl : k = (11 : Int32) := Int32.toInt_inj.mp q
      exact ⟨c11, (0 : Int32), (3 : Int32), rfl, rfl, rfl, X_11, F_11, G_11⟩
    · obtain rfl : k = (12 : Int32) := Int32.toInt_inj.mp q
      exact ⟨c12, (3 : Int32), (3 : Int32), rfl, rfl, rfl, X_12, F_12, G_12⟩
    · obtain rfl : k = (13 : Int32) := Int32.toInt_inj.mp q
      exact ⟨c13, (0 : Int32), (2 : Int32), rfl, rfl, rfl, X_13, F_13, G_13⟩
    · obtain rfl : k = (14 : Int32) := Int32.toInt_inj.mp q
      exact ⟨c14, (0 : Int32), (2 : Int32), rfl, rfl, rfl, X_14, F_14, G_14⟩
    · obtain rfl : k = (15 : Int32) := Int32.toInt_inj.mp q
      exact ⟨c15, (0 : Int32), (0 : Int32), rfl, rfl, rfl, X_15, F_15, G_15⟩
    · obtain rfl : k = (16 : Int32) := Int32.toInt_inj.mp q
      exact ⟨c16, (0 : Int32), (1 : Int32), rfl, rfl, rfl, X_16, F_16, G_16⟩
    · obtain rfl : k = (17 : Int32) := Int32.toInt_inj.mp q
      exact ⟨c17, (0 : Int32), (1 : Int32), rfl, rfl, rfl, X_17, F_17, G_17⟩
    · obtain rfl : k = (18 : Int32) := Int32.toInt_inj.mp q
      exact ⟨c18, (0 : Int32), (0 : Int32), rfl, rfl, rfl, X_18, F_18, G_18⟩
  have hkb : ¬ k < 0 ∧ k < 19 := by rw [Int32.lt_iff_toInt_lt, Int32.lt_iff_toInt_lt]; exact ⟨by show ¬ _ < (0 : Int); omega, hk1⟩
  show Go _ _ _ _ _ _ _ _ T79 (mkF m 335 #[.val (.int x0), .val (.int x1), .val (.int x2), .val (.ref b1), .val (.ref b40), .val (.ref b60), .unset, .unset, .unset, .unset, .unset, .unset] [(.int k)])
  refine Go.step (fun _ kt_ => XS.istore X79.here hx rfl (hb hby at_335) rfl (l' := #[.val (.int x0), .val (.int x1), .val (.int x2), .val (.ref b1), .val (.ref b40), .val (.ref b60), .val (.int k), .unset, .unset, .unset, .unset, .unset]) rfl kt_) ?_
  show Go _ _ _ _ _ _ _ _ T79 (mkF m 337 #[.val (.int x0), .val (.int x1), .val (.int x2), .val (.ref b1), .val (.ref b40), .val (.ref b60), .val (.int k), .unset, .unset, .unset, .unset, .unset] [])
  refine Go.step (fun _ kt_ => XS.aload X79.here hx rfl (hb hby at_337) rfl rfl kt_) ?_
  show Go _ _ _ _ _ _ _ _ T79 (mkF m 339 #[.val (.int x0), .val (.int x1), .val (.int x2), .val (.ref b1), .val (.ref b40), .val (.ref b60), .val (.int k), .unset, .unset, .unset, .unset, .unset] [(.ref b40)])
  refine Go.step (fun _ kt_ => XS.iload X79.here hx rfl (hb hby at_339) rfl kt_) ?_
  show Go _ _ _ _ _ _ _ _ T79 (mkF m 341 #[.val (.int x0), .val (.int x1), .val (.int x2), .val (.ref b1), .val (.ref b40), .val (.ref b60), .val (.int k), .unset, .unset, .unset, .unset, .unset] [(.int k), (.ref b40)])
  have f81 := ((((((((((((((((((((V59.ext E60).other W61 (Nat.ne_of_lt (Nat.lt_of_lt_of_le V59.lt (Nat.le_of_eq hb60.symm)))).other W62 (Nat.ne_of_lt (Nat.lt_of_lt_of_le V59.lt (Nat.le_of_eq hb60.symm)))).other W63 (Nat.ne_of_lt (Nat.lt_of_lt_of_le V59.lt (Nat.le_of_eq hb60.symm)))).other W64 (Nat.ne_of_lt (Nat.lt_of_lt_of_le V59.lt (Nat.le_of_eq hb60.symm)))).other W65 (Nat.ne_of_lt (Nat.lt_of_lt_of_le V59.lt (Nat.le_of_eq hb60.symm)))).other W66 (Nat.ne_of_lt (Nat.lt_of_lt_of_le V59.lt (Nat.le_of_eq hb60.symm)))).other W67 (Nat.ne_of_lt (Nat.lt_of_lt_of_le V59.lt (Nat.le_of_eq hb60.symm)))).other W68 (Nat.ne_of_lt (Nat.lt_of_lt_of_le V59.lt (Nat.le_of_eq hb60.symm)))).other W69 (Nat.ne_of_lt (Nat.lt_of_lt_of_le V59.lt (Nat.le_of_eq hb60.symm)))).other W70 (Nat.ne_of_lt (Nat.lt_of_lt_of_le V59.lt (Nat.le_of_eq hb60.symm)))).other W71 (Nat.ne_of_lt (Nat.lt_of_lt_of_le V59.lt (Nat.le_of_eq hb60.symm)))).other W72 (Nat.ne_of_lt (Nat.lt_of_lt_of_le V59.lt (Nat.le_of_eq hb60.symm)))).other W73 (Nat.ne_of_lt (Nat.lt_of_lt_of_le V59.lt (Nat.le_of_eq hb60.symm)))).other W74 (Nat.ne_of_lt (Nat.lt_of_lt_of_le V59.lt (Nat.le_of_eq hb60.symm)))).other W75 (Nat.ne_of_lt (Nat.lt_of_lt_of_le V59.lt (Nat.le_of_eq hb60.symm)))).other W76 (Nat.ne_of_lt (Nat.lt_of_lt_of_le V59.lt (Nat.le_of_eq hb60.symm)))).other W77 (Nat.ne_of_lt (Nat.lt_of_lt_of_le V59.lt (Nat.le_of_eq hb60.symm)))).other W78 (Nat.ne_of_lt (Nat.lt_of_lt_of_le V59.lt (Nat.le_of_eq hb60.symm)))).other W79 (Nat.ne_of_lt (Nat.lt_of_lt_of_le V59.lt (Nat.le_of_eq hb60.symm))))
  obtain ⟨cl80, Ar80, q80, S80, N80, H80, G80⟩ := f81
  have hin80 : ¬ (k < 0 ∨ cl80.slots.size ≤ (k).toNatClampNeg) := inb_of S80 hkb
  refine Go.step (X79.iaload hx (j := k) (v := (.int lo)) (by rw [e79]; exact Ar80.1) (State.isArrayOf_alike hZ.alike Ar80.2.1) Ar80.2.2 hin80 (Has.at H80 hin80 g2) (g := (mkF m 341 #[.val (.int x0), .val (.int x1), .val (.int x2), .val (.ref b1), .val (.ref b40), .val (.ref b60), .val (.int k), .unset, .unset, .unset, .unset, .unset] [(.int k), (.ref b40)])) rfl rfl (hb hby at_341)) ?_
  show Go _ _ _ _ _ _ _ _ T79 (mkF m 342 #[.val (.int x0), .val (.int x1), .val (.int x2), .val (.ref b1), .val (.ref b40), .val (.ref b60), .val (.int k), .unset, .unset, .unset, .unset, .unset] [(.int lo)])
  refine Go.step (fun _ kt_ => XS.istore X79.here hx rfl (hb hby at_342) rfl (l' := #[.val (.int x0), .val (.int x1), .val (.int x2), .val (.ref b1), .val (.ref b40), .val (.ref b60), .val (.int k), .val (.int lo), .unset, .unset, .unset, .unset]) rfl kt_) ?_
  show Go _ _ _ _ _ _ _ _ T79 (mkF m 344 #[.val (.int x0), .val (.int x1), .val (.int x2), .val (.ref b1), .val (.ref b40), .val (.ref b60), .val (.int k), .val (.int lo), .unset, .unset, .unset, .unset] [])
  refine Go.step (fun _ kt_ => XS.aload X79.here hx rfl (hb hby at_344) rfl rfl kt_) ?_
  show Go _ _ _ _ _ _ _ _ T79 (mkF m 346 #[.val (.int x0), .val (.int x1), .val (.int x2), .val (.ref b1), .val (.ref b40), .val (.ref b60), .val (.int k), .val (.int lo), .unset, .unset, .unset, .unset] [(.ref b60)])
  refine Go.step (fun _ kt_ => XS.iload X79.here hx rfl (hb hby at_346) rfl kt_) ?_
  show Go _ _ _ _ _ _ _ _ T79 (mkF m 348 #[.val (.int x0), .val (.int x1), .val (.int x2), .val (.ref b1), .val (.ref b40), .val (.ref b60), .val (.int k), .val (.int lo), .unset, .unset, .unset, .unset] [(.int k), (.ref b60)])
  obtain ⟨cl82, Ar82, q82, S82, N82, H82, G82⟩ := V79
  have hin82 : ¬ (k < 0 ∨ cl82.slots.size ≤ (k).toNatClampNeg) := inb_of S82 hkb
  refine Go.step (X79.iaload hx (j := k) (v := (.int hi)) (by rw [e79]; exact Ar82.1) (State.isArrayOf_alike hZ.alike Ar82.2.1) Ar82.2.2 hin82 (Has.at H82 hin82 g3) (g := (mkF m 348 #[.val (.int x0), .val (.int x1), .val (.int x2), .val (.ref b1), .val (.ref b40), .val (.ref b60), .val (.int k), .val (.int lo), .unset, .unset, .unset, .unset] [(.int k), (.ref b60)])) rfl rfl (hb hby at_348)) ?_
  show Go _ _ _ _ _ _ _ _ T79 (mkF m 349 #[.val (.int x0), .val (.int x1), .val (.int x2), .val (.ref b1), .val (.ref b40), .val (.ref b60), .val (.int k), .val (.int lo), .unset, .unset, .unset, .unset] [(.int hi)])
  refine Go.step (fun _ kt_ => XS.istore X79.here hx rfl (hb hby at_349) rfl (l' := #[.val (.int x0), .val (.int x1), .val (.int x2), .val (.ref b1), .val (.ref b40), .val (.ref b60), .val (.int k), .val (.int lo), .val (.int hi), .unset, .unset, .unset]) rfl kt_) ?_
  show Go _ _ _ _ _ _ _ _ T79 (mkF m 351 #[.val (.int x0), .val (.int x1), .val (.int x2), .val (.ref b1), .val (.ref b40), .val (.ref b60), .val (.int k), .val (.int lo), .val (.int hi), .unset, .unset, .unset] [])
  have cut405 : ∀ (Tc83 : State) (Lc83 : List Loc) (Xc83 : Stand p l e room_1 s m #[(.int x0), (.int x1), (.int x2)] below meth c Tc83 Lc83 3 57) (ec83 : Tc83.heap = h79) (Nc83 : Fr Z.heap.size Lc83) (sel : Int32) (vv : Int32) , Go FrameEnd p e below s (room_1).cells (room_1).slots (Q_0 Z x0 x1 x2 c0 c1 c2 c3 c4 c5 c6 c7 c8 c9 c10 c11 c12 c13 c14 c15 c16 c17 c18 h0) Tc83 (mkF m 405 #[.val (.int x0), .val (.int x1), .val (.int x2), .val (.ref b1), .val (.ref b40), .val (.ref b60), .val (.int k), .val (.int lo), .val (.int hi), .val (.int sel), .val (.int vv), .unset] []) := by
    intro Tc83 Lc83 Xc83 ec83 Nc83  sel vv 
    refine Go.step (fun _ kt_ => XS.iload Xc83.here hx rfl (hb hby at_405) rfl kt_) ?_
    show Go _ _ _ _ _ _ _ _ Tc83 (mkF m 407 #[.val (.int x0), .val (.int x1), .val (.int x2), .val (.ref b1), .val (.ref b40), .val (.ref b60), .val (.int k), .val (.int lo), .val (.int hi), .val (.int sel), .val (.int vv), .unset] [(.int vv)])
    refine Go.step (fun _ kt_ => XS.iload Xc83.here hx rfl (hb hby at_407) rfl kt_) ?_
    show Go _ _ _ _ _ _ _ _ Tc83 (mkF m 409 #[.val (.int x0), .val (.int x1), .val (.int x2), .val (.ref b1), .val (.ref b40), .val (.ref b60), .val (.int k), .val (.int lo), .val (.int hi), .val (.int sel), .val (.int vv), .unset] [(.int lo), (.int vv)])
    by_cases hc409_84 : vv < lo
    · refine Go.step (fun _ kt_ => XS.icmpYes Xc83.here hx rfl (pc0 := 409) (pc' := 423) rfl (hb hby at_409) rfl (tlt hc409_84).1 (by decide) (by decide) kt_) ?_
      show Go _ _ _ _ _ _ _ _ Tc83 (mkF m 423 #[.val (.int x0), .val (.int x1), .val (.int x2), .val (.ref b1), .val (.ref b40), .val (.ref b60), .val (.int k), .val (.int lo), .val (.int hi), .val (.int sel), .val (.int vv), .unset] [])
      refine Go.step (fun _ kt_ => XS.iconst Xc83.here hx rfl (hb hby at_423)  kt_) ?_
      show Go _ _ _ _ _ _ _ _ Tc83 (mkF m 424 #[.val (.int x0), .val (.int x1), .val (.int x2), .val (.ref b1), .val (.ref b40), .val (.ref b60), .val (.int k), .val (.int lo), .val (.int hi), .val (.int sel), .val (.int vv), .unset] [(.int (0 : Int32))])
      refine Go.step (fun _ kt_ => XS.istore Xc83.here hx rfl (hb hby at_424) rfl (l' := #[.val (.int x0), .val (.int x1), .val (.int x2), .val (.ref b1), .val (.ref b40), .val (.ref b60), .val (.int k), .val (.int lo), .val (.int hi), .val (.int sel), .val (.int vv), .val (.int (0 : Int32))]) rfl kt_) ?_
      show Go _ _ _ _ _ _ _ _ Tc83 (mkF m 426 #[.val (.int x0), .val (.int x1), .val (.int x2), .val (.ref b1), .val (.ref b40), .val (.ref b60), .val (.int k), .val (.int lo), .val (.int hi), .val (.int sel), .val (.int vv), .val (.int (0 : Int32))] [])
      refine Go.step (fun _ kt_ => XS.aloadN Xc83.here hx rfl (hb hby at_426) rfl rfl kt_) ?_
      show Go _ _ _ _ _ _ _ _ Tc83 (mkF m 427 #[.val (.int x0), .val (.int x1), .val (.int x2), .val (.ref b1), .val (.ref b40), .val (.ref b60), .val (.int k), .val (.int lo), .val (.int hi), .val (.int sel), .val (.int vv), .val (.int (0 : Int32))] [(.ref b1)])
      refine Go.step (fun _ kt_ => XS.iload Xc83.here hx rfl (hb hby at_427) rfl kt_) ?_
      show Go _ _ _ _ _ _ _ _ Tc83 (mkF m 429 #[.val (.int x0), .val (.int x1), .val (.int x2), .val (.ref b1), .val (.ref b40), .val (.ref b60), .val (.int k), .val (.int lo), .val (.int hi), .val (.int sel), .val (.int vv), .val (.int (0 : Int32))] [(.int k), (.ref b1)])
      have f86 := ((((((((((((((((((((((((((((((((((((((((V39.ext E40).other W41 (Nat.ne_of_lt (Nat.lt_of_lt_of_le (Exa.wr W39 (Exa.wr W37 (Exa.wr W35 (Exa.wr W33 (Exa.wr W31 (Exa.wr W29 (Exa.wr W27 (Exa.wr W25 (Exa.wr W23 (Exa.wr W21 (Exa.wr W19 (Exa.wr W17 (Exa.wr W15 (Exa.wr W13 (Exa.wr W11 (Exa.wr W9 (Exa.wr W7 (Exa.wr W5 (Exa.wr W3 B1))))))))))))))))))).lt (Nat.le_of_eq hb40.symm)))).other W42 (Nat.ne_of_lt (Nat.lt_of_lt_of_le (Exa.wr W39 (Exa.wr W37 (Exa.wr W35 (Exa.wr W33 (Exa.wr W31 (Exa.wr W29 (Exa.wr W27 (Exa.wr W25 (Exa.wr W23 (Exa.wr W21 (Exa.wr W19 (Exa.wr W17 (Exa.wr W15 (Exa.wr W13 (Exa.wr W11 (Exa.wr W9 (Exa.wr W7 (Exa.wr W5 (Exa.wr W3 B1))))))))))))))))))).lt (Nat.le_of_eq hb40.symm)))).other W43 (Nat.ne_of_lt (Nat.lt_of_lt_of_le (Exa.wr W39 (Exa.wr W37 (Exa.wr W35 (Exa.wr W33 (Exa.wr W31 (Exa.wr W29 (Exa.wr W27 (Exa.wr W25 (Exa.wr W23 (Exa.wr W21 (Exa.wr W19 (Exa.wr W17 (Exa.wr W15 (Exa.wr W13 (Exa.wr W11 (Exa.wr W9 (Exa.wr W7 (Exa.wr W5 (Exa.wr W3 B1))))))))))))))))))).lt (Nat.le_of_eq hb40.symm)))).other W44 (Nat.ne_of_lt (Nat.lt_of_lt_of_le (Exa.wr W39 (Exa.wr W37 (Exa.wr W35 (Exa.wr W33 (Exa.wr W31 (Exa.wr W29 (Exa.wr W27 (Exa.wr W25 (Exa.wr W23 (Exa.wr W21 (Exa.wr W19 (Exa.wr W17 (Exa.wr W15 (Exa.wr W13 (Exa.wr W11 (Exa.wr W9 (Exa.wr W7 (Exa.wr W5 (Exa.wr W3 B1))))))))))))))))))).lt (Nat.le_of_eq hb40.symm)))).other W45 (Nat.ne_of_lt (Nat.lt_of_lt_of_le (Exa.wr W39 (Exa.wr W37 (Exa.wr W35 (Exa.wr W33 (Exa.wr W31 (Exa.wr W29 (Exa.wr W27 (Exa.wr W25 (Exa.wr W23 (Exa.wr W21 (Exa.wr W19 (Exa.wr W17 (Exa.wr W15 (Exa.wr W13 (Exa.wr W11 (Exa.wr W9 (Exa.wr W7 (Exa.wr W5 (Exa.wr W3 B1))))))))))))))))))).lt (Nat.le_of_eq hb40.symm)))).other W46 (Nat.ne_of_lt (Nat.lt_of_lt_of_le (Exa.wr W39 (Exa.wr W37 (Exa.wr W35 (Exa.wr W33 (Exa.wr W31 (Exa.wr W29 (Exa.wr W27 (Exa.wr W25 (Exa.wr W23 (Exa.wr W21 (Exa.wr W19 (Exa.wr W17 (Exa.wr W15 (Exa.wr W13 (Exa.wr W11 (Exa.wr W9 (Exa.wr W7 (Exa.wr W5 (Exa.wr W3 B1))))))))))))))))))).lt (Nat.le_of_eq hb40.symm)))).other W47 (Nat.ne_of_lt (Nat.lt_of_lt_of_le (Exa.wr W39 (Exa.wr W37 (Exa.wr W35 (Exa.wr W33 (Exa.wr W31 (Exa.wr W29 (Exa.wr W27 (Exa.wr W25 (Exa.wr W23 (Exa.wr W21 (Exa.wr W19 (Exa.wr W17 (Exa.wr W15 (Exa.wr W13 (Exa.wr W11 (Exa.wr W9 (Exa.wr W7 (Exa.wr W5 (Exa.wr W3 B1))))))))))))))))))).lt (Nat.le_of_eq hb40.symm)))).other W48 (Nat.ne_of_lt (Nat.lt_of_lt_of_le (Exa.wr W39 (Exa.wr W37 (Exa.wr W35 (Exa.wr W33 (Exa.wr W31 (Exa.wr W29 (Exa.wr W27 (Exa.wr W25 (Exa.wr W23 (Exa.wr W21 (Exa.wr W19 (Exa.wr W17 (Exa.wr W15 (Exa.wr W13 (Exa.wr W11 (Exa.wr W9 (Exa.wr W7 (Exa.wr W5 (Exa.wr W3 B1))))))))))))))))))).lt (Nat.le_of_eq hb40.symm)))).other W49 (Nat.ne_of_lt (Nat.lt_of_lt_of_le (Exa.wr W39 (Exa.wr W37 (Exa.wr W35 (Exa.wr W33 (Exa.wr W31 (Exa.wr W29 (Exa.wr W27 (Exa.wr W25 (Exa.wr W23 (Exa.wr W21 (Exa.wr W19 (Exa.wr W17 (Exa.wr W15 (Exa.wr W13 (Exa.wr W11 (Exa.wr W9 (Exa.wr W7 (Exa.wr W5 (Exa.wr W3 B1))))))))))))))))))).lt (Nat.le_of_eq hb40.symm)))).other W50 (Nat.ne_of_lt (Nat.lt_of_lt_of_le (Exa.wr W39 (Exa.wr W37 (Exa.wr W35 (Exa.wr W33 (Exa.wr W31 (Exa.wr W29 (Exa.wr W27 (Exa.wr W25 (Exa.wr W23 (Exa.wr W21 (Exa.wr W19 (Exa.wr W17 (Exa.wr W15 (Exa.wr W13 (Exa.wr W11 (Exa.wr W9 (Exa.wr W7 (Exa.wr W5 (Exa.wr W3 B1))))))))))))))))))).lt (Nat.le_of_eq hb40.symm)))).other W51 (Nat.ne_of_lt (Nat.lt_of_lt_of_le (Exa.wr W39 (Exa.wr W37 (Exa.wr W35 (Exa.wr W33 (Exa.wr W31 (Exa.wr W29 (Exa.wr W27 (Exa.wr W25 (Exa.wr W23 (Exa.wr W21 (Exa.wr W19 (Exa.wr W17 (Exa.wr W15 (Exa.wr W13 (Exa.wr W11 (Exa.wr W9 (Exa.wr W7 (Exa.wr W5 (Exa.wr W3 B1))))))))))))))))))).lt (Nat.le_of_eq hb40.symm)))).other W52 (Nat.ne_of_lt (Nat.lt_of_lt_of_le (Exa.wr W39 (Exa.wr W37 (Exa.wr W35 (Exa.wr W33 (Exa.wr W31 (Exa.wr W29 (Exa.wr W27 (Exa.wr W25 (Exa.wr W23 (Exa.wr W21 (Exa.wr W19 (Exa.wr W17 (Exa.wr W15 (Exa.wr W13 (Exa.wr W11 (Exa.wr W9 (Exa.wr W7 (Exa.wr W5 (Exa.wr W3 B1))))))))))))))))))).lt (Nat.le_of_eq hb40.symm)))).other W53 (Nat.ne_of_lt (Nat.lt_of_lt_of_le (Exa.wr W39 (Exa.wr W37 (Exa.wr W35 (Exa.wr W33 (Exa.wr W31 (Exa.wr W29 (Exa.wr W27 (Exa.wr W25 (Exa.wr W23 (Exa.wr W21 (Exa.wr W19 (Exa.wr W17 (Exa.wr W15 (Exa.wr W13 (Exa.wr W11 (Exa.wr W9 (Exa.wr W7 (Exa.wr W5 (Exa.wr W3 B1))))))))))))))))))).lt (Nat.le_of_eq hb40.symm)))).other W54 (Nat.ne_of_lt (Nat.lt_of_lt_of_le (Exa.wr W39 (Exa.wr W37 (Exa.wr W35 (Exa.wr W33 (Exa.wr W31 (Exa.wr W29 (Exa.wr W27 (Exa.wr W25 (Exa.wr W23 (Exa.wr W21 (Exa.wr W19 (Exa.wr W17 (Exa.wr W15 (Exa.wr W13 (Exa.wr W11 (Exa.wr W9 (Exa.wr W7 (Exa.wr W5 (Exa.wr W3 B1))))))))))))))))))).lt (Nat.le_of_eq hb40.symm)))).other W55 (Nat.ne_of_lt (Nat.lt_of_lt_of_le (Exa.wr W39 (Exa.wr W37 (Exa.wr W35 (Exa.wr W33 (Exa.wr W31 (Exa.wr W29 (Exa.wr W27 (Exa.wr W25 (Exa.wr W23 (Exa.wr W21 (Exa.wr W19 (Exa.wr W17 (Exa.wr W15 (Exa.wr W13 (Exa.wr W11 (Exa.wr W9 (Exa.wr W7 (Exa.wr W5 (Exa.wr W3 B1))))))))))))))))))).lt (Nat.le_of_eq hb40.symm)))).other W56 (Nat.ne_of_lt (Nat.lt_of_lt_of_le (Exa.wr W39 (Exa.wr W37 (Exa.wr W35 (Exa.wr W33 (Exa.wr W31 (Exa.wr W29 (Exa.wr W27 (Exa.wr W25 (Exa.wr W23 (Exa.wr W21 (Exa.wr W19 (Exa.wr W17 (Exa.wr W15 (Exa.wr W13 (Exa.wr W11 (Exa.wr W9 (Exa.wr W7 (Exa.wr W5 (Exa.wr W3 B1))))))))))))))))))).lt (Nat.le_of_eq hb40.symm)))).other W57 (Nat.ne_of_lt (Nat.lt_of_lt_of_le (Exa.wr W39 (Exa.wr W37 (Exa.wr W35 (Exa.wr W33 (Exa.wr W31 (Exa.wr W29 (Exa.wr W27 (Exa.wr W25 (Exa.wr W23 (Exa.wr W21 (Exa.wr W19 (Exa.wr W17 (Exa.wr W15 (Exa.wr W13 (Exa.wr W11 (Exa.wr W9 (Exa.wr W7 (Exa.wr W5 (Exa.wr W3 B1))))))))))))))))))).lt (Nat.le_of_eq hb40.symm)))).other W58 (Nat.ne_of_lt (Nat.lt_of_lt_of_le (Exa.wr W39 (Exa.wr W37 (Exa.wr W35 (Exa.wr W33 (Exa.wr W31 (Exa.wr W29 (Exa.wr W27 (Exa.wr W25 (Exa.wr W23 (Exa.wr W21 (Exa.wr W19 (Exa.wr W17 (Exa.wr W15 (Exa.wr W13 (Exa.wr W11 (Exa.wr W9 (Exa.wr W7 (Exa.wr W5 (Exa.wr W3 B1))))))))))))))))))).lt (Nat.le_of_eq hb40.symm)))).other W59 (Nat.ne_of_lt (Nat.lt_of_lt_of_le (Exa.wr W39 (Exa.wr W37 (Exa.wr W35 (Exa.wr W33 (Exa.wr W31 (Exa.wr W29 (Exa.wr W27 (Exa.wr W25 (Exa.wr W23 (Exa.wr W21 (Exa.wr W19 (Exa.wr W17 (Exa.wr W15 (Exa.wr W13 (Exa.wr W11 (Exa.wr W9 (Exa.wr W7 (Exa.wr W5 (Exa.wr W3 B1))))))))))))))))))).lt (Nat.le_of_eq hb40.symm)))).ext E60).other W61 (Nat.ne_of_lt (Nat.lt_of_lt_of_le (Exa.wr W59 (Exa.wr W58 (Exa.wr W57 (Exa.wr W56 (Exa.wr W55 (Exa.wr W54 (Exa.wr W53 (Exa.wr W52 (Exa.wr W51 (Exa.wr W50 (Exa.wr W49 (Exa.wr W48 (Exa.wr W47 (Exa.wr W46 (Exa.wr W45 (Exa.wr W44 (Exa.wr W43 (Exa.wr W42 (Exa.wr W41 (Exa.ext E40 (Exa.wr W39 (Exa.wr W37 (Exa.wr W35 (Exa.wr W33 (Exa.wr W31 (Exa.wr W29 (Exa.wr W27 (Exa.wr W25 (Exa.wr W23 (Exa.wr W21 (Exa.wr W19 (Exa.wr W17 (Exa.wr W15 (Exa.wr W13 (Exa.wr W11 (Exa.wr W9 (Exa.wr W7 (Exa.wr W5 (Exa.wr W3 B1))))))))))))))))))))))))))))))))))))))).lt (Nat.le_of_eq hb60.symm)))).other W62 (Nat.ne_of_lt (Nat.lt_of_lt_of_le (Exa.wr W59 (Exa.wr W58 (Exa.wr W57 (Exa.wr W56 (Exa.wr W55 (Exa.wr W54 (Exa.wr W53 (Exa.wr W52 (Exa.wr W51 (Exa.wr W50 (Exa.wr W49 (Exa.wr W48 (Exa.wr W47 (Exa.wr W46 (Exa.wr W45 (Exa.wr W44 (Exa.wr W43 (Exa.wr W42 (Exa.wr W41 (Exa.ext E40 (Exa.wr W39 (Exa.wr W37 (Exa.wr W35 (Exa.wr W33 (Exa.wr W31 (Exa.wr W29 (Exa.wr W27 (Exa.wr W25 (Exa.wr W23 (Exa.wr W21 (Exa.wr W19 (Exa.wr W17 (Exa.wr W15 (Exa.wr W13 (Exa.wr W11 (Exa.wr W9 (Exa.wr W7 (Exa.wr W5 (Exa.wr W3 B1))))))))))))))))))))))))))))))))))))))).lt (Nat.le_of_eq hb60.symm)))).other W63 (Nat.ne_of_lt (Nat.lt_of_lt_of_le (Exa.wr W59 (Exa.wr W58 (Exa.wr W57 (Exa.wr W56 (Exa.wr W55 (Exa.wr W54 (Exa.wr W53 (Exa.wr W52 (Exa.wr W51 (Exa.wr W50 (Exa.wr W49 (Exa.wr W48 (Exa.wr W47 (Exa.wr W46 (Exa.wr W45 (Exa.wr W44 (Exa.wr W43 (Exa.wr W42 (Exa.wr W41 (Exa.ext E40 (Exa.wr W39 (Exa.wr W37 (Exa.wr W35 (Exa.wr W33 (Exa.wr W31 (Exa.wr W29 (Exa.wr W27 (Exa.wr W25 (Exa.wr W23 (Exa.wr W21 (Exa.wr W19 (Exa.wr W17 (Exa.wr W15 (Exa.wr W13 (Exa.wr W11 (Exa.wr W9 (Exa.wr W7 (Exa.wr W5 (Exa.wr W3 B1))))))))))))))))))))))))))))))))))))))).lt (Nat.le_of_eq hb60.symm)))).other W64 (Nat.ne_of_lt (Nat.lt_of_lt_of_le (Exa.wr W59 (Exa.wr W58 (Exa.wr W57 (Exa.wr W56 (Exa.wr W55 (Exa.wr W54 (Exa.wr W53 (Exa.wr W52 (Exa.wr W51 (Exa.wr W50 (Exa.wr W49 (Exa.wr W48 (Exa.wr W47 (Exa.wr W46 (Exa.wr W45 (Exa.wr W44 (Exa.wr W43 (Exa.wr W42 (Exa.wr W41 (Exa.ext E40 (Exa.wr W39 (Exa.wr W37 (Exa.wr W35 (Exa.wr W33 (Exa.wr W31 (Exa.wr W29 (Exa.wr W27 (Exa.wr W25 (Exa.wr W23 (Exa.wr W21 (Exa.wr W19 (Exa.wr W17 (Exa.wr W15 (Exa.wr W13 (Exa.wr W11 (Exa.wr W9 (Exa.wr W7 (Exa.wr W5 (Exa.wr W3 B1))))))))))))))))))))))))))))))))))))))).lt (Nat.le_of_eq hb60.symm)))).other W65 (Nat.ne_of_lt (Nat.lt_of_lt_of_le (Exa.wr W59 (Exa.wr W58 (Exa.wr W57 (Exa.wr W56 (Exa.wr W55 (Exa.wr W54 (Exa.wr W53 (Exa.wr W52 (Exa.wr W51 (Exa.wr W50 (Exa.wr W49 (Exa.wr W48 (Exa.wr W47 (Exa.wr W46 (Exa.wr W45 (Exa.wr W44 (Exa.wr W43 (Exa.wr W42 (Exa.wr W41 (Exa.ext E40 (Exa.wr W39 (Exa.wr W37 (Exa.wr W35 (Exa.wr W33 (Exa.wr W31 (Exa.wr W29 (Exa.wr W27 (Exa.wr W25 (Exa.wr W23 (Exa.wr W21 (Exa.wr W19 (Exa.wr W17 (Exa.wr W15 (Exa.wr W13 (Exa.wr W11 (Exa.wr W9 (Exa.wr W7 (Exa.wr W5 (Exa.wr W3 B1))))))))))))))))))))))))))))))))))))))).lt (Nat.le_of_eq hb60.symm)))).other W66 (Nat.ne_of_lt (Nat.lt_of_lt_of_le (Exa.wr W59 (Exa.wr W58 (Exa.wr W57 (Exa.wr W56 (Exa.wr W55 (Exa.wr W54 (Exa.wr W53 (Exa.wr W52 (Exa.wr W51 (Exa.wr W50 (Exa.wr W49 (Exa.wr W48 (Exa.wr W47 (Exa.wr W46 (Exa.wr W45 (Exa.wr W44 (Exa.wr W43 (Exa.wr W42 (Exa.wr W41 (Exa.ext E40 (Exa.wr W39 (Exa.wr W37 (Exa.wr W35 (Exa.wr W33 (Exa.wr W31 (Exa.wr W29 (Exa.wr W27 (Exa.wr W25 (Exa.wr W23 (Exa.wr W21 (Exa.wr W19 (Exa.wr W17 (Exa.wr W15 (Exa.wr W13 (Exa.wr W11 (Exa.wr W9 (Exa.wr W7 (Exa.wr W5 (Exa.wr W3 B1))))))))))))))))))))))))))))))))))))))).lt (Nat.le_of_eq hb60.symm)))).other W67 (Nat.ne_of_lt (Nat.lt_of_lt_of_le (Exa.wr W59 (Exa.wr W58 (Exa.wr W57 (Exa.wr W56 (Exa.wr W55 (Exa.wr W54 (Exa.wr W53 (Exa.wr W52 (Exa.wr W51 (Exa.wr W50 (Exa.wr W49 (Exa.wr W48 (Exa.wr W47 (Exa.wr W46 (Exa.wr W45 (Exa.wr W44 (Exa.wr W43 (Exa.wr W42 (Exa.wr W41 (Exa.ext E40 (Exa.wr W39 (Exa.wr W37 (Exa.wr W35 (Exa.wr W33 (Exa.wr W31 (Exa.wr W29 (Exa.wr W27 (Exa.wr W25 (Exa.wr W23 (Exa.wr W21 (Exa.wr W19 (Exa.wr W17 (Exa.wr W15 (Exa.wr W13 (Exa.wr W11 (Exa.wr W9 (Exa.wr W7 (Exa.wr W5 (Exa.wr W3 B1))))))))))))))))))))))))))))))))))))))).lt (Nat.le_of_eq hb60.symm)))).other W68 (Nat.ne_of_lt (Nat.lt_of_lt_of_le (Exa.wr W59 (Exa.wr W58 (Exa.wr W57 (Exa.wr W56 (Exa.wr W55 (Exa.wr W54 (Exa.wr W53 (Exa.wr W52 (Exa.wr W51 (Exa.wr W50 (Exa.wr W49 (Exa.wr W48 (Exa.wr W47 (Exa.wr W46 (Exa.wr W45 (Exa.wr W44 (Exa.wr W43 (Exa.wr W42 (Exa.wr W41 (Exa.ext E40 (Exa.wr W39 (Exa.wr W37 (Exa.wr W35 (Exa.wr W33 (Exa.wr W31 (Exa.wr W29 (Exa.wr W27 (Exa.wr W25 (Exa.wr W23 (Exa.wr W21 (Exa.wr W19 (Exa.wr W17 (Exa.wr W15 (Exa.wr W13 (Exa.wr W11 (Exa.wr W9 (Exa.wr W7 (Exa.wr W5 (Exa.wr W3 B1))))))))))))))))))))))))))))))))))))))).lt (Nat.le_of_eq hb60.symm)))).other W69 (Nat.ne_of_lt (Nat.lt_of_lt_of_le (Exa.wr W59 (Exa.wr W58 (Exa.wr W57 (Exa.wr W56 (Exa.wr W55 (Exa.wr W54 (Exa.wr W53 (Exa.wr W52 (Exa.wr W51 (Exa.wr W50 (Exa.wr W49 (Exa.wr W48 (Exa.wr W47 (Exa.wr W46 (Exa.wr W45 (Exa.wr W44 (Exa.wr W43 (Exa.wr W42 (Exa.wr W41 (Exa.ext E40 (Exa.wr W39 (Exa.wr W37 (Exa.wr W35 (Exa.wr W33 (Exa.wr W31 (Exa.wr W29 (Exa.wr W27 (Exa.wr W25 (Exa.wr W23 (Exa.wr W21 (Exa.wr W19 (Exa.wr W17 (Exa.wr W15 (Exa.wr W13 (Exa.wr W11 (Exa.wr W9 (Exa.wr W7 (Exa.wr W5 (Exa.wr W3 B1))))))))))))))))))))))))))))))))))))))).lt (Nat.le_of_eq hb60.symm)))).other W70 (Nat.ne_of_lt (Nat.lt_of_lt_of_le (Exa.wr W59 (Exa.wr W58 (Exa.wr W57 (Exa.wr W56 (Exa.wr W55 (Exa.wr W54 (Exa.wr W53 (Exa.wr W52 (Exa.wr W51 (Exa.wr W50 (Exa.wr W49 (Exa.wr W48 (Exa.wr W47 (Exa.wr W46 (Exa.wr W45 (Exa.wr W44 (Exa.wr W43 (Exa.wr W42 (Exa.wr W41 (Exa.ext E40 (Exa.wr W39 (Exa.wr W37 (Exa.wr W35 (Exa.wr W33 (Exa.wr W31 (Exa.wr W29 (Exa.wr W27 (Exa.wr W25 (Exa.wr W23 (Exa.wr W21 (Exa.wr W19 (Exa.wr W17 (Exa.wr W15 (Exa.wr W13 (Exa.wr W11 (Exa.wr W9 (Exa.wr W7 (Exa.wr W5 (Exa.wr W3 B1))))))))))))))))))))))))))))))))))))))).lt (Nat.le_of_eq hb60.symm)))).other W71 (Nat.ne_of_lt (Nat.lt_of_lt_of_le (Exa.wr W59 (Exa.wr W58 (Exa.wr W57 (Exa.wr W56 (Exa.wr W55 (Exa.wr W54 (Exa.wr W53 (Exa.wr W52 (Exa.wr W51 (Exa.wr W50 (Exa.wr W49 (Exa.wr W48 (Exa.wr W47 (Exa.wr W46 (Exa.wr W45 (Exa.wr W44 (Exa.wr W43 (Exa.wr W42 (Exa.wr W41 (Exa.ext E40 (Exa.wr W39 (Exa.wr W37 (Exa.wr W35 (Exa.wr W33 (Exa.wr W31 (Exa.wr W29 (Exa.wr W27 (Exa.wr W25 (Exa.wr W23 (Exa.wr W21 (Exa.wr W19 (Exa.wr W17 (Exa.wr W15 (Exa.wr W13 (Exa.wr W11 (Exa.wr W9 (Exa.wr W7 (Exa.wr W5 (Exa.wr W3 B1))))))))))))))))))))))))))))))))))))))).lt (Nat.le_of_eq hb60.symm)))).other W72 (Nat.ne_of_lt (Nat.lt_of_lt_of_le (Exa.wr W59 (Exa.wr W58 (Exa.wr W57 (Exa.wr W56 (Exa.wr W55 (Exa.wr W54 (Exa.wr W53 (Exa.wr W52 (Exa.wr W51 (Exa.wr W50 (Exa.wr W49 (Exa.wr W48 (Exa.wr W47 (Exa.wr W46 (Exa.wr W45 (Exa.wr W44 (Exa.wr W43 (Exa.wr W42 (Exa.wr W41 (Exa.ext E40 (Exa.wr W39 (Exa.wr W37 (Exa.wr W35 (Exa.wr W33 (Exa.wr W31 (Exa.wr W29 (Exa.wr W27 (Exa.wr W25 (Exa.wr W23 (Exa.wr W21 (Exa.wr W19 (Exa.wr W17 (Exa.wr W15 (Exa.wr W13 (Exa.wr W11 (Exa.wr W9 (Exa.wr W7 (Exa.wr W5 (Exa.wr W3 B1))))))))))))))))))))))))))))))))))))))).lt (Nat.le_of_eq hb60.symm)))).other W73 (Nat.ne_of_lt (Nat.lt_of_lt_of_le (Exa.wr W59 (Exa.wr W58 (Exa.wr W57 (Exa.wr W56 (Exa.wr W55 (Exa.wr W54 (Exa.wr W53 (Exa.wr W52 (Exa.wr W51 (Exa.wr W50 (Exa.wr W49 (Exa.wr W48 (Exa.wr W47 (Exa.wr W46 (Exa.wr W45 (Exa.wr W44 (Exa.wr W43 (Exa.wr W42 (Exa.wr W41 (Exa.ext E40 (Exa.wr W39 (Exa.wr W37 (Exa.wr W35 (Exa.wr W33 (Exa.wr W31 (Exa.wr W29 (Exa.wr W27 (Exa.wr W25 (Exa.wr W23 (Exa.wr W21 (Exa.wr W19 (Exa.wr W17 (Exa.wr W15 (Exa.wr W13 (Exa.wr W11 (Exa.wr W9 (Exa.wr W7 (Exa.wr W5 (Exa.wr W3 B1))))))))))))))))))))))))))))))))))))))).lt (Nat.le_of_eq hb60.symm)))).other W74 (Nat.ne_of_lt (Nat.lt_of_lt_of_le (Exa.wr W59 (Exa.wr W58 (Exa.wr W57 (Exa.wr W56 (Exa.wr W55 (Exa.wr W54 (Exa.wr W53 (Exa.wr W52 (Exa.wr W51 (Exa.wr W50 (Exa.wr W49 (Exa.wr W48 (Exa.wr W47 (Exa.wr W46 (Exa.wr W45 (Exa.wr W44 (Exa.wr W43 (Exa.wr W42 (Exa.wr W41 (Exa.ext E40 (Exa.wr W39 (Exa.wr W37 (Exa.wr W35 (Exa.wr W33 (Exa.wr W31 (Exa.wr W29 (Exa.wr W27 (Exa.wr W25 (Exa.wr W23 (Exa.wr W21 (Exa.wr W19 (Exa.wr W17 (Exa.wr W15 (Exa.wr W13 (Exa.wr W11 (Exa.wr W9 (Exa.wr W7 (Exa.wr W5 (Exa.wr W3 B1))))))))))))))))))))))))))))))))))))))).lt (Nat.le_of_eq hb60.symm)))).other W75 (Nat.ne_of_lt (Nat.lt_of_lt_of_le (Exa.wr W59 (Exa.wr W58 (Exa.wr W57 (Exa.wr W56 (Exa.wr W55 (Exa.wr W54 (Exa.wr W53 (Exa.wr W52 (Exa.wr W51 (Exa.wr W50 (Exa.wr W49 (Exa.wr W48 (Exa.wr W47 (Exa.wr W46 (Exa.wr W45 (Exa.wr W44 (Exa.wr W43 (Exa.wr W42 (Exa.wr W41 (Exa.ext E40 (Exa.wr W39 (Exa.wr W37 (Exa.wr W35 (Exa.wr W33 (Exa.wr W31 (Exa.wr W29 (Exa.wr W27 (Exa.wr W25 (Exa.wr W23 (Exa.wr W21 (Exa.wr W19 (Exa.wr W17 (Exa.wr W15 (Exa.wr W13 (Exa.wr W11 (Exa.wr W9 (Exa.wr W7 (Exa.wr W5 (Exa.wr W3 B1))))))))))))))))))))))))))))))))))))))).lt (Nat.le_of_eq hb60.symm)))).other W76 (Nat.ne_of_lt (Nat.lt_of_lt_of_le (Exa.wr W59 (Exa.wr W58 (Exa.wr W57 (Exa.wr W56 (Exa.wr W55 (Exa.wr W54 (Exa.wr W53 (Exa.wr W52 (Exa.wr W51 (Exa.wr W50 (Exa.wr W49 (Exa.wr W48 (Exa.wr W47 (Exa.wr W46 (Exa.wr W45 (Exa.wr W44 (Exa.wr W43 (Exa.wr W42 (Exa.wr W41 (Exa.ext E40 (Exa.wr W39 (Exa.wr W37 (Exa.wr W35 (Exa.wr W33 (Exa.wr W31 (Exa.wr W29 (Exa.wr W27 (Exa.wr W25 (Exa.wr W23 (Exa.wr W21 (Exa.wr W19 (Exa.wr W17 (Exa.wr W15 (Exa.wr W13 (Exa.wr W11 (Exa.wr W9 (Exa.wr W7 (Exa.wr W5 (Exa.wr W3 B1))))))))))))))))))))))))))))))))))))))).lt (Nat.le_of_eq hb60.symm)))).other W77 (Nat.ne_of_lt (Nat.lt_of_lt_of_le (Exa.wr W59 (Exa.wr W58 (Exa.wr W57 (Exa.wr W56 (Exa.wr W55 (Exa.wr W54 (Exa.wr W53 (Exa.wr W52 (Exa.wr W51 (Exa.wr W50 (Exa.wr W49 (Exa.wr W48 (Exa.wr W47 (Exa.wr W46 (Exa.wr W45 (Exa.wr W44 (Exa.wr W43 (Exa.wr W42 (Exa.wr W41 (Exa.ext E40 (Exa.wr W39 (Exa.wr W37 (Exa.wr W35 (Exa.wr W33 (Exa.wr W31 (Exa.wr W29 (Exa.wr W27 (Exa.wr W25 (Exa.wr W23 (Exa.wr W21 (Exa.wr W19 (Exa.wr W17 (Exa.wr W15 (Exa.wr W13 (Exa.wr W11 (Exa.wr W9 (Exa.wr W7 (Exa.wr W5 (Exa.wr W3 B1))))))))))))))))))))))))))))))))))))))).lt (Nat.le_of_eq hb60.symm)))).other W78 (Nat.ne_of_lt (Nat.lt_of_lt_of_le (Exa.wr W59 (Exa.wr W58 (Exa.wr W57 (Exa.wr W56 (Exa.wr W55 (Exa.wr W54 (Exa.wr W53 (Exa.wr W52 (Exa.wr W51 (Exa.wr W50 (Exa.wr W49 (Exa.wr W48 (Exa.wr W47 (Exa.wr W46 (Exa.wr W45 (Exa.wr W44 (Exa.wr W43 (Exa.wr W42 (Exa.wr W41 (Exa.ext E40 (Exa.wr W39 (Exa.wr W37 (Exa.wr W35 (Exa.wr W33 (Exa.wr W31 (Exa.wr W29 (Exa.wr W27 (Exa.wr W25 (Exa.wr W23 (Exa.wr W21 (Exa.wr W19 (Exa.wr W17 (Exa.wr W15 (Exa.wr W13 (Exa.wr W11 (Exa.wr W9 (Exa.wr W7 (Exa.wr W5 (Exa.wr W3 B1))))))))))))))))))))))))))))))))))))))).lt (Nat.le_of_eq hb60.symm)))).other W79 (Nat.ne_of_lt (Nat.lt_of_lt_of_le (Exa.wr W59 (Exa.wr W58 (Exa.wr W57 (Exa.wr W56 (Exa.wr W55 (Exa.wr W54 (Exa.wr W53 (Exa.wr W52 (Exa.wr W51 (Exa.wr W50 (Exa.wr W49 (Exa.wr W48 (Exa.wr W47 (Exa.wr W46 (Exa.wr W45 (Exa.wr W44 (Exa.wr W43 (Exa.wr W42 (Exa.wr W41 (Exa.ext E40 (Exa.wr W39 (Exa.wr W37 (Exa.wr W35 (Exa.wr W33 (Exa.wr W31 (Exa.wr W29 (Exa.wr W27 (Exa.wr W25 (Exa.wr W23 (Exa.wr W21 (Exa.wr W19 (Exa.wr W17 (Exa.wr W15 (Exa.wr W13 (Exa.wr W11 (Exa.wr W9 (Exa.wr W7 (Exa.wr W5 (Exa.wr W3 B1))))))))))))))))))))))))))))))))))))))).lt (Nat.le_of_eq hb60.symm))))
      obtain ⟨cl85, Ar85, q85, S85, N85, H85, G85⟩ := f86
      have hin85 : ¬ (k < 0 ∨ cl85.slots.size ≤ (k).toNatClampNeg) := inb_of S85 hkb
      refine Go.step (Xc83.aaload hx (j := k) (v := (.ref ka)) (by rw [ec83]; exact Ar85.1) (State.isArrayOf_alike hZ.alike Ar85.2.1) rfl Ar85.2.2 hin85 (Has.at H85 hin85 g1) (g := (mkF m 429 #[.val (.int x0), .val (.int x1), .val (.int x2), .val (.ref b1), .val (.ref b40), .val (.ref b60), .val (.int k), .val (.int lo), .val (.int hi), .val (.int sel), .val (.int vv), .val (.int (0 : Int32))] [(.int k), (.ref b1)])) rfl rfl (hb hby at_429)) ?_
      show Go _ _ _ _ _ _ _ _ Tc83 (mkF m 430 #[.val (.int x0), .val (.int x1), .val (.int x2), .val (.ref b1), .val (.ref b40), .val (.ref b60), .val (.int k), .val (.int lo), .val (.int hi), .val (.int sel), .val (.int vv), .val (.int (0 : Int32))] [(.ref ka)])
      refine Go.step (fun _ kt_ => XS.iload Xc83.here hx rfl (hb hby at_430) rfl kt_) ?_
      show Go _ _ _ _ _ _ _ _ Tc83 (mkF m 432 #[.val (.int x0), .val (.int x1), .val (.int x2), .val (.ref b1), .val (.ref b40), .val (.ref b60), .val (.int k), .val (.int lo), .val (.int hi), .val (.int sel), .val (.int vv), .val (.int (0 : Int32))] [(.int vv), (.ref ka)])
      obtain ⟨cq87, kq87, q87a, q87b, q87c⟩ := isOf hZ ec83 (Exa.ext O79_ Xk)
      obtain ⟨_, _, ⟨T87, L87, k87, n87⟩, -, X87, ⟨Lc87, hQ87, l87, y87, z87⟩, st87⟩ := Xc83.virtualBack hx (y := (⟨"com/example/clean_epoch/cleanepoch/protocol/ApiKey", "serves", "(S)Z"⟩ : MethodName)) (z := (⟨"com/example/clean_epoch/cleanepoch/protocol/ApiKey", "serves", "(S)Z"⟩ : MethodName)) hown (mvT hZ (hw _ (List.mem_of_getElem? (i := 44) rfl))) (mvT hZ (hw _ (List.mem_of_getElem? (i := 45) rfl))) (notFace_of_selects (args := #[]) (mvT hZ (hw _ (List.mem_of_getElem? (i := 47) rfl)))) (mvT hZ (hw _ (List.mem_of_getElem? (i := 47) rfl))) (mvT hZ (hw _ (List.mem_of_getElem? (i := 46) rfl))) (by decide) (backOf (W := 0) (rm_1 l Z a0 hw [] ka vv lo hi (0 : Int32) h79 O79_ Fk Gk (by (try simp only [lw_lt, lw_gt, lw_eq] at hc409_84); simp only [hc409_84, if_true, if_false, ite_self, eq_self, not_false_eq_true, true_or, or_true, false_or, or_false, or_self])) hZ (hw _ (List.mem_of_getElem? (i := 48) rfl)) (hw _ (List.mem_of_getElem? (i := 3) rfl)) (by decide) (by decide)) q87a q87c (g := (mkF m 432 #[.val (.int x0), .val (.int x1), .val (.int x2), .val (.ref b1), .val (.ref b40), .val (.ref b60), .val (.int k), .val (.int lo), .val (.int hi), .val (.int sel), .val (.int vv), .val (.int (0 : Int32))] [(.int vv), (.ref ka)])) rfl (by rw [hml]; rfl) (Steps.refl _) (argsL := [(.int vv)]) (rest := []) (lenOf pd_LSRZ rfl) rfl (by show 2 * 0 + _ ≤ _; exact Nat.le_of_eq rfl) (hb hby at_432) (fun _ _ => ⟨rfl, ec83, (by decide : 3 + 0 ≤ _), (by decide : 57 + 0 ≤ _)⟩)
      dsimp only [Pt.U, Pt.locs, Pt.cells, Pt.slots] at X87 l87 y87 z87 st87 hQ87
      subst l87 y87 z87
      obtain ⟨rfl, Nq87, e87⟩ := hQ87
      have N87_ := Fr.app Nc83 Nq87
      refine Go.trans st87 ?_
      show Go _ _ _ _ _ _ _ _ T87 (mkF m 435 #[.val (.int x0), .val (.int x1), .val (.int x2), .val (.ref b1), .val (.ref b40), .val (.ref b60), .val (.int k), .val (.int lo), .val (.int hi), .val (.int sel), .val (.int vv), .val (.int (0 : Int32))] [(.int (0 : Int32))])
      refine Go.step (fun _ kt_ => XS.iload X87.here hx rfl (hb hby at_435) rfl kt_) ?_
      show Go _ _ _ _ _ _ _ _ T87 (mkF m 437 #[.val (.int x0), .val (.int x1), .val (.int x2), .val (.ref b1), .val (.ref b40), .val (.ref b60), .val (.int k), .val (.int lo), .val (.int hi), .val (.int sel), .val (.int vv), .val (.int (0 : Int32))] [(.int (0 : Int32)), (.int (0 : Int32))])
      refine Go.step (fun _ kt_ => XS.icmpNo X87.here hx rfl (hb hby at_437) rfl (teq (by decide : (0 : Int32) = (0 : Int32))).2 kt_) ?_
      show Go _ _ _ _ _ _ _ _ T87 (mkF m 440 #[.val (.int x0), .val (.int x1), .val (.int x2), .val (.ref b1), .val (.ref b40), .val (.ref b60), .val (.int k), .val (.int lo), .val (.int hi), .val (.int sel), .val (.int vv), .val (.int (0 : Int32))] [])
      refine Go.step (fun _ kt_ => XS.iconst X87.here hx rfl (hb hby at_440)  kt_) ?_
      show Go _ _ _ _ _ _ _ _ T87 (mkF m 441 #[.val (.int x0), .val (.int x1), .val (.int x2), .val (.ref b1), .val (.ref b40), .val (.ref b60), .val (.int k), .val (.int lo), .val (.int hi), .val (.int sel), .val (.int vv), .val (.int (0 : Int32))] [(.int (1 : Int32))])
      refine Go.step (fun _ kt_ => XS.goto X87.here hx rfl (pc0 := 441) (pc' := 445) rfl (hb hby at_441) (by decide) (by decide) kt_) ?_
      show Go _ _ _ _ _ _ _ _ T87 (mkF m 445 #[.val (.int x0), .val (.int x1), .val (.int x2), .val (.ref b1), .val (.ref b40), .val (.ref b60), .val (.int k), .val (.int lo), .val (.int hi), .val (.int sel), .val (.int vv), .val (.int (0 : Int32))] [(.int (1 : Int32))])
      exact Go.retN X87 hx (t := .boolean) Bd.returns (by simp) hlk (hb hby at_445) (by decide) (by decide) (by show _ ∧ _ ∧ _; exact ⟨rfl, N87_, trivial⟩)
    · refine Go.step (fun _ kt_ => XS.icmpNo Xc83.here hx rfl (hb hby at_409) rfl (flt hc409_84).1 kt_) ?_
      show Go _ _ _ _ _ _ _ _ Tc83 (mkF m 412 #[.val (.int x0), .val (.int x1), .val (.int x2), .val (.ref b1), .val (.ref b40), .val (.ref b60), .val (.int k), .val (.int lo), .val (.int hi), .val (.int sel), .val (.int vv), .unset] [])
      refine Go.step (fun _ kt_ => XS.iload Xc83.here hx rfl (hb hby at_412) rfl kt_) ?_
      show Go _ _ _ _ _ _ _ _ Tc83 (mkF m 414 #[.val (.int x0), .val (.int x1), .val (.int x2), .val (.ref b1), .val (.ref b40), .val (.ref b60), .val (.int k), .val (.int lo), .val (.int hi), .val (.int sel), .val (.int vv), .unset] [(.int vv)])
      refine Go.step (fun _ kt_ => XS.iload Xc83.here hx rfl (hb hby at_414) rfl kt_) ?_
      show Go _ _ _ _ _ _ _ _ Tc83 (mkF m 416 #[.val (.int x0), .val (.int x1), .val (.int x2), .val (.ref b1), .val (.ref b40), .val (.ref b60), .val (.int k), .val (.int lo), .val (.int hi), .val (.int sel), .val (.int vv), .unset] [(.int hi), (.int vv)])
      by_cases hc416_88 : hi < vv
      · refine Go.step (fun _ kt_ => XS.icmpYes Xc83.here hx rfl (pc0 := 416) (pc' := 423) rfl (hb hby at_416) rfl (tlt hc416_88).2.2.1 (by decide) (by decide) kt_) ?_
        show Go _ _ _ _ _ _ _ _ Tc83 (mkF m 423 #[.val (.int x0), .val (.int x1), .val (.int x2), .val (.ref b1), .val (.ref b40), .val (.ref b60), .val (.int k), .val (.int lo), .val (.int hi), .val (.int sel), .val (.int vv), .unset] [])
        refine Go.step (fun _ kt_ => XS.iconst Xc83.here hx rfl (hb hby at_423)  kt_) ?_
        show Go _ _ _ _ _ _ _ _ Tc83 (mkF m 424 #[.val (.int x0), .val (.int x1), .val (.int x2), .val (.ref b1), .val (.ref b40), .val (.ref b60), .val (.int k), .val (.int lo), .val (.int hi), .val (.int sel), .val (.int vv), .unset] [(.int (0 : Int32))])
        refine Go.step (fun _ kt_ => XS.istore Xc83.here hx rfl (hb hby at_424) rfl (l' := #[.val (.int x0), .val (.int x1), .val (.int x2), .val (.ref b1), .val (.ref b40), .val (.ref b60), .val (.int k), .val (.int lo), .val (.int hi), .val (.int sel), .val (.int vv), .val (.int (0 : Int32))]) rfl kt_) ?_
        show Go _ _ _ _ _ _ _ _ Tc83 (mkF m 426 #[.val (.int x0), .val (.int x1), .val (.int x2), .val (.ref b1), .val (.ref b40), .val (.ref b60), .val (.int k), .val (.int lo), .val (.int hi), .val (.int sel), .val (.int vv), .val (.int (0 : Int32))] [])
        refine Go.step (fun _ kt_ => XS.aloadN Xc83.here hx rfl (hb hby at_426) rfl rfl kt_) ?_
        show Go _ _ _ _ _ _ _ _ Tc83 (mkF m 427 #[.val (.int x0), .val (.int x1), .val (.int x2), .val (.ref b1), .val (.ref b40), .val (.ref b60), .val (.int k), .val (.int lo), .val (.int hi), .val (.int sel), .val (.int vv), .val (.int (0 : Int32))] [(.ref b1)])
        refine Go.step (fun _ kt_ => XS.iload Xc83.here hx rfl (hb hby at_427) rfl kt_) ?_
        show Go _ _ _ _ _ _ _ _ Tc83 (mkF m 429 #[.val (.int x0), .val (.int x1), .val (.int x2), .val (.ref b1), .val (.ref b40), .val (.ref b60), .val (.int k), .val (.int lo), .val (.int hi), .val (.int sel), .val (.int vv), .val (.int (0 : Int32))] [(.int k), (.ref b1)])
        have f90 := ((((((((((((((((((((((((((((((((((((((((V39.ext E40).other W41 (Nat.ne_of_lt (Nat.lt_of_lt_of_le (Exa.wr W39 (Exa.wr W37 (Exa.wr W35 (Exa.wr W33 (Exa.wr W31 (Exa.wr W29 (Exa.wr W27 (Exa.wr W25 (Exa.wr W23 (Exa.wr W21 (Exa.wr W19 (Exa.wr W17 (Exa.wr W15 (Exa.wr W13 (Exa.wr W11 (Exa.wr W9 (Exa.wr W7 (Exa.wr W5 (Exa.wr W3 B1))))))))))))))))))).lt (Nat.le_of_eq hb40.symm)))).other W42 (Nat.ne_of_lt (Nat.lt_of_lt_of_le (Exa.wr W39 (Exa.wr W37 (Exa.wr W35 (Exa.wr W33 (Exa.wr W31 (Exa.wr W29 (Exa.wr W27 (Exa.wr W25 (Exa.wr W23 (Exa.wr W21 (Exa.wr W19 (Exa.wr W17 (Exa.wr W15 (Exa.wr W13 (Exa.wr W11 (Exa.wr W9 (Exa.wr W7 (Exa.wr W5 (Exa.wr W3 B1))))))))))))))))))).lt (Nat.le_of_eq hb40.symm)))).other W43 (Nat.ne_of_lt (Nat.lt_of_lt_of_le (Exa.wr W39 (Exa.wr W37 (Exa.wr W35 (Exa.wr W33 (Exa.wr W31 (Exa.wr W29 (Exa.wr W27 (Exa.wr W25 (Exa.wr W23 (Exa.wr W21 (Exa.wr W19 (Exa.wr W17 (Exa.wr W15 (Exa.wr W13 (Exa.wr W11 (Exa.wr W9 (Exa.wr W7 (Exa.wr W5 (Exa.wr W3 B1))))))))))))))))))).lt (Nat.le_of_eq hb40.symm)))).other W44 (Nat.ne_of_lt (Nat.lt_of_lt_of_le (Exa.wr W39 (Exa.wr W37 (Exa.wr W35 (Exa.wr W33 (Exa.wr W31 (Exa.wr W29 (Exa.wr W27 (Exa.wr W25 (Exa.wr W23 (Exa.wr W21 (Exa.wr W19 (Exa.wr W17 (Exa.wr W15 (Exa.wr W13 (Exa.wr W11 (Exa.wr W9 (Exa.wr W7 (Exa.wr W5 (Exa.wr W3 B1))))))))))))))))))).lt (Nat.le_of_eq hb40.symm)))).other W45 (Nat.ne_of_lt (Nat.lt_of_lt_of_le (Exa.wr W39 (Exa.wr W37 (Exa.wr W35 (Exa.wr W33 (Exa.wr W31 (Exa.wr W29 (Exa.wr W27 (Exa.wr W25 (Exa.wr W23 (Exa.wr W21 (Exa.wr W19 (Exa.wr W17 (Exa.wr W15 (Exa.wr W13 (Exa.wr W11 (Exa.wr W9 (Exa.wr W7 (Exa.wr W5 (Exa.wr W3 B1))))))))))))))))))).lt (Nat.le_of_eq hb40.symm)))).other W46 (Nat.ne_of_lt (Nat.lt_of_lt_of_le (Exa.wr W39 (Exa.wr W37 (Exa.wr W35 (Exa.wr W33 (Exa.wr W31 (Exa.wr W29 (Exa.wr W27 (Exa.wr W25 (Exa.wr W23 (Exa.wr W21 (Exa.wr W19 (Exa.wr W17 (Exa.wr W15 (Exa.wr W13 (Exa.wr W11 (Exa.wr W9 (Exa.wr W7 (Exa.wr W5 (Exa.wr W3 B1))))))))))))))))))).lt (Nat.le_of_eq hb40.symm)))).other W47 (Nat.ne_of_lt (Nat.lt_of_lt_of_le (Exa.wr W39 (Exa.wr W37 (Exa.wr W35 (Exa.wr W33 (Exa.wr W31 (Exa.wr W29 (Exa.wr W27 (Exa.wr W25 (Exa.wr W23 (Exa.wr W21 (Exa.wr W19 (Exa.wr W17 (Exa.wr W15 (Exa.wr W13 (Exa.wr W11 (Exa.wr W9 (Exa.wr W7 (Exa.wr W5 (Exa.wr W3 B1))))))))))))))))))).lt (Nat.le_of_eq hb40.symm)))).other W48 (Nat.ne_of_lt (Nat.lt_of_lt_of_le (Exa.wr W39 (Exa.wr W37 (Exa.wr W35 (Exa.wr W33 (Exa.wr W31 (Exa.wr W29 (Exa.wr W27 (Exa.wr W25 (Exa.wr W23 (Exa.wr W21 (Exa.wr W19 (Exa.wr W17 (Exa.wr W15 (Exa.wr W13 (Exa.wr W11 (Exa.wr W9 (Exa.wr W7 (Exa.wr W5 (Exa.wr W3 B1))))))))))))))))))).lt (Nat.le_of_eq hb40.symm)))).other W49 (Nat.ne_of_lt (Nat.lt_of_lt_of_le (Exa.wr W39 (Exa.wr W37 (Exa.wr W35 (Exa.wr W33 (Exa.wr W31 (Exa.wr W29 (Exa.wr W27 (Exa.wr W25 (Exa.wr W23 (Exa.wr W21 (Exa.wr W19 (Exa.wr W17 (Exa.wr W15 (Exa.wr W13 (Exa.wr W11 (Exa.wr W9 (Exa.wr W7 (Exa.wr W5 (Exa.wr W3 B1))))))))))))))))))).lt (Nat.le_of_eq hb40.symm)))).other W50 (Nat.ne_of_lt (Nat.lt_of_lt_of_le (Exa.wr W39 (Exa.wr W37 (Exa.wr W35 (Exa.wr W33 (Exa.wr W31 (Exa.wr W29 (Exa.wr W27 (Exa.wr W25 (Exa.wr W23 (Exa.wr W21 (Exa.wr W19 (Exa.wr W17 (Exa.wr W15 (Exa.wr W13 (Exa.wr W11 (Exa.wr W9 (Exa.wr W7 (Exa.wr W5 (Exa.wr W3 B1))))))))))))))))))).lt (Nat.le_of_eq hb40.symm)))).other W51 (Nat.ne_of_lt (Nat.lt_of_lt_of_le (Exa.wr W39 (Exa.wr W37 (Exa.wr W35 (Exa.wr W33 (Exa.wr W31 (Exa.wr W29 (Exa.wr W27 (Exa.wr W25 (Exa.wr W23 (Exa.wr W21 (Exa.wr W19 (Exa.wr W17 (Exa.wr W15 (Exa.wr W13 (Exa.wr W11 (Exa.wr W9 (Exa.wr W7 (Exa.wr W5 (Exa.wr W3 B1))))))))))))))))))).lt (Nat.le_of_eq hb40.symm)))).other W52 (Nat.ne_of_lt (Nat.lt_of_lt_of_le (Exa.wr W39 (Exa.wr W37 (Exa.wr W35 (Exa.wr W33 (Exa.wr W31 (Exa.wr W29 (Exa.wr W27 (Exa.wr W25 (Exa.wr W23 (Exa.wr W21 (Exa.wr W19 (Exa.wr W17 (Exa.wr W15 (Exa.wr W13 (Exa.wr W11 (Exa.wr W9 (Exa.wr W7 (Exa.wr W5 (Exa.wr W3 B1))))))))))))))))))).lt (Nat.le_of_eq hb40.symm)))).other W53 (Nat.ne_of_lt (Nat.lt_of_lt_of_le (Exa.wr W39 (Exa.wr W37 (Exa.wr W35 (Exa.wr W33 (Exa.wr W31 (Exa.wr W29 (Exa.wr W27 (Exa.wr W25 (Exa.wr W23 (Exa.wr W21 (Exa.wr W19 (Exa.wr W17 (Exa.wr W15 (Exa.wr W13 (Exa.wr W11 (Exa.wr W9 (Exa.wr W7 (Exa.wr W5 (Exa.wr W3 B1))))))))))))))))))).lt (Nat.le_of_eq hb40.symm)))).other W54 (Nat.ne_of_lt (Nat.lt_of_lt_of_le (Exa.wr W39 (Exa.wr W37 (Exa.wr W35 (Exa.wr W33 (Exa.wr W31 (Exa.wr W29 (Exa.wr W27 (Exa.wr W25 (Exa.wr W23 (Exa.wr W21 (Exa.wr W19 (Exa.wr W17 (Exa.wr W15 (Exa.wr W13 (Exa.wr W11 (Exa.wr W9 (Exa.wr W7 (Exa.wr W5 (Exa.wr W3 B1))))))))))))))))))).lt (Nat.le_of_eq hb40.symm)))).other W55 (Nat.ne_of_lt (Nat.lt_of_lt_of_le (Exa.wr W39 (Exa.wr W37 (Exa.wr W35 (Exa.wr W33 (Exa.wr W31 (Exa.wr W29 (Exa.wr W27 (Exa.wr W25 (Exa.wr W23 (Exa.wr W21 (Exa.wr W19 (Exa.wr W17 (Exa.wr W15 (Exa.wr W13 (Exa.wr W11 (Exa.wr W9 (Exa.wr W7 (Exa.wr W5 (Exa.wr W3 B1))))))))))))))))))).lt (Nat.le_of_eq hb40.symm)))).other W56 (Nat.ne_of_lt (Nat.lt_of_lt_of_le (Exa.wr W39 (Exa.wr W37 (Exa.wr W35 (Exa.wr W33 (Exa.wr W31 (Exa.wr W29 (Exa.wr W27 (Exa.wr W25 (Exa.wr W23 (Exa.wr W21 (Exa.wr W19 (Exa.wr W17 (Exa.wr W15 (Exa.wr W13 (Exa.wr W11 (Exa.wr W9 (Exa.wr W7 (Exa.wr W5 (Exa.wr W3 B1))))))))))))))))))).lt (Nat.le_of_eq hb40.symm)))).other W57 (Nat.ne_of_lt (Nat.lt_of_lt_of_le (Exa.wr W39 (Exa.wr W37 (Exa.wr W35 (Exa.wr W33 (Exa.wr W31 (Exa.wr W29 (Exa.wr W27 (Exa.wr W25 (Exa.wr W23 (Exa.wr W21 (Exa.wr W19 (Exa.wr W17 (Exa.wr W15 (Exa.wr W13 (Exa.wr W11 (Exa.wr W9 (Exa.wr W7 (Exa.wr W5 (Exa.wr W3 B1))))))))))))))))))).lt (Nat.le_of_eq hb40.symm)))).other W58 (Nat.ne_of_lt (Nat.lt_of_lt_of_le (Exa.wr W39 (Exa.wr W37 (Exa.wr W35 (Exa.wr W33 (Exa.wr W31 (Exa.wr W29 (Exa.wr W27 (Exa.wr W25 (Exa.wr W23 (Exa.wr W21 (Exa.wr W19 (Exa.wr W17 (Exa.wr W15 (Exa.wr W13 (Exa.wr W11 (Exa.wr W9 (Exa.wr W7 (Exa.wr W5 (Exa.wr W3 B1))))))))))))))))))).lt (Nat.le_of_eq hb40.symm)))).other W59 (Nat.ne_of_lt (Nat.lt_of_lt_of_le (Exa.wr W39 (Exa.wr W37 (Exa.wr W35 (Exa.wr W33 (Exa.wr W31 (Exa.wr W29 (Exa.wr W27 (Exa.wr W25 (Exa.wr W23 (Exa.wr W21 (Exa.wr W19 (Exa.wr W17 (Exa.wr W15 (Exa.wr W13 (Exa.wr W11 (Exa.wr W9 (Exa.wr W7 (Exa.wr W5 (Exa.wr W3 B1))))))))))))))))))).lt (Nat.le_of_eq hb40.symm)))).ext E60).other W61 (Nat.ne_of_lt (Nat.lt_of_lt_of_le (Exa.wr W59 (Exa.wr W58 (Exa.wr W57 (Exa.wr W56 (Exa.wr W55 (Exa.wr W54 (Exa.wr W53 (Exa.wr W52 (Exa.wr W51 (Exa.wr W50 (Exa.wr W49 (Exa.wr W48 (Exa.wr W47 (Exa.wr W46 (Exa.wr W45 (Exa.wr W44 (Exa.wr W43 (Exa.wr W42 (Exa.wr W41 (Exa.ext E40 (Exa.wr W39 (Exa.wr W37 (Exa.wr W35 (Exa.wr W33 (Exa.wr W31 (Exa.wr W29 (Exa.wr W27 (Exa.wr W25 (Exa.wr W23 (Exa.wr W21 (Exa.wr W19 (Exa.wr W17 (Exa.wr W15 (Exa.wr W13 (Exa.wr W11 (Exa.wr W9 (Exa.wr W7 (Exa.wr W5 (Exa.wr W3 B1))))))))))))))))))))))))))))))))))))))).lt (Nat.le_of_eq hb60.symm)))).other W62 (Nat.ne_of_lt (Nat.lt_of_lt_of_le (Exa.wr W59 (Exa.wr W58 (Exa.wr W57 (Exa.wr W56 (Exa.wr W55 (Exa.wr W54 (Exa.wr W53 (Exa.wr W52 (Exa.wr W51 (Exa.wr W50 (Exa.wr W49 (Exa.wr W48 (Exa.wr W47 (Exa.wr W46 (Exa.wr W45 (Exa.wr W44 (Exa.wr W43 (Exa.wr W42 (Exa.wr W41 (Exa.ext E40 (Exa.wr W39 (Exa.wr W37 (Exa.wr W35 (Exa.wr W33 (Exa.wr W31 (Exa.wr W29 (Exa.wr W27 (Exa.wr W25 (Exa.wr W23 (Exa.wr W21 (Exa.wr W19 (Exa.wr W17 (Exa.wr W15 (Exa.wr W13 (Exa.wr W11 (Exa.wr W9 (Exa.wr W7 (Exa.wr W5 (Exa.wr W3 B1))))))))))))))))))))))))))))))))))))))).lt (Nat.le_of_eq hb60.symm)))).other W63 (Nat.ne_of_lt (Nat.lt_of_lt_of_le (Exa.wr W59 (Exa.wr W58 (Exa.wr W57 (Exa.wr W56 (Exa.wr W55 (Exa.wr W54 (Exa.wr W53 (Exa.wr W52 (Exa.wr W51 (Exa.wr W50 (Exa.wr W49 (Exa.wr W48 (Exa.wr W47 (Exa.wr W46 (Exa.wr W45 (Exa.wr W44 (Exa.wr W43 (Exa.wr W42 (Exa.wr W41 (Exa.ext E40 (Exa.wr W39 (Exa.wr W37 (Exa.wr W35 (Exa.wr W33 (Exa.wr W31 (Exa.wr W29 (Exa.wr W27 (Exa.wr W25 (Exa.wr W23 (Exa.wr W21 (Exa.wr W19 (Exa.wr W17 (Exa.wr W15 (Exa.wr W13 (Exa.wr W11 (Exa.wr W9 (Exa.wr W7 (Exa.wr W5 (Exa.wr W3 B1))))))))))))))))))))))))))))))))))))))).lt (Nat.le_of_eq hb60.symm)))).other W64 (Nat.ne_of_lt (Nat.lt_of_lt_of_le (Exa.wr W59 (Exa.wr W58 (Exa.wr W57 (Exa.wr W56 (Exa.wr W55 (Exa.wr W54 (Exa.wr W53 (Exa.wr W52 (Exa.wr W51 (Exa.wr W50 (Exa.wr W49 (Exa.wr W48 (Exa.wr W47 (Exa.wr W46 (Exa.wr W45 (Exa.wr W44 (Exa.wr W43 (Exa.wr W42 (Exa.wr W41 (Exa.ext E40 (Exa.wr W39 (Exa.wr W37 (Exa.wr W35 (Exa.wr W33 (Exa.wr W31 (Exa.wr W29 (Exa.wr W27 (Exa.wr W25 (Exa.wr W23 (Exa.wr W21 (Exa.wr W19 (Exa.wr W17 (Exa.wr W15 (Exa.wr W13 (Exa.wr W11 (Exa.wr W9 (Exa.wr W7 (Exa.wr W5 (Exa.wr W3 B1))))))))))))))))))))))))))))))))))))))).lt (Nat.le_of_eq hb60.symm)))).other W65 (Nat.ne_of_lt (Nat.lt_of_lt_of_le (Exa.wr W59 (Exa.wr W58 (Exa.wr W57 (Exa.wr W56 (Exa.wr W55 (Exa.wr W54 (Exa.wr W53 (Exa.wr W52 (Exa.wr W51 (Exa.wr W50 (Exa.wr W49 (Exa.wr W48 (Exa.wr W47 (Exa.wr W46 (Exa.wr W45 (Exa.wr W44 (Exa.wr W43 (Exa.wr W42 (Exa.wr W41 (Exa.ext E40 (Exa.wr W39 (Exa.wr W37 (Exa.wr W35 (Exa.wr W33 (Exa.wr W31 (Exa.wr W29 (Exa.wr W27 (Exa.wr W25 (Exa.wr W23 (Exa.wr W21 (Exa.wr W19 (Exa.wr W17 (Exa.wr W15 (Exa.wr W13 (Exa.wr W11 (Exa.wr W9 (Exa.wr W7 (Exa.wr W5 (Exa.wr W3 B1))))))))))))))))))))))))))))))))))))))).lt (Nat.le_of_eq hb60.symm)))).other W66 (Nat.ne_of_lt (Nat.lt_of_lt_of_le (Exa.wr W59 (Exa.wr W58 (Exa.wr W57 (Exa.wr W56 (Exa.wr W55 (Exa.wr W54 (Exa.wr W53 (Exa.wr W52 (Exa.wr W51 (Exa.wr W50 (Exa.wr W49 (Exa.wr W48 (Exa.wr W47 (Exa.wr W46 (Exa.wr W45 (Exa.wr W44 (Exa.wr W43 (Exa.wr W42 (Exa.wr W41 (Exa.ext E40 (Exa.wr W39 (Exa.wr W37 (Exa.wr W35 (Exa.wr W33 (Exa.wr W31 (Exa.wr W29 (Exa.wr W27 (Exa.wr W25 (Exa.wr W23 (Exa.wr W21 (Exa.wr W19 (Exa.wr W17 (Exa.wr W15 (Exa.wr W13 (Exa.wr W11 (Exa.wr W9 (Exa.wr W7 (Exa.wr W5 (Exa.wr W3 B1))))))))))))))))))))))))))))))))))))))).lt (Nat.le_of_eq hb60.symm)))).other W67 (Nat.ne_of_lt (Nat.lt_of_lt_of_le (Exa.wr W59 (Exa.wr W58 (Exa.wr W57 (Exa.wr W56 (Exa.wr W55 (Exa.wr W54 (Exa.wr W53 (Exa.wr W52 (Exa.wr W51 (Exa.wr W50 (Exa.wr W49 (Exa.wr W48 (Exa.wr W47 (Exa.wr W46 (Exa.wr W45 (Exa.wr W44 (Exa.wr W43 (Exa.wr W42 (Exa.wr W41 (Exa.ext E40 (Exa.wr W39 (Exa.wr W37 (Exa.wr W35 (Exa.wr W33 (Exa.wr W31 (Exa.wr W29 (Exa.wr W27 (Exa.wr W25 (Exa.wr W23 (Exa.wr W21 (Exa.wr W19 (Exa.wr W17 (Exa.wr W15 (Exa.wr W13 (Exa.wr W11 (Exa.wr W9 (Exa.wr W7 (Exa.wr W5 (Exa.wr W3 B1))))))))))))))))))))))))))))))))))))))).lt (Nat.le_of_eq hb60.symm)))).other W68 (Nat.ne_of_lt (Nat.lt_of_lt_of_le (Exa.wr W59 (Exa.wr W58 (Exa.wr W57 (Exa.wr W56 (Exa.wr W55 (Exa.wr W54 (Exa.wr W53 (Exa.wr W52 (Exa.wr W51 (Exa.wr W50 (Exa.wr W49 (Exa.wr W48 (Exa.wr W47 (Exa.wr W46 (Exa.wr W45 (Exa.wr W44 (Exa.wr W43 (Exa.wr W42 (Exa.wr W41 (Exa.ext E40 (Exa.wr W39 (Exa.wr W37 (Exa.wr W35 (Exa.wr W33 (Exa.wr W31 (Exa.wr W29 (Exa.wr W27 (Exa.wr W25 (Exa.wr W23 (Exa.wr W21 (Exa.wr W19 (Exa.wr W17 (Exa.wr W15 (Exa.wr W13 (Exa.wr W11 (Exa.wr W9 (Exa.wr W7 (Exa.wr W5 (Exa.wr W3 B1))))))))))))))))))))))))))))))))))))))).lt (Nat.le_of_eq hb60.symm)))).other W69 (Nat.ne_of_lt (Nat.lt_of_lt_of_le (Exa.wr W59 (Exa.wr W58 (Exa.wr W57 (Exa.wr W56 (Exa.wr W55 (Exa.wr W54 (Exa.wr W53 (Exa.wr W52 (Exa.wr W51 (Exa.wr W50 (Exa.wr W49 (Exa.wr W48 (Exa.wr W47 (Exa.wr W46 (Exa.wr W45 (Exa.wr W44 (Exa.wr W43 (Exa.wr W42 (Exa.wr W41 (Exa.ext E40 (Exa.wr W39 (Exa.wr W37 (Exa.wr W35 (Exa.wr W33 (Exa.wr W31 (Exa.wr W29 (Exa.wr W27 (Exa.wr W25 (Exa.wr W23 (Exa.wr W21 (Exa.wr W19 (Exa.wr W17 (Exa.wr W15 (Exa.wr W13 (Exa.wr W11 (Exa.wr W9 (Exa.wr W7 (Exa.wr W5 (Exa.wr W3 B1))))))))))))))))))))))))))))))))))))))).lt (Nat.le_of_eq hb60.symm)))).other W70 (Nat.ne_of_lt (Nat.lt_of_lt_of_le (Exa.wr W59 (Exa.wr W58 (Exa.wr W57 (Exa.wr W56 (Exa.wr W55 (Exa.wr W54 (Exa.wr W53 (Exa.wr W52 (Exa.wr W51 (Exa.wr W50 (Exa.wr W49 (Exa.wr W48 (Exa.wr W47 (Exa.wr W46 (Exa.wr W45 (Exa.wr W44 (Exa.wr W43 (Exa.wr W42 (Exa.wr W41 (Exa.ext E40 (Exa.wr W39 (Exa.wr W37 (Exa.wr W35 (Exa.wr W33 (Exa.wr W31 (Exa.wr W29 (Exa.wr W27 (Exa.wr W25 (Exa.wr W23 (Exa.wr W21 (Exa.wr W19 (Exa.wr W17 (Exa.wr W15 (Exa.wr W13 (Exa.wr W11 (Exa.wr W9 (Exa.wr W7 (Exa.wr W5 (Exa.wr W3 B1))))))))))))))))))))))))))))))))))))))).lt (Nat.le_of_eq hb60.symm)))).other W71 (Nat.ne_of_lt (Nat.lt_of_lt_of_le (Exa.wr W59 (Exa.wr W58 (Exa.wr W57 (Exa.wr W56 (Exa.wr W55 (Exa.wr W54 (Exa.wr W53 (Exa.wr W52 (Exa.wr W51 (Exa.wr W50 (Exa.wr W49 (Exa.wr W48 (Exa.wr W47 (Exa.wr W46 (Exa.wr W45 (Exa.wr W44 (Exa.wr W43 (Exa.wr W42 (Exa.wr W41 (Exa.ext E40 (Exa.wr W39 (Exa.wr W37 (Exa.wr W35 (Exa.wr W33 (Exa.wr W31 (Exa.wr W29 (Exa.wr W27 (Exa.wr W25 (Exa.wr W23 (Exa.wr W21 (Exa.wr W19 (Exa.wr W17 (Exa.wr W15 (Exa.wr W13 (Exa.wr W11 (Exa.wr W9 (Exa.wr W7 (Exa.wr W5 (Exa.wr W3 B1))))))))))))))))))))))))))))))))))))))).lt (Nat.le_of_eq hb60.symm)))).other W72 (Nat.ne_of_lt (Nat.lt_of_lt_of_le (Exa.wr W59 (Exa.wr W58 (Exa.wr W57 (Exa.wr W56 (Exa.wr W55 (Exa.wr W54 (Exa.wr W53 (Exa.wr W52 (Exa.wr W51 (Exa.wr W50 (Exa.wr W49 (Exa.wr W48 (Exa.wr W47 (Exa.wr W46 (Exa.wr W45 (Exa.wr W44 (Exa.wr W43 (Exa.wr W42 (Exa.wr W41 (Exa.ext E40 (Exa.wr W39 (Exa.wr W37 (Exa.wr W35 (Exa.wr W33 (Exa.wr W31 (Exa.wr W29 (Exa.wr W27 (Exa.wr W25 (Exa.wr W23 (Exa.wr W21 (Exa.wr W19 (Exa.wr W17 (Exa.wr W15 (Exa.wr W13 (Exa.wr W11 (Exa.wr W9 (Exa.wr W7 (Exa.wr W5 (Exa.wr W3 B1))))))))))))))))))))))))))))))))))))))).lt (Nat.le_of_eq hb60.symm)))).other W73 (Nat.ne_of_lt (Nat.lt_of_lt_of_le (Exa.wr W59 (Exa.wr W58 (Exa.wr W57 (Exa.wr W56 (Exa.wr W55 (Exa.wr W54 (Exa.wr W53 (Exa.wr W52 (Exa.wr W51 (Exa.wr W50 (Exa.wr W49 (Exa.wr W48 (Exa.wr W47 (Exa.wr W46 (Exa.wr W45 (Exa.wr W44 (Exa.wr W43 (Exa.wr W42 (Exa.wr W41 (Exa.ext E40 (Exa.wr W39 (Exa.wr W37 (Exa.wr W35 (Exa.wr W33 (Exa.wr W31 (Exa.wr W29 (Exa.wr W27 (Exa.wr W25 (Exa.wr W23 (Exa.wr W21 (Exa.wr W19 (Exa.wr W17 (Exa.wr W15 (Exa.wr W13 (Exa.wr W11 (Exa.wr W9 (Exa.wr W7 (Exa.wr W5 (Exa.wr W3 B1))))))))))))))))))))))))))))))))))))))).lt (Nat.le_of_eq hb60.symm)))).other W74 (Nat.ne_of_lt (Nat.lt_of_lt_of_le (Exa.wr W59 (Exa.wr W58 (Exa.wr W57 (Exa.wr W56 (Exa.wr W55 (Exa.wr W54 (Exa.wr W53 (Exa.wr W52 (Exa.wr W51 (Exa.wr W50 (Exa.wr W49 (Exa.wr W48 (Exa.wr W47 (Exa.wr W46 (Exa.wr W45 (Exa.wr W44 (Exa.wr W43 (Exa.wr W42 (Exa.wr W41 (Exa.ext E40 (Exa.wr W39 (Exa.wr W37 (Exa.wr W35 (Exa.wr W33 (Exa.wr W31 (Exa.wr W29 (Exa.wr W27 (Exa.wr W25 (Exa.wr W23 (Exa.wr W21 (Exa.wr W19 (Exa.wr W17 (Exa.wr W15 (Exa.wr W13 (Exa.wr W11 (Exa.wr W9 (Exa.wr W7 (Exa.wr W5 (Exa.wr W3 B1))))))))))))))))))))))))))))))))))))))).lt (Nat.le_of_eq hb60.symm)))).other W75 (Nat.ne_of_lt (Nat.lt_of_lt_of_le (Exa.wr W59 (Exa.wr W58 (Exa.wr W57 (Exa.wr W56 (Exa.wr W55 (Exa.wr W54 (Exa.wr W53 (Exa.wr W52 (Exa.wr W51 (Exa.wr W50 (Exa.wr W49 (Exa.wr W48 (Exa.wr W47 (Exa.wr W46 (Exa.wr W45 (Exa.wr W44 (Exa.wr W43 (Exa.wr W42 (Exa.wr W41 (Exa.ext E40 (Exa.wr W39 (Exa.wr W37 (Exa.wr W35 (Exa.wr W33 (Exa.wr W31 (Exa.wr W29 (Exa.wr W27 (Exa.wr W25 (Exa.wr W23 (Exa.wr W21 (Exa.wr W19 (Exa.wr W17 (Exa.wr W15 (Exa.wr W13 (Exa.wr W11 (Exa.wr W9 (Exa.wr W7 (Exa.wr W5 (Exa.wr W3 B1))))))))))))))))))))))))))))))))))))))).lt (Nat.le_of_eq hb60.symm)))).other W76 (Nat.ne_of_lt (Nat.lt_of_lt_of_le (Exa.wr W59 (Exa.wr W58 (Exa.wr W57 (Exa.wr W56 (Exa.wr W55 (Exa.wr W54 (Exa.wr W53 (Exa.wr W52 (Exa.wr W51 (Exa.wr W50 (Exa.wr W49 (Exa.wr W48 (Exa.wr W47 (Exa.wr W46 (Exa.wr W45 (Exa.wr W44 (Exa.wr W43 (Exa.wr W42 (Exa.wr W41 (Exa.ext E40 (Exa.wr W39 (Exa.wr W37 (Exa.wr W35 (Exa.wr W33 (Exa.wr W31 (Exa.wr W29 (Exa.wr W27 (Exa.wr W25 (Exa.wr W23 (Exa.wr W21 (Exa.wr W19 (Exa.wr W17 (Exa.wr W15 (Exa.wr W13 (Exa.wr W11 (Exa.wr W9 (Exa.wr W7 (Exa.wr W5 (Exa.wr W3 B1))))))))))))))))))))))))))))))))))))))).lt (Nat.le_of_eq hb60.symm)))).other W77 (Nat.ne_of_lt (Nat.lt_of_lt_of_le (Exa.wr W59 (Exa.wr W58 (Exa.wr W57 (Exa.wr W56 (Exa.wr W55 (Exa.wr W54 (Exa.wr W53 (Exa.wr W52 (Exa.wr W51 (Exa.wr W50 (Exa.wr W49 (Exa.wr W48 (Exa.wr W47 (Exa.wr W46 (Exa.wr W45 (Exa.wr W44 (Exa.wr W43 (Exa.wr W42 (Exa.wr W41 (Exa.ext E40 (Exa.wr W39 (Exa.wr W37 (Exa.wr W35 (Exa.wr W33 (Exa.wr W31 (Exa.wr W29 (Exa.wr W27 (Exa.wr W25 (Exa.wr W23 (Exa.wr W21 (Exa.wr W19 (Exa.wr W17 (Exa.wr W15 (Exa.wr W13 (Exa.wr W11 (Exa.wr W9 (Exa.wr W7 (Exa.wr W5 (Exa.wr W3 B1))))))))))))))))))))))))))))))))))))))).lt (Nat.le_of_eq hb60.symm)))).other W78 (Nat.ne_of_lt (Nat.lt_of_lt_of_le (Exa.wr W59 (Exa.wr W58 (Exa.wr W57 (Exa.wr W56 (Exa.wr W55 (Exa.wr W54 (Exa.wr W53 (Exa.wr W52 (Exa.wr W51 (Exa.wr W50 (Exa.wr W49 (Exa.wr W48 (Exa.wr W47 (Exa.wr W46 (Exa.wr W45 (Exa.wr W44 (Exa.wr W43 (Exa.wr W42 (Exa.wr W41 (Exa.ext E40 (Exa.wr W39 (Exa.wr W37 (Exa.wr W35 (Exa.wr W33 (Exa.wr W31 (Exa.wr W29 (Exa.wr W27 (Exa.wr W25 (Exa.wr W23 (Exa.wr W21 (Exa.wr W19 (Exa.wr W17 (Exa.wr W15 (Exa.wr W13 (Exa.wr W11 (Exa.wr W9 (Exa.wr W7 (Exa.wr W5 (Exa.wr W3 B1))))))))))))))))))))))))))))))))))))))).lt (Nat.le_of_eq hb60.symm)))).other W79 (Nat.ne_of_lt (Nat.lt_of_lt_of_le (Exa.wr W59 (Exa.wr W58 (Exa.wr W57 (Exa.wr W56 (Exa.wr W55 (Exa.wr W54 (Exa.wr W53 (Exa.wr W52 (Exa.wr W51 (Exa.wr W50 (Exa.wr W49 (Exa.wr W48 (Exa.wr W47 (Exa.wr W46 (Exa.wr W45 (Exa.wr W44 (Exa.wr W43 (Exa.wr W42 (Exa.wr W41 (Exa.ext E40 (Exa.wr W39 (Exa.wr W37 (Exa.wr W35 (Exa.wr W33 (Exa.wr W31 (Exa.wr W29 (Exa.wr W27 (Exa.wr W25 (Exa.wr W23 (Exa.wr W21 (Exa.wr W19 (Exa.wr W17 (Exa.wr W15 (Exa.wr W13 (Exa.wr W11 (Exa.wr W9 (Exa.wr W7 (Exa.wr W5 (Exa.wr W3 B1))))))))))))))))))))))))))))))))))))))).lt (Nat.le_of_eq hb60.symm))))
        obtain ⟨cl89, Ar89, q89, S89, N89, H89, G89⟩ := f90
        have hin89 : ¬ (k < 0 ∨ cl89.slots.size ≤ (k).toNatClampNeg) := inb_of S89 hkb
        refine Go.step (Xc83.aaload hx (j := k) (v := (.ref ka)) (by rw [ec83]; exact Ar89.1) (State.isArrayOf_alike hZ.alike Ar89.2.1) rfl Ar89.2.2 hin89 (Has.at H89 hin89 g1) (g := (mkF m 429 #[.val (.int x0), .val (.int x1), .val (.int x2), .val (.ref b1), .val (.ref b40), .val (.ref b60), .val (.int k), .val (.int lo), .val (.int hi), .val (.int sel), .val (.int vv), .val (.int (0 : Int32))] [(.int k), (.ref b1)])) rfl rfl (hb hby at_429)) ?_
        show Go _ _ _ _ _ _ _ _ Tc83 (mkF m 430 #[.val (.int x0), .val (.int x1), .val (.int x2), .val (.ref b1), .val (.ref b40), .val (.ref b60), .val (.int k), .val (.int lo), .val (.int hi), .val (.int sel), .val (.int vv), .val (.int (0 : Int32))] [(.ref ka)])
        refine Go.step (fun _ kt_ => XS.iload Xc83.here hx rfl (hb hby at_430) rfl kt_) ?_
        show Go _ _ _ _ _ _ _ _ Tc83 (mkF m 432 #[.val (.int x0), .val (.int x1), .val (.int x2), .val (.ref b1), .val (.ref b40), .val (.ref b60), .val (.int k), .val (.int lo), .val (.int hi), .val (.int sel), .val (.int vv), .val (.int (0 : Int32))] [(.int vv), (.ref ka)])
        obtain ⟨cq91, kq91, q91a, q91b, q91c⟩ := isOf hZ ec83 (Exa.ext O79_ Xk)
        obtain ⟨_, _, ⟨T91, L91, k91, n91⟩, -, X91, ⟨Lc91, hQ91, l91, y91, z91⟩, st91⟩ := Xc83.virtualBack hx (y := (⟨"com/example/clean_epoch/cleanepoch/protocol/ApiKey", "serves", "(S)Z"⟩ : MethodName)) (z := (⟨"com/example/clean_epoch/cleanepoch/protocol/ApiKey", "serves", "(S)Z"⟩ : MethodName)) hown (mvT hZ (hw _ (List.mem_of_getElem? (i := 44) rfl))) (mvT hZ (hw _ (List.mem_of_getElem? (i := 45) rfl))) (notFace_of_selects (args := #[]) (mvT hZ (hw _ (List.mem_of_getElem? (i := 47) rfl)))) (mvT hZ (hw _ (List.mem_of_getElem? (i := 47) rfl))) (mvT hZ (hw _ (List.mem_of_getElem? (i := 46) rfl))) (by decide) (backOf (W := 0) (rm_1 l Z a0 hw [] ka vv lo hi (0 : Int32) h79 O79_ Fk Gk (by (try simp only [lw_lt, lw_gt, lw_eq] at hc409_84 hc416_88); simp only [hc409_84, hc416_88, if_true, if_false, ite_self, eq_self, not_false_eq_true, true_or, or_true, false_or, or_false, or_self])) hZ (hw _ (List.mem_of_getElem? (i := 48) rfl)) (hw _ (List.mem_of_getElem? (i := 3) rfl)) (by decide) (by decide)) q91a q91c (g := (mkF m 432 #[.val (.int x0), .val (.int x1), .val (.int x2), .val (.ref b1), .val (.ref b40), .val (.ref b60), .val (.int k), .val (.int lo), .val (.int hi), .val (.int sel), .val (.int vv), .val (.int (0 : Int32))] [(.int vv), (.ref ka)])) rfl (by rw [hml]; rfl) (Steps.refl _) (argsL := [(.int vv)]) (rest := []) (lenOf pd_LSRZ rfl) rfl (by show 2 * 0 + _ ≤ _; exact Nat.le_of_eq rfl) (hb hby at_432) (fun _ _ => ⟨rfl, ec83, (by decide : 3 + 0 ≤ _), (by decide : 57 + 0 ≤ _)⟩)
        dsimp only [Pt.U, Pt.locs, Pt.cells, Pt.slots] at X91 l91 y91 z91 st91 hQ91
        subst l91 y91 z91
        obtain ⟨rfl, Nq91, e91⟩ := hQ91
        have N91_ := Fr.app Nc83 Nq91
        refine Go.trans st91 ?_
        show Go _ _ _ _ _ _ _ _ T91 (mkF m 435 #[.val (.int x0), .val (.int x1), .val (.int x2), .val (.ref b1), .val (.ref b40), .val (.ref b60), .val (.int k), .val (.int lo), .val (.int hi), .val (.int sel), .val (.int vv), .val (.int (0 : Int32))] [(.int (0 : Int32))])
        refine Go.step (fun _ kt_ => XS.iload X91.here hx rfl (hb hby at_435) rfl kt_) ?_
        show Go _ _ _ _ _ _ _ _ T91 (mkF m 437 #[.val (.int x0), .val (.int x1), .val (.int x2), .val (.ref b1), .val (.ref b40), .val (.ref b60), .val (.int k), .val (.int lo), .val (.int hi), .val (.int sel), .val (.int vv), .val (.int (0 : Int32))] [(.int (0 : Int32)), (.int (0 : Int32))])
        refine Go.step (fun _ kt_ => XS.icmpNo X91.here hx rfl (hb hby at_437) rfl (teq (by decide : (0 : Int32) = (0 : Int32))).2 kt_) ?_
        show Go _ _ _ _ _ _ _ _ T91 (mkF m 440 #[.val (.int x0), .val (.int x1), .val (.int x2), .val (.ref b1), .val (.ref b40), .val (.ref b60), .val (.int k), .val (.int lo), .val (.int hi), .val (.int sel), .val (.int vv), .val (.int (0 : Int32))] [])
        refine Go.step (fun _ kt_ => XS.iconst X91.here hx rfl (hb hby at_440)  kt_) ?_
        show Go _ _ _ _ _ _ _ _ T91 (mkF m 441 #[.val (.int x0), .val (.int x1), .val (.int x2), .val (.ref b1), .val (.ref b40), .val (.ref b60), .val (.int k), .val (.int lo), .val (.int hi), .val (.int sel), .val (.int vv), .val (.int (0 : Int32))] [(.int (1 : Int32))])
        refine Go.step (fun _ kt_ => XS.goto X91.here hx rfl (pc0 := 441) (pc' := 445) rfl (hb hby at_441) (by decide) (by decide) kt_) ?_
        show Go _ _ _ _ _ _ _ _ T91 (mkF m 445 #[.val (.int x0), .val (.int x1), .val (.int x2), .val (.ref b1), .val (.ref b40), .val (.ref b60), .val (.int k), .val (.int lo), .val (.int hi), .val (.int sel), .val (.int vv), .val (.int (0 : Int32))] [(.int (1 : Int32))])
        exact Go.retN X91 hx (t := .boolean) Bd.returns (by simp) hlk (hb hby at_445) (by decide) (by decide) (by show _ ∧ _ ∧ _; exact ⟨rfl, N91_, trivial⟩)
      · refine Go.step (fun _ kt_ => XS.icmpNo Xc83.here hx rfl (hb hby at_416) rfl (flt hc416_88).2.2.1 kt_) ?_
        show Go _ _ _ _ _ _ _ _ Tc83 (mkF m 419 #[.val (.int x0), .val (.int x1), .val (.int x2), .val (.ref b1), .val (.ref b40), .val (.ref b60), .val (.int k), .val (.int lo), .val (.int hi), .val (.int sel), .val (.int vv), .unset] [])
        refine Go.step (fun _ kt_ => XS.iconst Xc83.here hx rfl (hb hby at_419)  kt_) ?_
        show Go _ _ _ _ _ _ _ _ Tc83 (mkF m 420 #[.val (.int x0), .val (.int x1), .val (.int x2), .val (.ref b1), .val (.ref b40), .val (.ref b60), .val (.int k), .val (.int lo), .val (.int hi), .val (.int sel), .val (.int vv), .unset] [(.int (1 : Int32))])
        refine Go.step (fun _ kt_ => XS.goto Xc83.here hx rfl (pc0 := 420) (pc' := 424) rfl (hb hby at_420) (by decide) (by decide) kt_) ?_
        show Go _ _ _ _ _ _ _ _ Tc83 (mkF m 424 #[.val (.int x0), .val (.int x1), .val (.int x2), .val (.ref b1), .val (.ref b40), .val (.ref b60), .val (.int k), .val (.int lo), .val (.int hi), .val (.int sel), .val (.int vv), .unset] [(.int (1 : Int32))])
        refine Go.step (fun _ kt_ => XS.istore Xc83.here hx rfl (hb hby at_424) rfl (l' := #[.val (.int x0), .val (.int x1), .val (.int x2), .val (.ref b1), .val (.ref b40), .val (.ref b60), .val (.int k), .val (.int lo), .val (.int hi), .val (.int sel), .val (.int vv), .val (.int (1 : Int32))]) rfl kt_) ?_
        show Go _ _ _ _ _ _ _ _ Tc83 (mkF m 426 #[.val (.int x0), .val (.int x1), .val (.int x2), .val (.ref b1), .val (.ref b40), .val (.ref b60), .val (.int k), .val (.int lo), .val (.int hi), .val (.int sel), .val (.int vv), .val (.int (1 : Int32))] [])
        refine Go.step (fun _ kt_ => XS.aloadN Xc83.here hx rfl (hb hby at_426) rfl rfl kt_) ?_
        show Go _ _ _ _ _ _ _ _ Tc83 (mkF m 427 #[.val (.int x0), .val (.int x1), .val (.int x2), .val (.ref b1), .val (.ref b40), .val (.ref b60), .val (.int k), .val (.int lo), .val (.int hi), .val (.int sel), .val (.int vv), .val (.int (1 : Int32))] [(.ref b1)])
        refine Go.step (fun _ kt_ => XS.iload Xc83.here hx rfl (hb hby at_427) rfl kt_) ?_
        show Go _ _ _ _ _ _ _ _ Tc83 (mkF m 429 #[.val (.int x0), .val (.int x1), .val (.int x2), .val (.ref b1), .val (.ref b40), .val (.ref b60), .val (.int k), .val (.int lo), .val (.int hi), .val (.int sel), .val (.int vv), .val (.int (1 : Int32))] [(.int k), (.ref b1)])
        have f93 := ((((((((((((((((((((((((((((((((((((((((V39.ext E40).other W41 (Nat.ne_of_lt (Nat.lt_of_lt_of_le (Exa.wr W39 (Exa.wr W37 (Exa.wr W35 (Exa.wr W33 (Exa.wr W31 (Exa.wr W29 (Exa.wr W27 (Exa.wr W25 (Exa.wr W23 (Exa.wr W21 (Exa.wr W19 (Exa.wr W17 (Exa.wr W15 (Exa.wr W13 (Exa.wr W11 (Exa.wr W9 (Exa.wr W7 (Exa.wr W5 (Exa.wr W3 B1))))))))))))))))))).lt (Nat.le_of_eq hb40.symm)))).other W42 (Nat.ne_of_lt (Nat.lt_of_lt_of_le (Exa.wr W39 (Exa.wr W37 (Exa.wr W35 (Exa.wr W33 (Exa.wr W31 (Exa.wr W29 (Exa.wr W27 (Exa.wr W25 (Exa.wr W23 (Exa.wr W21 (Exa.wr W19 (Exa.wr W17 (Exa.wr W15 (Exa.wr W13 (Exa.wr W11 (Exa.wr W9 (Exa.wr W7 (Exa.wr W5 (Exa.wr W3 B1))))))))))))))))))).lt (Nat.le_of_eq hb40.symm)))).other W43 (Nat.ne_of_lt (Nat.lt_of_lt_of_le (Exa.wr W39 (Exa.wr W37 (Exa.wr W35 (Exa.wr W33 (Exa.wr W31 (Exa.wr W29 (Exa.wr W27 (Exa.wr W25 (Exa.wr W23 (Exa.wr W21 (Exa.wr W19 (Exa.wr W17 (Exa.wr W15 (Exa.wr W13 (Exa.wr W11 (Exa.wr W9 (Exa.wr W7 (Exa.wr W5 (Exa.wr W3 B1))))))))))))))))))).lt (Nat.le_of_eq hb40.symm)))).other W44 (Nat.ne_of_lt (Nat.lt_of_lt_of_le (Exa.wr W39 (Exa.wr W37 (Exa.wr W35 (Exa.wr W33 (Exa.wr W31 (Exa.wr W29 (Exa.wr W27 (Exa.wr W25 (Exa.wr W23 (Exa.wr W21 (Exa.wr W19 (Exa.wr W17 (Exa.wr W15 (Exa.wr W13 (Exa.wr W11 (Exa.wr W9 (Exa.wr W7 (Exa.wr W5 (Exa.wr W3 B1))))))))))))))))))).lt (Nat.le_of_eq hb40.symm)))).other W45 (Nat.ne_of_lt (Nat.lt_of_lt_of_le (Exa.wr W39 (Exa.wr W37 (Exa.wr W35 (Exa.wr W33 (Exa.wr W31 (Exa.wr W29 (Exa.wr W27 (Exa.wr W25 (Exa.wr W23 (Exa.wr W21 (Exa.wr W19 (Exa.wr W17 (Exa.wr W15 (Exa.wr W13 (Exa.wr W11 (Exa.wr W9 (Exa.wr W7 (Exa.wr W5 (Exa.wr W3 B1))))))))))))))))))).lt (Nat.le_of_eq hb40.symm)))).other W46 (Nat.ne_of_lt (Nat.lt_of_lt_of_le (Exa.wr W39 (Exa.wr W37 (Exa.wr W35 (Exa.wr W33 (Exa.wr W31 (Exa.wr W29 (Exa.wr W27 (Exa.wr W25 (Exa.wr W23 (Exa.wr W21 (Exa.wr W19 (Exa.wr W17 (Exa.wr W15 (Exa.wr W13 (Exa.wr W11 (Exa.wr W9 (Exa.wr W7 (Exa.wr W5 (Exa.wr W3 B1))))))))))))))))))).lt (Nat.le_of_eq hb40.symm)))).other W47 (Nat.ne_of_lt (Nat.lt_of_lt_of_le (Exa.wr W39 (Exa.wr W37 (Exa.wr W35 (Exa.wr W33 (Exa.wr W31 (Exa.wr W29 (Exa.wr W27 (Exa.wr W25 (Exa.wr W23 (Exa.wr W21 (Exa.wr W19 (Exa.wr W17 (Exa.wr W15 (Exa.wr W13 (Exa.wr W11 (Exa.wr W9 (Exa.wr W7 (Exa.wr W5 (Exa.wr W3 B1))))))))))))))))))).lt (Nat.le_of_eq hb40.symm)))).other W48 (Nat.ne_of_lt (Nat.lt_of_lt_of_le (Exa.wr W39 (Exa.wr W37 (Exa.wr W35 (Exa.wr W33 (Exa.wr W31 (Exa.wr W29 (Exa.wr W27 (Exa.wr W25 (Exa.wr W23 (Exa.wr W21 (Exa.wr W19 (Exa.wr W17 (Exa.wr W15 (Exa.wr W13 (Exa.wr W11 (Exa.wr W9 (Exa.wr W7 (Exa.wr W5 (Exa.wr W3 B1))))))))))))))))))).lt (Nat.le_of_eq hb40.symm)))).other W49 (Nat.ne_of_lt (Nat.lt_of_lt_of_le (Exa.wr W39 (Exa.wr W37 (Exa.wr W35 (Exa.wr W33 (Exa.wr W31 (Exa.wr W29 (Exa.wr W27 (Exa.wr W25 (Exa.wr W23 (Exa.wr W21 (Exa.wr W19 (Exa.wr W17 (Exa.wr W15 (Exa.wr W13 (Exa.wr W11 (Exa.wr W9 (Exa.wr W7 (Exa.wr W5 (Exa.wr W3 B1))))))))))))))))))).lt (Nat.le_of_eq hb40.symm)))).other W50 (Nat.ne_of_lt (Nat.lt_of_lt_of_le (Exa.wr W39 (Exa.wr W37 (Exa.wr W35 (Exa.wr W33 (Exa.wr W31 (Exa.wr W29 (Exa.wr W27 (Exa.wr W25 (Exa.wr W23 (Exa.wr W21 (Exa.wr W19 (Exa.wr W17 (Exa.wr W15 (Exa.wr W13 (Exa.wr W11 (Exa.wr W9 (Exa.wr W7 (Exa.wr W5 (Exa.wr W3 B1))))))))))))))))))).lt (Nat.le_of_eq hb40.symm)))).other W51 (Nat.ne_of_lt (Nat.lt_of_lt_of_le (Exa.wr W39 (Exa.wr W37 (Exa.wr W35 (Exa.wr W33 (Exa.wr W31 (Exa.wr W29 (Exa.wr W27 (Exa.wr W25 (Exa.wr W23 (Exa.wr W21 (Exa.wr W19 (Exa.wr W17 (Exa.wr W15 (Exa.wr W13 (Exa.wr W11 (Exa.wr W9 (Exa.wr W7 (Exa.wr W5 (Exa.wr W3 B1))))))))))))))))))).lt (Nat.le_of_eq hb40.symm)))).other W52 (Nat.ne_of_lt (Nat.lt_of_lt_of_le (Exa.wr W39 (Exa.wr W37 (Exa.wr W35 (Exa.wr W33 (Exa.wr W31 (Exa.wr W29 (Exa.wr W27 (Exa.wr W25 (Exa.wr W23 (Exa.wr W21 (Exa.wr W19 (Exa.wr W17 (Exa.wr W15 (Exa.wr W13 (Exa.wr W11 (Exa.wr W9 (Exa.wr W7 (Exa.wr W5 (Exa.wr W3 B1))))))))))))))))))).lt (Nat.le_of_eq hb40.symm)))).other W53 (Nat.ne_of_lt (Nat.lt_of_lt_of_le (Exa.wr W39 (Exa.wr W37 (Exa.wr W35 (Exa.wr W33 (Exa.wr W31 (Exa.wr W29 (Exa.wr W27 (Exa.wr W25 (Exa.wr W23 (Exa.wr W21 (Exa.wr W19 (Exa.wr W17 (Exa.wr W15 (Exa.wr W13 (Exa.wr W11 (Exa.wr W9 (Exa.wr W7 (Exa.wr W5 (Exa.wr W3 B1))))))))))))))))))).lt (Nat.le_of_eq hb40.symm)))).other W54 (Nat.ne_of_lt (Nat.lt_of_lt_of_le (Exa.wr W39 (Exa.wr W37 (Exa.wr W35 (Exa.wr W33 (Exa.wr W31 (Exa.wr W29 (Exa.wr W27 (Exa.wr W25 (Exa.wr W23 (Exa.wr W21 (Exa.wr W19 (Exa.wr W17 (Exa.wr W15 (Exa.wr W13 (Exa.wr W11 (Exa.wr W9 (Exa.wr W7 (Exa.wr W5 (Exa.wr W3 B1))))))))))))))))))).lt (Nat.le_of_eq hb40.symm)))).other W55 (Nat.ne_of_lt (Nat.lt_of_lt_of_le (Exa.wr W39 (Exa.wr W37 (Exa.wr W35 (Exa.wr W33 (Exa.wr W31 (Exa.wr W29 (Exa.wr W27 (Exa.wr W25 (Exa.wr W23 (Exa.wr W21 (Exa.wr W19 (Exa.wr W17 (Exa.wr W15 (Exa.wr W13 (Exa.wr W11 (Exa.wr W9 (Exa.wr W7 (Exa.wr W5 (Exa.wr W3 B1))))))))))))))))))).lt (Nat.le_of_eq hb40.symm)))).other W56 (Nat.ne_of_lt (Nat.lt_of_lt_of_le (Exa.wr W39 (Exa.wr W37 (Exa.wr W35 (Exa.wr W33 (Exa.wr W31 (Exa.wr W29 (Exa.wr W27 (Exa.wr W25 (Exa.wr W23 (Exa.wr W21 (Exa.wr W19 (Exa.wr W17 (Exa.wr W15 (Exa.wr W13 (Exa.wr W11 (Exa.wr W9 (Exa.wr W7 (Exa.wr W5 (Exa.wr W3 B1))))))))))))))))))).lt (Nat.le_of_eq hb40.symm)))).other W57 (Nat.ne_of_lt (Nat.lt_of_lt_of_le (Exa.wr W39 (Exa.wr W37 (Exa.wr W35 (Exa.wr W33 (Exa.wr W31 (Exa.wr W29 (Exa.wr W27 (Exa.wr W25 (Exa.wr W23 (Exa.wr W21 (Exa.wr W19 (Exa.wr W17 (Exa.wr W15 (Exa.wr W13 (Exa.wr W11 (Exa.wr W9 (Exa.wr W7 (Exa.wr W5 (Exa.wr W3 B1))))))))))))))))))).lt (Nat.le_of_eq hb40.symm)))).other W58 (Nat.ne_of_lt (Nat.lt_of_lt_of_le (Exa.wr W39 (Exa.wr W37 (Exa.wr W35 (Exa.wr W33 (Exa.wr W31 (Exa.wr W29 (Exa.wr W27 (Exa.wr W25 (Exa.wr W23 (Exa.wr W21 (Exa.wr W19 (Exa.wr W17 (Exa.wr W15 (Exa.wr W13 (Exa.wr W11 (Exa.wr W9 (Exa.wr W7 (Exa.wr W5 (Exa.wr W3 B1))))))))))))))))))).lt (Nat.le_of_eq hb40.symm)))).other W59 (Nat.ne_of_lt (Nat.lt_of_lt_of_le (Exa.wr W39 (Exa.wr W37 (Exa.wr W35 (Exa.wr W33 (Exa.wr W31 (Exa.wr W29 (Exa.wr W27 (Exa.wr W25 (Exa.wr W23 (Exa.wr W21 (Exa.wr W19 (Exa.wr W17 (Exa.wr W15 (Exa.wr W13 (Exa.wr W11 (Exa.wr W9 (Exa.wr W7 (Exa.wr W5 (Exa.wr W3 B1))))))))))))))))))).lt (Nat.le_of_eq hb40.symm)))).ext E60).other W61 (Nat.ne_of_lt (Nat.lt_of_lt_of_le (Exa.wr W59 (Exa.wr W58 (Exa.wr W57 (Exa.wr W56 (Exa.wr W55 (Exa.wr W54 (Exa.wr W53 (Exa.wr W52 (Exa.wr W51 (Exa.wr W50 (Exa.wr W49 (Exa.wr W48 (Exa.wr W47 (Exa.wr W46 (Exa.wr W45 (Exa.wr W44 (Exa.wr W43 (Exa.wr W42 (Exa.wr W41 (Exa.ext E40 (Exa.wr W39 (Exa.wr W37 (Exa.wr W35 (Exa.wr W33 (Exa.wr W31 (Exa.wr W29 (Exa.wr W27 (Exa.wr W25 (Exa.wr W23 (Exa.wr W21 (Exa.wr W19 (Exa.wr W17 (Exa.wr W15 (Exa.wr W13 (Exa.wr W11 (Exa.wr W9 (Exa.wr W7 (Exa.wr W5 (Exa.wr W3 B1))))))))))))))))))))))))))))))))))))))).lt (Nat.le_of_eq hb60.symm)))).other W62 (Nat.ne_of_lt (Nat.lt_of_lt_of_le (Exa.wr W59 (Exa.wr W58 (Exa.wr W57 (Exa.wr W56 (Exa.wr W55 (Exa.wr W54 (Exa.wr W53 (Exa.wr W52 (Exa.wr W51 (Exa.wr W50 (Exa.wr W49 (Exa.wr W48 (Exa.wr W47 (Exa.wr W46 (Exa.wr W45 (Exa.wr W44 (Exa.wr W43 (Exa.wr W42 (Exa.wr W41 (Exa.ext E40 (Exa.wr W39 (Exa.wr W37 (Exa.wr W35 (Exa.wr W33 (Exa.wr W31 (Exa.wr W29 (Exa.wr W27 (Exa.wr W25 (Exa.wr W23 (Exa.wr W21 (Exa.wr W19 (Exa.wr W17 (Exa.wr W15 (Exa.wr W13 (Exa.wr W11 (Exa.wr W9 (Exa.wr W7 (Exa.wr W5 (Exa.wr W3 B1))))))))))))))))))))))))))))))))))))))).lt (Nat.le_of_eq hb60.symm)))).other W63 (Nat.ne_of_lt (Nat.lt_of_lt_of_le (Exa.wr W59 (Exa.wr W58 (Exa.wr W57 (Exa.wr W56 (Exa.wr W55 (Exa.wr W54 (Exa.wr W53 (Exa.wr W52 (Exa.wr W51 (Exa.wr W50 (Exa.wr W49 (Exa.wr W48 (Exa.wr W47 (Exa.wr W46 (Exa.wr W45 (Exa.wr W44 (Exa.wr W43 (Exa.wr W42 (Exa.wr W41 (Exa.ext E40 (Exa.wr W39 (Exa.wr W37 (Exa.wr W35 (Exa.wr W33 (Exa.wr W31 (Exa.wr W29 (Exa.wr W27 (Exa.wr W25 (Exa.wr W23 (Exa.wr W21 (Exa.wr W19 (Exa.wr W17 (Exa.wr W15 (Exa.wr W13 (Exa.wr W11 (Exa.wr W9 (Exa.wr W7 (Exa.wr W5 (Exa.wr W3 B1))))))))))))))))))))))))))))))))))))))).lt (Nat.le_of_eq hb60.symm)))).other W64 (Nat.ne_of_lt (Nat.lt_of_lt_of_le (Exa.wr W59 (Exa.wr W58 (Exa.wr W57 (Exa.wr W56 (Exa.wr W55 (Exa.wr W54 (Exa.wr W53 (Exa.wr W52 (Exa.wr W51 (Exa.wr W50 (Exa.wr W49 (Exa.wr W48 (Exa.wr W47 (Exa.wr W46 (Exa.wr W45 (Exa.wr W44 (Exa.wr W43 (Exa.wr W42 (Exa.wr W41 (Exa.ext E40 (Exa.wr W39 (Exa.wr W37 (Exa.wr W35 (Exa.wr W33 (Exa.wr W31 (Exa.wr W29 (Exa.wr W27 (Exa.wr W25 (Exa.wr W23 (Exa.wr W21 (Exa.wr W19 (Exa.wr W17 (Exa.wr W15 (Exa.wr W13 (Exa.wr W11 (Exa.wr W9 (Exa.wr W7 (Exa.wr W5 (Exa.wr W3 B1))))))))))))))))))))))))))))))))))))))).lt (Nat.le_of_eq hb60.symm)))).other W65 (Nat.ne_of_lt (Nat.lt_of_lt_of_le (Exa.wr W59 (Exa.wr W58 (Exa.wr W57 (Exa.wr W56 (Exa.wr W55 (Exa.wr W54 (Exa.wr W53 (Exa.wr W52 (Exa.wr W51 (Exa.wr W50 (Exa.wr W49 (Exa.wr W48 (Exa.wr W47 (Exa.wr W46 (Exa.wr W45 (Exa.wr W44 (Exa.wr W43 (Exa.wr W42 (Exa.wr W41 (Exa.ext E40 (Exa.wr W39 (Exa.wr W37 (Exa.wr W35 (Exa.wr W33 (Exa.wr W31 (Exa.wr W29 (Exa.wr W27 (Exa.wr W25 (Exa.wr W23 (Exa.wr W21 (Exa.wr W19 (Exa.wr W17 (Exa.wr W15 (Exa.wr W13 (Exa.wr W11 (Exa.wr W9 (Exa.wr W7 (Exa.wr W5 (Exa.wr W3 B1))))))))))))))))))))))))))))))))))))))).lt (Nat.le_of_eq hb60.symm)))).other W66 (Nat.ne_of_lt (Nat.lt_of_lt_of_le (Exa.wr W59 (Exa.wr W58 (Exa.wr W57 (Exa.wr W56 (Exa.wr W55 (Exa.wr W54 (Exa.wr W53 (Exa.wr W52 (Exa.wr W51 (Exa.wr W50 (Exa.wr W49 (Exa.wr W48 (Exa.wr W47 (Exa.wr W46 (Exa.wr W45 (Exa.wr W44 (Exa.wr W43 (Exa.wr W42 (Exa.wr W41 (Exa.ext E40 (Exa.wr W39 (Exa.wr W37 (Exa.wr W35 (Exa.wr W33 (Exa.wr W31 (Exa.wr W29 (Exa.wr W27 (Exa.wr W25 (Exa.wr W23 (Exa.wr W21 (Exa.wr W19 (Exa.wr W17 (Exa.wr W15 (Exa.wr W13 (Exa.wr W11 (Exa.wr W9 (Exa.wr W7 (Exa.wr W5 (Exa.wr W3 B1))))))))))))))))))))))))))))))))))))))).lt (Nat.le_of_eq hb60.symm)))).other W67 (Nat.ne_of_lt (Nat.lt_of_lt_of_le (Exa.wr W59 (Exa.wr W58 (Exa.wr W57 (Exa.wr W56 (Exa.wr W55 (Exa.wr W54 (Exa.wr W53 (Exa.wr W52 (Exa.wr W51 (Exa.wr W50 (Exa.wr W49 (Exa.wr W48 (Exa.wr W47 (Exa.wr W46 (Exa.wr W45 (Exa.wr W44 (Exa.wr W43 (Exa.wr W42 (Exa.wr W41 (Exa.ext E40 (Exa.wr W39 (Exa.wr W37 (Exa.wr W35 (Exa.wr W33 (Exa.wr W31 (Exa.wr W29 (Exa.wr W27 (Exa.wr W25 (Exa.wr W23 (Exa.wr W21 (Exa.wr W19 (Exa.wr W17 (Exa.wr W15 (Exa.wr W13 (Exa.wr W11 (Exa.wr W9 (Exa.wr W7 (Exa.wr W5 (Exa.wr W3 B1))))))))))))))))))))))))))))))))))))))).lt (Nat.le_of_eq hb60.symm)))).other W68 (Nat.ne_of_lt (Nat.lt_of_lt_of_le (Exa.wr W59 (Exa.wr W58 (Exa.wr W57 (Exa.wr W56 (Exa.wr W55 (Exa.wr W54 (Exa.wr W53 (Exa.wr W52 (Exa.wr W51 (Exa.wr W50 (Exa.wr W49 (Exa.wr W48 (Exa.wr W47 (Exa.wr W46 (Exa.wr W45 (Exa.wr W44 (Exa.wr W43 (Exa.wr W42 (Exa.wr W41 (Exa.ext E40 (Exa.wr W39 (Exa.wr W37 (Exa.wr W35 (Exa.wr W33 (Exa.wr W31 (Exa.wr W29 (Exa.wr W27 (Exa.wr W25 (Exa.wr W23 (Exa.wr W21 (Exa.wr W19 (Exa.wr W17 (Exa.wr W15 (Exa.wr W13 (Exa.wr W11 (Exa.wr W9 (Exa.wr W7 (Exa.wr W5 (Exa.wr W3 B1))))))))))))))))))))))))))))))))))))))).lt (Nat.le_of_eq hb60.symm)))).other W69 (Nat.ne_of_lt (Nat.lt_of_lt_of_le (Exa.wr W59 (Exa.wr W58 (Exa.wr W57 (Exa.wr W56 (Exa.wr W55 (Exa.wr W54 (Exa.wr W53 (Exa.wr W52 (Exa.wr W51 (Exa.wr W50 (Exa.wr W49 (Exa.wr W48 (Exa.wr W47 (Exa.wr W46 (Exa.wr W45 (Exa.wr W44 (Exa.wr W43 (Exa.wr W42 (Exa.wr W41 (Exa.ext E40 (Exa.wr W39 (Exa.wr W37 (Exa.wr W35 (Exa.wr W33 (Exa.wr W31 (Exa.wr W29 (Exa.wr W27 (Exa.wr W25 (Exa.wr W23 (Exa.wr W21 (Exa.wr W19 (Exa.wr W17 (Exa.wr W15 (Exa.wr W13 (Exa.wr W11 (Exa.wr W9 (Exa.wr W7 (Exa.wr W5 (Exa.wr W3 B1))))))))))))))))))))))))))))))))))))))).lt (Nat.le_of_eq hb60.symm)))).other W70 (Nat.ne_of_lt (Nat.lt_of_lt_of_le (Exa.wr W59 (Exa.wr W58 (Exa.wr W57 (Exa.wr W56 (Exa.wr W55 (Exa.wr W54 (Exa.wr W53 (Exa.wr W52 (Exa.wr W51 (Exa.wr W50 (Exa.wr W49 (Exa.wr W48 (Exa.wr W47 (Exa.wr W46 (Exa.wr W45 (Exa.wr W44 (Exa.wr W43 (Exa.wr W42 (Exa.wr W41 (Exa.ext E40 (Exa.wr W39 (Exa.wr W37 (Exa.wr W35 (Exa.wr W33 (Exa.wr W31 (Exa.wr W29 (Exa.wr W27 (Exa.wr W25 (Exa.wr W23 (Exa.wr W21 (Exa.wr W19 (Exa.wr W17 (Exa.wr W15 (Exa.wr W13 (Exa.wr W11 (Exa.wr W9 (Exa.wr W7 (Exa.wr W5 (Exa.wr W3 B1))))))))))))))))))))))))))))))))))))))).lt (Nat.le_of_eq hb60.symm)))).other W71 (Nat.ne_of_lt (Nat.lt_of_lt_of_le (Exa.wr W59 (Exa.wr W58 (Exa.wr W57 (Exa.wr W56 (Exa.wr W55 (Exa.wr W54 (Exa.wr W53 (Exa.wr W52 (Exa.wr W51 (Exa.wr W50 (Exa.wr W49 (Exa.wr W48 (Exa.wr W47 (Exa.wr W46 (Exa.wr W45 (Exa.wr W44 (Exa.wr W43 (Exa.wr W42 (Exa.wr W41 (Exa.ext E40 (Exa.wr W39 (Exa.wr W37 (Exa.wr W35 (Exa.wr W33 (Exa.wr W31 (Exa.wr W29 (Exa.wr W27 (Exa.wr W25 (Exa.wr W23 (Exa.wr W21 (Exa.wr W19 (Exa.wr W17 (Exa.wr W15 (Exa.wr W13 (Exa.wr W11 (Exa.wr W9 (Exa.wr W7 (Exa.wr W5 (Exa.wr W3 B1))))))))))))))))))))))))))))))))))))))).lt (Nat.le_of_eq hb60.symm)))).other W72 (Nat.ne_of_lt (Nat.lt_of_lt_of_le (Exa.wr W59 (Exa.wr W58 (Exa.wr W57 (Exa.wr W56 (Exa.wr W55 (Exa.wr W54 (Exa.wr W53 (Exa.wr W52 (Exa.wr W51 (Exa.wr W50 (Exa.wr W49 (Exa.wr W48 (Exa.wr W47 (Exa.wr W46 (Exa.wr W45 (Exa.wr W44 (Exa.wr W43 (Exa.wr W42 (Exa.wr W41 (Exa.ext E40 (Exa.wr W39 (Exa.wr W37 (Exa.wr W35 (Exa.wr W33 (Exa.wr W31 (Exa.wr W29 (Exa.wr W27 (Exa.wr W25 (Exa.wr W23 (Exa.wr W21 (Exa.wr W19 (Exa.wr W17 (Exa.wr W15 (Exa.wr W13 (Exa.wr W11 (Exa.wr W9 (Exa.wr W7 (Exa.wr W5 (Exa.wr W3 B1))))))))))))))))))))))))))))))))))))))).lt (Nat.le_of_eq hb60.symm)))).other W73 (Nat.ne_of_lt (Nat.lt_of_lt_of_le (Exa.wr W59 (Exa.wr W58 (Exa.wr W57 (Exa.wr W56 (Exa.wr W55 (Exa.wr W54 (Exa.wr W53 (Exa.wr W52 (Exa.wr W51 (Exa.wr W50 (Exa.wr W49 (Exa.wr W48 (Exa.wr W47 (Exa.wr W46 (Exa.wr W45 (Exa.wr W44 (Exa.wr W43 (Exa.wr W42 (Exa.wr W41 (Exa.ext E40 (Exa.wr W39 (Exa.wr W37 (Exa.wr W35 (Exa.wr W33 (Exa.wr W31 (Exa.wr W29 (Exa.wr W27 (Exa.wr W25 (Exa.wr W23 (Exa.wr W21 (Exa.wr W19 (Exa.wr W17 (Exa.wr W15 (Exa.wr W13 (Exa.wr W11 (Exa.wr W9 (Exa.wr W7 (Exa.wr W5 (Exa.wr W3 B1))))))))))))))))))))))))))))))))))))))).lt (Nat.le_of_eq hb60.symm)))).other W74 (Nat.ne_of_lt (Nat.lt_of_lt_of_le (Exa.wr W59 (Exa.wr W58 (Exa.wr W57 (Exa.wr W56 (Exa.wr W55 (Exa.wr W54 (Exa.wr W53 (Exa.wr W52 (Exa.wr W51 (Exa.wr W50 (Exa.wr W49 (Exa.wr W48 (Exa.wr W47 (Exa.wr W46 (Exa.wr W45 (Exa.wr W44 (Exa.wr W43 (Exa.wr W42 (Exa.wr W41 (Exa.ext E40 (Exa.wr W39 (Exa.wr W37 (Exa.wr W35 (Exa.wr W33 (Exa.wr W31 (Exa.wr W29 (Exa.wr W27 (Exa.wr W25 (Exa.wr W23 (Exa.wr W21 (Exa.wr W19 (Exa.wr W17 (Exa.wr W15 (Exa.wr W13 (Exa.wr W11 (Exa.wr W9 (Exa.wr W7 (Exa.wr W5 (Exa.wr W3 B1))))))))))))))))))))))))))))))))))))))).lt (Nat.le_of_eq hb60.symm)))).other W75 (Nat.ne_of_lt (Nat.lt_of_lt_of_le (Exa.wr W59 (Exa.wr W58 (Exa.wr W57 (Exa.wr W56 (Exa.wr W55 (Exa.wr W54 (Exa.wr W53 (Exa.wr W52 (Exa.wr W51 (Exa.wr W50 (Exa.wr W49 (Exa.wr W48 (Exa.wr W47 (Exa.wr W46 (Exa.wr W45 (Exa.wr W44 (Exa.wr W43 (Exa.wr W42 (Exa.wr W41 (Exa.ext E40 (Exa.wr W39 (Exa.wr W37 (Exa.wr W35 (Exa.wr W33 (Exa.wr W31 (Exa.wr W29 (Exa.wr W27 (Exa.wr W25 (Exa.wr W23 (Exa.wr W21 (Exa.wr W19 (Exa.wr W17 (Exa.wr W15 (Exa.wr W13 (Exa.wr W11 (Exa.wr W9 (Exa.wr W7 (Exa.wr W5 (Exa.wr W3 B1))))))))))))))))))))))))))))))))))))))).lt (Nat.le_of_eq hb60.symm)))).other W76 (Nat.ne_of_lt (Nat.lt_of_lt_of_le (Exa.wr W59 (Exa.wr W58 (Exa.wr W57 (Exa.wr W56 (Exa.wr W55 (Exa.wr W54 (Exa.wr W53 (Exa.wr W52 (Exa.wr W51 (Exa.wr W50 (Exa.wr W49 (Exa.wr W48 (Exa.wr W47 (Exa.wr W46 (Exa.wr W45 (Exa.wr W44 (Exa.wr W43 (Exa.wr W42 (Exa.wr W41 (Exa.ext E40 (Exa.wr W39 (Exa.wr W37 (Exa.wr W35 (Exa.wr W33 (Exa.wr W31 (Exa.wr W29 (Exa.wr W27 (Exa.wr W25 (Exa.wr W23 (Exa.wr W21 (Exa.wr W19 (Exa.wr W17 (Exa.wr W15 (Exa.wr W13 (Exa.wr W11 (Exa.wr W9 (Exa.wr W7 (Exa.wr W5 (Exa.wr W3 B1))))))))))))))))))))))))))))))))))))))).lt (Nat.le_of_eq hb60.symm)))).other W77 (Nat.ne_of_lt (Nat.lt_of_lt_of_le (Exa.wr W59 (Exa.wr W58 (Exa.wr W57 (Exa.wr W56 (Exa.wr W55 (Exa.wr W54 (Exa.wr W53 (Exa.wr W52 (Exa.wr W51 (Exa.wr W50 (Exa.wr W49 (Exa.wr W48 (Exa.wr W47 (Exa.wr W46 (Exa.wr W45 (Exa.wr W44 (Exa.wr W43 (Exa.wr W42 (Exa.wr W41 (Exa.ext E40 (Exa.wr W39 (Exa.wr W37 (Exa.wr W35 (Exa.wr W33 (Exa.wr W31 (Exa.wr W29 (Exa.wr W27 (Exa.wr W25 (Exa.wr W23 (Exa.wr W21 (Exa.wr W19 (Exa.wr W17 (Exa.wr W15 (Exa.wr W13 (Exa.wr W11 (Exa.wr W9 (Exa.wr W7 (Exa.wr W5 (Exa.wr W3 B1))))))))))))))))))))))))))))))))))))))).lt (Nat.le_of_eq hb60.symm)))).other W78 (Nat.ne_of_lt (Nat.lt_of_lt_of_le (Exa.wr W59 (Exa.wr W58 (Exa.wr W57 (Exa.wr W56 (Exa.wr W55 (Exa.wr W54 (Exa.wr W53 (Exa.wr W52 (Exa.wr W51 (Exa.wr W50 (Exa.wr W49 (Exa.wr W48 (Exa.wr W47 (Exa.wr W46 (Exa.wr W45 (Exa.wr W44 (Exa.wr W43 (Exa.wr W42 (Exa.wr W41 (Exa.ext E40 (Exa.wr W39 (Exa.wr W37 (Exa.wr W35 (Exa.wr W33 (Exa.wr W31 (Exa.wr W29 (Exa.wr W27 (Exa.wr W25 (Exa.wr W23 (Exa.wr W21 (Exa.wr W19 (Exa.wr W17 (Exa.wr W15 (Exa.wr W13 (Exa.wr W11 (Exa.wr W9 (Exa.wr W7 (Exa.wr W5 (Exa.wr W3 B1))))))))))))))))))))))))))))))))))))))).lt (Nat.le_of_eq hb60.symm)))).other W79 (Nat.ne_of_lt (Nat.lt_of_lt_of_le (Exa.wr W59 (Exa.wr W58 (Exa.wr W57 (Exa.wr W56 (Exa.wr W55 (Exa.wr W54 (Exa.wr W53 (Exa.wr W52 (Exa.wr W51 (Exa.wr W50 (Exa.wr W49 (Exa.wr W48 (Exa.wr W47 (Exa.wr W46 (Exa.wr W45 (Exa.wr W44 (Exa.wr W43 (Exa.wr W42 (Exa.wr W41 (Exa.ext E40 (Exa.wr W39 (Exa.wr W37 (Exa.wr W35 (Exa.wr W33 (Exa.wr W31 (Exa.wr W29 (Exa.wr W27 (Exa.wr W25 (Exa.wr W23 (Exa.wr W21 (Exa.wr W19 (Exa.wr W17 (Exa.wr W15 (Exa.wr W13 (Exa.wr W11 (Exa.wr W9 (Exa.wr W7 (Exa.wr W5 (Exa.wr W3 B1))))))))))))))))))))))))))))))))))))))).lt (Nat.le_of_eq hb60.symm))))
        obtain ⟨cl92, Ar92, q92, S92, N92, H92, G92⟩ := f93
        have hin92 : ¬ (k < 0 ∨ cl92.slots.size ≤ (k).toNatClampNeg) := inb_of S92 hkb
        refine Go.step (Xc83.aaload hx (j := k) (v := (.ref ka)) (by rw [ec83]; exact Ar92.1) (State.isArrayOf_alike hZ.alike Ar92.2.1) rfl Ar92.2.2 hin92 (Has.at H92 hin92 g1) (g := (mkF m 429 #[.val (.int x0), .val (.int x1), .val (.int x2), .val (.ref b1), .val (.ref b40), .val (.ref b60), .val (.int k), .val (.int lo), .val (.int hi), .val (.int sel), .val (.int vv), .val (.int (1 : Int32))] [(.int k), (.ref b1)])) rfl rfl (hb hby at_429)) ?_
        show Go _ _ _ _ _ _ _ _ Tc83 (mkF m 430 #[.val (.int x0), .val (.int x1), .val (.int x2), .val (.ref b1), .val (.ref b40), .val (.ref b60), .val (.int k), .val (.int lo), .val (.int hi), .val (.int sel), .val (.int vv), .val (.int (1 : Int32))] [(.ref ka)])
        refine Go.step (fun _ kt_ => XS.iload Xc83.here hx rfl (hb hby at_430) rfl kt_) ?_
        show Go _ _ _ _ _ _ _ _ Tc83 (mkF m 432 #[.val (.int x0), .val (.int x1), .val (.int x2), .val (.ref b1), .val (.ref b40), .val (.ref b60), .val (.int k), .val (.int lo), .val (.int hi), .val (.int sel), .val (.int vv), .val (.int (1 : Int32))] [(.int vv), (.ref ka)])
        obtain ⟨cq94, kq94, q94a, q94b, q94c⟩ := isOf hZ ec83 (Exa.ext O79_ Xk)
        obtain ⟨_, _, ⟨T94, L94, k94, n94⟩, -, X94, ⟨Lc94, hQ94, l94, y94, z94⟩, st94⟩ := Xc83.virtualBack hx (y := (⟨"com/example/clean_epoch/cleanepoch/protocol/ApiKey", "serves", "(S)Z"⟩ : MethodName)) (z := (⟨"com/example/clean_epoch/cleanepoch/protocol/ApiKey", "serves", "(S)Z"⟩ : MethodName)) hown (mvT hZ (hw _ (List.mem_of_getElem? (i := 44) rfl))) (mvT hZ (hw _ (List.mem_of_getElem? (i := 45) rfl))) (notFace_of_selects (args := #[]) (mvT hZ (hw _ (List.mem_of_getElem? (i := 47) rfl)))) (mvT hZ (hw _ (List.mem_of_getElem? (i := 47) rfl))) (mvT hZ (hw _ (List.mem_of_getElem? (i := 46) rfl))) (by decide) (backOf (W := 0) (rm_1 l Z a0 hw [] ka vv lo hi (1 : Int32) h79 O79_ Fk Gk (by (try simp only [lw_lt, lw_gt, lw_eq] at hc409_84 hc416_88); simp only [hc409_84, hc416_88, if_true, if_false, ite_self, eq_self, not_false_eq_true, true_or, or_true, false_or, or_false, or_self])) hZ (hw _ (List.mem_of_getElem? (i := 48) rfl)) (hw _ (List.mem_of_getElem? (i := 3) rfl)) (by decide) (by decide)) q94a q94c (g := (mkF m 432 #[.val (.int x0), .val (.int x1), .val (.int x2), .val (.ref b1), .val (.ref b40), .val (.ref b60), .val (.int k), .val (.int lo), .val (.int hi), .val (.int sel), .val (.int vv), .val (.int (1 : Int32))] [(.int vv), (.ref ka)])) rfl (by rw [hml]; rfl) (Steps.refl _) (argsL := [(.int vv)]) (rest := []) (lenOf pd_LSRZ rfl) rfl (by show 2 * 0 + _ ≤ _; exact Nat.le_of_eq rfl) (hb hby at_432) (fun _ _ => ⟨rfl, ec83, (by decide : 3 + 0 ≤ _), (by decide : 57 + 0 ≤ _)⟩)
        dsimp only [Pt.U, Pt.locs, Pt.cells, Pt.slots] at X94 l94 y94 z94 st94 hQ94
        subst l94 y94 z94
        obtain ⟨rfl, Nq94, e94⟩ := hQ94
        have N94_ := Fr.app Nc83 Nq94
        refine Go.trans st94 ?_
        show Go _ _ _ _ _ _ _ _ T94 (mkF m 435 #[.val (.int x0), .val (.int x1), .val (.int x2), .val (.ref b1), .val (.ref b40), .val (.ref b60), .val (.int k), .val (.int lo), .val (.int hi), .val (.int sel), .val (.int vv), .val (.int (1 : Int32))] [(.int (1 : Int32))])
        refine Go.step (fun _ kt_ => XS.iload X94.here hx rfl (hb hby at_435) rfl kt_) ?_
        show Go _ _ _ _ _ _ _ _ T94 (mkF m 437 #[.val (.int x0), .val (.int x1), .val (.int x2), .val (.ref b1), .val (.ref b40), .val (.ref b60), .val (.int k), .val (.int lo), .val (.int hi), .val (.int sel), .val (.int vv), .val (.int (1 : Int32))] [(.int (1 : Int32)), (.int (1 : Int32))])
        refine Go.step (fun _ kt_ => XS.icmpNo X94.here hx rfl (hb hby at_437) rfl (teq (by decide : (1 : Int32) = (1 : Int32))).2 kt_) ?_
        show Go _ _ _ _ _ _ _ _ T94 (mkF m 440 #[.val (.int x0), .val (.int x1), .val (.int x2), .val (.ref b1), .val (.ref b40), .val (.ref b60), .val (.int k), .val (.int lo), .val (.int hi), .val (.int sel), .val (.int vv), .val (.int (1 : Int32))] [])
        refine Go.step (fun _ kt_ => XS.iconst X94.here hx rfl (hb hby at_440)  kt_) ?_
        show Go _ _ _ _ _ _ _ _ T94 (mkF m 441 #[.val (.int x0), .val (.int x1), .val (.int x2), .val (.ref b1), .val (.ref b40), .val (.ref b60), .val (.int k), .val (.int lo), .val (.int hi), .val (.int sel), .val (.int vv), .val (.int (1 : Int32))] [(.int (1 : Int32))])
        refine Go.step (fun _ kt_ => XS.goto X94.here hx rfl (pc0 := 441) (pc' := 445) rfl (hb hby at_441) (by decide) (by decide) kt_) ?_
        show Go _ _ _ _ _ _ _ _ T94 (mkF m 445 #[.val (.int x0), .val (.int x1), .val (.int x2), .val (.ref b1), .val (.ref b40), .val (.ref b60), .val (.int k), .val (.int lo), .val (.int hi), .val (.int sel), .val (.int vv), .val (.int (1 : Int32))] [(.int (1 : Int32))])
        exact Go.retN X94 hx (t := .boolean) Bd.returns (by simp) hlk (hb hby at_445) (by decide) (by decide) (by show _ ∧ _ ∧ _; exact ⟨rfl, N94_, trivial⟩)
  refine Go.step (fun _ kt_ => XS.iloadN X79.here hx rfl (hb hby at_351) rfl kt_) ?_
  show Go _ _ _ _ _ _ _ _ T79 (mkF m 352 #[.val (.int x0), .val (.int x1), .val (.int x2), .val (.ref b1), .val (.ref b40), .val (.ref b60), .val (.int k), .val (.int lo), .val (.int hi), .unset, .unset, .unset] [(.int x2)])
  refine Go.step (fun _ kt_ => XS.iconst X79.here hx rfl (hb hby at_352)  kt_) ?_
  show Go _ _ _ _ _ _ _ _ T79 (mkF m 353 #[.val (.int x0), .val (.int x1), .val (.int x2), .val (.ref b1), .val (.ref b40), .val (.ref b60), .val (.int k), .val (.int lo), .val (.int hi), .unset, .unset, .unset] [(.int (3 : Int32)), (.int x2)])
  refine Go.step (fun _ kt_ => XS.iand X79.here hx rfl (hb hby at_353) rfl kt_) ?_
  show Go _ _ _ _ _ _ _ _ T79 (mkF m 354 #[.val (.int x0), .val (.int x1), .val (.int x2), .val (.ref b1), .val (.ref b40), .val (.ref b60), .val (.int k), .val (.int lo), .val (.int hi), .unset, .unset, .unset] [(.int (x2 &&& (3 : Int32)))])
  refine Go.step (fun _ kt_ => XS.istore X79.here hx rfl (hb hby at_354) rfl (l' := #[.val (.int x0), .val (.int x1), .val (.int x2), .val (.ref b1), .val (.ref b40), .val (.ref b60), .val (.int k), .val (.int lo), .val (.int hi), .val (.int (x2 &&& (3 : Int32))), .unset, .unset]) rfl kt_) ?_
  show Go _ _ _ _ _ _ _ _ T79 (mkF m 356 #[.val (.int x0), .val (.int x1), .val (.int x2), .val (.ref b1), .val (.ref b40), .val (.ref b60), .val (.int k), .val (.int lo), .val (.int hi), .val (.int (x2 &&& (3 : Int32))), .unset, .unset] [])
  refine Go.step (fun _ kt_ => XS.iload X79.here hx rfl (hb hby at_356) rfl kt_) ?_
  show Go _ _ _ _ _ _ _ _ T79 (mkF m 358 #[.val (.int x0), .val (.int x1), .val (.int x2), .val (.ref b1), .val (.ref b40), .val (.ref b60), .val (.int k), .val (.int lo), .val (.int hi), .val (.int (x2 &&& (3 : Int32))), .unset, .unset] [(.int (x2 &&& (3 : Int32)))])
  by_cases hc358_95 : (x2 &&& (3 : Int32)) = (0 : Int32)
  · refine Go.step (fun _ kt_ => XS.ifYes X79.here hx rfl (pc0 := 358) (pc' := 367) rfl (hb hby at_358) rfl ((if0 _ _).trans (teq hc358_95).1) (by decide) (by decide) kt_) ?_
    show Go _ _ _ _ _ _ _ _ T79 (mkF m 367 #[.val (.int x0), .val (.int x1), .val (.int x2), .val (.ref b1), .val (.ref b40), .val (.ref b60), .val (.int k), .val (.int lo), .val (.int hi), .val (.int (x2 &&& (3 : Int32))), .unset, .unset] [])
    refine Go.step (fun _ kt_ => XS.iloadN X79.here hx rfl (hb hby at_367) rfl kt_) ?_
    show Go _ _ _ _ _ _ _ _ T79 (mkF m 368 #[.val (.int x0), .val (.int x1), .val (.int x2), .val (.ref b1), .val (.ref b40), .val (.ref b60), .val (.int k), .val (.int lo), .val (.int hi), .val (.int (x2 &&& (3 : Int32))), .unset, .unset] [(.int x1)])
    refine Go.step (fun _ kt_ => XS.i2s X79.here hx rfl (hb hby at_368) rfl kt_) ?_
    show Go _ _ _ _ _ _ _ _ T79 (mkF m 369 #[.val (.int x0), .val (.int x1), .val (.int x2), .val (.ref b1), .val (.ref b40), .val (.ref b60), .val (.int k), .val (.int lo), .val (.int hi), .val (.int (x2 &&& (3 : Int32))), .unset, .unset] [(.int (x1.toInt16.toInt32))])
    refine Go.step (fun _ kt_ => XS.istore X79.here hx rfl (hb hby at_369) rfl (l' := #[.val (.int x0), .val (.int x1), .val (.int x2), .val (.ref b1), .val (.ref b40), .val (.ref b60), .val (.int k), .val (.int lo), .val (.int hi), .val (.int (x2 &&& (3 : Int32))), .val (.int (x1.toInt16.toInt32)), .unset]) rfl kt_) ?_
    show Go _ _ _ _ _ _ _ _ T79 (mkF m 371 #[.val (.int x0), .val (.int x1), .val (.int x2), .val (.ref b1), .val (.ref b40), .val (.ref b60), .val (.int k), .val (.int lo), .val (.int hi), .val (.int (x2 &&& (3 : Int32))), .val (.int (x1.toInt16.toInt32)), .unset] [])
    refine Go.step (fun _ kt_ => XS.goto X79.here hx rfl (pc0 := 371) (pc' := 405) rfl (hb hby at_371) (by decide) (by decide) kt_) ?_
    show Go _ _ _ _ _ _ _ _ T79 (mkF m 405 #[.val (.int x0), .val (.int x1), .val (.int x2), .val (.ref b1), .val (.ref b40), .val (.ref b60), .val (.int k), .val (.int lo), .val (.int hi), .val (.int (x2 &&& (3 : Int32))), .val (.int (x1.toInt16.toInt32)), .unset] [])
    exact cut405 T79 _ X79 e79 N79_  (x2 &&& (3 : Int32)) (x1.toInt16.toInt32) 
  · refine Go.step (fun _ kt_ => XS.ifNo X79.here hx rfl (hb hby at_358) rfl ((if0 _ _).trans (feq hc358_95).1) kt_) ?_
    show Go _ _ _ _ _ _ _ _ T79 (mkF m 361 #[.val (.int x0), .val (.int x1), .val (.int x2), .val (.ref b1), .val (.ref b40), .val (.ref b60), .val (.int k), .val (.int lo), .val (.int hi), .val (.int (x2 &&& (3 : Int32))), .unset, .unset] [])
    refine Go.step (fun _ kt_ => XS.iload X79.here hx rfl (hb hby at_361) rfl kt_) ?_
    show Go _ _ _ _ _ _ _ _ T79 (mkF m 363 #[.val (.int x0), .val (.int x1), .val (.int x2), .val (.ref b1), .val (.ref b40), .val (.ref b60), .val (.int k), .val (.int lo), .val (.int hi), .val (.int (x2 &&& (3 : Int32))), .unset, .unset] [(.int (x2 &&& (3 : Int32)))])
    refine Go.step (fun _ kt_ => XS.iconst X79.here hx rfl (hb hby at_363)  kt_) ?_
    show Go _ _ _ _ _ _ _ _ T79 (mkF m 364 #[.val (.int x0), .val (.int x1), .val (.int x2), .val (.ref b1), .val (.ref b40), .val (.ref b60), .val (.int k), .val (.int lo), .val (.int hi), .val (.int (x2 &&& (3 : Int32))), .unset, .unset] [(.int (3 : Int32)), (.int (x2 &&& (3 : Int32)))])
    by_cases hc364_96 : (x2 &&& (3 : Int32)) = (3 : Int32)
    · refine Go.step (fun _ kt_ => XS.icmpNo X79.here hx rfl (hb hby at_364) rfl (teq hc364_96).2 kt_) ?_
      show Go _ _ _ _ _ _ _ _ T79 (mkF m 367 #[.val (.int x0), .val (.int x1), .val (.int x2), .val (.ref b1), .val (.ref b40), .val (.ref b60), .val (.int k), .val (.int lo), .val (.int hi), .val (.int (x2 &&& (3 : Int32))), .unset, .unset] [])
      refine Go.step (fun _ kt_ => XS.iloadN X79.here hx rfl (hb hby at_367) rfl kt_) ?_
      show Go _ _ _ _ _ _ _ _ T79 (mkF m 368 #[.val (.int x0), .val (.int x1), .val (.int x2), .val (.ref b1), .val (.ref b40), .val (.ref b60), .val (.int k), .val (.int lo), .val (.int hi), .val (.int (x2 &&& (3 : Int32))), .unset, .unset] [(.int x1)])
      refine Go.step (fun _ kt_ => XS.i2s X79.here hx rfl (hb hby at_368) rfl kt_) ?_
      show Go _ _ _ _ _ _ _ _ T79 (mkF m 369 #[.val (.int x0), .val (.int x1), .val (.int x2), .val (.ref b1), .val (.ref b40), .val (.ref b60), .val (.int k), .val (.int lo), .val (.int hi), .val (.int (x2 &&& (3 : Int32))), .unset, .unset] [(.int (x1.toInt16.toInt32))])
      refine Go.step (fun _ kt_ => XS.istore X79.here hx rfl (hb hby at_369) rfl (l' := #[.val (.int x0), .val (.int x1), .val (.int x2), .val (.ref b1), .val (.ref b40), .val (.ref b60), .val (.int k), .val (.int lo), .val (.int hi), .val (.int (x2 &&& (3 : Int32))), .val (.int (x1.toInt16.toInt32)), .unset]) rfl kt_) ?_
      show Go _ _ _ _ _ _ _ _ T79 (mkF m 371 #[.val (.int x0), .val (.int x1), .val (.int x2), .val (.ref b1), .val (.ref b40), .val (.ref b60), .val (.int k), .val (.int lo), .val (.int hi), .val (.int (x2 &&& (3 : Int32))), .val (.int (x1.toInt16.toInt32)), .unset] [])
      refine Go.step (fun _ kt_ => XS.goto X79.here hx rfl (pc0 := 371) (pc' := 405) rfl (hb hby at_371) (by decide) (by decide) kt_) ?_
      show Go _ _ _ _ _ _ _ _ T79 (mkF m 405 #[.val (.int x0), .val (.int x1), .val (.int x2), .val (.ref b1), .val (.ref b40), .val (.ref b60), .val (.int k), .val (.int lo), .val (.int hi), .val (.int (x2 &&& (3 : Int32))), .val (.int (x1.toInt16.toInt32)), .unset] [])
      exact cut405 T79 _ X79 e79 N79_  (x2 &&& (3 : Int32)) (x1.toInt16.toInt32) 
    · refine Go.step (fun _ kt_ => XS.icmpYes X79.here hx rfl (pc0 := 364) (pc' := 374) rfl (hb hby at_364) rfl (feq hc364_96).2 (by decide) (by decide) kt_) ?_
      show Go _ _ _ _ _ _ _ _ T79 (mkF m 374 #[.val (.int x0), .val (.int x1), .val (.int x2), .val (.ref b1), .val (.ref b40), .val (.ref b60), .val (.int k), .val (.int lo), .val (.int hi), .val (.int (x2 &&& (3 : Int32))), .unset, .unset] [])
      refine Go.step (fun _ kt_ => XS.iload X79.here hx rfl (hb hby at_374) rfl kt_) ?_
      show Go _ _ _ _ _ _ _ _ T79 (mkF m 376 #[.val (.int x0), .val (.int x1), .val (.int x2), .val (.ref b1), .val (.ref b40), .val (.ref b60), .val (.int k), .val (.int lo), .val (.int hi), .val (.int (x2 &&& (3 : Int32))), .unset, .unset] [(.int (x2 &&& (3 : Int32)))])
      refine Go.step (fun _ kt_ => XS.iconst X79.here hx rfl (hb hby at_376)  kt_) ?_
      show Go _ _ _ _ _ _ _ _ T79 (mkF m 377 #[.val (.int x0), .val (.int x1), .val (.int x2), .val (.ref b1), .val (.ref b40), .val (.ref b60), .val (.int k), .val (.int lo), .val (.int hi), .val (.int (x2 &&& (3 : Int32))), .unset, .unset] [(.int (1 : Int32)), (.int (x2 &&& (3 : Int32)))])
      by_cases hc377_97 : (x2 &&& (3 : Int32)) = (1 : Int32)
      · refine Go.step (fun _ kt_ => XS.icmpNo X79.here hx rfl (hb hby at_377) rfl (teq hc377_97).2 kt_) ?_
        show Go _ _ _ _ _ _ _ _ T79 (mkF m 380 #[.val (.int x0), .val (.int x1), .val (.int x2), .val (.ref b1), .val (.ref b40), .val (.ref b60), .val (.int k), .val (.int lo), .val (.int hi), .val (.int (x2 &&& (3 : Int32))), .unset, .unset] [])
        refine Go.step (fun _ kt_ => XS.iload X79.here hx rfl (hb hby at_380) rfl kt_) ?_
        show Go _ _ _ _ _ _ _ _ T79 (mkF m 382 #[.val (.int x0), .val (.int x1), .val (.int x2), .val (.ref b1), .val (.ref b40), .val (.ref b60), .val (.int k), .val (.int lo), .val (.int hi), .val (.int (x2 &&& (3 : Int32))), .unset, .unset] [(.int lo)])
        refine Go.step (fun _ kt_ => XS.iloadN X79.here hx rfl (hb hby at_382) rfl kt_) ?_
        show Go _ _ _ _ _ _ _ _ T79 (mkF m 383 #[.val (.int x0), .val (.int x1), .val (.int x2), .val (.ref b1), .val (.ref b40), .val (.ref b60), .val (.int k), .val (.int lo), .val (.int hi), .val (.int (x2 &&& (3 : Int32))), .unset, .unset] [(.int x1), (.int lo)])
        refine Go.step (fun _ kt_ => XS.iconst X79.here hx rfl (hb hby at_383)  kt_) ?_
        show Go _ _ _ _ _ _ _ _ T79 (mkF m 384 #[.val (.int x0), .val (.int x1), .val (.int x2), .val (.ref b1), .val (.ref b40), .val (.ref b60), .val (.int k), .val (.int lo), .val (.int hi), .val (.int (x2 &&& (3 : Int32))), .unset, .unset] [(.int (3 : Int32)), (.int x1), (.int lo)])
        refine Go.step (fun _ kt_ => XS.iand X79.here hx rfl (hb hby at_384) rfl kt_) ?_
        show Go _ _ _ _ _ _ _ _ T79 (mkF m 385 #[.val (.int x0), .val (.int x1), .val (.int x2), .val (.ref b1), .val (.ref b40), .val (.ref b60), .val (.int k), .val (.int lo), .val (.int hi), .val (.int (x2 &&& (3 : Int32))), .unset, .unset] [(.int (x1 &&& (3 : Int32))), (.int lo)])
        refine Go.step (fun _ kt_ => XS.iadd X79.here hx rfl (hb hby at_385) rfl kt_) ?_
        show Go _ _ _ _ _ _ _ _ T79 (mkF m 386 #[.val (.int x0), .val (.int x1), .val (.int x2), .val (.ref b1), .val (.ref b40), .val (.ref b60), .val (.int k), .val (.int lo), .val (.int hi), .val (.int (x2 &&& (3 : Int32))), .unset, .unset] [(.int (lo + (x1 &&& (3 : Int32))))])
        refine Go.step (fun _ kt_ => XS.iconst X79.here hx rfl (hb hby at_386)  kt_) ?_
        show Go _ _ _ _ _ _ _ _ T79 (mkF m 387 #[.val (.int x0), .val (.int x1), .val (.int x2), .val (.ref b1), .val (.ref b40), .val (.ref b60), .val (.int k), .val (.int lo), .val (.int hi), .val (.int (x2 &&& (3 : Int32))), .unset, .unset] [(.int (1 : Int32)), (.int (lo + (x1 &&& (3 : Int32))))])
        refine Go.step (fun _ kt_ => XS.isub X79.here hx rfl (hb hby at_387) rfl kt_) ?_
        show Go _ _ _ _ _ _ _ _ T79 (mkF m 388 #[.val (.int x0), .val (.int x1), .val (.int x2), .val (.ref b1), .val (.ref b40), .val (.ref b60), .val (.int k), .val (.int lo), .val (.int hi), .val (.int (x2 &&& (3 : Int32))), .unset, .unset] [(.int ((lo + (x1 &&& (3 : Int32))) - (1 : Int32)))])
        refine Go.step (fun _ kt_ => XS.i2s X79.here hx rfl (hb hby at_388) rfl kt_) ?_
        show Go _ _ _ _ _ _ _ _ T79 (mkF m 389 #[.val (.int x0), .val (.int x1), .val (.int x2), .val (.ref b1), .val (.ref b40), .val (.ref b60), .val (.int k), .val (.int lo), .val (.int hi), .val (.int (x2 &&& (3 : Int32))), .unset, .unset] [(.int (((lo + (x1 &&& (3 : Int32))) - (1 : Int32)).toInt16.toInt32))])
        refine Go.step (fun _ kt_ => XS.istore X79.here hx rfl (hb hby at_389) rfl (l' := #[.val (.int x0), .val (.int x1), .val (.int x2), .val (.ref b1), .val (.ref b40), .val (.ref b60), .val (.int k), .val (.int lo), .val (.int hi), .val (.int (x2 &&& (3 : Int32))), .val (.int (((lo + (x1 &&& (3 : Int32))) - (1 : Int32)).toInt16.toInt32)), .unset]) rfl kt_) ?_
        show Go _ _ _ _ _ _ _ _ T79 (mkF m 391 #[.val (.int x0), .val (.int x1), .val (.int x2), .val (.ref b1), .val (.ref b40), .val (.ref b60), .val (.int k), .val (.int lo), .val (.int hi), .val (.int (x2 &&& (3 : Int32))), .val (.int (((lo + (x1 &&& (3 : Int32))) - (1 : Int32)).toInt16.toInt32)), .unset] [])
        refine Go.step (fun _ kt_ => XS.goto X79.here hx rfl (pc0 := 391) (pc' := 405) rfl (hb hby at_391) (by decide) (by decide) kt_) ?_
        show Go _ _ _ _ _ _ _ _ T79 (mkF m 405 #[.val (.int x0), .val (.int x1), .val (.int x2), .val (.ref b1), .val (.ref b40), .val (.ref b60), .val (.int k), .val (.int lo), .val (.int hi), .val (.int (x2 &&& (3 : Int32))), .val (.int (((lo + (x1 &&& (3 : Int32))) - (1 : Int32)).toInt16.toInt32)), .unset] [])
        exact cut405 T79 _ X79 e79 N79_  (x2 &&& (3 : Int32)) (((lo + (x1 &&& (3 : Int32))) - (1 : Int32)).toInt16.toInt32) 
      · refine Go.step (fun _ kt_ => XS.icmpYes X79.here hx rfl (pc0 := 377) (pc' := 394) rfl (hb hby at_377) rfl (feq hc377_97).2 (by decide) (by decide) kt_) ?_
        show Go _ _ _ _ _ _ _ _ T79 (mkF m 394 #[.val (.int x0), .val (.int x1), .val (.int x2), .val (.ref b1), .val (.ref b40), .val (.ref b60), .val (.int k), .val (.int lo), .val (.int hi), .val (.int (x2 &&& (3 : Int32))), .unset, .unset] [])
        refine Go.step (fun _ kt_ => XS.iload X79.here hx rfl (hb hby at_394) rfl kt_) ?_
        show Go _ _ _ _ _ _ _ _ T79 (mkF m 396 #[.val (.int x0), .val (.int x1), .val (.int x2), .val (.ref b1), .val (.ref b40), .val (.ref b60), .val (.int k), .val (.int lo), .val (.int hi), .val (.int (x2 &&& (3 : Int32))), .unset, .unset] [(.int hi)])
        refine Go.step (fun _ kt_ => XS.iloadN X79.here hx rfl (hb hby at_396) rfl kt_) ?_
        show Go _ _ _ _ _ _ _ _ T79 (mkF m 397 #[.val (.int x0), .val (.int x1), .val (.int x2), .val (.ref b1), .val (.ref b40), .val (.ref b60), .val (.int k), .val (.int lo), .val (.int hi), .val (.int (x2 &&& (3 : Int32))), .unset, .unset] [(.int x1), (.int hi)])
        refine Go.step (fun _ kt_ => XS.iconst X79.here hx rfl (hb hby at_397)  kt_) ?_
        show Go _ _ _ _ _ _ _ _ T79 (mkF m 398 #[.val (.int x0), .val (.int x1), .val (.int x2), .val (.ref b1), .val (.ref b40), .val (.ref b60), .val (.int k), .val (.int lo), .val (.int hi), .val (.int (x2 &&& (3 : Int32))), .unset, .unset] [(.int (3 : Int32)), (.int x1), (.int hi)])
        refine Go.step (fun _ kt_ => XS.iand X79.here hx rfl (hb hby at_398) rfl kt_) ?_
        show Go _ _ _ _ _ _ _ _ T79 (mkF m 399 #[.val (.int x0), .val (.int x1), .val (.int x2), .val (.ref b1), .val (.ref b40), .val (.ref b60), .val (.int k), .val (.int lo), .val (.int hi), .val (.int (x2 &&& (3 : Int32))), .unset, .unset] [(.int (x1 &&& (3 : Int32))), (.int hi)])
        refine Go.step (fun _ kt_ => XS.iadd X79.here hx rfl (hb hby at_399) rfl kt_) ?_
        show Go _ _ _ _ _ _ _ _ T79 (mkF m 400 #[.val (.int x0), .val (.int x1), .val (.int x2), .val (.ref b1), .val (.ref b40), .val (.ref b60), .val (.int k), .val (.int lo), .val (.int hi), .val (.int (x2 &&& (3 : Int32))), .unset, .unset] [(.int (hi + (x1 &&& (3 : Int32))))])
        refine Go.step (fun _ kt_ => XS.iconst X79.here hx rfl (hb hby at_400)  kt_) ?_
        show Go _ _ _ _ _ _ _ _ T79 (mkF m 401 #[.val (.int x0), .val (.int x1), .val (.int x2), .val (.ref b1), .val (.ref b40), .val (.ref b60), .val (.int k), .val (.int lo), .val (.int hi), .val (.int (x2 &&& (3 : Int32))), .unset, .unset] [(.int (1 : Int32)), (.int (hi + (x1 &&& (3 : Int32))))])
        refine Go.step (fun _ kt_ => XS.isub X79.here hx rfl (hb hby at_401) rfl kt_) ?_
        show Go _ _ _ _ _ _ _ _ T79 (mkF m 402 #[.val (.int x0), .val (.int x1), .val (.int x2), .val (.ref b1), .val (.ref b40), .val (.ref b60), .val (.int k), .val (.int lo), .val (.int hi), .val (.int (x2 &&& (3 : Int32))), .unset, .unset] [(.int ((hi + (x1 &&& (3 : Int32))) - (1 : Int32)))])
        refine Go.step (fun _ kt_ => XS.i2s X79.here hx rfl (hb hby at_402) rfl kt_) ?_
        show Go _ _ _ _ _ _ _ _ T79 (mkF m 403 #[.val (.int x0), .val (.int x1), .val (.int x2), .val (.ref b1), .val (.ref b40), .val (.ref b60), .val (.int k), .val (.int lo), .val (.int hi), .val (.int (x2 &&& (3 : Int32))), .unset, .unset] [(.int (((hi + (x1 &&& (3 : Int32))) - (1 : Int32)).toInt16.toInt32))])
        refine Go.step (fun _ kt_ => XS.istore X79.here hx rfl (hb hby at_403) rfl (l' := #[.val (.int x0), .val (.int x1), .val (.int x2), .val (.ref b1), .val (.ref b40), .val (.ref b60), .val (.int k), .val (.int lo), .val (.int hi), .val (.int (x2 &&& (3 : Int32))), .val (.int (((hi + (x1 &&& (3 : Int32))) - (1 : Int32)).toInt16.toInt32)), .unset]) rfl kt_) ?_
        show Go _ _ _ _ _ _ _ _ T79 (mkF m 405 #[.val (.int x0), .val (.int x1), .val (.int x2), .val (.ref b1), .val (.ref b40), .val (.ref b60), .val (.int k), .val (.int lo), .val (.int hi), .val (.int (x2 &&& (3 : Int32))), .val (.int (((hi + (x1 &&& (3 : Int32))) - (1 : Int32)).toInt16.toInt32)), .unset] [])
        exact cut405 T79 _ X79 e79 N79_  (x2 &&& (3 : Int32)) (((hi + (x1 &&& (3 : Int32))) - (1 : Int32)).toInt16.toInt32) 
set_option maxRecDepth 65536 in
set_option maxHeartbeats 40000000 in
theorem comes_1 {Post : Tables → Env → Array Value → State → Outcome → State → Prop} (hpost : ∀ tb e args s v u, (limb_1_1.after args s (.returned v) u = true ∧ limb_1_2.after args s (.returned v) u = true ∧ True) → FrameEnd s (.returned v) u (Jvm.fieldLocs frame_1_writes args s ++ Jvm.arrayLocs frame_1_arrays args s ++ Jvm.staticLocs frame_1_statics s) 16 192 → Post tb e args s (.returned v) u) :
    ArmFor flags0 classFile x code maxLocals ret World_1 tables_1 room_1 Calls_1 rest_1 Pre_1 Post := by
  intro l hfl _ _ p e ha hc hk s m args below hf hA hF happ hP
  obtain ⟨hcalls, hrest, hpre⟩ := hP
  obtain ⟨-, -, -, hnamed, -, -, -, hat⟩ := (Spec.applies_iff hf).mp happ
  obtain ⟨hg, hn⟩ := and_e (Cond.before_iff.mp (show (Jvm.Cond.and given_1 narrow_1).before args s = true from hpre))
  obtain ⟨hcount, gr0⟩ := and_e hg
  obtain ⟨ga0, gr1⟩ := and_e gr0
  obtain ⟨ga1, gr2⟩ := and_e gr1
  have ga2 := gr2
  obtain ⟨w0, w1, w2, rfl⟩ : ∃ w0 w1 w2 : Value, args = #[w0, w1, w2] := by
    have hs : args.size = 3 := by simpa [Cond.value, given_1] using hcount
    obtain ⟨L⟩ := args
    match L, hs with
    | [w0, w1, w2], _ => exact ⟨w0, w1, w2, rfl⟩
  have hw := fun d (hd : d ∈ tables_1) => atoms_spec (ws := Jvm.Cond.code x code maxLocals ret :: tables_1) hat d (List.mem_cons_of_mem _ hd)
  have hfit : Fit s := fun {y c} hc i hi => by
    obtain ⟨ha, rfl⟩ := Array.getElem?_eq_some_iff.mp hc
    have q := List.all_eq_true.mp ((Array.all_eq_true_iff_forall_mem.mp hF) _ (Array.getElem_mem ha)) i (List.mem_range.mpr hi)
    simpa [Array.getElem?_eq_getElem hi] using q
  obtain ⟨i0, ei0⟩ := is_v ga0
  obtain rfl : w0 = (.int i0) := Option.some.inj ei0
  obtain ⟨i1, ei1⟩ := is_v ga1
  obtain rfl : w1 = (.int i1) := Option.some.inj ei1
  obtain ⟨i2, ei2⟩ := is_v ga2
  obtain rfl : w2 = (.int i2) := Option.some.inj ei2
  obtain ⟨nw0, nr0⟩ := and_e hn
  obtain ⟨nw1, nr1⟩ := and_e nr0
  obtain ⟨nw2, nr2⟩ := and_e nr1
  obtain ⟨nw3, nr3⟩ := and_e nr2
  obtain ⟨nw4, nr4⟩ := and_e nr3
  obtain ⟨nw5, nr5⟩ := and_e nr4
  obtain ⟨nw6, nr6⟩ := and_e nr5
  obtain ⟨nw7, nr7⟩ := and_e nr6
  obtain ⟨nw8, nr8⟩ := and_e nr7
  obtain ⟨nw9, nr9⟩ := and_e nr8
  obtain ⟨nw10, nr10⟩ := and_e nr9
  obtain ⟨nw11, nr11⟩ := and_e nr10
  obtain ⟨nw12, nr12⟩ := and_e nr11
  obtain ⟨nw13, nr13⟩ := and_e nr12
  obtain ⟨nw14, nr14⟩ := and_e nr13
  obtain ⟨nw15, nr15⟩ := and_e nr14
  obtain ⟨nw16, nr16⟩ := and_e nr15
  obtain ⟨nw17, nr17⟩ := and_e nr16
  obtain ⟨nw18, nr18⟩ := and_e nr17
  obtain ⟨nw19, nr19⟩ := and_e nr18
  obtain ⟨nw20, nr20⟩ := and_e nr19
  obtain ⟨nw21, nr21⟩ := and_e nr20
  obtain ⟨nw22, nr22⟩ := and_e nr21
  obtain ⟨nw23, nr23⟩ := and_e nr22
  obtain ⟨nw24, nr24⟩ := and_e nr23
  obtain ⟨nw25, nr25⟩ := and_e nr24
  obtain ⟨nw26, nr26⟩ := and_e nr25
  obtain ⟨nw27, nr27⟩ := and_e nr26
  obtain ⟨nw28, nr28⟩ := and_e nr27
  obtain ⟨nw29, nr29⟩ := and_e nr28
  obtain ⟨nw30, nr30⟩ := and_e nr29
  obtain ⟨nw31, nr31⟩ := and_e nr30
  obtain ⟨nw32, nr32⟩ := and_e nr31
  obtain ⟨nw33, nr33⟩ := and_e nr32
  obtain ⟨nw34, nr34⟩ := and_e nr33
  obtain ⟨nw35, nr35⟩ := and_e nr34
  obtain ⟨nw36, nr36⟩ := and_e nr35
  obtain ⟨nw37, nr37⟩ := and_e nr36
  obtain ⟨nw38, nr38⟩ := and_e nr37
  obtain ⟨nw39, nr39⟩ := and_e nr38
  obtain ⟨nw40, nr40⟩ := and_e nr39
  obtain ⟨nw41, nr41⟩ := and_e nr40
  obtain ⟨nw42, nr42⟩ := and_e nr41
  obtain ⟨nw43, nr43⟩ := and_e nr42
  obtain ⟨nw44, nr44⟩ := and_e nr43
  obtain ⟨nw45, nr45⟩ := and_e nr44
  obtain ⟨nw46, nr46⟩ := and_e nr45
  obtain ⟨nw47, nr47⟩ := and_e nr46
  obtain ⟨nw48, nr48⟩ := and_e nr47
  obtain ⟨nw49, nr49⟩ := and_e nr48
  obtain ⟨nw50, nr50⟩ := and_e nr49
  obtain ⟨nw51, nr51⟩ := and_e nr50
  obtain ⟨nw52, nr52⟩ := and_e nr51
  obtain ⟨nw53, nr53⟩ := and_e nr52
  obtain ⟨nw54, nr54⟩ := and_e nr53
  obtain ⟨nw55, nr55⟩ := and_e nr54
  have nw56 := nr55
  obtain ⟨a_0, ev_0⟩ := exa_v nw0
  have S_0 : Sta s s.heap "com/example/clean_epoch/cleanepoch/protocol/ApiKey" "PRODUCE" "Lcom/example/clean_epoch/cleanepoch/protocol/ApiKey;" (.ref a_0) := Sta.start ev_0 (Or.inr ⟨(hw _ (List.mem_of_getElem? (i := 3) rfl)), (hw _ (List.mem_of_getElem? (i := 4) rfl))⟩)
  have X_0 : Exa s s.heap a_0 "com/example/clean_epoch/cleanepoch/protocol/ApiKey" := Exa.start ev_0 nw0
  obtain ⟨a_1, ev_1⟩ := exa_v nw1
  have S_1 : Sta s s.heap "com/example/clean_epoch/cleanepoch/protocol/ApiKey" "FETCH" "Lcom/example/clean_epoch/cleanepoch/protocol/ApiKey;" (.ref a_1) := Sta.start ev_1 (Or.inr ⟨(hw _ (List.mem_of_getElem? (i := 3) rfl)), (hw _ (List.mem_of_getElem? (i := 7) rfl))⟩)
  have X_1 : Exa s s.heap a_1 "com/example/clean_epoch/cleanepoch/protocol/ApiKey" := Exa.start ev_1 nw1
  obtain ⟨a_2, ev_2⟩ := exa_v nw2
  have S_2 : Sta s s.heap "com/example/clean_epoch/cleanepoch/protocol/ApiKey" "LIST_OFFSETS" "Lcom/example/clean_epoch/cleanepoch/protocol/ApiKey;" (.ref a_2) := Sta.start ev_2 (Or.inr ⟨(hw _ (List.mem_of_getElem? (i := 3) rfl)), (hw _ (List.mem_of_getElem? (i := 9) rfl))⟩)
  have X_2 : Exa s s.heap a_2 "com/example/clean_epoch/cleanepoch/protocol/ApiKey" := Exa.start ev_2 nw2
  obtain ⟨a_3, ev_3⟩ := exa_v nw3
  have S_3 : Sta s s.heap "com/example/clean_epoch/cleanepoch/protocol/ApiKey" "METADATA" "Lcom/example/clean_epoch/cleanepoch/protocol/ApiKey;" (.ref a_3) := Sta.start ev_3 (Or.inr ⟨(hw _ (List.mem_of_getElem? (i := 3) rfl)), (hw _ (List.mem_of_getElem? (i := 11) rfl))⟩)
  have X_3 : Exa s s.heap a_3 "com/example/clean_epoch/cleanepoch/protocol/ApiKey" := Exa.start ev_3 nw3
  obtain ⟨a_4, ev_4⟩ := exa_v nw4
  have S_4 : Sta s s.heap "com/example/clean_epoch/cleanepoch/protocol/ApiKey" "OFFSET_COMMIT" "Lcom/example/clean_epoch/cleanepoch/protocol/ApiKey;" (.ref a_4) := Sta.start ev_4 (Or.inr ⟨(hw _ (List.mem_of_getElem? (i := 3) rfl)), (hw _ (List.mem_of_getElem? (i := 13) rfl))⟩)
  have X_4 : Exa s s.heap a_4 "com/example/clean_epoch/cleanepoch/protocol/ApiKey" := Exa.start ev_4 nw4
  obtain ⟨a_5, ev_5⟩ := exa_v nw5
  have S_5 : Sta s s.heap "com/example/clean_epoch/cleanepoch/protocol/ApiKey" "OFFSET_FETCH" "Lcom/example/clean_epoch/cleanepoch/protocol/ApiKey;" (.ref a_5) := Sta.start ev_5 (Or.inr ⟨(hw _ (List.mem_of_getElem? (i := 3) rfl)), (hw _ (List.mem_of_getElem? (i := 15) rfl))⟩)
  have X_5 : Exa s s.heap a_5 "com/example/clean_epoch/cleanepoch/protocol/ApiKey" := Exa.start ev_5 nw5
  obtain ⟨a_6, ev_6⟩ := exa_v nw6
  have S_6 : Sta s s.heap "com/example/clean_epoch/cleanepoch/protocol/ApiKey" "FIND_COORDINATOR" "Lcom/example/clean_epoch/cleanepoch/protocol/ApiKey;" (.ref a_6) := Sta.start ev_6 (Or.inr ⟨(hw _ (List.mem_of_getElem? (i := 3) rfl)), (hw _ (List.mem_of_getElem? (i := 17) rfl))⟩)
  have X_6 : Exa s s.heap a_6 "com/example/clean_epoch/cleanepoch/protocol/ApiKey" := Exa.start ev_6 nw6
  obtain ⟨a_7, ev_7⟩ := exa_v nw7
  have S_7 : Sta s s.heap "com/example/clean_epoch/cleanepoch/protocol/ApiKey" "JOIN_GROUP" "Lcom/example/clean_epoch/cleanepoch/protocol/ApiKey;" (.ref a_7) := Sta.start ev_7 (Or.inr ⟨(hw _ (List.mem_of_getElem? (i := 3) rfl)), (hw _ (List.mem_of_getElem? (i := 19) rfl))⟩)
  have X_7 : Exa s s.heap a_7 "com/example/clean_epoch/cleanepoch/protocol/ApiKey" := Exa.start ev_7 nw7
  obtain ⟨a_8, ev_8⟩ := exa_v nw8
  have S_8 : Sta s s.heap "com/example/clean_epoch/cleanepoch/protocol/ApiKey" "HEARTBEAT" "Lcom/example/clean_epoch/cleanepoch/protocol/ApiKey;" (.ref a_8) := Sta.start ev_8 (Or.inr ⟨(hw _ (List.mem_of_getElem? (i := 3) rfl)), (hw _ (List.mem_of_getElem? (i := 21) rfl))⟩)
  have X_8 : Exa s s.heap a_8 "com/example/clean_epoch/cleanepoch/protocol/ApiKey" := Exa.start ev_8 nw8
  obtain ⟨a_9, ev_9⟩ := exa_v nw9
  have S_9 : Sta s s.heap "com/example/clean_epoch/cleanepoch/protocol/ApiKey" "LEAVE_GROUP" "Lcom/example/clean_epoch/cleanepoch/protocol/ApiKey;" (.ref a_9) := Sta.start ev_9 (Or.inr ⟨(hw _ (List.mem_of_getElem? (i := 3) rfl)), (hw _ (List.mem_of_getElem? (i := 23) rfl))⟩)
  have X_9 : Exa s s.heap a_9 "com/example/clean_epoch/cleanepoch/protocol/ApiKey" := Exa.start ev_9 nw9
  obtain ⟨a_10, ev_10⟩ := exa_v nw10
  have S_10 : Sta s s.heap "com/example/clean_epoch/cleanepoch/protocol/ApiKey" "SYNC_GROUP" "Lcom/example/clean_epoch/cleanepoch/protocol/ApiKey;" (.ref a_10) := Sta.start ev_10 (Or.inr ⟨(hw _ (List.mem_of_getElem? (i := 3) rfl)), (hw _ (List.mem_of_getElem? (i := 25) rfl))⟩)
  have X_10 : Exa s s.heap a_10 "com/example/clean_epoch/cleanepoch/protocol/ApiKey" := Exa.start ev_10 nw10
  obtain ⟨a_11, ev_11⟩ := exa_v nw11
  have S_11 : Sta s s.heap "com/example/clean_epoch/cleanepoch/protocol/ApiKey" "API_VERSIONS" "Lcom/example/clean_epoch/cleanepoch/protocol/ApiKey;" (.ref a_11) := Sta.start ev_11 (Or.inr ⟨(hw _ (List.mem_of_getElem? (i := 3) rfl)), (hw _ (List.mem_of_getElem? (i := 27) rfl))⟩)
  have X_11 : Exa s s.heap a_11 "com/example/clean_epoch/cleanepoch/protocol/ApiKey" := Exa.start ev_11 nw11
  obtain ⟨a_12, ev_12⟩ := exa_v nw12
  have S_12 : Sta s s.heap "com/example/clean_epoch/cleanepoch/protocol/ApiKey" "OFFSET_FOR_LEADER_EPOCH" "Lcom/example/clean_epoch/cleanepoch/protocol/ApiKey;" (.ref a_12) := Sta.start ev_12 (Or.inr ⟨(hw _ (List.mem_of_getElem? (i := 3) rfl)), (hw _ (List.mem_of_getElem? (i := 29) rfl))⟩)
  have X_12 : Exa s s.heap a_12 "com/example/clean_epoch/cleanepoch/protocol/ApiKey" := Exa.start ev_12 nw12
  obtain ⟨a_13, ev_13⟩ := exa_v nw13
  have S_13 : Sta s s.heap "com/example/clean_epoch/cleanepoch/protocol/ApiKey" "CREATE_TOPIC" "Lcom/example/clean_epoch/cleanepoch/protocol/ApiKey;" (.ref a_13) := Sta.start ev_13 (Or.inr ⟨(hw _ (List.mem_of_getElem? (i := 3) rfl)), (hw _ (List.mem_of_getElem? (i := 31) rfl))⟩)
  have X_13 : Exa s s.heap a_13 "com/example/clean_epoch/cleanepoch/protocol/ApiKey" := Exa.start ev_13 nw13
  obtain ⟨a_14, ev_14⟩ := exa_v nw14
  have S_14 : Sta s s.heap "com/example/clean_epoch/cleanepoch/protocol/ApiKey" "CLUSTER_STATE" "Lcom/example/clean_epoch/cleanepoch/protocol/ApiKey;" (.ref a_14) := Sta.start ev_14 (Or.inr ⟨(hw _ (List.mem_of_getElem? (i := 3) rfl)), (hw _ (List.mem_of_getElem? (i := 33) rfl))⟩)
  have X_14 : Exa s s.heap a_14 "com/example/clean_epoch/cleanepoch/protocol/ApiKey" := Exa.start ev_14 nw14
  obtain ⟨a_15, ev_15⟩ := exa_v nw15
  have S_15 : Sta s s.heap "com/example/clean_epoch/cleanepoch/protocol/ApiKey" "ELECT_LEADER" "Lcom/example/clean_epoch/cleanepoch/protocol/ApiKey;" (.ref a_15) := Sta.start ev_15 (Or.inr ⟨(hw _ (List.mem_of_getElem? (i := 3) rfl)), (hw _ (List.mem_of_getElem? (i := 35) rfl))⟩)
  have X_15 : Exa s s.heap a_15 "com/example/clean_epoch/cleanepoch/protocol/ApiKey" := Exa.start ev_15 nw15
  obtain ⟨a_16, ev_16⟩ := exa_v nw16
  have S_16 : Sta s s.heap "com/example/clean_epoch/cleanepoch/protocol/ApiKey" "CHANGE_IN_SYNC_SET" "Lcom/example/clean_epoch/cleanepoch/protocol/ApiKey;" (.ref a_16) := Sta.start ev_16 (Or.inr ⟨(hw _ (List.mem_of_getElem? (i := 3) rfl)), (hw _ (List.mem_of_getElem? (i := 37) rfl))⟩)
  have X_16 : Exa s s.heap a_16 "com/example/clean_epoch/cleanepoch/protocol/ApiKey" := Exa.start ev_16 nw16
  obtain ⟨a_17, ev_17⟩ := exa_v nw17
  have S_17 : Sta s s.heap "com/example/clean_epoch/cleanepoch/protocol/ApiKey" "CONTROLLER_VOTE" "Lcom/example/clean_epoch/cleanepoch/protocol/ApiKey;" (.ref a_17) := Sta.start ev_17 (Or.inr ⟨(hw _ (List.mem_of_getElem? (i := 3) rfl)), (hw _ (List.mem_of_getElem? (i := 39) rfl))⟩)
  have X_17 : Exa s s.heap a_17 "com/example/clean_epoch/cleanepoch/protocol/ApiKey" := Exa.start ev_17 nw17
  obtain ⟨a_18, ev_18⟩ := exa_v nw18
  have S_18 : Sta s s.heap "com/example/clean_epoch/cleanepoch/protocol/ApiKey" "CONTROLLER_HEARTBEAT" "Lcom/example/clean_epoch/cleanepoch/protocol/ApiKey;" (.ref a_18) := Sta.start ev_18 (Or.inr ⟨(hw _ (List.mem_of_getElem? (i := 3) rfl)), (hw _ (List.mem_of_getElem? (i := 41) rfl))⟩)
  have X_18 : Exa s s.heap a_18 "com/example/clean_epoch/cleanepoch/protocol/ApiKey" := Exa.start ev_18 nw18
  have F_19 : Fld s s.heap a_0 "com/example/clean_epoch/cleanepoch/protocol/ApiKey" "minVersion" "S" (.int (3 : Int32)) := fldStart ev_0 nw19
  have F_20 : Fld s s.heap a_0 "com/example/clean_epoch/cleanepoch/protocol/ApiKey" "maxVersion" "S" (.int (7 : Int32)) := fldStart ev_0 nw20
  have F_21 : Fld s s.heap a_1 "com/example/clean_epoch/cleanepoch/protocol/ApiKey" "minVersion" "S" (.int (4 : Int32)) := fldStart ev_1 nw21
  have F_22 : Fld s s.heap a_1 "com/example/clean_epoch/cleanepoch/protocol/ApiKey" "maxVersion" "S" (.int (11 : Int32)) := fldStart ev_1 nw22
  have F_23 : Fld s s.heap a_12 "com/example/clean_epoch/cleanepoch/protocol/ApiKey" "minVersion" "S" (.int (3 : Int32)) := fldStart ev_12 nw23
  have F_24 : Fld s s.heap a_12 "com/example/clean_epoch/cleanepoch/protocol/ApiKey" "maxVersion" "S" (.int (3 : Int32)) := fldStart ev_12 nw24
  have F_25 : Fld s s.heap a_11 "com/example/clean_epoch/cleanepoch/protocol/ApiKey" "minVersion" "S" (.int (0 : Int32)) := fldStart ev_11 nw25
  have F_26 : Fld s s.heap a_8 "com/example/clean_epoch/cleanepoch/protocol/ApiKey" "minVersion" "S" (.int (0 : Int32)) := fldStart ev_8 nw26
  have F_27 : Fld s s.heap a_8 "com/example/clean_epoch/cleanepoch/protocol/ApiKey" "maxVersion" "S" (.int (3 : Int32)) := fldStart ev_8 nw27
  have F_28 : Fld s s.heap a_3 "com/example/clean_epoch/cleanepoch/protocol/ApiKey" "minVersion" "S" (.int (0 : Int32)) := fldStart ev_3 nw28
  have F_29 : Fld s s.heap a_3 "com/example/clean_epoch/cleanepoch/protocol/ApiKey" "maxVersion" "S" (.int (7 : Int32)) := fldStart ev_3 nw29
  have F_30 : Fld s s.heap a_10 "com/example/clean_epoch/cleanepoch/protocol/ApiKey" "minVersion" "S" (.int (0 : Int32)) := fldStart ev_10 nw30
  have F_31 : Fld s s.heap a_10 "com/example/clean_epoch/cleanepoch/protocol/ApiKey" "maxVersion" "S" (.int (3 : Int32)) := fldStart ev_10 nw31
  have F_32 : Fld s s.heap a_16 "com/example/clean_epoch/cleanepoch/protocol/ApiKey" "minVersion" "S" (.int (0 : Int32)) := fldStart ev_16 nw32
  have F_33 : Fld s s.heap a_16 "com/example/clean_epoch/cleanepoch/protocol/ApiKey" "maxVersion" "S" (.int (1 : Int32)) := fldStart ev_16 nw33
  have F_34 : Fld s s.heap a_11 "com/example/clean_epoch/cleanepoch/protocol/ApiKey" "maxVersion" "S" (.int (3 : Int32)) := fldStart ev_11 nw34
  have F_35 : Fld s s.heap a_17 "com/example/clean_epoch/cleanepoch/protocol/ApiKey" "minVersion" "S" (.int (0 : Int32)) := fldStart ev_17 nw35
  have F_36 : Fld s s.heap a_17 "com/example/clean_epoch/cleanepoch/protocol/ApiKey" "maxVersion" "S" (.int (1 : Int32)) := fldStart ev_17 nw36
  have F_37 : Fld s s.heap a_2 "com/example/clean_epoch/cleanepoch/protocol/ApiKey" "minVersion" "S" (.int (1 : Int32)) := fldStart ev_2 nw37
  have F_38 : Fld s s.heap a_2 "com/example/clean_epoch/cleanepoch/protocol/ApiKey" "maxVersion" "S" (.int (4 : Int32)) := fldStart ev_2 nw38
  have F_39 : Fld s s.heap a_14 "com/example/clean_epoch/cleanepoch/protocol/ApiKey" "minVersion" "S" (.int (0 : Int32)) := fldStart ev_14 nw39
  have F_40 : Fld s s.heap a_14 "com/example/clean_epoch/cleanepoch/protocol/ApiKey" "maxVersion" "S" (.int (2 : Int32)) := fldStart ev_14 nw40
  have F_41 : Fld s s.heap a_7 "com/example/clean_epoch/cleanepoch/protocol/ApiKey" "minVersion" "S" (.int (0 : Int32)) := fldStart ev_7 nw41
  have F_42 : Fld s s.heap a_7 "com/example/clean_epoch/cleanepoch/protocol/ApiKey" "maxVersion" "S" (.int (5 : Int32)) := fldStart ev_7 nw42
  have F_43 : Fld s s.heap a_13 "com/example/clean_epoch/cleanepoch/protocol/ApiKey" "minVersion" "S" (.int (0 : Int32)) := fldStart ev_13 nw43
  have F_44 : Fld s s.heap a_5 "com/example/clean_epoch/cleanepoch/protocol/ApiKey" "minVersion" "S" (.int (1 : Int32)) := fldStart ev_5 nw44
  have F_45 : Fld s s.heap a_5 "com/example/clean_epoch/cleanepoch/protocol/ApiKey" "maxVersion" "S" (.int (7 : Int32)) := fldStart ev_5 nw45
  have F_46 : Fld s s.heap a_9 "com/example/clean_epoch/cleanepoch/protocol/ApiKey" "minVersion" "S" (.int (0 : Int32)) := fldStart ev_9 nw46
  have F_47 : Fld s s.heap a_9 "com/example/clean_epoch/cleanepoch/protocol/ApiKey" "maxVersion" "S" (.int (1 : Int32)) := fldStart ev_9 nw47
  have F_48 : Fld s s.heap a_15 "com/example/clean_epoch/cleanepoch/protocol/ApiKey" "minVersion" "S" (.int (0 : Int32)) := fldStart ev_15 nw48
  have F_49 : Fld s s.heap a_15 "com/example/clean_epoch/cleanepoch/protocol/ApiKey" "maxVersion" "S" (.int (0 : Int32)) := fldStart ev_15 nw49
  have F_50 : Fld s s.heap a_6 "com/example/clean_epoch/cleanepoch/protocol/ApiKey" "minVersion" "S" (.int (0 : Int32)) := fldStart ev_6 nw50
  have F_51 : Fld s s.heap a_6 "com/example/clean_epoch/cleanepoch/protocol/ApiKey" "maxVersion" "S" (.int (2 : Int32)) := fldStart ev_6 nw51
  have F_52 : Fld s s.heap a_4 "com/example/clean_epoch/cleanepoch/protocol/ApiKey" "minVersion" "S" (.int (2 : Int32)) := fldStart ev_4 nw52
  have F_53 : Fld s s.heap a_13 "com/example/clean_epoch/cleanepoch/protocol/ApiKey" "maxVersion" "S" (.int (2 : Int32)) := fldStart ev_13 nw53
  have F_54 : Fld s s.heap a_4 "com/example/clean_epoch/cleanepoch/protocol/ApiKey" "maxVersion" "S" (.int (7 : Int32)) := fldStart ev_4 nw54
  have F_55 : Fld s s.heap a_18 "com/example/clean_epoch/cleanepoch/protocol/ApiKey" "minVersion" "S" (.int (0 : Int32)) := fldStart ev_18 nw55
  have F_56 : Fld s s.heap a_18 "com/example/clean_epoch/cleanepoch/protocol/ApiKey" "maxVersion" "S" (.int (0 : Int32)) := fldStart ev_18 nw56
  obtain ⟨n, o, h1, h2, h3, _, L, rfl, ⟨rfl, N, -⟩, hq⟩ := rm_0 l s _ hw tables_1 i0 i1 i2 a_0 a_1 a_2 a_3 a_4 a_5 a_6 a_7 a_8 a_9 a_10 a_11 a_12 a_13 a_14 a_15 a_16 a_17 a_18 s.heap (extRfl _) S_0 S_1 S_2 S_3 S_4 S_5 S_6 S_7 S_8 S_9 S_10 S_11 S_12 S_13 S_14 S_15 S_16 S_17 S_18 X_0 X_1 X_2 X_3 X_4 X_5 X_6 X_7 X_8 X_9 X_10 X_11 X_12 X_13 X_14 X_15 X_16 X_17 X_18 F_19 F_21 F_37 F_28 F_52 F_44 F_50 F_41 F_26 F_46 F_30 F_25 F_23 F_43 F_39 F_48 F_32 F_35 F_55 F_20 F_22 F_38 F_29 F_54 F_45 F_51 F_42 F_27 F_47 F_31 F_34 F_24 F_53 F_40 F_49 F_33 F_36 F_56 p e ha hc hk s m _ below hf ((Spec.applies_iff_loose hf).mp happ).1 ⟨rfl, State.Warmed39.refl s, rfl⟩ trivial
  refine ⟨n, _, h1, h2, h3, hpost _ _ _ _ _ _ ⟨Cond.after_iff.mpr rfl, Cond.after_iff.mpr (eq_i res_at (Term.int_eval (1)) rfl), trivial⟩ ⟨hq.1, hq.2.1, (hq.2.2.sift fun y hy => Or.inr (N y hy)).mono (by decide) (by decide)⟩⟩
theorem main_1_1 : Claimed_1_1 := comes_1 fun _ _ _ _ _ _ h hF => ⟨h.1, hF⟩
theorem main_1_2 : Claimed_1_2 := comes_1 fun _ _ _ _ _ _ h hF => ⟨h.2.1, hF⟩
end Jvm.Pilot.@@N@@
namespace Jvm.Pilot.@@N@@
open Jvm Jvm.ClassFile Sem Op Lib Jvm.Free Jvm.Stand Jvm.Pilot.@@N@@.Jvm.D
/-! MADE BY PROGRAM (witnessworld.py) out of the Statement's table words and the real class files: 13 classes; the members and pool entries that the words name. The judged class is class 1, her method 1. -/
namespace start1
open Jvm.ClassFile
def u (s : String) : CpInfo := .utf8 (stringToUtf16 s)
/-- a pool by its gaps: so many unusable entries, then the entry; so many at the end -/
def gap : Nat → List CpInfo → List CpInfo
  | 0, r => r
  | n + 1, r => .unusable :: gap n r
def poolList (es : List (Nat × CpInfo)) (last : Nat) : List CpInfo := es.foldr (fun e r => gap e.1 (e.2 :: r)) (gap last [])
def pool (es : List (Nat × CpInfo)) (last : Nat) : Array CpInfo := ⟨poolList es last⟩
def fileOf (pool : Array CpInfo) (this : Nat) (attrs : Array Attribute := #[]) (ms : Array MethodInfo := #[]) (fl : Nat := 33) (sup : Nat := 0) (ifs : Array Nat := #[]) (fds : Array FieldInfo := #[]) : ClassFile where
  minorVersion := 0
  majorVersion := 65
  constantPool := pool
  accessFlags := fl
  thisClass := this
  superClass := sup
  interfaces := ifs
  fields := fds
  methods := ms
  attributes := attrs
def plain (name : String) (sup : Option ClassId) : Class where
  name := name
  kind := .ordinary
  loader := none
  accessFlags := 33
  super := sup
  interfaces := #[]
  cf := none
  fields := #[]
  methods := #[]
  instanceTypes := #[]
  staticTypes := #[]
  resolved := #[]
  callSites := []
  init := .initialized
  statics := none
  mirror := none

def pool0 : Array CpInfo := pool [(5, u "<init>"), (0, u "()V"), (1, .class_ 10), (1, u "java/lang/Object")] 113

def k0m0 : Method := { name := "<init>", desc := "()V", sig := { parameters := [], returnType := none }, accessFlags := 1, code := none }
/-- java/lang/Object -/
def k0 : Class := { plain "java/lang/Object" none with
  accessFlags := 33
  interfaces := #[]
  cf := some (fileOf pool0 8 #[] #[{ accessFlags := 1, nameIndex := 5, descriptorIndex := 6, attributes := #[] }] 33 0 #[] #[])
  fields := #[]
  methods := #[k0m0]
  instanceTypes := #[]
  staticTypes := #[]
  resolved := Array.replicate 124 none
  statics := none }

def pool1 : Array CpInfo := pool [(2, .class_ 4), (1, u "java/lang/Object"), (0, u "<init>"), (0, u "()V"), (0, .class_ 8), (0, u "com/example/clean_epoch/cleanepoch/protocol/ApiKey"), (0, .fieldref 7 10), (0, .nameAndType 11 12), (0, u "PRODUCE"), (0, u "Lcom/example/clean_epoch/cleanepoch/protocol/ApiKey;"), (0, .fieldref 7 14), (0, .nameAndType 15 12), (0, u "FETCH"), (0, .fieldref 7 17), (0, .nameAndType 18 12), (0, u "LIST_OFFSETS"), (0, .fieldref 7 20), (0, .nameAndType 21 12), (0, u "METADATA"), (0, .fieldref 7 23), (0, .nameAndType 24 12), (0, u "OFFSET_COMMIT"), (0, .fieldref 7 26), (0, .nameAndType 27 12), (0, u "OFFSET_FETCH"), (0, .fieldref 7 29), (0, .nameAndType 30 12), (0, u "FIND_COORDINATOR"), (0, .fieldref 7 32), (0, .nameAndType 33 12), (0, u "JOIN_GROUP"), (0, .fieldref 7 35), (0, .nameAndType 36 12), (0, u "HEARTBEAT"), (0, .fieldref 7 38), (0, .nameAndType 39 12), (0, u "LEAVE_GROUP"), (0, .fieldref 7 41), (0, .nameAndType 42 12), (0, u "SYNC_GROUP"), (0, .fieldref 7 44), (0, .nameAndType 45 12), (0, u "API_VERSIONS"), (0, .fieldref 7 47), (0, .nameAndType 48 12), (0, u "OFFSET_FOR_LEADER_EPOCH"), (0, .fieldref 7 50), (0, .nameAndType 51 12), (0, u "CREATE_TOPIC"), (0, .fieldref 7 53), (0, .nameAndType 54 12), (0, u "CLUSTER_STATE"), (0, .fieldref 7 56), (0, .nameAndType 57 12), (0, u "ELECT_LEADER"), (0, .fieldref 7 59), (0, .nameAndType 60 12), (0, u "CHANGE_IN_SYNC_SET"), (0, .fieldref 7 62), (0, .nameAndType 63 12), (0, u "CONTROLLER_VOTE"), (0, .fieldref 7 65), (0, .nameAndType 66 12), (0, u "CONTROLLER_HEARTBEAT"), (0, .integer 2147483647), (0, .methodref 7 69), (0, .nameAndType 70 71), (0, u "serves"), (0, u "(S)Z"), (0, .class_ 73), (0, u "com/example/clean_epoch/cleanepoch/protocol/ApiKeyServesPinLaw"), (2, u "law"), (0, u "(III)Z")] 7

def k1m0 : Method := { name := "<init>", desc := "()V", sig := { parameters := [], returnType := none }, accessFlags := 1, code := none }
def k1c1 : Code := { maxStack := 4, maxLocals := 12, code := code, exceptionTable := #[], attributes := #[] }
def k1m1 : Method := { name := "law", desc := "(III)Z", sig := { parameters := [.int, .int, .int], returnType := some .boolean }, accessFlags := 9, code := some k1c1 }
/-- com/example/clean_epoch/cleanepoch/protocol/ApiKeyServesPinLaw -/
def k1 : Class := { plain "com/example/clean_epoch/cleanepoch/protocol/ApiKeyServesPinLaw" (some 0) with
  accessFlags := 49
  interfaces := #[]
  cf := some (fileOf pool1 72 #[] #[{ accessFlags := 1, nameIndex := 5, descriptorIndex := 6, attributes := #[] }, { accessFlags := 9, nameIndex := 76, descriptorIndex := 77, attributes := #[] }] 49 2 #[] #[])
  fields := #[]
  methods := #[k1m0, k1m1]
  instanceTypes := #[]
  staticTypes := #[]
  resolved := Array.replicate 85 none
  statics := none }

def pool2 : Array CpInfo := pool [(1, .class_ 2), (0, u "java/lang/constant/Constable"), (0, .class_ 4), (0, u "java/lang/Object")] 6

/-- java/lang/constant/Constable -/
def k2 : Class := { plain "java/lang/constant/Constable" (some 0) with
  accessFlags := 1537
  interfaces := #[]
  cf := some (fileOf pool2 1 #[] #[] 1537 3 #[] #[])
  fields := #[]
  methods := #[]
  instanceTypes := #[]
  staticTypes := #[]
  resolved := Array.replicate 11 none
  statics := none }

def pool3 : Array CpInfo := pool [(1, .class_ 2), (0, u "java/lang/Comparable"), (0, .class_ 4), (0, u "java/lang/Object")] 7

/-- java/lang/Comparable -/
def k3 : Class := { plain "java/lang/Comparable" (some 0) with
  accessFlags := 1537
  interfaces := #[]
  cf := some (fileOf pool3 1 #[] #[] 1537 3 #[] #[])
  fields := #[]
  methods := #[]
  instanceTypes := #[]
  staticTypes := #[]
  resolved := Array.replicate 12 none
  statics := none }

def pool4 : Array CpInfo := pool [(1, .class_ 2), (0, u "java/io/Serializable"), (0, .class_ 4), (0, u "java/lang/Object")] 2

/-- java/io/Serializable -/
def k4 : Class := { plain "java/io/Serializable" (some 0) with
  accessFlags := 1537
  interfaces := #[]
  cf := some (fileOf pool4 1 #[] #[] 1537 3 #[] #[])
  fields := #[]
  methods := #[]
  instanceTypes := #[]
  staticTypes := #[]
  resolved := Array.replicate 7 none
  statics := none }

def pool5 : Array CpInfo := pool [(2, .class_ 4), (1, u "java/lang/Enum"), (0, u "name"), (0, u "Ljava/lang/String;"), (2, u "ordinal"), (0, u "I"), (1, .class_ 14), (1, u "java/lang/Object"), (4, u "hash"), (86, .class_ 108), (1, u "java/lang/Enum$EnumDesc"), (2, .class_ 112), (0, u "java/lang/constant/Constable"), (0, .class_ 114), (0, u "java/lang/Comparable"), (0, .class_ 116), (0, u "java/io/Serializable")] 87

/-- java/lang/Enum -/
def k5 : Class := { plain "java/lang/Enum" (some 0) with
  accessFlags := 1057
  interfaces := #[2, 3, 4]
  cf := some (fileOf pool5 2 #[.nestMembers #[106]] #[] 1057 12 #[111, 113, 115] #[{ accessFlags := 18, nameIndex := 5, descriptorIndex := 6, attributes := #[] }, { accessFlags := 18, nameIndex := 9, descriptorIndex := 10, attributes := #[] }, { accessFlags := 2, nameIndex := 19, descriptorIndex := 10, attributes := #[] }])
  fields := #[{ name := "name", type := (.object "java/lang/String"), accessFlags := 18, slot := 0, constantValue := 0 }, { name := "ordinal", type := .int, accessFlags := 18, slot := 1, constantValue := 0 }, { name := "hash", type := .int, accessFlags := 2, slot := 2, constantValue := 0 }]
  methods := #[]
  instanceTypes := #[(.object "java/lang/String"), .int, .int]
  staticTypes := #[]
  resolved := Array.replicate 204 none
  statics := none }

def pool6 : Array CpInfo := pool [(1, .class_ 2), (0, u "com/example/clean_epoch/cleanepoch/protocol/ApiKey"), (2, u "PRODUCE"), (0, u "Lcom/example/clean_epoch/cleanepoch/protocol/ApiKey;"), (2, u "FETCH"), (2, u "LIST_OFFSETS"), (2, u "METADATA"), (2, u "OFFSET_COMMIT"), (2, u "OFFSET_FETCH"), (2, u "FIND_COORDINATOR"), (2, u "JOIN_GROUP"), (2, u "HEARTBEAT"), (2, u "LEAVE_GROUP"), (2, u "SYNC_GROUP"), (2, u "API_VERSIONS"), (2, u "OFFSET_FOR_LEADER_EPOCH"), (2, u "CREATE_TOPIC"), (2, u "CLUSTER_STATE"), (2, u "ELECT_LEADER"), (2, u "CHANGE_IN_SYNC_SET"), (2, u "CONTROLLER_VOTE"), (2, u "CONTROLLER_HEARTBEAT"), (2, u "$VALUES"), (0, u "[Lcom/example/clean_epoch/cleanepoch/protocol/ApiKey;"), (6, .class_ 73), (1, u "java/lang/Enum"), (8, u "id"), (0, u "S"), (0, .fieldref 1 85), (0, .nameAndType 86 83), (0, u "minVersion"), (0, .fieldref 1 88), (0, .nameAndType 89 83), (0, u "maxVersion"), (2, u "firstFlexibleVersion"), (2, u "advertised"), (0, u "Z"), (63, u "serves"), (0, u "(S)Z")] 5

def k6c0 : Code := { maxStack := 2, maxLocals := 2, code := prog_34_method_9_code, exceptionTable := #[], attributes := #[] }
def k6m0 : Method := { name := "serves", desc := "(S)Z", sig := { parameters := [.short], returnType := some .boolean }, accessFlags := 1, code := some k6c0 }
/-- com/example/clean_epoch/cleanepoch/protocol/ApiKey -/
def k6 : Class := { plain "com/example/clean_epoch/cleanepoch/protocol/ApiKey" (some 5) with
  accessFlags := 16433
  interfaces := #[]
  cf := some (fileOf pool6 1 #[] #[{ accessFlags := 1, nameIndex := 160, descriptorIndex := 161, attributes := #[] }] 16433 71 #[] #[{ accessFlags := 16409, nameIndex := 5, descriptorIndex := 6, attributes := #[] }, { accessFlags := 16409, nameIndex := 9, descriptorIndex := 6, attributes := #[] }, { accessFlags := 16409, nameIndex := 12, descriptorIndex := 6, attributes := #[] }, { accessFlags := 16409, nameIndex := 15, descriptorIndex := 6, attributes := #[] }, { accessFlags := 16409, nameIndex := 18, descriptorIndex := 6, attributes := #[] }, { accessFlags := 16409, nameIndex := 21, descriptorIndex := 6, attributes := #[] }, { accessFlags := 16409, nameIndex := 24, descriptorIndex := 6, attributes := #[] }, { accessFlags := 16409, nameIndex := 27, descriptorIndex := 6, attributes := #[] }, { accessFlags := 16409, nameIndex := 30, descriptorIndex := 6, attributes := #[] }, { accessFlags := 16409, nameIndex := 33, descriptorIndex := 6, attributes := #[] }, { accessFlags := 16409, nameIndex := 36, descriptorIndex := 6, attributes := #[] }, { accessFlags := 16409, nameIndex := 39, descriptorIndex := 6, attributes := #[] }, { accessFlags := 16409, nameIndex := 42, descriptorIndex := 6, attributes := #[] }, { accessFlags := 16409, nameIndex := 45, descriptorIndex := 6, attributes := #[] }, { accessFlags := 16409, nameIndex := 48, descriptorIndex := 6, attributes := #[] }, { accessFlags := 16409, nameIndex := 51, descriptorIndex := 6, attributes := #[] }, { accessFlags := 16409, nameIndex := 54, descriptorIndex := 6, attributes := #[] }, { accessFlags := 16409, nameIndex := 57, descriptorIndex := 6, attributes := #[] }, { accessFlags := 16409, nameIndex := 60, descriptorIndex := 6, attributes := #[] }, { accessFlags := 18, nameIndex := 82, descriptorIndex := 83, attributes := #[] }, { accessFlags := 18, nameIndex := 86, descriptorIndex := 83, attributes := #[] }, { accessFlags := 18, nameIndex := 89, descriptorIndex := 83, attributes := #[] }, { accessFlags := 18, nameIndex := 92, descriptorIndex := 83, attributes := #[] }, { accessFlags := 18, nameIndex := 95, descriptorIndex := 96, attributes := #[] }, { accessFlags := 4122, nameIndex := 63, descriptorIndex := 64, attributes := #[] }])
  fields := #[{ name := "PRODUCE", type := (.object "com/example/clean_epoch/cleanepoch/protocol/ApiKey"), accessFlags := 16409, slot := 0, constantValue := 0 }, { name := "FETCH", type := (.object "com/example/clean_epoch/cleanepoch/protocol/ApiKey"), accessFlags := 16409, slot := 1, constantValue := 0 }, { name := "LIST_OFFSETS", type := (.object "com/example/clean_epoch/cleanepoch/protocol/ApiKey"), accessFlags := 16409, slot := 2, constantValue := 0 }, { name := "METADATA", type := (.object "com/example/clean_epoch/cleanepoch/protocol/ApiKey"), accessFlags := 16409, slot := 3, constantValue := 0 }, { name := "OFFSET_COMMIT", type := (.object "com/example/clean_epoch/cleanepoch/protocol/ApiKey"), accessFlags := 16409, slot := 4, constantValue := 0 }, { name := "OFFSET_FETCH", type := (.object "com/example/clean_epoch/cleanepoch/protocol/ApiKey"), accessFlags := 16409, slot := 5, constantValue := 0 }, { name := "FIND_COORDINATOR", type := (.object "com/example/clean_epoch/cleanepoch/protocol/ApiKey"), accessFlags := 16409, slot := 6, constantValue := 0 }, { name := "JOIN_GROUP", type := (.object "com/example/clean_epoch/cleanepoch/protocol/ApiKey"), accessFlags := 16409, slot := 7, constantValue := 0 }, { name := "HEARTBEAT", type := (.object "com/example/clean_epoch/cleanepoch/protocol/ApiKey"), accessFlags := 16409, slot := 8, constantValue := 0 }, { name := "LEAVE_GROUP", type := (.object "com/example/clean_epoch/cleanepoch/protocol/ApiKey"), accessFlags := 16409, slot := 9, constantValue := 0 }, { name := "SYNC_GROUP", type := (.object "com/example/clean_epoch/cleanepoch/protocol/ApiKey"), accessFlags := 16409, slot := 10, constantValue := 0 }, { name := "API_VERSIONS", type := (.object "com/example/clean_epoch/cleanepoch/protocol/ApiKey"), accessFlags := 16409, slot := 11, constantValue := 0 }, { name := "OFFSET_FOR_LEADER_EPOCH", type := (.object "com/example/clean_epoch/cleanepoch/protocol/ApiKey"), accessFlags := 16409, slot := 12, constantValue := 0 }, { name := "CREATE_TOPIC", type := (.object "com/example/clean_epoch/cleanepoch/protocol/ApiKey"), accessFlags := 16409, slot := 13, constantValue := 0 }, { name := "CLUSTER_STATE", type := (.object "com/example/clean_epoch/cleanepoch/protocol/ApiKey"), accessFlags := 16409, slot := 14, constantValue := 0 }, { name := "ELECT_LEADER", type := (.object "com/example/clean_epoch/cleanepoch/protocol/ApiKey"), accessFlags := 16409, slot := 15, constantValue := 0 }, { name := "CHANGE_IN_SYNC_SET", type := (.object "com/example/clean_epoch/cleanepoch/protocol/ApiKey"), accessFlags := 16409, slot := 16, constantValue := 0 }, { name := "CONTROLLER_VOTE", type := (.object "com/example/clean_epoch/cleanepoch/protocol/ApiKey"), accessFlags := 16409, slot := 17, constantValue := 0 }, { name := "CONTROLLER_HEARTBEAT", type := (.object "com/example/clean_epoch/cleanepoch/protocol/ApiKey"), accessFlags := 16409, slot := 18, constantValue := 0 }, { name := "id", type := .short, accessFlags := 18, slot := 3, constantValue := 0 }, { name := "minVersion", type := .short, accessFlags := 18, slot := 4, constantValue := 0 }, { name := "maxVersion", type := .short, accessFlags := 18, slot := 5, constantValue := 0 }, { name := "firstFlexibleVersion", type := .short, accessFlags := 18, slot := 6, constantValue := 0 }, { name := "advertised", type := .boolean, accessFlags := 18, slot := 7, constantValue := 0 }, { name := "$VALUES", type := (.array (.object "com/example/clean_epoch/cleanepoch/protocol/ApiKey")), accessFlags := 4122, slot := 19, constantValue := 0 }]
  methods := #[k6m0]
  instanceTypes := #[(.object "java/lang/String"), .int, .int, .short, .short, .short, .short, .boolean]
  staticTypes := #[(.object "com/example/clean_epoch/cleanepoch/protocol/ApiKey"), (.object "com/example/clean_epoch/cleanepoch/protocol/ApiKey"), (.object "com/example/clean_epoch/cleanepoch/protocol/ApiKey"), (.object "com/example/clean_epoch/cleanepoch/protocol/ApiKey"), (.object "com/example/clean_epoch/cleanepoch/protocol/ApiKey"), (.object "com/example/clean_epoch/cleanepoch/protocol/ApiKey"), (.object "com/example/clean_epoch/cleanepoch/protocol/ApiKey"), (.object "com/example/clean_epoch/cleanepoch/protocol/ApiKey"), (.object "com/example/clean_epoch/cleanepoch/protocol/ApiKey"), (.object "com/example/clean_epoch/cleanepoch/protocol/ApiKey"), (.object "com/example/clean_epoch/cleanepoch/protocol/ApiKey"), (.object "com/example/clean_epoch/cleanepoch/protocol/ApiKey"), (.object "com/example/clean_epoch/cleanepoch/protocol/ApiKey"), (.object "com/example/clean_epoch/cleanepoch/protocol/ApiKey"), (.object "com/example/clean_epoch/cleanepoch/protocol/ApiKey"), (.object "com/example/clean_epoch/cleanepoch/protocol/ApiKey"), (.object "com/example/clean_epoch/cleanepoch/protocol/ApiKey"), (.object "com/example/clean_epoch/cleanepoch/protocol/ApiKey"), (.object "com/example/clean_epoch/cleanepoch/protocol/ApiKey"), (.array (.object "com/example/clean_epoch/cleanepoch/protocol/ApiKey"))]
  resolved := Array.replicate 167 none
  statics := some 0 }

def pool7 : Array CpInfo := pool [(1, u "java/lang/Cloneable"), (0, .class_ 1), (0, u "java/lang/Object"), (0, .class_ 3)] 3

/-- java/lang/Cloneable -/
def k7 : Class := { plain "java/lang/Cloneable" (some 0) with
  accessFlags := 1537
  interfaces := #[]
  cf := some (fileOf pool7 2 #[] #[] 1537 4 #[] #[])
  fields := #[]
  methods := #[]
  instanceTypes := #[]
  staticTypes := #[]
  resolved := Array.replicate 8 none
  statics := none }

/-- the primitive byte -/
def k8 : Class := { plain "byte" none with kind := .primitive 'B', accessFlags := 0x411 }
/-- [B -/
def k9 : Class := { plain "[B" (some 0) with kind := .array 8 .byte, interfaces := #[7, 4], accessFlags := 1041 }

/-- the primitive int -/
def k10 : Class := { plain "int" none with kind := .primitive 'I', accessFlags := 0x411 }
/-- [I -/
def k11 : Class := { plain "[I" (some 0) with kind := .array 10 .int, interfaces := #[7, 4], accessFlags := 1041 }

/-- [Lcom/example/clean_epoch/cleanepoch/protocol/ApiKey; -/
def k12 : Class := { plain "[Lcom/example/clean_epoch/cleanepoch/protocol/ApiKey;" (some 0) with kind := .array 6 (.object "com/example/clean_epoch/cleanepoch/protocol/ApiKey"), interfaces := #[7, 4], accessFlags := 1041 }

def heap : Heap := #[{ cls := 6, slots := #[.ref 1, .ref 2, .ref 3, .ref 4, .ref 5, .ref 6, .ref 7, .ref 8, .ref 9, .ref 10, .ref 11, .ref 12, .ref 13, .ref 14, .ref 15, .ref 16, .ref 17, .ref 18, .ref 19, .null], vm := .statics 6 },
  { cls := 6, slots := #[.null, .int 0, .int 0, .int 0, .int 3, .int 7, .int 0, .int 0], vm := .none },
  { cls := 6, slots := #[.null, .int 1, .int 0, .int 0, .int 4, .int 11, .int 0, .int 0], vm := .none },
  { cls := 6, slots := #[.null, .int 2, .int 0, .int 0, .int 1, .int 4, .int 0, .int 0], vm := .none },
  { cls := 6, slots := #[.null, .int 3, .int 0, .int 0, .int 0, .int 7, .int 0, .int 0], vm := .none },
  { cls := 6, slots := #[.null, .int 4, .int 0, .int 0, .int 2, .int 7, .int 0, .int 0], vm := .none },
  { cls := 6, slots := #[.null, .int 5, .int 0, .int 0, .int 1, .int 7, .int 0, .int 0], vm := .none },
  { cls := 6, slots := #[.null, .int 6, .int 0, .int 0, .int 0, .int 2, .int 0, .int 0], vm := .none },
  { cls := 6, slots := #[.null, .int 7, .int 0, .int 0, .int 0, .int 5, .int 0, .int 0], vm := .none },
  { cls := 6, slots := #[.null, .int 8, .int 0, .int 0, .int 0, .int 3, .int 0, .int 0], vm := .none },
  { cls := 6, slots := #[.null, .int 9, .int 0, .int 0, .int 0, .int 1, .int 0, .int 0], vm := .none },
  { cls := 6, slots := #[.null, .int 10, .int 0, .int 0, .int 0, .int 3, .int 0, .int 0], vm := .none },
  { cls := 6, slots := #[.null, .int 11, .int 0, .int 0, .int 0, .int 3, .int 0, .int 0], vm := .none },
  { cls := 6, slots := #[.null, .int 12, .int 0, .int 0, .int 3, .int 3, .int 0, .int 0], vm := .none },
  { cls := 6, slots := #[.null, .int 13, .int 0, .int 0, .int 0, .int 2, .int 0, .int 0], vm := .none },
  { cls := 6, slots := #[.null, .int 14, .int 0, .int 0, .int 0, .int 2, .int 0, .int 0], vm := .none },
  { cls := 6, slots := #[.null, .int 15, .int 0, .int 0, .int 0, .int 0, .int 0, .int 0], vm := .none },
  { cls := 6, slots := #[.null, .int 16, .int 0, .int 0, .int 0, .int 1, .int 0, .int 0], vm := .none },
  { cls := 6, slots := #[.null, .int 17, .int 0, .int 0, .int 0, .int 1, .int 0, .int 0], vm := .none },
  { cls := 6, slots := #[.null, .int 18, .int 0, .int 0, .int 0, .int 0, .int 0, .int 0], vm := .none }]
def classes : Array Class := #[k0, k1, k2, k3, k4, k5, k6, k7, k8, k9, k10, k11, k12]
def interned : List (Array UInt16 × Addr) := []
def slotsUsed : Nat := 172
def theMethod : MethodId := ⟨1, 1⟩
def args0 : Array Value := #[.int 5, .int 7, .int 9]
def aboutOver (below : List Frame) : State where
  vm := { classes := classes, interned := interned.toArray }
  heap := heap
  slotsUsed := slotsUsed
  threads := #[{ frames := .invoking theMethod args0 :: below }]
def below0 : List Frame := [.native { method := ⟨0, 0⟩, args := #[] }]
def about1 : State := aboutOver below0
def p0 : Program := .bare "" "" ""
def e0 : Env := launch0.env 0 0 0
theorem w_frames : about1.frames = Frame.invoking theMethod args0 :: below0 := rfl
set_option maxRecDepth 65536 in
theorem w_args : argsFit about1.vm theMethod args0 = true := by decide +kernel
set_option maxRecDepth 65536 in
theorem w_heap : heapFits about1 = true := by decide +kernel
set_option maxRecDepth 65536 in
theorem w_runnable : about1.curStatus? = some .runnable := by decide +kernel
set_option maxRecDepth 65536 in
theorem w_alone : about1.alone = true := by decide +kernel
set_option maxRecDepth 65536 in
theorem w_named : about1.methodNamed? x = some theMethod := by decide +kernel
set_option maxRecDepth 65536 in
theorem w_hears : about1.hears theMethod below0 = true := by decide +kernel
set_option maxRecDepth 65536 in
theorem w_ripe : about1.ripe theMethod args0 below0 = true := by decide +kernel
theorem w_running : about1.status = .running := rfl
set_option maxRecDepth 65536 in
theorem w_room : about1.hasRoom e0.platform room_1 = true :=
  launch0.hasRoom_least _ room_1 (by decide +kernel) (by decide +kernel) (by decide +kernel) (by decide +kernel) (by decide +kernel) (by decide +kernel)
theorem allAtoms_all (ts : List Jvm.Cond) (a : Array Jvm.Value) (st : Jvm.State) : (allAtoms ts).before a st = ts.all (fun c => c.before a st) := by
  induction ts with
  | nil => rfl
  | cons c t ih =>
    show (Jvm.Cond.and c (allAtoms t)).before a st = _
    rw [Jvm.Cond.before_and, ih, List.all_cons]
def words1 : List Jvm.Cond := Jvm.Cond.code x code maxLocals ret :: tables_1
/-- a 'code' word, met by the world's own term for the bytes: nothing is compared byte by byte -/
theorem code_word {y : MethodName} {bytes : ByteArray} {mx : Nat} {rt : Option FieldType} {a : Array Value} {s : State} {m : MethodId} {meth : Method} {c : Code} (h1 : s.methodNamed? y = some m) (h2 : s.vm.method? m = some meth) (h3 : meth.code = some c) (h4 : c.code = bytes)
    (h5 : (c.maxLocals == mx && c.exceptionTable.isEmpty && decide (c.maxStack ≤ mostOperands) && decide (meth.sig.returnType = rt) && !meth.locks && decide (parseMethodDescriptor y.desc = some meth.sig)) = true) : (Jvm.Cond.code y bytes mx rt).before a s = true := by
  simp only [Bool.and_eq_true, beq_iff_eq, Bool.not_eq_true', decide_eq_true_eq] at h5
  obtain ⟨⟨⟨⟨⟨g1, g2⟩, g3⟩, g4⟩, g5⟩, g6⟩ := h5
  simp [Cond.before, Cond.holds, Cond.value, h1, h2, h3, h4, g1, g2, g3, g4, g5, g6]
def isCode : Jvm.Cond → Bool
  | .code _ _ _ _ => true
  | _ => false
theorem all_split {L : List Jvm.Cond} {P : Jvm.Cond → Bool} (h1 : L.all (fun c => isCode c || P c) = true) (h2 : ∀ c ∈ L.filter isCode, P c = true) : L.all P = true := by
  refine List.all_eq_true.mpr fun c hc => ?_
  have h := List.all_eq_true.mp h1 c hc
  rcases Bool.eq_false_or_eq_true (isCode c) with hi | hi
  · exact h2 c (List.mem_filter.mpr ⟨hc, hi⟩)
  · simpa [hi] using h
set_option maxRecDepth 65536 in
theorem w_c0 : (Jvm.Cond.code x code maxLocals ret).before args0 about1 = true := code_word (m := ⟨1, 1⟩) (meth := k1m1) (c := k1c1) (by decide +kernel) rfl rfl rfl (by decide +kernel)
set_option maxRecDepth 65536 in
theorem w_c1 : (Jvm.Cond.code ({ cls := "com/example/clean_epoch/cleanepoch/protocol/ApiKey", name := "serves", desc := "(S)Z" } : Jvm.MethodName) prog_34_method_9_code (2 : Nat) (Option.some Jvm.ClassFile.FieldType.boolean)).before args0 about1 = true := code_word (m := ⟨6, 0⟩) (meth := k6m0) (c := k6c0) (by decide +kernel) rfl rfl rfl (by decide +kernel)
def codes1 : List Jvm.Cond := [Jvm.Cond.code x code maxLocals ret, Jvm.Cond.code ({ cls := "com/example/clean_epoch/cleanepoch/protocol/ApiKey", name := "serves", desc := "(S)Z" } : Jvm.MethodName) prog_34_method_9_code (2 : Nat) (Option.some Jvm.ClassFile.FieldType.boolean)]
set_option maxRecDepth 65536 in
theorem codes_eq : words1.filter isCode = codes1 := rfl
theorem w_codes : ∀ c ∈ words1.filter isCode, c.before args0 about1 = true := by
  rw [codes_eq]
  intro c hc
  simp only [codes1, List.mem_cons, List.not_mem_nil, or_false] at hc
  rcases hc with rfl | rfl
  · exact w_c0
  · exact w_c1
set_option maxRecDepth 65536 in
theorem w_t1 : (words1.take 24).all (fun c => isCode c || c.before args0 about1) = true := by decide +kernel
set_option maxRecDepth 65536 in
theorem w_t2 : ((words1.drop 24).take 24).all (fun c => isCode c || c.before args0 about1) = true := by decide +kernel
set_option maxRecDepth 65536 in
theorem w_t3 : ((words1.drop 24).drop 24).all (fun c => isCode c || c.before args0 about1) = true := by decide +kernel
theorem w_tables : (allAtoms (Jvm.Cond.code x code maxLocals ret :: tables_1)).before args0 about1 = true := by
  rw [allAtoms_all]
  show words1.all (fun c => c.before args0 about1) = true
  refine all_split ?_ w_codes
  rw [← List.take_append_drop 24 words1, List.all_append, w_t1, ← List.take_append_drop 24 (words1.drop 24), List.all_append, w_t2, w_t3]
  rfl
set_option maxRecDepth 65536 in
theorem w_case : (Jvm.Cond.and given_1 narrow_1).before args0 about1 = true := by decide +kernel
theorem w_applies : (headSpec (Jvm.Cond.code x code maxLocals ret :: tables_1) room_1).applies x e0.platform about1 = true :=
  (Spec.applies_iff w_frames).mpr ⟨w_running, w_runnable, w_alone, w_named, w_hears, w_ripe, w_room, w_tables⟩
theorem atStart : AtStart classFile x code maxLocals ret World_1 tables_1 room_1 Calls_1 rest_1 Pre_1 launch0 p0 e0 about1 theMethod args0 below0 :=
  ⟨lists_1, trivial, launch0.admits_env _ _ _, launch0.least_env, fairChoices_fair.cas, fairChoices_fair.clock, w_frames, w_args, w_heap, w_applies, trivial, trivial, w_case⟩
end start1
theorem witness_1 : WitnessClaimed_1 := ⟨start1.p0, start1.e0, start1.about1, start1.theMethod, start1.args0, start1.below0, start1.atStart⟩
end Jvm.Pilot.@@N@@
