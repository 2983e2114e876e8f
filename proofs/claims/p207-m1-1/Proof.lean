import JvmDerived
import JvmDerived.Pilot.@@N@@Statement
import JvmDerived.Pilot.@@N@@Code
set_option linter.unusedVariables false
set_option linter.unusedSimpArgs false
namespace Jvm.Pilot.@@N@@
open Jvm Jvm.ClassFile Sem Op Lib Jvm.Free Jvm.Stand Jvm.LawKit Jvm.RoadKit Bundle Jvm.Pilot.@@N@@.Jvm.D
abbrev HW (Z : State) (a0 : Array Value) : Prop := ∀ d ∈ tables_1, d.before a0 Z = true
theorem mg {α : Type} {L : List α} {i : Nat} {a : α} (h : L[i]? = some a) : a ∈ L := List.mem_of_getElem? h
theorem wd {Z : State} {a0 : Array Value} (hw : HW Z a0) (i : Nat) {d : Jvm.Cond} (h : tables_1[i]? = some d) : d.before a0 Z = true := hw d (mg h)
/-! the walk in continuation form: 'Go' says that from here the body comes to its end with Q -/
def Go (EN : State → Outcome → State → List Loc → Nat → Nat → Prop) (p : Program) (e : Env) (below : List Frame) (s : State) (kc ks : Nat) (Q : Option Value → Heap → List Loc → Prop) (T : State) (g : JFrame) : Prop :=
  ∃ s₂ o, Steps p.tables e below (T.setTop g) s₂ ∧ s₂.status = .running ∧ Ended s₂ below o ∧ ∃ v L, o = .returned v ∧ Q v s₂.heap L ∧ EN s o s₂ L kc ks
section GoLaws
variable {p : Program} {l : Launch} {e : Env} {R : Room} {s : State} {m : MethodId} {args : Array Value} {below : List Frame} {meth : Method} {c : Code} {T T' : State} {locs : List Loc} {cells slots kc ks : Nat} {Q : Option Value → Heap → List Loc → Prop} {g g' : JFrame} {EN : State → Outcome → State → List Loc → Nat → Nat → Prop}
theorem Go.step (st : ∀ t, Steps p.tables e below (T'.setTop g') t → Steps p.tables e below (T.setTop g) t) (k : Go EN p e below s kc ks Q T' g') : Go EN p e below s kc ks Q T g := by
  obtain ⟨a, b, h1, h2⟩ := k
  exact ⟨a, b, st _ h1, h2⟩
theorem Go.trans (st : Steps p.tables e below (T.setTop g) (T'.setTop g')) (k : Go EN p e below s kc ks Q T' g') : Go EN p e below s kc ks Q T g := by
  obtain ⟨a, b, h1, h2⟩ := k
  exact ⟨a, b, st.trans h1, h2⟩
theorem Go.cast (q : g = g') (k : Go EN p e below s kc ks Q T g') : Go EN p e below s kc ks Q T g := q ▸ k
theorem Go.retN (X : Stand p l e R s m args below meth c T locs cells slots) (hx : p.tables.exec = Jvm.exec) {pc : Nat} {Ls : Array Slot} {z : Int32} {t : FieldType} {rest : List Value} (hret : meth.sig.returnType = some t) (ht : t = .boolean ∨ t = .byte ∨ t = .char ∨ t = .short) (hlk : meth.locks = false)
    (hd : decode c.code pc = .ok (.ireturn, 1)) (hc : cells ≤ kc) (hs : slots ≤ ks) (q : Q (some (.int (nar t z))) T.heap locs) : Go FrameEnd p e below s kc ks Q T (mkF m pc Ls (.int z :: rest)) := by
  obtain ⟨fs, hr, hrun, hended, hW, hsame⟩ := X.leave (v := some (.int (nar t z))) (fun h => by rw [hret] at h; cases h) hlk
  exact ⟨_, _, RoadKit.retN X hx hret ht hd hr, hrun, hended, _, _, rfl, q, ⟨_, rfl⟩, hW, hsame.mono hc hs⟩
theorem Go.retI (X : Stand p l e R s m args below meth c T locs cells slots) (hx : p.tables.exec = Jvm.exec) {pc : Nat} {Ls : Array Slot} {z : Int32} {rest : List Value} (hret : meth.sig.returnType = some .int) (hlk : meth.locks = false)
    (hd : decode c.code pc = .ok (.ireturn, 1)) (hc : cells ≤ kc) (hs : slots ≤ ks) (q : Q (some (.int z)) T.heap locs) : Go FrameEnd p e below s kc ks Q T (mkF m pc Ls (.int z :: rest)) := by
  obtain ⟨fs, hr, hrun, hended, hW, hsame⟩ := X.leave (v := some (.int z)) (fun h => by rw [hret] at h; cases h) hlk
  exact ⟨_, _, RoadKit.retOut X hx hret rfl (Or.inl ⟨rfl, Or.inl rfl, _, rfl⟩) hd hr, hrun, hended, _, _, rfl, q, ⟨_, rfl⟩, hW, hsame.mono hc hs⟩
theorem Go.retJ (X : Stand p l e R s m args below meth c T locs cells slots) (hx : p.tables.exec = Jvm.exec) {pc : Nat} {Ls : Array Slot} {z : Int64} {rest : List Value} (hret : meth.sig.returnType = some .long) (hlk : meth.locks = false)
    (hd : decode c.code pc = .ok (.lreturn, 1)) (hc : cells ≤ kc) (hs : slots ≤ ks) (q : Q (some (.long z)) T.heap locs) : Go FrameEnd p e below s kc ks Q T (mkF m pc Ls (.long z :: rest)) := by
  obtain ⟨fs, hr, hrun, hended, hW, hsame⟩ := X.leave (v := some (.long z)) (fun h => by rw [hret] at h; cases h) hlk
  exact ⟨_, _, RoadKit.retOut X hx hret rfl (Or.inr (Or.inl ⟨rfl, rfl, _, rfl⟩)) hd hr, hrun, hended, _, _, rfl, q, ⟨_, rfl⟩, hW, hsame.mono hc hs⟩
theorem Go.retA (X : Stand p l e R s m args below meth c T locs cells slots) (hx : p.tables.exec = Jvm.exec) {pc : Nat} {Ls : Array Slot} {z : Value} {t : FieldType} {rest : List Value} (hret : meth.sig.returnType = some t) (ht : t.isReference = true) (hz : z.isRef = true) (hlk : meth.locks = false)
    (hd : decode c.code pc = .ok (.areturn, 1)) (hc : cells ≤ kc) (hs : slots ≤ ks) (q : Q (some z) T.heap locs) : Go FrameEnd p e below s kc ks Q T (mkF m pc Ls (z :: rest)) := by
  obtain ⟨fs, hr, hrun, hended, hW, hsame⟩ := X.leave (v := some z) (fun h => by rw [hret] at h; cases h) hlk
  exact ⟨_, _, RoadKit.retOut X hx hret (by cases t <;> cases z <;> first | rfl | (cases ht; done) | (cases hz; done)) (Or.inr (Or.inr (Or.inr (Or.inr ⟨rfl, ht, hz⟩)))) hd hr, hrun, hended, _, _, rfl, q, ⟨_, rfl⟩, hW, hsame.mono hc hs⟩
theorem Go.retV (X : Stand p l e R s m args below meth c T locs cells slots) (hx : p.tables.exec = Jvm.exec) {pc : Nat} {Ls : Array Slot} (hret : meth.sig.returnType = none) (hlk : meth.locks = false)
    (hd : decode c.code pc = .ok (.return_, 1)) (hc : cells ≤ kc) (hs : slots ≤ ks) (q : Q none T.heap locs) : Go FrameEnd p e below s kc ks Q T (mkF m pc Ls []) := by
  obtain ⟨fs, hr, hrun, hended, hW, hsame⟩ := X.leave (v := none) (fun _ => rfl) hlk
  exact ⟨_, _, X.returnOut hx hret hd hr, hrun, hended, _, _, rfl, q, ⟨_, rfl⟩, hW, hsame.mono hc hs⟩
theorem rewMono {s t : State} {o : Outcome} {L : List Loc} {k n k' n' : Nat} (h : ReturnedEndW s o t L k n) (hk : k ≤ k') (hn : n ≤ n') : ReturnedEndW s o t L k' n' := ⟨h.1, h.2.1, h.2.2.1, h.2.2.2.mono hk hn⟩
theorem Go.retNW {vm0 : Vm} {k0 : Nat} (X : Stand p l e R (s.setVm vm0) m args below meth c T locs cells slots) (hS : s.Since vm0 k0) (hk : k0 ≤ T.heap.size) (hx : p.tables.exec = Jvm.exec) {pc : Nat} {Ls : Array Slot} {z : Int32} {t : FieldType} {rest : List Value} (hret : meth.sig.returnType = some t) (ht : t = .boolean ∨ t = .byte ∨ t = .char ∨ t = .short) (hlk : meth.locks = false)
    (hd : decode c.code pc = .ok (.ireturn, 1)) (hc : cells ≤ kc) (hs : slots ≤ ks) (q : Q (some (.int (nar t z))) T.heap locs) : Go ReturnedEndW p e below s kc ks Q T (mkF m pc Ls (.int z :: rest)) := by
  obtain ⟨fs, hr, hrun, hended, hW⟩ := X.leaveW hS hk (v := some (.int (nar t z))) (fun h => by rw [hret] at h; cases h) hlk
  exact ⟨_, _, RoadKit.retN X hx hret ht hd hr, hrun, hended, _, _, rfl, q, rewMono hW hc hs⟩
theorem Go.retIW {vm0 : Vm} {k0 : Nat} (X : Stand p l e R (s.setVm vm0) m args below meth c T locs cells slots) (hS : s.Since vm0 k0) (hk : k0 ≤ T.heap.size) (hx : p.tables.exec = Jvm.exec) {pc : Nat} {Ls : Array Slot} {z : Int32} {rest : List Value} (hret : meth.sig.returnType = some .int) (hlk : meth.locks = false)
    (hd : decode c.code pc = .ok (.ireturn, 1)) (hc : cells ≤ kc) (hs : slots ≤ ks) (q : Q (some (.int z)) T.heap locs) : Go ReturnedEndW p e below s kc ks Q T (mkF m pc Ls (.int z :: rest)) := by
  obtain ⟨fs, hr, hrun, hended, hW⟩ := X.leaveW hS hk (v := some (.int z)) (fun h => by rw [hret] at h; cases h) hlk
  exact ⟨_, _, RoadKit.retOut X hx hret rfl (Or.inl ⟨rfl, Or.inl rfl, _, rfl⟩) hd hr, hrun, hended, _, _, rfl, q, rewMono hW hc hs⟩
theorem Go.retJW {vm0 : Vm} {k0 : Nat} (X : Stand p l e R (s.setVm vm0) m args below meth c T locs cells slots) (hS : s.Since vm0 k0) (hk : k0 ≤ T.heap.size) (hx : p.tables.exec = Jvm.exec) {pc : Nat} {Ls : Array Slot} {z : Int64} {rest : List Value} (hret : meth.sig.returnType = some .long) (hlk : meth.locks = false)
    (hd : decode c.code pc = .ok (.lreturn, 1)) (hc : cells ≤ kc) (hs : slots ≤ ks) (q : Q (some (.long z)) T.heap locs) : Go ReturnedEndW p e below s kc ks Q T (mkF m pc Ls (.long z :: rest)) := by
  obtain ⟨fs, hr, hrun, hended, hW⟩ := X.leaveW hS hk (v := some (.long z)) (fun h => by rw [hret] at h; cases h) hlk
  exact ⟨_, _, RoadKit.retOut X hx hret rfl (Or.inr (Or.inl ⟨rfl, rfl, _, rfl⟩)) hd hr, hrun, hended, _, _, rfl, q, rewMono hW hc hs⟩
theorem Go.retAW {vm0 : Vm} {k0 : Nat} (X : Stand p l e R (s.setVm vm0) m args below meth c T locs cells slots) (hS : s.Since vm0 k0) (hk : k0 ≤ T.heap.size) (hx : p.tables.exec = Jvm.exec) {pc : Nat} {Ls : Array Slot} {z : Value} {t : FieldType} {rest : List Value} (hret : meth.sig.returnType = some t) (ht : t.isReference = true) (hz : z.isRef = true) (hlk : meth.locks = false)
    (hd : decode c.code pc = .ok (.areturn, 1)) (hc : cells ≤ kc) (hs : slots ≤ ks) (q : Q (some z) T.heap locs) : Go ReturnedEndW p e below s kc ks Q T (mkF m pc Ls (z :: rest)) := by
  obtain ⟨fs, hr, hrun, hended, hW⟩ := X.leaveW hS hk (v := some z) (fun h => by rw [hret] at h; cases h) hlk
  exact ⟨_, _, RoadKit.retOut X hx hret (by cases t <;> cases z <;> first | rfl | (cases ht; done) | (cases hz; done)) (Or.inr (Or.inr (Or.inr (Or.inr ⟨rfl, ht, hz⟩)))) hd hr, hrun, hended, _, _, rfl, q, rewMono hW hc hs⟩
theorem Go.retVW {vm0 : Vm} {k0 : Nat} (X : Stand p l e R (s.setVm vm0) m args below meth c T locs cells slots) (hS : s.Since vm0 k0) (hk : k0 ≤ T.heap.size) (hx : p.tables.exec = Jvm.exec) {pc : Nat} {Ls : Array Slot} (hret : meth.sig.returnType = none) (hlk : meth.locks = false)
    (hd : decode c.code pc = .ok (.return_, 1)) (hc : cells ≤ kc) (hs : slots ≤ ks) (q : Q none T.heap locs) : Go ReturnedEndW p e below s kc ks Q T (mkF m pc Ls []) := by
  obtain ⟨fs, hr, hrun, hended, hW⟩ := X.leaveW hS hk (v := none) (fun _ => rfl) hlk
  exact ⟨_, _, X.returnOut hx hret hd hr, hrun, hended, _, _, rfl, q, rewMono hW hc hs⟩
abbrev Met (EN : State → Outcome → State → List Loc → Nat → Nat → Prop) (l : Launch) (y : MethodName) (bytes : ByteArray) (ml : Nat) (rt : Option FieldType) (ws : List Jvm.Cond) (R : Room) (Z : State) (h0 : Heap) (A : Array Value) (Q : Option Value → Heap → List Loc → Prop) : Prop :=
  MetFree l y (head1 (Jvm.Cond.code y bytes ml rt :: ws) R) (fun a U => a = A ∧ Z.Warmed39 U.vm ∧ U.heap = h0) (fun _ _ _ _ _ => True) (fun _ U o U' => ∃ v L, o = .returned v ∧ Q v U'.heap L ∧ EN U o U' L R.cells R.slots)
theorem own_met {y : MethodName} {bytes : ByteArray} {ml : Nat} {rt : Option FieldType} {ws : List Jvm.Cond} {Z : State} {h0 : Heap} {A : Array Value} (own : String) (hpl : plainFor y = true) (hc : y.cls = own) (Ls : Array Slot) (ef : ∀ m, entryFrame m A ml = mkF m 0 Ls [])
    (k : ∀ (p : Program) (e : Env) (s : State) (m : MethodId) (below : List Frame) (meth : Method) (c : Code) (s₁ : State), p.tables.exec = Jvm.exec → c.code = bytes → meth.locks = false → meth.sig.returnType = rt → c.maxLocals = ml → Z.Warmed39 s.vm → s.vm.findClass own = some m.cls → meth.name = y.name → Stand p l e R s m A below meth c s₁ [] 0 0 → s₁.heap = h0 → Go EN p e below s R.cells R.slots Q s₁ (mkF m 0 Ls [])) :
    Met EN l y bytes ml rt ws R Z h0 A Q := by
  refine MetFree.of_bodySF hpl hisR ?_
  intro p e s m args below meth c s₁ Bd hml0 hP hK
  obtain ⟨rfl, hZ, hh⟩ := hP
  exact Go.cast (ef m) (k p e s m below meth c s₁ Bd.exec Bd.bytes Bd.notSynchronized Bd.returns hml0 hZ (hc ▸ findClass_of_methodNamed Bd.named) (name_of_methodNamed Bd.named Bd.method).1 (Stand.of_body Bd) (by rw [← hh, Bd.state]; rfl))
theorem own_metW {y : MethodName} {bytes : ByteArray} {ml : Nat} {rt : Option FieldType} {ws : List Jvm.Cond} {Z : State} {h0 : Heap} {A : Array Value} (own : String) (hpl : plainFor y = true) (hc : y.cls = own) (Ls : Array Slot) (ef : ∀ m, entryFrame m A ml = mkF m 0 Ls [])
    (k : ∀ (p : Program) (e : Env) (s : State) (m : MethodId) (below : List Frame) (meth : Method) (c : Code) (s₁ : State), p.tables.exec = Jvm.exec → c.code = bytes → meth.locks = false → meth.sig.returnType = rt → c.maxLocals = ml → Z.Warmed39 s.vm → s.vm.findClass own = some m.cls → meth.name = y.name → Stand p l e R (s.setVm s.vm) m A below meth c s₁ [] 0 0 → s₁.heap = h0 → s.Since s.vm 0 → 0 ≤ h0.size → Go EN p e below s R.cells R.slots Q s₁ (mkF m 0 Ls [])) :
    Met EN l y bytes ml rt ws R Z h0 A Q :=
  own_met own hpl hc Ls ef fun p e s m below meth c s₁ h1 h2 h3 h4 h5 h6 h7 h8 h9 h10 => k p e s m below meth c s₁ h1 h2 h3 h4 h5 h6 h7 h8 h9 h10 (State.WarmedH.since (State.WarmedH.refl s) 0) (Nat.zero_le _)
abbrev MetC (EN : State → Outcome → State → List Loc → Nat → Nat → Prop) (l : Launch) (y : MethodName) (bytes : ByteArray) (ml : Nat) (rt : Option FieldType) (hs : List (Nat × Nat × Nat × Nat)) (ws : List Jvm.Cond) (R : Room) (Z : State) (h0 : Heap) (A : Array Value) (Q : Option Value → Heap → List Loc → Prop) : Prop :=
  MetFree l y (head1 (Jvm.Cond.codeWith y bytes ml rt hs :: ws) R) (fun a U => a = A ∧ Z.Warmed39 U.vm ∧ U.heap = h0) (fun _ _ _ _ _ => True) (fun _ U o U' => ∃ v L, o = .returned v ∧ Q v U'.heap L ∧ EN U o U' L R.cells R.slots)
theorem own_metC {y : MethodName} {bytes : ByteArray} {ml : Nat} {rt : Option FieldType} {hs : List (Nat × Nat × Nat × Nat)} {ws : List Jvm.Cond} {Z : State} {h0 : Heap} {A : Array Value} (own : String) (hpl : plainFor y = true) (hc : y.cls = own) (Ls : Array Slot) (ef : ∀ m, entryFrame m A ml = mkF m 0 Ls [])
    (k : ∀ (p : Program) (e : Env) (s : State) (m : MethodId) (below : List Frame) (meth : Method) (c : Code) (s₁ : State), p.tables.exec = Jvm.exec → c.code = bytes → meth.locks = false → meth.sig.returnType = rt → c.maxLocals = ml → Z.Warmed39 s.vm → s.vm.findClass own = some m.cls → meth.name = y.name → Stand p l e R s m A below meth c s₁ [] 0 0 → s₁.heap = h0 → Go EN p e below s R.cells R.slots Q s₁ (mkF m 0 Ls [])) :
    MetC EN l y bytes ml rt hs ws R Z h0 A Q := by
  refine MetFree.of_bodySF hpl hisWith ?_
  intro p e s m args below meth c s₁ Bd hml0 hP hK
  obtain ⟨rfl, hZ, hh⟩ := hP
  exact Go.cast (ef m) (k p e s m below meth c s₁ Bd.exec Bd.bytes Bd.notSynchronized Bd.returns hml0 hZ (hc ▸ findClass_of_methodNamed Bd.named) (name_of_methodNamed Bd.named Bd.method).1 (Stand.of_body Bd) (by rw [← hh, Bd.state]; rfl))
theorem extRfl (h : Heap) : Ext h h := ⟨Nat.le_refl _, fun _ _ q => q⟩
theorem extTr {h1 h2 h3 : Heap} (A : Ext h1 h2) (B : Ext h2 h3) : Ext h1 h3 := ⟨Nat.le_trans A.1 B.1, fun a c q => B.2 a c (A.2 a c q)⟩
theorem extKeep {h1 h2 h3 : Heap} {ws : List Addr} (A : Ext h1 h2) (K : Keep h2 h3 ws) (q : ∀ x ∈ ws, h1.size ≤ x) : Ext h1 h3 := ⟨Nat.le_trans A.1 K.1, fun a c r => K.2.1 a c (A.2 a c r) fun z => absurd (Array.getElem?_eq_some_iff.mp r).1 (Nat.not_lt.mpr (q a z))⟩
theorem extWr {h1 h2 h3 : Heap} {a : Addr} {sl : Nat} {v : Value} (A : Ext h1 h2) (W : Wr h2 h3 a sl v) (q : h1.size ≤ a) : Ext h1 h3 := extKeep A (Keep.of_wr W) (allS q all0)
end GoLaws
theorem fldStart {Z : State} {args : Array Value} {t : Jvm.Term} {a : Addr} {C n d : String} {k : Int32} (ev : t.eval args Z none [] Z = some (.ref a)) (h : (Jvm.Cond.eq (.field t C n d) (.int k)).value args Z none Z [] = some true) : Fld Z Z.heap a C n d (.int k) :=
  Fld.start ((fld_at ev).symm.trans (eqv_i (Term.int_eval k) h))
theorem putRdy {p : Program} {l : Launch} {e : Env} {R : Room} {s : State} {m : MethodId} {args : Array Value} {below : List Frame} {meth : Method} {c : Code} {T : State} {locs : List Loc} {cells slots : Nat} {Z : State} {a0 : Array Value} {h : Heap}
    (X : Stand p l e R s m args below meth c T locs cells slots) (hx : p.tables.exec = Jvm.exec) (hZ : Z.Warmed39 s.vm) {own O n d C : String} {index kk : Nat} {ty : FieldType} (hown : s.vm.findClass own = some m.cls) (w : (Jvm.Cond.fieldRef own index O n d).before a0 Z = true)
    (eT : T.heap = h) {a : Addr} {v old : Value} (F : Fld Z h a O n d old) (E : Exa Z h a C) (L : (Jvm.Cond.lays C O n d).before a0 Z = true) (wi : (Jvm.Cond.instantiable C kk).before a0 Z = true)
    (hty : parseFieldDescriptor d = some ty) (hn : narrow ty v = v) (hf : fits ty v = true) {g : JFrame} (hg : g.method = m) {rest : List Value} (hs : g.stack = v :: .ref a :: rest) (hd : decode c.code g.pc = .ok (.putfield index, 3)) :
    ∃ T' h', Stand p l e R s m args below meth c T' (locs ++ [⟨a, Jvm.RoadKit.slotOf Z O n d⟩]) cells slots ∧ T'.heap = h' ∧ Wr h h' a (Jvm.RoadKit.slotOf Z O n d) v ∧ ∀ target, Steps p.tables e below (T'.setTop { g with pc := g.pc + 3, stack := rest }) target → Steps p.tables e below (T.setTop g) target := by
  have hT : Z.Warmed39 T.vm := wtrans hZ X.warmed
  obtain ⟨cell, cf, k, i, f, h1, h2, h3, h4, h5, -, h7⟩ := F
  obtain ⟨cell', kc, e1, e2, e3, -⟩ := E
  cases h1.symm.trans e1
  obtain ⟨c1, k1, cf1, kf1, i1, f1, a1, a2, a3, -, -, a6, -⟩ := Laid.spec (Or.inl L)
  cases h2.symm.trans a3
  cases e2.symm.trans a1
  obtain ⟨c2, k2, i1, i2, i3, -⟩ := Cond.instantiable_spec wi
  cases e2.symm.trans i1
  cases a2.symm.trans i2
  have ht := (State.fieldFound?_type h2 hty).2
  have hfit : Z.fitsSlot cell.cls cell.vm f.slot v = true := by
    have q : Z.slotType? cell.cls cell.vm f.slot = some ty := by
      simp only [State.slotType?, a2, Option.bind_eq_bind, Option.bind_some, i3]
      cases hq : cell.vm <;> first | (rw [hq] at h5; exact Bool.noConfusion h5) | (rw [a6, ht])
    simp [State.fitsSlot, q, hf]
  have hfitT : T.fitsSlot cell.cls cell.vm f.slot v = true := by rw [← State.fitsSlot_setVm hT.alike] at hfit; exact hfit
  obtain ⟨_, _, _, _, _, _, -, -, b3, -, b5, -⟩ := Cond.lays_spec L
  cases h2.symm.trans b3
  have hcur : (Z.setVm T.vm).vm.findClass own = some m.cls := by
    show T.vm.findClass own = _
    rw [hT.alike.findClass, ← hZ.alike.findClass]; exact hown
  obtain ⟨cq, kq, iq, fq, q1, q2⟩ := Cond.fieldRef_spec hcur (Cond.fieldRef_warmed39 hT w)
  obtain ⟨k', q3, -⟩ := State.fieldFound?_setVm (s := Z) hT.alike h2
  cases q1.symm.trans q3
  have hlt := (Array.getElem?_eq_some_iff.mp h7).1
  have es : Jvm.RoadKit.slotOf Z O n d = f.slot := by simp [Jvm.RoadKit.slotOf, h2]
  rw [es]
  obtain ⟨X', st⟩ := X.putfieldReady hx q2 h3 (Or.inl b5) (by rw [eT]; exact h1) h4 hlt (by rw [ht]; exact hn) hfitT hg hs hd
  exact ⟨_, _, X', rfl, ⟨cell, h1, h5, hlt, by rw [← eT]; rfl⟩, st⟩
abbrev fl_0 (Z : State) (h : Heap) (a : Addr) (v : Value) : Prop := Fld Z h a "org/matchstone/engine/BookSide$Walk" "place" "Lorg/matchstone/engine/BookSide$Place;" v
abbrev fl_1 (Z : State) (h : Heap) (a : Addr) (v : Value) : Prop := Fld Z h a "org/matchstone/engine/BookSide$Walk" "hidden" "Lorg/matchstone/engine/BookSide$Order;" v
abbrev fl_2 (Z : State) (h : Heap) (a : Addr) (v : Value) : Prop := Fld Z h a "org/matchstone/engine/BookSide$Walk" "displayed" "Lorg/matchstone/engine/BookSide$Order;" v
abbrev fl_3 (Z : State) (h : Heap) (a : Addr) (v : Value) : Prop := Fld Z h a "org/matchstone/engine/BookSide$Walk" "displayedKnown" "Z" v
abbrev fl_4 (Z : State) (h : Heap) (a : Addr) (v : Value) : Prop := Fld Z h a "org/matchstone/engine/NewOrder$Draft" "timeInForce" "Lorg/matchstone/engine/TimeInForce;" v
abbrev fl_5 (Z : State) (h : Heap) (a : Addr) (v : Value) : Prop := Fld Z h a "org/matchstone/engine/NewOrder$Draft" "displayed" "Z" v
abbrev fl_6 (Z : State) (h : Heap) (a : Addr) (v : Value) : Prop := Fld Z h a "org/matchstone/engine/NewOrder$Draft" "id" "Ljava/lang/String;" v
abbrev fl_7 (Z : State) (h : Heap) (a : Addr) (v : Value) : Prop := Fld Z h a "org/matchstone/engine/NewOrder$Draft" "side" "Lorg/matchstone/engine/Side;" v
abbrev fl_8 (Z : State) (h : Heap) (a : Addr) (v : Value) : Prop := Fld Z h a "org/matchstone/engine/NewOrder$Draft" "quantity" "J" v
abbrev fl_9 (Z : State) (h : Heap) (a : Addr) (v : Value) : Prop := Fld Z h a "org/matchstone/engine/NewOrder$Draft" "price" "J" v
abbrev fl_10 (Z : State) (h : Heap) (a : Addr) (v : Value) : Prop := Fld Z h a "org/matchstone/engine/NewOrder$Draft" "expireTime" "Ljava/time/LocalTime;" v
abbrev fl_11 (Z : State) (h : Heap) (a : Addr) (v : Value) : Prop := Fld Z h a "org/matchstone/engine/NewOrder$Draft" "postOnly" "Z" v
abbrev fl_12 (Z : State) (h : Heap) (a : Addr) (v : Value) : Prop := Fld Z h a "org/matchstone/engine/NewOrder$Draft" "swap" "Z" v
abbrev fl_13 (Z : State) (h : Heap) (a : Addr) (v : Value) : Prop := Fld Z h a "org/matchstone/engine/NewOrder$Draft" "superAggressive" "Z" v
abbrev fl_14 (Z : State) (h : Heap) (a : Addr) (v : Value) : Prop := Fld Z h a "org/matchstone/engine/NewOrder$Draft" "peg" "Lorg/matchstone/engine/Peg;" v
abbrev fl_15 (Z : State) (h : Heap) (a : Addr) (v : Value) : Prop := Fld Z h a "org/matchstone/engine/NewOrder$Draft" "minQuantity" "Lorg/matchstone/engine/MinQuantity;" v
abbrev fl_16 (Z : State) (h : Heap) (a : Addr) (v : Value) : Prop := Fld Z h a "org/matchstone/engine/NewOrder" "id" "Ljava/lang/String;" v
abbrev fl_17 (Z : State) (h : Heap) (a : Addr) (v : Value) : Prop := Fld Z h a "org/matchstone/engine/NewOrder" "side" "Lorg/matchstone/engine/Side;" v
abbrev fl_18 (Z : State) (h : Heap) (a : Addr) (v : Value) : Prop := Fld Z h a "org/matchstone/engine/NewOrder" "quantity" "J" v
abbrev fl_19 (Z : State) (h : Heap) (a : Addr) (v : Value) : Prop := Fld Z h a "org/matchstone/engine/NewOrder" "price" "J" v
abbrev fl_20 (Z : State) (h : Heap) (a : Addr) (v : Value) : Prop := Fld Z h a "org/matchstone/engine/NewOrder" "timeInForce" "Lorg/matchstone/engine/TimeInForce;" v
abbrev fl_21 (Z : State) (h : Heap) (a : Addr) (v : Value) : Prop := Fld Z h a "org/matchstone/engine/NewOrder" "expireTime" "Ljava/time/LocalTime;" v
abbrev fl_22 (Z : State) (h : Heap) (a : Addr) (v : Value) : Prop := Fld Z h a "org/matchstone/engine/NewOrder" "displayed" "Z" v
abbrev fl_23 (Z : State) (h : Heap) (a : Addr) (v : Value) : Prop := Fld Z h a "org/matchstone/engine/NewOrder" "postOnly" "Z" v
abbrev fl_24 (Z : State) (h : Heap) (a : Addr) (v : Value) : Prop := Fld Z h a "org/matchstone/engine/NewOrder" "swap" "Z" v
abbrev fl_25 (Z : State) (h : Heap) (a : Addr) (v : Value) : Prop := Fld Z h a "org/matchstone/engine/NewOrder" "superAggressive" "Z" v
abbrev fl_26 (Z : State) (h : Heap) (a : Addr) (v : Value) : Prop := Fld Z h a "org/matchstone/engine/NewOrder" "peg" "Lorg/matchstone/engine/Peg;" v
abbrev fl_27 (Z : State) (h : Heap) (a : Addr) (v : Value) : Prop := Fld Z h a "org/matchstone/engine/NewOrder" "minQuantity" "Lorg/matchstone/engine/MinQuantity;" v
abbrev fl_28 (Z : State) (h : Heap) (a : Addr) (v : Value) : Prop := Fld Z h a "org/matchstone/engine/BookSide$Order" "displayed" "Z" v
abbrev fl_29 (Z : State) (h : Heap) (a : Addr) (v : Value) : Prop := Fld Z h a "org/matchstone/engine/BookSide$Order" "minQuantity" "J" v
abbrev fl_30 (Z : State) (h : Heap) (a : Addr) (v : Value) : Prop := Fld Z h a "org/matchstone/engine/BookSide$Order" "next" "Lorg/matchstone/engine/BookSide$Order;" v
abbrev fl_31 (Z : State) (h : Heap) (a : Addr) (v : Value) : Prop := Fld Z h a "org/matchstone/engine/BookSide$Order" "open" "J" v
abbrev fl_32 (Z : State) (h : Heap) (a : Addr) (v : Value) : Prop := Fld Z h a "org/matchstone/engine/BookSide$Order" "previous" "Lorg/matchstone/engine/BookSide$Order;" v
abbrev fl_33 (Z : State) (h : Heap) (a : Addr) (v : Value) : Prop := Fld Z h a "org/matchstone/engine/BookSide$Order" "price" "J" v
abbrev fl_34 (Z : State) (h : Heap) (a : Addr) (v : Value) : Prop := Fld Z h a "org/matchstone/engine/BookSide$Order" "priority" "J" v
abbrev fl_35 (Z : State) (h : Heap) (a : Addr) (v : Value) : Prop := Fld Z h a "org/matchstone/engine/BookSide$Order" "id" "Ljava/lang/String;" v
abbrev fl_36 (Z : State) (h : Heap) (a : Addr) (v : Value) : Prop := Fld Z h a "org/matchstone/engine/BookSide$Order" "side" "Lorg/matchstone/engine/Side;" v
abbrev fl_37 (Z : State) (h : Heap) (a : Addr) (v : Value) : Prop := Fld Z h a "org/matchstone/engine/BookSide$Order" "limit" "J" v
abbrev fl_38 (Z : State) (h : Heap) (a : Addr) (v : Value) : Prop := Fld Z h a "org/matchstone/engine/BookSide$Order" "peg" "Lorg/matchstone/engine/Peg;" v
abbrev fl_39 (Z : State) (h : Heap) (a : Addr) (v : Value) : Prop := Fld Z h a "org/matchstone/engine/BookSide$Order" "postOnly" "Z" v
abbrev fl_40 (Z : State) (h : Heap) (a : Addr) (v : Value) : Prop := Fld Z h a "org/matchstone/engine/BookSide$Order" "swap" "Z" v
abbrev fl_41 (Z : State) (h : Heap) (a : Addr) (v : Value) : Prop := Fld Z h a "org/matchstone/engine/BookSide$Order" "superAggressive" "Z" v
abbrev fl_42 (Z : State) (h : Heap) (a : Addr) (v : Value) : Prop := Fld Z h a "org/matchstone/engine/BookSide$Order" "immediateOrCancel" "Z" v
abbrev fl_43 (Z : State) (h : Heap) (a : Addr) (v : Value) : Prop := Fld Z h a "org/matchstone/engine/BookSide$Order" "start" "Ljava/time/LocalTime;" v
abbrev fl_44 (Z : State) (h : Heap) (a : Addr) (v : Value) : Prop := Fld Z h a "org/matchstone/engine/BookSide$Order" "end" "Ljava/time/LocalTime;" v
abbrev fl_45 (Z : State) (h : Heap) (a : Addr) (v : Value) : Prop := Fld Z h a "org/matchstone/engine/BookSide$Order" "entered" "J" v
abbrev fl_46 (Z : State) (h : Heap) (a : Addr) (v : Value) : Prop := Fld Z h a "org/matchstone/engine/BookSide$Order" "singleOrderMinimum" "Z" v
abbrev fl_47 (Z : State) (h : Heap) (a : Addr) (v : Value) : Prop := Fld Z h a "org/matchstone/engine/MinQuantity" "quantity" "J" v
abbrev fl_48 (Z : State) (h : Heap) (a : Addr) (v : Value) : Prop := Fld Z h a "org/matchstone/engine/MinQuantity" "singleOrder" "Z" v
theorem pf_Lorg_matchstone_engine_Side_ : parseFieldDescriptor "Lorg/matchstone/engine/Side;" = some (.object "org/matchstone/engine/Side") := by decide
theorem pf_Lorg_matchstone_engine_Ladder_ : parseFieldDescriptor "Lorg/matchstone/engine/Ladder;" = some (.object "org/matchstone/engine/Ladder") := by decide
theorem pf_Lorg_matchstone_engine_MinimumIndex_ : parseFieldDescriptor "Lorg/matchstone/engine/MinimumIndex;" = some (.object "org/matchstone/engine/MinimumIndex") := by decide
theorem pf_Z : parseFieldDescriptor "Z" = some .boolean := by decide
theorem pf_Ljava_util_TreeMap_ : parseFieldDescriptor "Ljava/util/TreeMap;" = some (.object "java/util/TreeMap") := by decide
theorem pf_Ljava_util_TreeSet_ : parseFieldDescriptor "Ljava/util/TreeSet;" = some (.object "java/util/TreeSet") := by decide
theorem pf_I : parseFieldDescriptor "I" = some .int := by decide
theorem pf_Ljava_util_Comparator_ : parseFieldDescriptor "Ljava/util/Comparator;" = some (.object "java/util/Comparator") := by decide
theorem pf_Ljava_util_NavigableMap_ : parseFieldDescriptor "Ljava/util/NavigableMap;" = some (.object "java/util/NavigableMap") := by decide
theorem pf_Lorg_matchstone_engine_OrderTree_ : parseFieldDescriptor "Lorg/matchstone/engine/OrderTree;" = some (.object "org/matchstone/engine/OrderTree") := by decide
theorem pf_Lorg_matchstone_engine_MinimumIndexSBucket_ : parseFieldDescriptor "Lorg/matchstone/engine/MinimumIndex$Bucket;" = some (.object "org/matchstone/engine/MinimumIndex$Bucket") := by decide
theorem pf_Lorg_matchstone_engine_BookSide_ : parseFieldDescriptor "Lorg/matchstone/engine/BookSide;" = some (.object "org/matchstone/engine/BookSide") := by decide
theorem pf_Lorg_matchstone_engine_BookSideSPlace_ : parseFieldDescriptor "Lorg/matchstone/engine/BookSide$Place;" = some (.object "org/matchstone/engine/BookSide$Place") := by decide
theorem pf_Lorg_matchstone_engine_BookSideSOrder_ : parseFieldDescriptor "Lorg/matchstone/engine/BookSide$Order;" = some (.object "org/matchstone/engine/BookSide$Order") := by decide
theorem pf_Lorg_matchstone_engine_TimeInForce_ : parseFieldDescriptor "Lorg/matchstone/engine/TimeInForce;" = some (.object "org/matchstone/engine/TimeInForce") := by decide
theorem pf_Ljava_lang_String_ : parseFieldDescriptor "Ljava/lang/String;" = some (.object "java/lang/String") := by decide
theorem pf_J : parseFieldDescriptor "J" = some .long := by decide
theorem pf_Ljava_time_LocalTime_ : parseFieldDescriptor "Ljava/time/LocalTime;" = some (.object "java/time/LocalTime") := by decide
theorem pf_Lorg_matchstone_engine_Peg_ : parseFieldDescriptor "Lorg/matchstone/engine/Peg;" = some (.object "org/matchstone/engine/Peg") := by decide
theorem pf_Lorg_matchstone_engine_MinQuantity_ : parseFieldDescriptor "Lorg/matchstone/engine/MinQuantity;" = some (.object "org/matchstone/engine/MinQuantity") := by decide
section Slots
variable {Z : State} {a0 : Array Value} (hw : ∀ d ∈ tables_1, d.before a0 Z = true)
def sn_0 := slot_ne (Or.inr (wd hw 25 rfl)) (Or.inl (wd hw 23 rfl)) (by decide) pf_Lorg_matchstone_engine_Side_ pf_Z
def sn_1 := slot_ne (Or.inl (wd hw 53 rfl)) (Or.inl (wd hw 51 rfl)) (by decide) pf_I pf_I
def sn_2 := slot_ne (Or.inr (wd hw 55 rfl)) (Or.inl (wd hw 51 rfl)) (by decide) pf_Ljava_util_Comparator_ pf_I
def sn_3 := slot_ne (Or.inr (wd hw 55 rfl)) (Or.inl (wd hw 53 rfl)) (by decide) pf_Ljava_util_Comparator_ pf_I
def sn_4 := slot_ne (Or.inr (wd hw 57 rfl)) (Or.inl (wd hw 23 rfl)) (by decide) pf_Ljava_util_TreeMap_ pf_Z
def sn_5 := slot_ne (Or.inr (wd hw 57 rfl)) (Or.inr (wd hw 25 rfl)) (by decide) pf_Ljava_util_TreeMap_ pf_Lorg_matchstone_engine_Side_
def sn_6 := slot_ne (Or.inr (wd hw 87 rfl)) (Or.inl (wd hw 23 rfl)) (by decide) pf_Ljava_util_TreeSet_ pf_Z
def sn_7 := slot_ne (Or.inr (wd hw 87 rfl)) (Or.inr (wd hw 25 rfl)) (by decide) pf_Ljava_util_TreeSet_ pf_Lorg_matchstone_engine_Side_
def sn_8 := slot_ne (Or.inr (wd hw 87 rfl)) (Or.inr (wd hw 57 rfl)) (by decide) pf_Ljava_util_TreeSet_ pf_Ljava_util_TreeMap_
def sn_9 := slot_ne (Or.inr (wd hw 89 rfl)) (Or.inr (wd hw 14 rfl)) (by decide) pf_Lorg_matchstone_engine_Ladder_ pf_Lorg_matchstone_engine_Side_
def sn_10 := slot_ne (Or.inr (wd hw 114 rfl)) (Or.inr (wd hw 98 rfl)) (by decide) pf_Lorg_matchstone_engine_OrderTree_ pf_Lorg_matchstone_engine_Side_
def sn_11 := slot_ne (Or.inr (wd hw 127 rfl)) (Or.inl (wd hw 123 rfl)) (by decide) pf_Lorg_matchstone_engine_OrderTree_ pf_I
def sn_12 := slot_ne (Or.inr (wd hw 129 rfl)) (Or.inr (wd hw 98 rfl)) (by decide) pf_Lorg_matchstone_engine_MinimumIndexSBucket_ pf_Lorg_matchstone_engine_Side_
def sn_13 := slot_ne (Or.inr (wd hw 129 rfl)) (Or.inr (wd hw 114 rfl)) (by decide) pf_Lorg_matchstone_engine_MinimumIndexSBucket_ pf_Lorg_matchstone_engine_OrderTree_
def sn_14 := slot_ne (Or.inr (wd hw 131 rfl)) (Or.inr (wd hw 14 rfl)) (by decide) pf_Lorg_matchstone_engine_MinimumIndex_ pf_Lorg_matchstone_engine_Side_
def sn_15 := slot_ne (Or.inr (wd hw 131 rfl)) (Or.inr (wd hw 89 rfl)) (by decide) pf_Lorg_matchstone_engine_MinimumIndex_ pf_Lorg_matchstone_engine_Ladder_
def sn_16 := slot_ne (Or.inl (wd hw 385 rfl)) (Or.inr (wd hw 144 rfl)) (by decide) pf_Lorg_matchstone_engine_BookSideSPlace_ pf_Lorg_matchstone_engine_BookSide_
def sn_17 := slot_ne (Or.inl (wd hw 387 rfl)) (Or.inr (wd hw 144 rfl)) (by decide) pf_Lorg_matchstone_engine_BookSideSOrder_ pf_Lorg_matchstone_engine_BookSide_
def sn_18 := slot_ne (Or.inl (wd hw 389 rfl)) (Or.inr (wd hw 144 rfl)) (by decide) pf_Lorg_matchstone_engine_BookSideSOrder_ pf_Lorg_matchstone_engine_BookSide_
def sn_19 := slot_ne (Or.inl (wd hw 441 rfl)) (Or.inr (wd hw 144 rfl)) (by decide) pf_Z pf_Lorg_matchstone_engine_BookSide_
def sn_20 := slot_ne (Or.inl (wd hw 172 rfl)) (Or.inl (wd hw 170 rfl)) (by decide) pf_Z pf_Lorg_matchstone_engine_TimeInForce_
def sn_21 := slot_ne (Or.inr (wd hw 174 rfl)) (Or.inl (wd hw 170 rfl)) (by decide) pf_Ljava_lang_String_ pf_Lorg_matchstone_engine_TimeInForce_
def sn_22 := slot_ne (Or.inr (wd hw 174 rfl)) (Or.inl (wd hw 172 rfl)) (by decide) pf_Ljava_lang_String_ pf_Z
def sn_23 := slot_ne (Or.inr (wd hw 176 rfl)) (Or.inl (wd hw 170 rfl)) (by decide) pf_Lorg_matchstone_engine_Side_ pf_Lorg_matchstone_engine_TimeInForce_
def sn_24 := slot_ne (Or.inr (wd hw 176 rfl)) (Or.inl (wd hw 172 rfl)) (by decide) pf_Lorg_matchstone_engine_Side_ pf_Z
def sn_25 := slot_ne (Or.inr (wd hw 176 rfl)) (Or.inr (wd hw 174 rfl)) (by decide) pf_Lorg_matchstone_engine_Side_ pf_Ljava_lang_String_
def sn_26 := slot_ne (Or.inr (wd hw 178 rfl)) (Or.inl (wd hw 170 rfl)) (by decide) pf_J pf_Lorg_matchstone_engine_TimeInForce_
def sn_27 := slot_ne (Or.inr (wd hw 178 rfl)) (Or.inl (wd hw 172 rfl)) (by decide) pf_J pf_Z
def sn_28 := slot_ne (Or.inr (wd hw 178 rfl)) (Or.inr (wd hw 174 rfl)) (by decide) pf_J pf_Ljava_lang_String_
def sn_29 := slot_ne (Or.inr (wd hw 178 rfl)) (Or.inr (wd hw 176 rfl)) (by decide) pf_J pf_Lorg_matchstone_engine_Side_
def sn_30 := slot_ne (Or.inr (wd hw 180 rfl)) (Or.inl (wd hw 170 rfl)) (by decide) pf_J pf_Lorg_matchstone_engine_TimeInForce_
def sn_31 := slot_ne (Or.inr (wd hw 180 rfl)) (Or.inl (wd hw 172 rfl)) (by decide) pf_J pf_Z
def sn_32 := slot_ne (Or.inr (wd hw 180 rfl)) (Or.inr (wd hw 174 rfl)) (by decide) pf_J pf_Ljava_lang_String_
def sn_33 := slot_ne (Or.inr (wd hw 180 rfl)) (Or.inr (wd hw 176 rfl)) (by decide) pf_J pf_Lorg_matchstone_engine_Side_
def sn_34 := slot_ne (Or.inr (wd hw 180 rfl)) (Or.inr (wd hw 178 rfl)) (by decide) pf_J pf_J
def sn_35 := slot_ne (Or.inl (wd hw 189 rfl)) (Or.inl (wd hw 170 rfl)) (by decide) pf_Ljava_time_LocalTime_ pf_Lorg_matchstone_engine_TimeInForce_
def sn_36 := slot_ne (Or.inl (wd hw 189 rfl)) (Or.inl (wd hw 172 rfl)) (by decide) pf_Ljava_time_LocalTime_ pf_Z
def sn_37 := slot_ne (Or.inl (wd hw 189 rfl)) (Or.inr (wd hw 174 rfl)) (by decide) pf_Ljava_time_LocalTime_ pf_Ljava_lang_String_
def sn_38 := slot_ne (Or.inl (wd hw 189 rfl)) (Or.inr (wd hw 176 rfl)) (by decide) pf_Ljava_time_LocalTime_ pf_Lorg_matchstone_engine_Side_
def sn_39 := slot_ne (Or.inl (wd hw 189 rfl)) (Or.inr (wd hw 178 rfl)) (by decide) pf_Ljava_time_LocalTime_ pf_J
def sn_40 := slot_ne (Or.inl (wd hw 189 rfl)) (Or.inr (wd hw 180 rfl)) (by decide) pf_Ljava_time_LocalTime_ pf_J
def sn_41 := slot_ne (Or.inl (wd hw 191 rfl)) (Or.inl (wd hw 170 rfl)) (by decide) pf_Z pf_Lorg_matchstone_engine_TimeInForce_
def sn_42 := slot_ne (Or.inl (wd hw 191 rfl)) (Or.inl (wd hw 172 rfl)) (by decide) pf_Z pf_Z
def sn_43 := slot_ne (Or.inl (wd hw 191 rfl)) (Or.inr (wd hw 174 rfl)) (by decide) pf_Z pf_Ljava_lang_String_
def sn_44 := slot_ne (Or.inl (wd hw 191 rfl)) (Or.inr (wd hw 176 rfl)) (by decide) pf_Z pf_Lorg_matchstone_engine_Side_
def sn_45 := slot_ne (Or.inl (wd hw 191 rfl)) (Or.inr (wd hw 178 rfl)) (by decide) pf_Z pf_J
def sn_46 := slot_ne (Or.inl (wd hw 191 rfl)) (Or.inr (wd hw 180 rfl)) (by decide) pf_Z pf_J
def sn_47 := slot_ne (Or.inl (wd hw 193 rfl)) (Or.inl (wd hw 170 rfl)) (by decide) pf_Z pf_Lorg_matchstone_engine_TimeInForce_
def sn_48 := slot_ne (Or.inl (wd hw 193 rfl)) (Or.inl (wd hw 172 rfl)) (by decide) pf_Z pf_Z
def sn_49 := slot_ne (Or.inl (wd hw 193 rfl)) (Or.inr (wd hw 174 rfl)) (by decide) pf_Z pf_Ljava_lang_String_
def sn_50 := slot_ne (Or.inl (wd hw 193 rfl)) (Or.inr (wd hw 176 rfl)) (by decide) pf_Z pf_Lorg_matchstone_engine_Side_
def sn_51 := slot_ne (Or.inl (wd hw 193 rfl)) (Or.inr (wd hw 178 rfl)) (by decide) pf_Z pf_J
def sn_52 := slot_ne (Or.inl (wd hw 193 rfl)) (Or.inr (wd hw 180 rfl)) (by decide) pf_Z pf_J
def sn_53 := slot_ne (Or.inl (wd hw 195 rfl)) (Or.inl (wd hw 170 rfl)) (by decide) pf_Z pf_Lorg_matchstone_engine_TimeInForce_
def sn_54 := slot_ne (Or.inl (wd hw 195 rfl)) (Or.inl (wd hw 172 rfl)) (by decide) pf_Z pf_Z
def sn_55 := slot_ne (Or.inl (wd hw 195 rfl)) (Or.inr (wd hw 174 rfl)) (by decide) pf_Z pf_Ljava_lang_String_
def sn_56 := slot_ne (Or.inl (wd hw 195 rfl)) (Or.inr (wd hw 176 rfl)) (by decide) pf_Z pf_Lorg_matchstone_engine_Side_
def sn_57 := slot_ne (Or.inl (wd hw 195 rfl)) (Or.inr (wd hw 178 rfl)) (by decide) pf_Z pf_J
def sn_58 := slot_ne (Or.inl (wd hw 195 rfl)) (Or.inr (wd hw 180 rfl)) (by decide) pf_Z pf_J
def sn_59 := slot_ne (Or.inl (wd hw 197 rfl)) (Or.inl (wd hw 170 rfl)) (by decide) pf_Lorg_matchstone_engine_Peg_ pf_Lorg_matchstone_engine_TimeInForce_
def sn_60 := slot_ne (Or.inl (wd hw 197 rfl)) (Or.inl (wd hw 172 rfl)) (by decide) pf_Lorg_matchstone_engine_Peg_ pf_Z
def sn_61 := slot_ne (Or.inl (wd hw 197 rfl)) (Or.inr (wd hw 174 rfl)) (by decide) pf_Lorg_matchstone_engine_Peg_ pf_Ljava_lang_String_
def sn_62 := slot_ne (Or.inl (wd hw 197 rfl)) (Or.inr (wd hw 176 rfl)) (by decide) pf_Lorg_matchstone_engine_Peg_ pf_Lorg_matchstone_engine_Side_
def sn_63 := slot_ne (Or.inl (wd hw 197 rfl)) (Or.inr (wd hw 178 rfl)) (by decide) pf_Lorg_matchstone_engine_Peg_ pf_J
def sn_64 := slot_ne (Or.inl (wd hw 197 rfl)) (Or.inr (wd hw 180 rfl)) (by decide) pf_Lorg_matchstone_engine_Peg_ pf_J
def sn_65 := slot_ne (Or.inl (wd hw 199 rfl)) (Or.inl (wd hw 170 rfl)) (by decide) pf_Lorg_matchstone_engine_MinQuantity_ pf_Lorg_matchstone_engine_TimeInForce_
def sn_66 := slot_ne (Or.inl (wd hw 199 rfl)) (Or.inl (wd hw 172 rfl)) (by decide) pf_Lorg_matchstone_engine_MinQuantity_ pf_Z
def sn_67 := slot_ne (Or.inl (wd hw 199 rfl)) (Or.inr (wd hw 174 rfl)) (by decide) pf_Lorg_matchstone_engine_MinQuantity_ pf_Ljava_lang_String_
def sn_68 := slot_ne (Or.inl (wd hw 199 rfl)) (Or.inr (wd hw 176 rfl)) (by decide) pf_Lorg_matchstone_engine_MinQuantity_ pf_Lorg_matchstone_engine_Side_
def sn_69 := slot_ne (Or.inl (wd hw 199 rfl)) (Or.inr (wd hw 178 rfl)) (by decide) pf_Lorg_matchstone_engine_MinQuantity_ pf_J
def sn_70 := slot_ne (Or.inl (wd hw 199 rfl)) (Or.inr (wd hw 180 rfl)) (by decide) pf_Lorg_matchstone_engine_MinQuantity_ pf_J
def sn_71 := slot_ne (Or.inr (wd hw 219 rfl)) (Or.inr (wd hw 217 rfl)) (by decide) pf_Lorg_matchstone_engine_Side_ pf_Ljava_lang_String_
def sn_72 := slot_ne (Or.inr (wd hw 221 rfl)) (Or.inr (wd hw 217 rfl)) (by decide) pf_J pf_Ljava_lang_String_
def sn_73 := slot_ne (Or.inr (wd hw 221 rfl)) (Or.inr (wd hw 219 rfl)) (by decide) pf_J pf_Lorg_matchstone_engine_Side_
def sn_74 := slot_ne (Or.inr (wd hw 223 rfl)) (Or.inr (wd hw 217 rfl)) (by decide) pf_J pf_Ljava_lang_String_
def sn_75 := slot_ne (Or.inr (wd hw 223 rfl)) (Or.inr (wd hw 219 rfl)) (by decide) pf_J pf_Lorg_matchstone_engine_Side_
def sn_76 := slot_ne (Or.inr (wd hw 223 rfl)) (Or.inr (wd hw 221 rfl)) (by decide) pf_J pf_J
def sn_77 := slot_ne (Or.inr (wd hw 225 rfl)) (Or.inr (wd hw 217 rfl)) (by decide) pf_Lorg_matchstone_engine_TimeInForce_ pf_Ljava_lang_String_
def sn_78 := slot_ne (Or.inr (wd hw 225 rfl)) (Or.inr (wd hw 219 rfl)) (by decide) pf_Lorg_matchstone_engine_TimeInForce_ pf_Lorg_matchstone_engine_Side_
def sn_79 := slot_ne (Or.inr (wd hw 225 rfl)) (Or.inr (wd hw 221 rfl)) (by decide) pf_Lorg_matchstone_engine_TimeInForce_ pf_J
def sn_80 := slot_ne (Or.inr (wd hw 225 rfl)) (Or.inr (wd hw 223 rfl)) (by decide) pf_Lorg_matchstone_engine_TimeInForce_ pf_J
def sn_81 := slot_ne (Or.inr (wd hw 227 rfl)) (Or.inr (wd hw 217 rfl)) (by decide) pf_Ljava_time_LocalTime_ pf_Ljava_lang_String_
def sn_82 := slot_ne (Or.inr (wd hw 227 rfl)) (Or.inr (wd hw 219 rfl)) (by decide) pf_Ljava_time_LocalTime_ pf_Lorg_matchstone_engine_Side_
def sn_83 := slot_ne (Or.inr (wd hw 227 rfl)) (Or.inr (wd hw 221 rfl)) (by decide) pf_Ljava_time_LocalTime_ pf_J
def sn_84 := slot_ne (Or.inr (wd hw 227 rfl)) (Or.inr (wd hw 223 rfl)) (by decide) pf_Ljava_time_LocalTime_ pf_J
def sn_85 := slot_ne (Or.inr (wd hw 227 rfl)) (Or.inr (wd hw 225 rfl)) (by decide) pf_Ljava_time_LocalTime_ pf_Lorg_matchstone_engine_TimeInForce_
def sn_86 := slot_ne (Or.inr (wd hw 229 rfl)) (Or.inr (wd hw 217 rfl)) (by decide) pf_Z pf_Ljava_lang_String_
def sn_87 := slot_ne (Or.inr (wd hw 229 rfl)) (Or.inr (wd hw 219 rfl)) (by decide) pf_Z pf_Lorg_matchstone_engine_Side_
def sn_88 := slot_ne (Or.inr (wd hw 229 rfl)) (Or.inr (wd hw 221 rfl)) (by decide) pf_Z pf_J
def sn_89 := slot_ne (Or.inr (wd hw 229 rfl)) (Or.inr (wd hw 223 rfl)) (by decide) pf_Z pf_J
def sn_90 := slot_ne (Or.inr (wd hw 229 rfl)) (Or.inr (wd hw 225 rfl)) (by decide) pf_Z pf_Lorg_matchstone_engine_TimeInForce_
def sn_91 := slot_ne (Or.inr (wd hw 229 rfl)) (Or.inr (wd hw 227 rfl)) (by decide) pf_Z pf_Ljava_time_LocalTime_
def sn_92 := slot_ne (Or.inr (wd hw 231 rfl)) (Or.inr (wd hw 217 rfl)) (by decide) pf_Z pf_Ljava_lang_String_
def sn_93 := slot_ne (Or.inr (wd hw 231 rfl)) (Or.inr (wd hw 219 rfl)) (by decide) pf_Z pf_Lorg_matchstone_engine_Side_
def sn_94 := slot_ne (Or.inr (wd hw 231 rfl)) (Or.inr (wd hw 221 rfl)) (by decide) pf_Z pf_J
def sn_95 := slot_ne (Or.inr (wd hw 231 rfl)) (Or.inr (wd hw 223 rfl)) (by decide) pf_Z pf_J
def sn_96 := slot_ne (Or.inr (wd hw 231 rfl)) (Or.inr (wd hw 225 rfl)) (by decide) pf_Z pf_Lorg_matchstone_engine_TimeInForce_
def sn_97 := slot_ne (Or.inr (wd hw 231 rfl)) (Or.inr (wd hw 227 rfl)) (by decide) pf_Z pf_Ljava_time_LocalTime_
def sn_98 := slot_ne (Or.inr (wd hw 231 rfl)) (Or.inr (wd hw 229 rfl)) (by decide) pf_Z pf_Z
def sn_99 := slot_ne (Or.inr (wd hw 233 rfl)) (Or.inr (wd hw 217 rfl)) (by decide) pf_Z pf_Ljava_lang_String_
def sn_100 := slot_ne (Or.inr (wd hw 233 rfl)) (Or.inr (wd hw 219 rfl)) (by decide) pf_Z pf_Lorg_matchstone_engine_Side_
def sn_101 := slot_ne (Or.inr (wd hw 233 rfl)) (Or.inr (wd hw 221 rfl)) (by decide) pf_Z pf_J
def sn_102 := slot_ne (Or.inr (wd hw 233 rfl)) (Or.inr (wd hw 223 rfl)) (by decide) pf_Z pf_J
def sn_103 := slot_ne (Or.inr (wd hw 233 rfl)) (Or.inr (wd hw 225 rfl)) (by decide) pf_Z pf_Lorg_matchstone_engine_TimeInForce_
def sn_104 := slot_ne (Or.inr (wd hw 233 rfl)) (Or.inr (wd hw 227 rfl)) (by decide) pf_Z pf_Ljava_time_LocalTime_
def sn_105 := slot_ne (Or.inr (wd hw 233 rfl)) (Or.inr (wd hw 229 rfl)) (by decide) pf_Z pf_Z
def sn_106 := slot_ne (Or.inr (wd hw 233 rfl)) (Or.inr (wd hw 231 rfl)) (by decide) pf_Z pf_Z
def sn_107 := slot_ne (Or.inr (wd hw 235 rfl)) (Or.inr (wd hw 217 rfl)) (by decide) pf_Z pf_Ljava_lang_String_
def sn_108 := slot_ne (Or.inr (wd hw 235 rfl)) (Or.inr (wd hw 219 rfl)) (by decide) pf_Z pf_Lorg_matchstone_engine_Side_
def sn_109 := slot_ne (Or.inr (wd hw 235 rfl)) (Or.inr (wd hw 221 rfl)) (by decide) pf_Z pf_J
def sn_110 := slot_ne (Or.inr (wd hw 235 rfl)) (Or.inr (wd hw 223 rfl)) (by decide) pf_Z pf_J
def sn_111 := slot_ne (Or.inr (wd hw 235 rfl)) (Or.inr (wd hw 225 rfl)) (by decide) pf_Z pf_Lorg_matchstone_engine_TimeInForce_
def sn_112 := slot_ne (Or.inr (wd hw 235 rfl)) (Or.inr (wd hw 227 rfl)) (by decide) pf_Z pf_Ljava_time_LocalTime_
def sn_113 := slot_ne (Or.inr (wd hw 235 rfl)) (Or.inr (wd hw 229 rfl)) (by decide) pf_Z pf_Z
def sn_114 := slot_ne (Or.inr (wd hw 235 rfl)) (Or.inr (wd hw 231 rfl)) (by decide) pf_Z pf_Z
def sn_115 := slot_ne (Or.inr (wd hw 235 rfl)) (Or.inr (wd hw 233 rfl)) (by decide) pf_Z pf_Z
def sn_116 := slot_ne (Or.inr (wd hw 237 rfl)) (Or.inr (wd hw 217 rfl)) (by decide) pf_Lorg_matchstone_engine_Peg_ pf_Ljava_lang_String_
def sn_117 := slot_ne (Or.inr (wd hw 237 rfl)) (Or.inr (wd hw 219 rfl)) (by decide) pf_Lorg_matchstone_engine_Peg_ pf_Lorg_matchstone_engine_Side_
def sn_118 := slot_ne (Or.inr (wd hw 237 rfl)) (Or.inr (wd hw 221 rfl)) (by decide) pf_Lorg_matchstone_engine_Peg_ pf_J
def sn_119 := slot_ne (Or.inr (wd hw 237 rfl)) (Or.inr (wd hw 223 rfl)) (by decide) pf_Lorg_matchstone_engine_Peg_ pf_J
def sn_120 := slot_ne (Or.inr (wd hw 237 rfl)) (Or.inr (wd hw 225 rfl)) (by decide) pf_Lorg_matchstone_engine_Peg_ pf_Lorg_matchstone_engine_TimeInForce_
def sn_121 := slot_ne (Or.inr (wd hw 237 rfl)) (Or.inr (wd hw 227 rfl)) (by decide) pf_Lorg_matchstone_engine_Peg_ pf_Ljava_time_LocalTime_
def sn_122 := slot_ne (Or.inr (wd hw 237 rfl)) (Or.inr (wd hw 229 rfl)) (by decide) pf_Lorg_matchstone_engine_Peg_ pf_Z
def sn_123 := slot_ne (Or.inr (wd hw 237 rfl)) (Or.inr (wd hw 231 rfl)) (by decide) pf_Lorg_matchstone_engine_Peg_ pf_Z
def sn_124 := slot_ne (Or.inr (wd hw 237 rfl)) (Or.inr (wd hw 233 rfl)) (by decide) pf_Lorg_matchstone_engine_Peg_ pf_Z
def sn_125 := slot_ne (Or.inr (wd hw 237 rfl)) (Or.inr (wd hw 235 rfl)) (by decide) pf_Lorg_matchstone_engine_Peg_ pf_Z
def sn_126 := slot_ne (Or.inr (wd hw 239 rfl)) (Or.inr (wd hw 217 rfl)) (by decide) pf_Lorg_matchstone_engine_MinQuantity_ pf_Ljava_lang_String_
def sn_127 := slot_ne (Or.inr (wd hw 239 rfl)) (Or.inr (wd hw 219 rfl)) (by decide) pf_Lorg_matchstone_engine_MinQuantity_ pf_Lorg_matchstone_engine_Side_
def sn_128 := slot_ne (Or.inr (wd hw 239 rfl)) (Or.inr (wd hw 221 rfl)) (by decide) pf_Lorg_matchstone_engine_MinQuantity_ pf_J
def sn_129 := slot_ne (Or.inr (wd hw 239 rfl)) (Or.inr (wd hw 223 rfl)) (by decide) pf_Lorg_matchstone_engine_MinQuantity_ pf_J
def sn_130 := slot_ne (Or.inr (wd hw 239 rfl)) (Or.inr (wd hw 225 rfl)) (by decide) pf_Lorg_matchstone_engine_MinQuantity_ pf_Lorg_matchstone_engine_TimeInForce_
def sn_131 := slot_ne (Or.inr (wd hw 239 rfl)) (Or.inr (wd hw 227 rfl)) (by decide) pf_Lorg_matchstone_engine_MinQuantity_ pf_Ljava_time_LocalTime_
def sn_132 := slot_ne (Or.inr (wd hw 239 rfl)) (Or.inr (wd hw 229 rfl)) (by decide) pf_Lorg_matchstone_engine_MinQuantity_ pf_Z
def sn_133 := slot_ne (Or.inr (wd hw 239 rfl)) (Or.inr (wd hw 231 rfl)) (by decide) pf_Lorg_matchstone_engine_MinQuantity_ pf_Z
def sn_134 := slot_ne (Or.inr (wd hw 239 rfl)) (Or.inr (wd hw 233 rfl)) (by decide) pf_Lorg_matchstone_engine_MinQuantity_ pf_Z
def sn_135 := slot_ne (Or.inr (wd hw 239 rfl)) (Or.inr (wd hw 235 rfl)) (by decide) pf_Lorg_matchstone_engine_MinQuantity_ pf_Z
def sn_136 := slot_ne (Or.inr (wd hw 239 rfl)) (Or.inr (wd hw 237 rfl)) (by decide) pf_Lorg_matchstone_engine_MinQuantity_ pf_Lorg_matchstone_engine_Peg_
def sn_137 := slot_ne (Or.inl (wd hw 191 rfl)) (Or.inl (wd hw 189 rfl)) (by decide) pf_Z pf_Ljava_time_LocalTime_
def sn_138 := slot_ne (Or.inl (wd hw 193 rfl)) (Or.inl (wd hw 189 rfl)) (by decide) pf_Z pf_Ljava_time_LocalTime_
def sn_139 := slot_ne (Or.inl (wd hw 193 rfl)) (Or.inl (wd hw 191 rfl)) (by decide) pf_Z pf_Z
def sn_140 := slot_ne (Or.inl (wd hw 195 rfl)) (Or.inl (wd hw 189 rfl)) (by decide) pf_Z pf_Ljava_time_LocalTime_
def sn_141 := slot_ne (Or.inl (wd hw 195 rfl)) (Or.inl (wd hw 191 rfl)) (by decide) pf_Z pf_Z
def sn_142 := slot_ne (Or.inl (wd hw 195 rfl)) (Or.inl (wd hw 193 rfl)) (by decide) pf_Z pf_Z
def sn_143 := slot_ne (Or.inl (wd hw 197 rfl)) (Or.inl (wd hw 189 rfl)) (by decide) pf_Lorg_matchstone_engine_Peg_ pf_Ljava_time_LocalTime_
def sn_144 := slot_ne (Or.inl (wd hw 197 rfl)) (Or.inl (wd hw 191 rfl)) (by decide) pf_Lorg_matchstone_engine_Peg_ pf_Z
def sn_145 := slot_ne (Or.inl (wd hw 197 rfl)) (Or.inl (wd hw 193 rfl)) (by decide) pf_Lorg_matchstone_engine_Peg_ pf_Z
def sn_146 := slot_ne (Or.inl (wd hw 197 rfl)) (Or.inl (wd hw 195 rfl)) (by decide) pf_Lorg_matchstone_engine_Peg_ pf_Z
def sn_147 := slot_ne (Or.inl (wd hw 199 rfl)) (Or.inl (wd hw 189 rfl)) (by decide) pf_Lorg_matchstone_engine_MinQuantity_ pf_Ljava_time_LocalTime_
def sn_148 := slot_ne (Or.inl (wd hw 199 rfl)) (Or.inl (wd hw 191 rfl)) (by decide) pf_Lorg_matchstone_engine_MinQuantity_ pf_Z
def sn_149 := slot_ne (Or.inl (wd hw 199 rfl)) (Or.inl (wd hw 193 rfl)) (by decide) pf_Lorg_matchstone_engine_MinQuantity_ pf_Z
def sn_150 := slot_ne (Or.inl (wd hw 199 rfl)) (Or.inl (wd hw 195 rfl)) (by decide) pf_Lorg_matchstone_engine_MinQuantity_ pf_Z
def sn_151 := slot_ne (Or.inl (wd hw 199 rfl)) (Or.inl (wd hw 197 rfl)) (by decide) pf_Lorg_matchstone_engine_MinQuantity_ pf_Lorg_matchstone_engine_Peg_
def sn_152 := slot_ne (Or.inr (wd hw 283 rfl)) (Or.inr (wd hw 276 rfl)) (by decide) pf_Lorg_matchstone_engine_Side_ pf_Ljava_lang_String_
def sn_153 := slot_ne (Or.inl (wd hw 285 rfl)) (Or.inr (wd hw 276 rfl)) (by decide) pf_J pf_Ljava_lang_String_
def sn_154 := slot_ne (Or.inl (wd hw 285 rfl)) (Or.inr (wd hw 283 rfl)) (by decide) pf_J pf_Lorg_matchstone_engine_Side_
def sn_155 := slot_ne (Or.inr (wd hw 292 rfl)) (Or.inr (wd hw 276 rfl)) (by decide) pf_J pf_Ljava_lang_String_
def sn_156 := slot_ne (Or.inr (wd hw 292 rfl)) (Or.inr (wd hw 283 rfl)) (by decide) pf_J pf_Lorg_matchstone_engine_Side_
def sn_157 := slot_ne (Or.inr (wd hw 292 rfl)) (Or.inl (wd hw 285 rfl)) (by decide) pf_J pf_J
def sn_158 := slot_ne (Or.inr (wd hw 299 rfl)) (Or.inr (wd hw 276 rfl)) (by decide) pf_Lorg_matchstone_engine_Peg_ pf_Ljava_lang_String_
def sn_159 := slot_ne (Or.inr (wd hw 299 rfl)) (Or.inr (wd hw 283 rfl)) (by decide) pf_Lorg_matchstone_engine_Peg_ pf_Lorg_matchstone_engine_Side_
def sn_160 := slot_ne (Or.inr (wd hw 299 rfl)) (Or.inl (wd hw 285 rfl)) (by decide) pf_Lorg_matchstone_engine_Peg_ pf_J
def sn_161 := slot_ne (Or.inr (wd hw 299 rfl)) (Or.inr (wd hw 292 rfl)) (by decide) pf_Lorg_matchstone_engine_Peg_ pf_J
def sn_162 := slot_ne (Or.inr (wd hw 306 rfl)) (Or.inr (wd hw 276 rfl)) (by decide) pf_Z pf_Ljava_lang_String_
def sn_163 := slot_ne (Or.inr (wd hw 306 rfl)) (Or.inr (wd hw 283 rfl)) (by decide) pf_Z pf_Lorg_matchstone_engine_Side_
def sn_164 := slot_ne (Or.inr (wd hw 306 rfl)) (Or.inl (wd hw 285 rfl)) (by decide) pf_Z pf_J
def sn_165 := slot_ne (Or.inr (wd hw 306 rfl)) (Or.inr (wd hw 292 rfl)) (by decide) pf_Z pf_J
def sn_166 := slot_ne (Or.inr (wd hw 306 rfl)) (Or.inr (wd hw 299 rfl)) (by decide) pf_Z pf_Lorg_matchstone_engine_Peg_
def sn_167 := slot_ne (Or.inr (wd hw 313 rfl)) (Or.inr (wd hw 276 rfl)) (by decide) pf_Z pf_Ljava_lang_String_
def sn_168 := slot_ne (Or.inr (wd hw 313 rfl)) (Or.inr (wd hw 283 rfl)) (by decide) pf_Z pf_Lorg_matchstone_engine_Side_
def sn_169 := slot_ne (Or.inr (wd hw 313 rfl)) (Or.inl (wd hw 285 rfl)) (by decide) pf_Z pf_J
def sn_170 := slot_ne (Or.inr (wd hw 313 rfl)) (Or.inr (wd hw 292 rfl)) (by decide) pf_Z pf_J
def sn_171 := slot_ne (Or.inr (wd hw 313 rfl)) (Or.inr (wd hw 299 rfl)) (by decide) pf_Z pf_Lorg_matchstone_engine_Peg_
def sn_172 := slot_ne (Or.inr (wd hw 313 rfl)) (Or.inr (wd hw 306 rfl)) (by decide) pf_Z pf_Z
def sn_173 := slot_ne (Or.inr (wd hw 320 rfl)) (Or.inr (wd hw 276 rfl)) (by decide) pf_Z pf_Ljava_lang_String_
def sn_174 := slot_ne (Or.inr (wd hw 320 rfl)) (Or.inr (wd hw 283 rfl)) (by decide) pf_Z pf_Lorg_matchstone_engine_Side_
def sn_175 := slot_ne (Or.inr (wd hw 320 rfl)) (Or.inl (wd hw 285 rfl)) (by decide) pf_Z pf_J
def sn_176 := slot_ne (Or.inr (wd hw 320 rfl)) (Or.inr (wd hw 292 rfl)) (by decide) pf_Z pf_J
def sn_177 := slot_ne (Or.inr (wd hw 320 rfl)) (Or.inr (wd hw 299 rfl)) (by decide) pf_Z pf_Lorg_matchstone_engine_Peg_
def sn_178 := slot_ne (Or.inr (wd hw 320 rfl)) (Or.inr (wd hw 306 rfl)) (by decide) pf_Z pf_Z
def sn_179 := slot_ne (Or.inr (wd hw 320 rfl)) (Or.inr (wd hw 313 rfl)) (by decide) pf_Z pf_Z
def sn_180 := slot_ne (Or.inr (wd hw 327 rfl)) (Or.inr (wd hw 276 rfl)) (by decide) pf_Z pf_Ljava_lang_String_
def sn_181 := slot_ne (Or.inr (wd hw 327 rfl)) (Or.inr (wd hw 283 rfl)) (by decide) pf_Z pf_Lorg_matchstone_engine_Side_
def sn_182 := slot_ne (Or.inr (wd hw 327 rfl)) (Or.inl (wd hw 285 rfl)) (by decide) pf_Z pf_J
def sn_183 := slot_ne (Or.inr (wd hw 327 rfl)) (Or.inr (wd hw 292 rfl)) (by decide) pf_Z pf_J
def sn_184 := slot_ne (Or.inr (wd hw 327 rfl)) (Or.inr (wd hw 299 rfl)) (by decide) pf_Z pf_Lorg_matchstone_engine_Peg_
def sn_185 := slot_ne (Or.inr (wd hw 327 rfl)) (Or.inr (wd hw 306 rfl)) (by decide) pf_Z pf_Z
def sn_186 := slot_ne (Or.inr (wd hw 327 rfl)) (Or.inr (wd hw 313 rfl)) (by decide) pf_Z pf_Z
def sn_187 := slot_ne (Or.inr (wd hw 327 rfl)) (Or.inr (wd hw 320 rfl)) (by decide) pf_Z pf_Z
def sn_188 := slot_ne (Or.inr (wd hw 336 rfl)) (Or.inr (wd hw 276 rfl)) (by decide) pf_Z pf_Ljava_lang_String_
def sn_189 := slot_ne (Or.inr (wd hw 336 rfl)) (Or.inr (wd hw 283 rfl)) (by decide) pf_Z pf_Lorg_matchstone_engine_Side_
def sn_190 := slot_ne (Or.inr (wd hw 336 rfl)) (Or.inl (wd hw 285 rfl)) (by decide) pf_Z pf_J
def sn_191 := slot_ne (Or.inr (wd hw 336 rfl)) (Or.inr (wd hw 292 rfl)) (by decide) pf_Z pf_J
def sn_192 := slot_ne (Or.inr (wd hw 336 rfl)) (Or.inr (wd hw 299 rfl)) (by decide) pf_Z pf_Lorg_matchstone_engine_Peg_
def sn_193 := slot_ne (Or.inr (wd hw 336 rfl)) (Or.inr (wd hw 306 rfl)) (by decide) pf_Z pf_Z
def sn_194 := slot_ne (Or.inr (wd hw 336 rfl)) (Or.inr (wd hw 313 rfl)) (by decide) pf_Z pf_Z
def sn_195 := slot_ne (Or.inr (wd hw 336 rfl)) (Or.inr (wd hw 320 rfl)) (by decide) pf_Z pf_Z
def sn_196 := slot_ne (Or.inr (wd hw 336 rfl)) (Or.inr (wd hw 327 rfl)) (by decide) pf_Z pf_Z
def sn_197 := slot_ne (Or.inr (wd hw 338 rfl)) (Or.inr (wd hw 276 rfl)) (by decide) pf_Ljava_time_LocalTime_ pf_Ljava_lang_String_
def sn_198 := slot_ne (Or.inr (wd hw 338 rfl)) (Or.inr (wd hw 283 rfl)) (by decide) pf_Ljava_time_LocalTime_ pf_Lorg_matchstone_engine_Side_
def sn_199 := slot_ne (Or.inr (wd hw 338 rfl)) (Or.inl (wd hw 285 rfl)) (by decide) pf_Ljava_time_LocalTime_ pf_J
def sn_200 := slot_ne (Or.inr (wd hw 338 rfl)) (Or.inr (wd hw 292 rfl)) (by decide) pf_Ljava_time_LocalTime_ pf_J
def sn_201 := slot_ne (Or.inr (wd hw 338 rfl)) (Or.inr (wd hw 299 rfl)) (by decide) pf_Ljava_time_LocalTime_ pf_Lorg_matchstone_engine_Peg_
def sn_202 := slot_ne (Or.inr (wd hw 338 rfl)) (Or.inr (wd hw 306 rfl)) (by decide) pf_Ljava_time_LocalTime_ pf_Z
def sn_203 := slot_ne (Or.inr (wd hw 338 rfl)) (Or.inr (wd hw 313 rfl)) (by decide) pf_Ljava_time_LocalTime_ pf_Z
def sn_204 := slot_ne (Or.inr (wd hw 338 rfl)) (Or.inr (wd hw 320 rfl)) (by decide) pf_Ljava_time_LocalTime_ pf_Z
def sn_205 := slot_ne (Or.inr (wd hw 338 rfl)) (Or.inr (wd hw 327 rfl)) (by decide) pf_Ljava_time_LocalTime_ pf_Z
def sn_206 := slot_ne (Or.inr (wd hw 338 rfl)) (Or.inr (wd hw 336 rfl)) (by decide) pf_Ljava_time_LocalTime_ pf_Z
def sn_207 := slot_ne (Or.inr (wd hw 340 rfl)) (Or.inr (wd hw 276 rfl)) (by decide) pf_Ljava_time_LocalTime_ pf_Ljava_lang_String_
def sn_208 := slot_ne (Or.inr (wd hw 340 rfl)) (Or.inr (wd hw 283 rfl)) (by decide) pf_Ljava_time_LocalTime_ pf_Lorg_matchstone_engine_Side_
def sn_209 := slot_ne (Or.inr (wd hw 340 rfl)) (Or.inl (wd hw 285 rfl)) (by decide) pf_Ljava_time_LocalTime_ pf_J
def sn_210 := slot_ne (Or.inr (wd hw 340 rfl)) (Or.inr (wd hw 292 rfl)) (by decide) pf_Ljava_time_LocalTime_ pf_J
def sn_211 := slot_ne (Or.inr (wd hw 340 rfl)) (Or.inr (wd hw 299 rfl)) (by decide) pf_Ljava_time_LocalTime_ pf_Lorg_matchstone_engine_Peg_
def sn_212 := slot_ne (Or.inr (wd hw 340 rfl)) (Or.inr (wd hw 306 rfl)) (by decide) pf_Ljava_time_LocalTime_ pf_Z
def sn_213 := slot_ne (Or.inr (wd hw 340 rfl)) (Or.inr (wd hw 313 rfl)) (by decide) pf_Ljava_time_LocalTime_ pf_Z
def sn_214 := slot_ne (Or.inr (wd hw 340 rfl)) (Or.inr (wd hw 320 rfl)) (by decide) pf_Ljava_time_LocalTime_ pf_Z
def sn_215 := slot_ne (Or.inr (wd hw 340 rfl)) (Or.inr (wd hw 327 rfl)) (by decide) pf_Ljava_time_LocalTime_ pf_Z
def sn_216 := slot_ne (Or.inr (wd hw 340 rfl)) (Or.inr (wd hw 336 rfl)) (by decide) pf_Ljava_time_LocalTime_ pf_Z
def sn_217 := slot_ne (Or.inr (wd hw 340 rfl)) (Or.inr (wd hw 338 rfl)) (by decide) pf_Ljava_time_LocalTime_ pf_Ljava_time_LocalTime_
def sn_218 := slot_ne (Or.inl (wd hw 342 rfl)) (Or.inr (wd hw 276 rfl)) (by decide) pf_J pf_Ljava_lang_String_
def sn_219 := slot_ne (Or.inl (wd hw 342 rfl)) (Or.inr (wd hw 283 rfl)) (by decide) pf_J pf_Lorg_matchstone_engine_Side_
def sn_220 := slot_ne (Or.inl (wd hw 342 rfl)) (Or.inl (wd hw 285 rfl)) (by decide) pf_J pf_J
def sn_221 := slot_ne (Or.inl (wd hw 342 rfl)) (Or.inr (wd hw 292 rfl)) (by decide) pf_J pf_J
def sn_222 := slot_ne (Or.inl (wd hw 342 rfl)) (Or.inr (wd hw 299 rfl)) (by decide) pf_J pf_Lorg_matchstone_engine_Peg_
def sn_223 := slot_ne (Or.inl (wd hw 342 rfl)) (Or.inr (wd hw 306 rfl)) (by decide) pf_J pf_Z
def sn_224 := slot_ne (Or.inl (wd hw 342 rfl)) (Or.inr (wd hw 313 rfl)) (by decide) pf_J pf_Z
def sn_225 := slot_ne (Or.inl (wd hw 342 rfl)) (Or.inr (wd hw 320 rfl)) (by decide) pf_J pf_Z
def sn_226 := slot_ne (Or.inl (wd hw 342 rfl)) (Or.inr (wd hw 327 rfl)) (by decide) pf_J pf_Z
def sn_227 := slot_ne (Or.inl (wd hw 342 rfl)) (Or.inr (wd hw 336 rfl)) (by decide) pf_J pf_Z
def sn_228 := slot_ne (Or.inl (wd hw 342 rfl)) (Or.inr (wd hw 338 rfl)) (by decide) pf_J pf_Ljava_time_LocalTime_
def sn_229 := slot_ne (Or.inl (wd hw 342 rfl)) (Or.inr (wd hw 340 rfl)) (by decide) pf_J pf_Ljava_time_LocalTime_
def sn_230 := slot_ne (Or.inr (wd hw 344 rfl)) (Or.inr (wd hw 276 rfl)) (by decide) pf_J pf_Ljava_lang_String_
def sn_231 := slot_ne (Or.inr (wd hw 344 rfl)) (Or.inr (wd hw 283 rfl)) (by decide) pf_J pf_Lorg_matchstone_engine_Side_
def sn_232 := slot_ne (Or.inr (wd hw 344 rfl)) (Or.inl (wd hw 285 rfl)) (by decide) pf_J pf_J
def sn_233 := slot_ne (Or.inr (wd hw 344 rfl)) (Or.inr (wd hw 292 rfl)) (by decide) pf_J pf_J
def sn_234 := slot_ne (Or.inr (wd hw 344 rfl)) (Or.inr (wd hw 299 rfl)) (by decide) pf_J pf_Lorg_matchstone_engine_Peg_
def sn_235 := slot_ne (Or.inr (wd hw 344 rfl)) (Or.inr (wd hw 306 rfl)) (by decide) pf_J pf_Z
def sn_236 := slot_ne (Or.inr (wd hw 344 rfl)) (Or.inr (wd hw 313 rfl)) (by decide) pf_J pf_Z
def sn_237 := slot_ne (Or.inr (wd hw 344 rfl)) (Or.inr (wd hw 320 rfl)) (by decide) pf_J pf_Z
def sn_238 := slot_ne (Or.inr (wd hw 344 rfl)) (Or.inr (wd hw 327 rfl)) (by decide) pf_J pf_Z
def sn_239 := slot_ne (Or.inr (wd hw 344 rfl)) (Or.inr (wd hw 336 rfl)) (by decide) pf_J pf_Z
def sn_240 := slot_ne (Or.inr (wd hw 344 rfl)) (Or.inr (wd hw 338 rfl)) (by decide) pf_J pf_Ljava_time_LocalTime_
def sn_241 := slot_ne (Or.inr (wd hw 344 rfl)) (Or.inr (wd hw 340 rfl)) (by decide) pf_J pf_Ljava_time_LocalTime_
def sn_242 := slot_ne (Or.inr (wd hw 344 rfl)) (Or.inl (wd hw 342 rfl)) (by decide) pf_J pf_J
def sn_243 := slot_ne (Or.inr (wd hw 351 rfl)) (Or.inr (wd hw 276 rfl)) (by decide) pf_J pf_Ljava_lang_String_
def sn_244 := slot_ne (Or.inr (wd hw 351 rfl)) (Or.inr (wd hw 283 rfl)) (by decide) pf_J pf_Lorg_matchstone_engine_Side_
def sn_245 := slot_ne (Or.inr (wd hw 351 rfl)) (Or.inl (wd hw 285 rfl)) (by decide) pf_J pf_J
def sn_246 := slot_ne (Or.inr (wd hw 351 rfl)) (Or.inr (wd hw 292 rfl)) (by decide) pf_J pf_J
def sn_247 := slot_ne (Or.inr (wd hw 351 rfl)) (Or.inr (wd hw 299 rfl)) (by decide) pf_J pf_Lorg_matchstone_engine_Peg_
def sn_248 := slot_ne (Or.inr (wd hw 351 rfl)) (Or.inr (wd hw 306 rfl)) (by decide) pf_J pf_Z
def sn_249 := slot_ne (Or.inr (wd hw 351 rfl)) (Or.inr (wd hw 313 rfl)) (by decide) pf_J pf_Z
def sn_250 := slot_ne (Or.inr (wd hw 351 rfl)) (Or.inr (wd hw 320 rfl)) (by decide) pf_J pf_Z
def sn_251 := slot_ne (Or.inr (wd hw 351 rfl)) (Or.inr (wd hw 327 rfl)) (by decide) pf_J pf_Z
def sn_252 := slot_ne (Or.inr (wd hw 351 rfl)) (Or.inr (wd hw 336 rfl)) (by decide) pf_J pf_Z
def sn_253 := slot_ne (Or.inr (wd hw 351 rfl)) (Or.inr (wd hw 338 rfl)) (by decide) pf_J pf_Ljava_time_LocalTime_
def sn_254 := slot_ne (Or.inr (wd hw 351 rfl)) (Or.inr (wd hw 340 rfl)) (by decide) pf_J pf_Ljava_time_LocalTime_
def sn_255 := slot_ne (Or.inr (wd hw 351 rfl)) (Or.inl (wd hw 342 rfl)) (by decide) pf_J pf_J
def sn_256 := slot_ne (Or.inr (wd hw 351 rfl)) (Or.inr (wd hw 344 rfl)) (by decide) pf_J pf_J
def sn_257 := slot_ne (Or.inr (wd hw 353 rfl)) (Or.inr (wd hw 276 rfl)) (by decide) pf_Z pf_Ljava_lang_String_
def sn_258 := slot_ne (Or.inr (wd hw 353 rfl)) (Or.inr (wd hw 283 rfl)) (by decide) pf_Z pf_Lorg_matchstone_engine_Side_
def sn_259 := slot_ne (Or.inr (wd hw 353 rfl)) (Or.inl (wd hw 285 rfl)) (by decide) pf_Z pf_J
def sn_260 := slot_ne (Or.inr (wd hw 353 rfl)) (Or.inr (wd hw 292 rfl)) (by decide) pf_Z pf_J
def sn_261 := slot_ne (Or.inr (wd hw 353 rfl)) (Or.inr (wd hw 299 rfl)) (by decide) pf_Z pf_Lorg_matchstone_engine_Peg_
def sn_262 := slot_ne (Or.inr (wd hw 353 rfl)) (Or.inr (wd hw 306 rfl)) (by decide) pf_Z pf_Z
def sn_263 := slot_ne (Or.inr (wd hw 353 rfl)) (Or.inr (wd hw 313 rfl)) (by decide) pf_Z pf_Z
def sn_264 := slot_ne (Or.inr (wd hw 353 rfl)) (Or.inr (wd hw 320 rfl)) (by decide) pf_Z pf_Z
def sn_265 := slot_ne (Or.inr (wd hw 353 rfl)) (Or.inr (wd hw 327 rfl)) (by decide) pf_Z pf_Z
def sn_266 := slot_ne (Or.inr (wd hw 353 rfl)) (Or.inr (wd hw 336 rfl)) (by decide) pf_Z pf_Z
def sn_267 := slot_ne (Or.inr (wd hw 353 rfl)) (Or.inr (wd hw 338 rfl)) (by decide) pf_Z pf_Ljava_time_LocalTime_
def sn_268 := slot_ne (Or.inr (wd hw 353 rfl)) (Or.inr (wd hw 340 rfl)) (by decide) pf_Z pf_Ljava_time_LocalTime_
def sn_269 := slot_ne (Or.inr (wd hw 353 rfl)) (Or.inl (wd hw 342 rfl)) (by decide) pf_Z pf_J
def sn_270 := slot_ne (Or.inr (wd hw 353 rfl)) (Or.inr (wd hw 344 rfl)) (by decide) pf_Z pf_J
def sn_271 := slot_ne (Or.inr (wd hw 353 rfl)) (Or.inr (wd hw 351 rfl)) (by decide) pf_Z pf_J
def sn_272 := slot_ne (Or.inl (wd hw 360 rfl)) (Or.inr (wd hw 276 rfl)) (by decide) pf_J pf_Ljava_lang_String_
def sn_273 := slot_ne (Or.inl (wd hw 360 rfl)) (Or.inr (wd hw 283 rfl)) (by decide) pf_J pf_Lorg_matchstone_engine_Side_
def sn_274 := slot_ne (Or.inl (wd hw 360 rfl)) (Or.inl (wd hw 285 rfl)) (by decide) pf_J pf_J
def sn_275 := slot_ne (Or.inl (wd hw 360 rfl)) (Or.inr (wd hw 292 rfl)) (by decide) pf_J pf_J
def sn_276 := slot_ne (Or.inl (wd hw 360 rfl)) (Or.inr (wd hw 299 rfl)) (by decide) pf_J pf_Lorg_matchstone_engine_Peg_
def sn_277 := slot_ne (Or.inl (wd hw 360 rfl)) (Or.inr (wd hw 306 rfl)) (by decide) pf_J pf_Z
def sn_278 := slot_ne (Or.inl (wd hw 360 rfl)) (Or.inr (wd hw 313 rfl)) (by decide) pf_J pf_Z
def sn_279 := slot_ne (Or.inl (wd hw 360 rfl)) (Or.inr (wd hw 320 rfl)) (by decide) pf_J pf_Z
def sn_280 := slot_ne (Or.inl (wd hw 360 rfl)) (Or.inr (wd hw 327 rfl)) (by decide) pf_J pf_Z
def sn_281 := slot_ne (Or.inl (wd hw 360 rfl)) (Or.inr (wd hw 336 rfl)) (by decide) pf_J pf_Z
def sn_282 := slot_ne (Or.inl (wd hw 360 rfl)) (Or.inr (wd hw 338 rfl)) (by decide) pf_J pf_Ljava_time_LocalTime_
def sn_283 := slot_ne (Or.inl (wd hw 360 rfl)) (Or.inr (wd hw 340 rfl)) (by decide) pf_J pf_Ljava_time_LocalTime_
def sn_284 := slot_ne (Or.inl (wd hw 360 rfl)) (Or.inl (wd hw 342 rfl)) (by decide) pf_J pf_J
def sn_285 := slot_ne (Or.inl (wd hw 360 rfl)) (Or.inr (wd hw 344 rfl)) (by decide) pf_J pf_J
def sn_286 := slot_ne (Or.inl (wd hw 360 rfl)) (Or.inr (wd hw 351 rfl)) (by decide) pf_J pf_J
def sn_287 := slot_ne (Or.inl (wd hw 360 rfl)) (Or.inr (wd hw 353 rfl)) (by decide) pf_J pf_Z
def sn_288 := slot_ne (Or.inl (wd hw 396 rfl)) (Or.inr (wd hw 276 rfl)) (by decide) pf_Lorg_matchstone_engine_BookSideSOrder_ pf_Ljava_lang_String_
def sn_289 := slot_ne (Or.inl (wd hw 396 rfl)) (Or.inr (wd hw 283 rfl)) (by decide) pf_Lorg_matchstone_engine_BookSideSOrder_ pf_Lorg_matchstone_engine_Side_
def sn_290 := slot_ne (Or.inl (wd hw 396 rfl)) (Or.inl (wd hw 285 rfl)) (by decide) pf_Lorg_matchstone_engine_BookSideSOrder_ pf_J
def sn_291 := slot_ne (Or.inl (wd hw 396 rfl)) (Or.inr (wd hw 292 rfl)) (by decide) pf_Lorg_matchstone_engine_BookSideSOrder_ pf_J
def sn_292 := slot_ne (Or.inl (wd hw 396 rfl)) (Or.inr (wd hw 299 rfl)) (by decide) pf_Lorg_matchstone_engine_BookSideSOrder_ pf_Lorg_matchstone_engine_Peg_
def sn_293 := slot_ne (Or.inl (wd hw 396 rfl)) (Or.inr (wd hw 306 rfl)) (by decide) pf_Lorg_matchstone_engine_BookSideSOrder_ pf_Z
def sn_294 := slot_ne (Or.inl (wd hw 396 rfl)) (Or.inr (wd hw 313 rfl)) (by decide) pf_Lorg_matchstone_engine_BookSideSOrder_ pf_Z
def sn_295 := slot_ne (Or.inl (wd hw 396 rfl)) (Or.inr (wd hw 320 rfl)) (by decide) pf_Lorg_matchstone_engine_BookSideSOrder_ pf_Z
def sn_296 := slot_ne (Or.inl (wd hw 396 rfl)) (Or.inr (wd hw 327 rfl)) (by decide) pf_Lorg_matchstone_engine_BookSideSOrder_ pf_Z
def sn_297 := slot_ne (Or.inl (wd hw 396 rfl)) (Or.inr (wd hw 336 rfl)) (by decide) pf_Lorg_matchstone_engine_BookSideSOrder_ pf_Z
def sn_298 := slot_ne (Or.inl (wd hw 396 rfl)) (Or.inr (wd hw 338 rfl)) (by decide) pf_Lorg_matchstone_engine_BookSideSOrder_ pf_Ljava_time_LocalTime_
def sn_299 := slot_ne (Or.inl (wd hw 396 rfl)) (Or.inr (wd hw 340 rfl)) (by decide) pf_Lorg_matchstone_engine_BookSideSOrder_ pf_Ljava_time_LocalTime_
def sn_300 := slot_ne (Or.inl (wd hw 396 rfl)) (Or.inl (wd hw 342 rfl)) (by decide) pf_Lorg_matchstone_engine_BookSideSOrder_ pf_J
def sn_301 := slot_ne (Or.inl (wd hw 396 rfl)) (Or.inr (wd hw 344 rfl)) (by decide) pf_Lorg_matchstone_engine_BookSideSOrder_ pf_J
def sn_302 := slot_ne (Or.inl (wd hw 396 rfl)) (Or.inr (wd hw 351 rfl)) (by decide) pf_Lorg_matchstone_engine_BookSideSOrder_ pf_J
def sn_303 := slot_ne (Or.inl (wd hw 396 rfl)) (Or.inr (wd hw 353 rfl)) (by decide) pf_Lorg_matchstone_engine_BookSideSOrder_ pf_Z
def sn_304 := slot_ne (Or.inl (wd hw 396 rfl)) (Or.inl (wd hw 360 rfl)) (by decide) pf_Lorg_matchstone_engine_BookSideSOrder_ pf_J
def sn_305 := slot_ne (Or.inl (wd hw 399 rfl)) (Or.inr (wd hw 276 rfl)) (by decide) pf_Lorg_matchstone_engine_BookSideSOrder_ pf_Ljava_lang_String_
def sn_306 := slot_ne (Or.inl (wd hw 399 rfl)) (Or.inr (wd hw 283 rfl)) (by decide) pf_Lorg_matchstone_engine_BookSideSOrder_ pf_Lorg_matchstone_engine_Side_
def sn_307 := slot_ne (Or.inl (wd hw 399 rfl)) (Or.inl (wd hw 285 rfl)) (by decide) pf_Lorg_matchstone_engine_BookSideSOrder_ pf_J
def sn_308 := slot_ne (Or.inl (wd hw 399 rfl)) (Or.inr (wd hw 292 rfl)) (by decide) pf_Lorg_matchstone_engine_BookSideSOrder_ pf_J
def sn_309 := slot_ne (Or.inl (wd hw 399 rfl)) (Or.inr (wd hw 299 rfl)) (by decide) pf_Lorg_matchstone_engine_BookSideSOrder_ pf_Lorg_matchstone_engine_Peg_
def sn_310 := slot_ne (Or.inl (wd hw 399 rfl)) (Or.inr (wd hw 306 rfl)) (by decide) pf_Lorg_matchstone_engine_BookSideSOrder_ pf_Z
def sn_311 := slot_ne (Or.inl (wd hw 399 rfl)) (Or.inr (wd hw 313 rfl)) (by decide) pf_Lorg_matchstone_engine_BookSideSOrder_ pf_Z
def sn_312 := slot_ne (Or.inl (wd hw 399 rfl)) (Or.inr (wd hw 320 rfl)) (by decide) pf_Lorg_matchstone_engine_BookSideSOrder_ pf_Z
def sn_313 := slot_ne (Or.inl (wd hw 399 rfl)) (Or.inr (wd hw 327 rfl)) (by decide) pf_Lorg_matchstone_engine_BookSideSOrder_ pf_Z
def sn_314 := slot_ne (Or.inl (wd hw 399 rfl)) (Or.inr (wd hw 336 rfl)) (by decide) pf_Lorg_matchstone_engine_BookSideSOrder_ pf_Z
def sn_315 := slot_ne (Or.inl (wd hw 399 rfl)) (Or.inr (wd hw 338 rfl)) (by decide) pf_Lorg_matchstone_engine_BookSideSOrder_ pf_Ljava_time_LocalTime_
def sn_316 := slot_ne (Or.inl (wd hw 399 rfl)) (Or.inr (wd hw 340 rfl)) (by decide) pf_Lorg_matchstone_engine_BookSideSOrder_ pf_Ljava_time_LocalTime_
def sn_317 := slot_ne (Or.inl (wd hw 399 rfl)) (Or.inl (wd hw 342 rfl)) (by decide) pf_Lorg_matchstone_engine_BookSideSOrder_ pf_J
def sn_318 := slot_ne (Or.inl (wd hw 399 rfl)) (Or.inr (wd hw 344 rfl)) (by decide) pf_Lorg_matchstone_engine_BookSideSOrder_ pf_J
def sn_319 := slot_ne (Or.inl (wd hw 399 rfl)) (Or.inr (wd hw 351 rfl)) (by decide) pf_Lorg_matchstone_engine_BookSideSOrder_ pf_J
def sn_320 := slot_ne (Or.inl (wd hw 399 rfl)) (Or.inr (wd hw 353 rfl)) (by decide) pf_Lorg_matchstone_engine_BookSideSOrder_ pf_Z
def sn_321 := slot_ne (Or.inl (wd hw 399 rfl)) (Or.inl (wd hw 360 rfl)) (by decide) pf_Lorg_matchstone_engine_BookSideSOrder_ pf_J
def sn_322 := slot_ne (Or.inr (wd hw 383 rfl)) (Or.inr (wd hw 381 rfl)) (by decide) pf_J pf_J
def sn_323 := slot_ne (Or.inl (wd hw 387 rfl)) (Or.inl (wd hw 385 rfl)) (by decide) pf_Lorg_matchstone_engine_BookSideSOrder_ pf_Lorg_matchstone_engine_BookSideSPlace_
def sn_324 := slot_ne (Or.inl (wd hw 389 rfl)) (Or.inl (wd hw 385 rfl)) (by decide) pf_Lorg_matchstone_engine_BookSideSOrder_ pf_Lorg_matchstone_engine_BookSideSPlace_
def sn_325 := slot_ne (Or.inl (wd hw 389 rfl)) (Or.inl (wd hw 387 rfl)) (by decide) pf_Lorg_matchstone_engine_BookSideSOrder_ pf_Lorg_matchstone_engine_BookSideSOrder_
def sn_326 := slot_ne (Or.inl (wd hw 441 rfl)) (Or.inl (wd hw 385 rfl)) (by decide) pf_Z pf_Lorg_matchstone_engine_BookSideSPlace_
def sn_327 := slot_ne (Or.inl (wd hw 441 rfl)) (Or.inl (wd hw 387 rfl)) (by decide) pf_Z pf_Lorg_matchstone_engine_BookSideSOrder_
def sn_328 := slot_ne (Or.inr (wd hw 413 rfl)) (Or.inr (wd hw 411 rfl)) (by decide) pf_Z pf_J
end Slots
theorem own_wS {Z : State} {a0 : Array Value} (hw : ∀ d ∈ tables_1, d.before a0 Z = true) : ∀ a ∈ Bundle.stringAtoms, a.before a0 Z = true := by
  intro a ha
  simp only [Bundle.stringAtoms, List.mem_cons, List.not_mem_nil, or_false] at ha
  rcases ha with rfl | rfl | rfl | rfl | rfl | rfl | rfl
  · exact (wd hw 147 rfl)
  · exact (wd hw 148 rfl)
  · exact (wd hw 149 rfl)
  · exact (wd hw 150 rfl)
  · exact (wd hw 151 rfl)
  · exact (wd hw 152 rfl)
  · exact (wd hw 153 rfl)
theorem own_and3 (x : Int32) : (x &&& (3 : Int32)) = 0 ∨ (x &&& (3 : Int32)) = 1 ∨ (x &&& (3 : Int32)) = 2 ∨ (x &&& (3 : Int32)) = 3 := by
  have h := c_mask x 3 2 (by decide) (by decide)
  generalize (x &&& (3 : Int32)) = k at *
  rcases (by omega : k.toInt = 0 ∨ k.toInt = 1 ∨ k.toInt = 2 ∨ k.toInt = 3) with q | q | q | q
  · exact Or.inl (Int32.toInt_inj.mp q)
  · exact Or.inr (Or.inl (Int32.toInt_inj.mp q))
  · exact Or.inr (Or.inr (Or.inl (Int32.toInt_inj.mp q)))
  · exact Or.inr (Or.inr (Or.inr (Int32.toInt_inj.mp q)))
theorem own_q (m : Int64) : ¬ ((1 : Int64) + (m &&& (4611686018427387903 : Int64))) = 0 := by
  have h := c_maskL m 4611686018427387903 62 (by decide) (by decide)
  have h2 := c_ladd 1 (m &&& (4611686018427387903 : Int64))
  generalize (m &&& (4611686018427387903 : Int64)) = k at *
  have h3 := rng64 (1 + k)
  rw [← Int64.toInt_inj]
  have e1 : (1 : Int64).toInt = 1 := rfl
  have e0 : (0 : Int64).toInt = 0 := rfl
  rw [e1] at h2
  rw [e0]
  omega
theorem d1_0 : decode prog_6_method_1_code 0 = .ok (.aload_n 0, 1) := by decide +kernel
theorem d1_1 : decode prog_6_method_1_code 1 = .ok (.invokespecial 1, 3) := by decide +kernel
theorem d1_4 : decode prog_6_method_1_code 4 = .ok (.aload_n 0, 1) := by decide +kernel
theorem d1_5 : decode prog_6_method_1_code 5 = .ok (.aload_n 1, 1) := by decide +kernel
theorem d1_6 : decode prog_6_method_1_code 6 = .ok (.putfield 7, 3) := by decide +kernel
theorem d1_9 : decode prog_6_method_1_code 9 = .ok (.aload_n 0, 1) := by decide +kernel
theorem d1_10 : decode prog_6_method_1_code 10 = .ok (.new 13, 3) := by decide +kernel
theorem d1_13 : decode prog_6_method_1_code 13 = .ok (.dup, 1) := by decide +kernel
theorem d1_14 : decode prog_6_method_1_code 14 = .ok (.aload_n 1, 1) := by decide +kernel
theorem d1_15 : decode prog_6_method_1_code 15 = .ok (.invokespecial 15, 3) := by decide +kernel
theorem d3_0 : decode prog_14_method_1_code 0 = .ok (.aload_n 0, 1) := by decide +kernel
theorem d3_1 : decode prog_14_method_1_code 1 = .ok (.invokespecial 3, 3) := by decide +kernel
theorem d3_4 : decode prog_14_method_1_code 4 = .ok (.aload_n 0, 1) := by decide +kernel
theorem d3_5 : decode prog_14_method_1_code 5 = .ok (.iconst 1, 1) := by decide +kernel
theorem d3_6 : decode prog_14_method_1_code 6 = .ok (.putfield 9, 3) := by decide +kernel
theorem d3_9 : decode prog_14_method_1_code 9 = .ok (.aload_n 0, 1) := by decide +kernel
theorem d3_10 : decode prog_14_method_1_code 10 = .ok (.aload_n 1, 1) := by decide +kernel
theorem d3_11 : decode prog_14_method_1_code 11 = .ok (.putfield 13, 3) := by decide +kernel
theorem d3_14 : decode prog_14_method_1_code 14 = .ok (.aload_n 1, 1) := by decide +kernel
theorem d3_15 : decode prog_14_method_1_code 15 = .ok (.getstatic 17, 3) := by decide +kernel
theorem d3_18 : decode prog_14_method_1_code 18 = .ok (.if_acmp .ne 9, 3) := by decide +kernel
theorem d3_21 : decode prog_14_method_1_code 21 = .ok (.invokestatic 22, 3) := by decide +kernel
theorem d4_0 : decode jdk_2515_method_10_code 0 = .ok (.invokestatic 43, 3) := by decide +kernel
theorem d5_0 : decode jdk_79_method_77_code 0 = .ok (.getstatic 422, 3) := by decide +kernel
theorem d5_3 : decode jdk_79_method_77_code 3 = .ok (.areturn, 1) := by decide +kernel
theorem pn_5 : plainName "java/util/Collections" = true := by first | (simp [plainName, overriddenIn]; done) | decide +kernel
def Q_a5_0 (Z : State) (w1 : Addr) (h0 : Heap) (v : Option Value) (h : Heap) (L : List Loc) : Prop := v = some (.ref w1) ∧ Fr Z.heap.size L ∧ h = h0
set_option maxRecDepth 65536 in
set_option maxHeartbeats 40000000 in
theorem rm_a5_0 (l : Launch) (Z : State) (a0 : Array Value) (hw : HW Z a0) (ws : List Jvm.Cond) (w1 : Addr) (h0 : Heap) (O0 : Ext Z.heap h0) (r0 : Sta Z Z.heap "java/util/Collections$ReverseComparator" "REVERSE_ORDER" "Ljava/util/Collections$ReverseComparator;" (.ref w1)) :
    Met FrameEnd l (⟨"java/util/Collections", "reverseOrder", "()Ljava/util/Comparator;"⟩ : MethodName) jdk_79_method_77_code 0 (some (.object "java/util/Comparator")) ws ⟨0, 0, 0, 0⟩ Z h0 #[] (Q_a5_0 Z w1 h0) := by
  refine own_met "java/util/Collections" (plainFor_of_name pn_5) rfl #[] (fun _ => by first | (simp [entryFrame, mkF, argsToLocals, Value.category]; done) | rfl) ?_
  intro p e s m below meth c s₁ hx hby hlk hret hml hZ hown hnm X0 e0
  have N0 := Fr.nil Z.heap.size
  obtain ⟨T1, X1, e1, st1⟩ := getS2 X0 hx hZ hown (host := "") (Or.inl (wd hw 35 rfl)) Via.refl e0 (Sta.ext O0 r0) (g := (mkF m 0 #[] [])) rfl (hb hby d5_0)
  refine Go.step st1 ?_
  exact Go.retA X1 hx hret rfl rfl hlk (hb hby d5_3) (by decide) (by decide) (by show _ ∧ _ ∧ _; rw [e1]; exact ⟨rfl, N0, rfl⟩)
theorem pd_LRLjava_util_Comparator_ : parseMethodDescriptor "()Ljava/util/Comparator;" = some ⟨[], some (.object "java/util/Comparator")⟩ := by decide +kernel
theorem d4_3 : decode jdk_2515_method_10_code 3 = .ok (.areturn, 1) := by decide +kernel
theorem pn_4 : plainName "java/util/Comparator" = true := by first | (simp [plainName, overriddenIn]; done) | decide +kernel
def Q_a4_0 (Z : State) (w1 : Addr) (h0 : Heap) (v : Option Value) (h : Heap) (L : List Loc) : Prop := v = some (.ref w1) ∧ Fr Z.heap.size L ∧ h = h0
set_option maxRecDepth 65536 in
set_option maxHeartbeats 40000000 in
theorem rm_a4_0 (l : Launch) (Z : State) (a0 : Array Value) (hw : HW Z a0) (ws : List Jvm.Cond) (w1 : Addr) (h0 : Heap) (O0 : Ext Z.heap h0) (r0 : Sta Z Z.heap "java/util/Collections$ReverseComparator" "REVERSE_ORDER" "Ljava/util/Collections$ReverseComparator;" (.ref w1)) :
    Met FrameEnd l (⟨"java/util/Comparator", "reverseOrder", "()Ljava/util/Comparator;"⟩ : MethodName) jdk_2515_method_10_code 0 (some (.object "java/util/Comparator")) ws ⟨1, 0, 0, 11⟩ Z h0 #[] (Q_a4_0 Z w1 h0) := by
  refine own_met "java/util/Comparator" (plainFor_of_name pn_4) rfl #[] (fun _ => by first | (simp [entryFrame, mkF, argsToLocals, Value.category]; done) | rfl) ?_
  intro p e s m below meth c s₁ hx hby hlk hret hml hZ hown hnm X0 e0
  have N0 := Fr.nil Z.heap.size
  obtain ⟨_, _, ⟨T1, L1, k1, n1⟩, -, X1, ⟨Lc1, hQ1, l1, y1, z1⟩, st1⟩ := Jvm.LawKit.callS X0 hx (y := (⟨"java/util/Collections", "reverseOrder", "()Ljava/util/Comparator;"⟩ : MethodName)) hown (mvT hZ (wd hw 31 rfl)) (mvT hZ (wd hw 32 rfl)) (mvT hZ (wd hw 33 rfl)) (mvT hZ (wd hw 34 rfl)) (by decide) (backOf (W := 0) (rm_a5_0 l Z a0 hw []  w1 h0 O0 r0) hZ (wd hw 34 rfl) (wd hw 33 rfl) (by decide) (by decide)) (g := (mkF m 0 #[] [])) rfl (by rw [hml]; rfl) (argsL := []) (rest := []) (lenOf pd_LRLjava_util_Comparator_ rfl) rfl (by show 2 * 0 + _ ≤ _; exact Nat.le_of_eq rfl) (hb hby d4_0) (fun _ _ => ⟨rfl, e0, (by decide : 0 + 0 ≤ _), (by decide : 0 + 0 ≤ _)⟩)
  dsimp only [Pt.U, Pt.locs, Pt.cells, Pt.slots] at X1 l1 y1 z1 st1 hQ1
  subst y1 z1
  obtain ⟨rfl, Nq1, e1⟩ := hQ1
  have N1_ : Fr Z.heap.size L1 := by rw [l1]; exact Fr.app N0 Nq1
  refine Go.step st1 ?_
  exact Go.retA X1 hx hret rfl rfl hlk (hb hby d4_3) (by decide) (by decide) (by show _ ∧ _ ∧ _; rw [e1]; exact ⟨rfl, N1_, rfl⟩)
theorem d3_24 : decode prog_14_method_1_code 24 = .ok (.goto 6, 3) := by decide +kernel
theorem d3_30 : decode prog_14_method_1_code 30 = .ok (.astore_n 2, 1) := by decide +kernel
theorem d3_31 : decode prog_14_method_1_code 31 = .ok (.aload_n 0, 1) := by decide +kernel
theorem d3_32 : decode prog_14_method_1_code 32 = .ok (.new 31, 3) := by decide +kernel
theorem d3_35 : decode prog_14_method_1_code 35 = .ok (.dup, 1) := by decide +kernel
theorem d3_36 : decode prog_14_method_1_code 36 = .ok (.aload_n 2, 1) := by decide +kernel
theorem d3_37 : decode prog_14_method_1_code 37 = .ok (.invokespecial 33, 3) := by decide +kernel
theorem d6_0 : decode jdk_2729_method_2_code 0 = .ok (.aload_n 0, 1) := by decide +kernel
theorem d6_1 : decode jdk_2729_method_2_code 1 = .ok (.invokespecial 1, 3) := by decide +kernel
theorem d7_0 : decode jdk_71_method_1_code 0 = .ok (.aload_n 0, 1) := by decide +kernel
theorem d7_1 : decode jdk_71_method_1_code 1 = .ok (.invokespecial 1, 3) := by decide +kernel
theorem d7_4 : decode jdk_71_method_1_code 4 = .ok (.return_, 1) := by decide +kernel
theorem pn_7 : plainName "java/util/AbstractMap" = true := by first | (simp [plainName, overriddenIn]; done) | decide +kernel
def Q_a7_0 (Z : State)  (h0 : Heap) (v : Option Value) (h : Heap) (L : List Loc) : Prop := v = none ∧ Fr Z.heap.size L ∧ h = h0
set_option maxRecDepth 65536 in
set_option maxHeartbeats 40000000 in
theorem rm_a7_0 (l : Launch) (Z : State) (a0 : Array Value) (hw : HW Z a0) (ws : List Jvm.Cond) (x0 : Addr) (h0 : Heap) (O0 : Ext Z.heap h0) :
    Met FrameEnd l (⟨"java/util/AbstractMap", "<init>", "()V"⟩ : MethodName) jdk_71_method_1_code 1 none ws ⟨1, 0, 0, 12⟩ Z h0 #[(.ref x0)] (Q_a7_0 Z  h0) := by
  refine own_met "java/util/AbstractMap" (plainFor_of_name pn_7) rfl #[.val (.ref x0)] (fun _ => by first | (simp [entryFrame, mkF, argsToLocals, Value.category]; done) | rfl) ?_
  intro p e s m below meth c s₁ hx hby hlk hret hml hZ hown hnm X0 e0
  have N0 := Fr.nil Z.heap.size
  refine Go.step (fun _ kt_ => XS.aloadN X0.here hx rfl (hb hby d7_0) rfl rfl kt_) ?_
  obtain ⟨T1, X1, e1, st1⟩ := initO X0 hx hZ hown (wd hw 49 rfl) (wd hw 11 rfl) (wd hw 12 rfl) e0 (g := (mkF m 1 #[.val (.ref x0)] [(.ref x0)])) rfl (by rw [hml]; rfl) rfl (hb hby d7_1) (by decide) (W := 0) (by show 2 * 0 + _ ≤ _; exact Nat.le_of_eq rfl) (by decide)
  refine Go.step st1 ?_
  exact Go.retV X1 hx hret hlk (hb hby d7_4) (by decide) (by decide) (by show _ ∧ _ ∧ _; rw [e1]; exact ⟨rfl, N0, rfl⟩)
theorem pd_LRV : parseMethodDescriptor "()V" = some ⟨[], none⟩ := by decide +kernel
theorem d6_4 : decode jdk_2729_method_2_code 4 = .ok (.aload_n 0, 1) := by decide +kernel
theorem d6_5 : decode jdk_2729_method_2_code 5 = .ok (.iconst 0, 1) := by decide +kernel
theorem d6_6 : decode jdk_2729_method_2_code 6 = .ok (.putfield 7, 3) := by decide +kernel
theorem d6_9 : decode jdk_2729_method_2_code 9 = .ok (.aload_n 0, 1) := by decide +kernel
theorem d6_10 : decode jdk_2729_method_2_code 10 = .ok (.iconst 0, 1) := by decide +kernel
theorem d6_11 : decode jdk_2729_method_2_code 11 = .ok (.putfield 13, 3) := by decide +kernel
theorem d6_14 : decode jdk_2729_method_2_code 14 = .ok (.aload_n 0, 1) := by decide +kernel
theorem d6_15 : decode jdk_2729_method_2_code 15 = .ok (.aload_n 1, 1) := by decide +kernel
theorem d6_16 : decode jdk_2729_method_2_code 16 = .ok (.putfield 16, 3) := by decide +kernel
theorem d6_19 : decode jdk_2729_method_2_code 19 = .ok (.return_, 1) := by decide +kernel
theorem pn_6 : plainName "java/util/TreeMap" = true := by first | (simp [plainName, overriddenIn]; done) | decide +kernel
def Q_a6_0 (Z : State) (x0 : Addr) (h0 : Heap) (v : Option Value) (h : Heap) (L : List Loc) : Prop := v = none ∧ Fr Z.heap.size L ∧ Keep h0 h [x0]
set_option maxRecDepth 65536 in
set_option maxHeartbeats 40000000 in
theorem rm_a6_0 (l : Launch) (Z : State) (a0 : Array Value) (hw : HW Z a0) (ws : List Jvm.Cond) (x0 : Addr) (x1 : Addr) (w1 : Int32) (w2 : Int32) (h0 : Heap) (O0 : Ext Z.heap h0) (r0 : Exa Z h0 x0 "java/util/TreeMap") (r1 : Fld Z h0 x0 "java/util/TreeMap" "size" "I" (.int w1)) (r2 : Z.heap.size ≤ x0) (r3 : Fld Z h0 x0 "java/util/TreeMap" "modCount" "I" (.int w2)) (r4 : Fld Z h0 x0 "java/util/TreeMap" "comparator" "Ljava/util/Comparator;" .null) :
    Met FrameEnd l (⟨"java/util/TreeMap", "<init>", "(Ljava/util/Comparator;)V"⟩ : MethodName) jdk_2729_method_2_code 2 none ws ⟨2, 0, 0, 24⟩ Z h0 #[(.ref x0), (.ref x1)] (Q_a6_0 Z x0 h0) := by
  refine own_met "java/util/TreeMap" (plainFor_of_name pn_6) rfl #[.val (.ref x0), .val (.ref x1)] (fun _ => by first | (simp [entryFrame, mkF, argsToLocals, Value.category]; done) | rfl) ?_
  intro p e s m below meth c s₁ hx hby hlk hret hml hZ hown hnm X0 e0
  have N0 := Fr.nil Z.heap.size
  refine Go.step (fun _ kt_ => XS.aloadN X0.here hx rfl (hb hby d6_0) rfl rfl kt_) ?_
  obtain ⟨_, _, ⟨T1, L1, k1, n1⟩, -, X1, ⟨Lc1, hQ1, l1, y1, z1⟩, st1⟩ := X0.specialBack hx (y := (⟨"java/util/AbstractMap", "<init>", "()V"⟩ : MethodName)) rfl hown (mvT hZ (wd hw 43 rfl)) (mvT hZ (wd hw 44 rfl)) (mvT hZ (wd hw 48 rfl)) (by decide) (backOf (W := 0) (rm_a7_0 l Z a0 hw []  x0 h0 O0 ) hZ (wd hw 48 rfl) (wd hw 47 rfl) (by decide) (by decide)) (g := (mkF m 1 #[.val (.ref x0), .val (.ref x1)] [(.ref x0)])) rfl (by rw [hml]; rfl) (Steps.refl _) (a := x0) (argsL := []) (rest := []) (lenOf pd_LRV rfl) rfl (by show 2 * 0 + _ ≤ _; exact Nat.le_of_eq rfl) (hb hby d6_1) (fun _ _ => ⟨rfl, e0, (by decide : 0 + 0 ≤ _), (by decide : 0 + 0 ≤ _)⟩)
  dsimp only [Pt.U, Pt.locs, Pt.cells, Pt.slots] at X1 l1 y1 z1 st1 hQ1
  subst y1 z1
  obtain ⟨rfl, Nq1, e1⟩ := hQ1
  have N1_ : Fr Z.heap.size L1 := by rw [l1]; exact Fr.app N0 Nq1
  refine Go.trans st1 ?_
  refine Go.step (fun _ kt_ => XS.aloadN X1.here hx rfl (hb hby d6_4) rfl rfl kt_) ?_
  refine Go.step (fun _ kt_ => XS.iconst X1.here hx rfl (hb hby d6_5)  kt_) ?_
  obtain ⟨T2, h2, X2, e2, W2, st2⟩ := putF X1 hx hZ hown (host := "") (Or.inl (wd hw 50 rfl)) Via.refl e1 r1 r0 (Or.inl (wd hw 51 rfl)) (wd hw 38 rfl) (ty := .int) pf_I rfl rfl (g := (mkF m 6 #[.val (.ref x0), .val (.ref x1)] [(.int (0 : Int32)), (.ref x0)])) rfl rfl (hb hby d6_6)
  refine Go.step st2 ?_
  have N2_ := Fr.snoc X2 N1_ r2
  have O2_ : Ext Z.heap h2 := extWr O0 W2 r2
  have K2 := Keep.wr (Keep.refl h0 [x0]) W2 (Or.inl (List.mem_of_getElem? (i := 0) rfl))
  have F2 := Fld.same W2 r1
  refine Go.step (fun _ kt_ => XS.aloadN X2.here hx rfl (hb hby d6_9) rfl rfl kt_) ?_
  refine Go.step (fun _ kt_ => XS.iconst X2.here hx rfl (hb hby d6_10)  kt_) ?_
  obtain ⟨T3, h3, X3, e3, W3, st3⟩ := putF X2 hx hZ hown (host := "") (Or.inl (wd hw 52 rfl)) Via.refl e2 (Fld.other W2 r3 (Or.inr (sn_1 hw))) (Exa.wr W2 r0) (Or.inl (wd hw 53 rfl)) (wd hw 38 rfl) (ty := .int) pf_I rfl rfl (g := (mkF m 11 #[.val (.ref x0), .val (.ref x1)] [(.int (0 : Int32)), (.ref x0)])) rfl rfl (hb hby d6_11)
  refine Go.step st3 ?_
  have N3_ := Fr.snoc X3 N2_ r2
  have O3_ : Ext Z.heap h3 := extWr O2_ W3 r2
  have K3 := Keep.wr K2 W3 (Or.inl (List.mem_of_getElem? (i := 0) rfl))
  have F3 := Fld.same W3 (Fld.other W2 r3 (Or.inr (sn_1 hw)))
  refine Go.step (fun _ kt_ => XS.aloadN X3.here hx rfl (hb hby d6_14) rfl rfl kt_) ?_
  refine Go.step (fun _ kt_ => XS.aloadN X3.here hx rfl (hb hby d6_15) rfl rfl kt_) ?_
  have f4 := (Fld.other W3 (Fld.other W2 r4 (Or.inr (sn_2 hw))) (Or.inr (sn_3 hw)))
  obtain ⟨T5, h5, X5, e5, W5, st5⟩ := putF X3 hx hZ hown (host := "") (Or.inl (wd hw 54 rfl)) Via.refl e3 f4 (Exa.wr W3 (Exa.wr W2 r0)) (Or.inr ⟨(wd hw 55 rfl), rfl, hnm⟩) (wd hw 38 rfl) (ty := (.object "java/util/Comparator")) pf_Ljava_util_Comparator_ rfl rfl (g := (mkF m 16 #[.val (.ref x0), .val (.ref x1)] [(.ref x1), (.ref x0)])) rfl rfl (hb hby d6_16)
  refine Go.step st5 ?_
  have N5_ := Fr.snoc X5 N3_ r2
  have O5_ : Ext Z.heap h5 := extWr O3_ W5 r2
  have K5 := Keep.wr K3 W5 (Or.inl (List.mem_of_getElem? (i := 0) rfl))
  have F5 := Fld.same W5 f4
  exact Go.retV X5 hx hret hlk (hb hby d6_19) (by decide) (by decide) (by show Q_a6_0 ..; rw [e5]; exact ⟨rfl, N5_, K5⟩)
theorem pd_LLjava_util_Comparator_RV : parseMethodDescriptor "(Ljava/util/Comparator;)V" = some ⟨[(.object "java/util/Comparator")], none⟩ := by decide +kernel
theorem d3_40 : decode prog_14_method_1_code 40 = .ok (.putfield 36, 3) := by decide +kernel
theorem d3_43 : decode prog_14_method_1_code 43 = .ok (.aload_n 0, 1) := by decide +kernel
theorem d3_44 : decode prog_14_method_1_code 44 = .ok (.new 40, 3) := by decide +kernel
theorem d3_47 : decode prog_14_method_1_code 47 = .ok (.dup, 1) := by decide +kernel
theorem d3_48 : decode prog_14_method_1_code 48 = .ok (.aload_n 2, 1) := by decide +kernel
theorem d3_49 : decode prog_14_method_1_code 49 = .ok (.invokespecial 42, 3) := by decide +kernel
theorem d8_0 : decode jdk_2756_method_3_code 0 = .ok (.aload_n 0, 1) := by decide +kernel
theorem d8_1 : decode jdk_2756_method_3_code 1 = .ok (.new 13, 3) := by decide +kernel
theorem d8_4 : decode jdk_2756_method_3_code 4 = .ok (.dup, 1) := by decide +kernel
theorem d8_5 : decode jdk_2756_method_3_code 5 = .ok (.aload_n 1, 1) := by decide +kernel
theorem d8_6 : decode jdk_2756_method_3_code 6 = .ok (.invokespecial 19, 3) := by decide +kernel
theorem d8_9 : decode jdk_2756_method_3_code 9 = .ok (.invokespecial 16, 3) := by decide +kernel
theorem d9_0 : decode jdk_2756_method_1_code 0 = .ok (.aload_n 0, 1) := by decide +kernel
theorem d9_1 : decode jdk_2756_method_1_code 1 = .ok (.invokespecial 1, 3) := by decide +kernel
theorem d10_0 : decode jdk_91_method_1_code 0 = .ok (.aload_n 0, 1) := by decide +kernel
theorem d10_1 : decode jdk_91_method_1_code 1 = .ok (.invokespecial 1, 3) := by decide +kernel
theorem d11_0 : decode jdk_22_method_1_code 0 = .ok (.aload_n 0, 1) := by decide +kernel
theorem d11_1 : decode jdk_22_method_1_code 1 = .ok (.invokespecial 1, 3) := by decide +kernel
theorem d11_4 : decode jdk_22_method_1_code 4 = .ok (.return_, 1) := by decide +kernel
theorem pn_11 : plainName "java/util/AbstractCollection" = true := by first | (simp [plainName, overriddenIn]; done) | decide +kernel
def Q_a11_0 (Z : State)  (h0 : Heap) (v : Option Value) (h : Heap) (L : List Loc) : Prop := v = none ∧ Fr Z.heap.size L ∧ h = h0
set_option maxRecDepth 65536 in
set_option maxHeartbeats 40000000 in
theorem rm_a11_0 (l : Launch) (Z : State) (a0 : Array Value) (hw : HW Z a0) (ws : List Jvm.Cond) (x0 : Addr) (h0 : Heap) (O0 : Ext Z.heap h0) :
    Met FrameEnd l (⟨"java/util/AbstractCollection", "<init>", "()V"⟩ : MethodName) jdk_22_method_1_code 1 none ws ⟨1, 0, 0, 12⟩ Z h0 #[(.ref x0)] (Q_a11_0 Z  h0) := by
  refine own_met "java/util/AbstractCollection" (plainFor_of_name pn_11) rfl #[.val (.ref x0)] (fun _ => by first | (simp [entryFrame, mkF, argsToLocals, Value.category]; done) | rfl) ?_
  intro p e s m below meth c s₁ hx hby hlk hret hml hZ hown hnm X0 e0
  have N0 := Fr.nil Z.heap.size
  refine Go.step (fun _ kt_ => XS.aloadN X0.here hx rfl (hb hby d11_0) rfl rfl kt_) ?_
  obtain ⟨T1, X1, e1, st1⟩ := initO X0 hx hZ hown (wd hw 83 rfl) (wd hw 11 rfl) (wd hw 12 rfl) e0 (g := (mkF m 1 #[.val (.ref x0)] [(.ref x0)])) rfl (by rw [hml]; rfl) rfl (hb hby d11_1) (by decide) (W := 0) (by show 2 * 0 + _ ≤ _; exact Nat.le_of_eq rfl) (by decide)
  refine Go.step st1 ?_
  exact Go.retV X1 hx hret hlk (hb hby d11_4) (by decide) (by decide) (by show _ ∧ _ ∧ _; rw [e1]; exact ⟨rfl, N0, rfl⟩)
theorem d10_4 : decode jdk_91_method_1_code 4 = .ok (.return_, 1) := by decide +kernel
theorem pn_10 : plainName "java/util/AbstractSet" = true := by first | (simp [plainName, overriddenIn]; done) | decide +kernel
def Q_a10_0 (Z : State)  (h0 : Heap) (v : Option Value) (h : Heap) (L : List Loc) : Prop := v = none ∧ Fr Z.heap.size L ∧ h = h0
set_option maxRecDepth 65536 in
set_option maxHeartbeats 40000000 in
theorem rm_a10_0 (l : Launch) (Z : State) (a0 : Array Value) (hw : HW Z a0) (ws : List Jvm.Cond) (x0 : Addr) (h0 : Heap) (O0 : Ext Z.heap h0) :
    Met FrameEnd l (⟨"java/util/AbstractSet", "<init>", "()V"⟩ : MethodName) jdk_91_method_1_code 1 none ws ⟨2, 0, 0, 24⟩ Z h0 #[(.ref x0)] (Q_a10_0 Z  h0) := by
  refine own_met "java/util/AbstractSet" (plainFor_of_name pn_10) rfl #[.val (.ref x0)] (fun _ => by first | (simp [entryFrame, mkF, argsToLocals, Value.category]; done) | rfl) ?_
  intro p e s m below meth c s₁ hx hby hlk hret hml hZ hown hnm X0 e0
  have N0 := Fr.nil Z.heap.size
  refine Go.step (fun _ kt_ => XS.aloadN X0.here hx rfl (hb hby d10_0) rfl rfl kt_) ?_
  obtain ⟨_, _, ⟨T1, L1, k1, n1⟩, -, X1, ⟨Lc1, hQ1, l1, y1, z1⟩, st1⟩ := X0.specialBack hx (y := (⟨"java/util/AbstractCollection", "<init>", "()V"⟩ : MethodName)) rfl hown (mvT hZ (wd hw 77 rfl)) (mvT hZ (wd hw 78 rfl)) (mvT hZ (wd hw 82 rfl)) (by decide) (backOf (W := 0) (rm_a11_0 l Z a0 hw []  x0 h0 O0 ) hZ (wd hw 82 rfl) (wd hw 81 rfl) (by decide) (by decide)) (g := (mkF m 1 #[.val (.ref x0)] [(.ref x0)])) rfl (by rw [hml]; rfl) (Steps.refl _) (a := x0) (argsL := []) (rest := []) (lenOf pd_LRV rfl) rfl (by show 2 * 0 + _ ≤ _; exact Nat.le_of_eq rfl) (hb hby d10_1) (fun _ _ => ⟨rfl, e0, (by decide : 0 + 0 ≤ _), (by decide : 0 + 0 ≤ _)⟩)
  dsimp only [Pt.U, Pt.locs, Pt.cells, Pt.slots] at X1 l1 y1 z1 st1 hQ1
  subst y1 z1
  obtain ⟨rfl, Nq1, e1⟩ := hQ1
  have N1_ : Fr Z.heap.size L1 := by rw [l1]; exact Fr.app N0 Nq1
  refine Go.trans st1 ?_
  exact Go.retV X1 hx hret hlk (hb hby d10_4) (by decide) (by decide) (by show _ ∧ _ ∧ _; rw [e1]; exact ⟨rfl, N1_, rfl⟩)
theorem d9_4 : decode jdk_2756_method_1_code 4 = .ok (.aload_n 0, 1) := by decide +kernel
theorem d9_5 : decode jdk_2756_method_1_code 5 = .ok (.aload_n 1, 1) := by decide +kernel
theorem d9_6 : decode jdk_2756_method_1_code 6 = .ok (.putfield 7, 3) := by decide +kernel
theorem d9_9 : decode jdk_2756_method_1_code 9 = .ok (.return_, 1) := by decide +kernel
theorem pn_9 : plainName "java/util/TreeSet" = true := by first | (simp [plainName, overriddenIn]; done) | decide +kernel
def Q_a9_0 (Z : State) (x0 : Addr) (h0 : Heap) (v : Option Value) (h : Heap) (L : List Loc) : Prop := v = none ∧ Fr Z.heap.size L ∧ Keep h0 h [x0]
set_option maxRecDepth 65536 in
set_option maxHeartbeats 40000000 in
theorem rm_a9_0 (l : Launch) (Z : State) (a0 : Array Value) (hw : HW Z a0) (ws : List Jvm.Cond) (x0 : Addr) (x1 : Addr) (h0 : Heap) (O0 : Ext Z.heap h0) (r0 : Exa Z h0 x0 "java/util/TreeSet") (r1 : Fld Z h0 x0 "java/util/TreeSet" "m" "Ljava/util/NavigableMap;" .null) (r2 : Z.heap.size ≤ x0) :
    Met FrameEnd l (⟨"java/util/TreeSet", "<init>", "(Ljava/util/NavigableMap;)V"⟩ : MethodName) jdk_2756_method_1_code 2 none ws ⟨3, 0, 0, 36⟩ Z h0 #[(.ref x0), (.ref x1)] (Q_a9_0 Z x0 h0) := by
  refine own_met "java/util/TreeSet" (plainFor_of_name pn_9) rfl #[.val (.ref x0), .val (.ref x1)] (fun _ => by first | (simp [entryFrame, mkF, argsToLocals, Value.category]; done) | rfl) ?_
  intro p e s m below meth c s₁ hx hby hlk hret hml hZ hown hnm X0 e0
  have N0 := Fr.nil Z.heap.size
  refine Go.step (fun _ kt_ => XS.aloadN X0.here hx rfl (hb hby d9_0) rfl rfl kt_) ?_
  obtain ⟨_, _, ⟨T1, L1, k1, n1⟩, -, X1, ⟨Lc1, hQ1, l1, y1, z1⟩, st1⟩ := X0.specialBack hx (y := (⟨"java/util/AbstractSet", "<init>", "()V"⟩ : MethodName)) rfl hown (mvT hZ (wd hw 71 rfl)) (mvT hZ (wd hw 72 rfl)) (mvT hZ (wd hw 76 rfl)) (by decide) (backOf (W := 0) (rm_a10_0 l Z a0 hw []  x0 h0 O0 ) hZ (wd hw 76 rfl) (wd hw 75 rfl) (by decide) (by decide)) (g := (mkF m 1 #[.val (.ref x0), .val (.ref x1)] [(.ref x0)])) rfl (by rw [hml]; rfl) (Steps.refl _) (a := x0) (argsL := []) (rest := []) (lenOf pd_LRV rfl) rfl (by show 2 * 0 + _ ≤ _; exact Nat.le_of_eq rfl) (hb hby d9_1) (fun _ _ => ⟨rfl, e0, (by decide : 0 + 0 ≤ _), (by decide : 0 + 0 ≤ _)⟩)
  dsimp only [Pt.U, Pt.locs, Pt.cells, Pt.slots] at X1 l1 y1 z1 st1 hQ1
  subst y1 z1
  obtain ⟨rfl, Nq1, e1⟩ := hQ1
  have N1_ : Fr Z.heap.size L1 := by rw [l1]; exact Fr.app N0 Nq1
  refine Go.trans st1 ?_
  refine Go.step (fun _ kt_ => XS.aloadN X1.here hx rfl (hb hby d9_4) rfl rfl kt_) ?_
  refine Go.step (fun _ kt_ => XS.aloadN X1.here hx rfl (hb hby d9_5) rfl rfl kt_) ?_
  obtain ⟨T2, h2, X2, e2, W2, st2⟩ := putF X1 hx hZ hown (host := "") (Or.inl (wd hw 84 rfl)) Via.refl e1 r1 r0 (Or.inl (wd hw 85 rfl)) (wd hw 59 rfl) (ty := (.object "java/util/NavigableMap")) pf_Ljava_util_NavigableMap_ rfl rfl (g := (mkF m 6 #[.val (.ref x0), .val (.ref x1)] [(.ref x1), (.ref x0)])) rfl rfl (hb hby d9_6)
  refine Go.step st2 ?_
  have N2_ := Fr.snoc X2 N1_ r2
  have O2_ : Ext Z.heap h2 := extWr O0 W2 r2
  have K2 := Keep.wr (Keep.refl h0 [x0]) W2 (Or.inl (List.mem_of_getElem? (i := 0) rfl))
  have F2 := Fld.same W2 r1
  exact Go.retV X2 hx hret hlk (hb hby d9_9) (by decide) (by decide) (by show Q_a9_0 ..; rw [e2]; exact ⟨rfl, N2_, K2⟩)
theorem pd_LLjava_util_NavigableMap_RV : parseMethodDescriptor "(Ljava/util/NavigableMap;)V" = some ⟨[(.object "java/util/NavigableMap")], none⟩ := by decide +kernel
theorem d8_12 : decode jdk_2756_method_3_code 12 = .ok (.return_, 1) := by decide +kernel
theorem pn_8 : plainName "java/util/TreeSet" = true := by first | (simp [plainName, overriddenIn]; done) | decide +kernel
def Q_a8_0 (Z : State) (x0 : Addr) (h0 : Heap) (v : Option Value) (h : Heap) (L : List Loc) : Prop := v = none ∧ Fr Z.heap.size L ∧ Keep h0 h [x0]
set_option maxRecDepth 65536 in
set_option maxHeartbeats 40000000 in
theorem rm_a8_0 (l : Launch) (Z : State) (a0 : Array Value) (hw : HW Z a0) (ws : List Jvm.Cond) (x0 : Addr) (x1 : Addr) (h0 : Heap) (O0 : Ext Z.heap h0) (r0 : Exa Z h0 x0 "java/util/TreeSet") (r1 : Fld Z h0 x0 "java/util/TreeSet" "m" "Ljava/util/NavigableMap;" .null) (r2 : Z.heap.size ≤ x0) :
    Met FrameEnd l (⟨"java/util/TreeSet", "<init>", "(Ljava/util/Comparator;)V"⟩ : MethodName) jdk_2756_method_3_code 2 none ws ⟨4, 1, 9, 49⟩ Z h0 #[(.ref x0), (.ref x1)] (Q_a8_0 Z x0 h0) := by
  refine own_met "java/util/TreeSet" (plainFor_of_name pn_8) rfl #[.val (.ref x0), .val (.ref x1)] (fun _ => by first | (simp [entryFrame, mkF, argsToLocals, Value.category]; done) | rfl) ?_
  intro p e s m below meth c s₁ hx hby hlk hret hml hZ hown hnm X0 e0
  have N0 := Fr.nil Z.heap.size
  refine Go.step (fun _ kt_ => XS.aloadN X0.here hx rfl (hb hby d8_0) rfl rfl kt_) ?_
  obtain ⟨T1, h1, X1, e1, E1, A1, D1, U1, st1⟩ := newO X0 hx hZ hown (wd hw 64 rfl) (wd hw 38 rfl) (wd hw 39 rfl) e0 (g := (mkF m 1 #[.val (.ref x0), .val (.ref x1)] [(.ref x0)])) rfl (hb hby d8_1) (by decide) (by decide)
  obtain ⟨b1, hb1⟩ : ∃ z, z = h0.size := ⟨_, rfl⟩
  rw [← hb1] at A1 D1 U1 st1
  refine Go.step st1 ?_
  have g_b1 : Z.heap.size ≤ b1 := Nat.le_trans O0.1 (Nat.le_of_eq hb1.symm)
  have O1_ : Ext Z.heap h1 := extTr O0 E1
  have sz_b1 : h0.size ≤ b1 := Nat.le_trans (Keep.refl h0 [x0]).1 (Nat.le_of_eq hb1.symm)
  have K1 := Keep.ext (Keep.refl h0 [x0]) E1
  have F1_size : Fld Z h1 b1 "java/util/TreeMap" "size" "I" (.int (0 : Int32)) := D1 (Or.inl (wd hw 51 rfl)) (ty := .int) pf_I
  have F1_modCount : Fld Z h1 b1 "java/util/TreeMap" "modCount" "I" (.int (0 : Int32)) := D1 (Or.inl (wd hw 53 rfl)) (ty := .int) pf_I
  have F1_comparator : Fld Z h1 b1 "java/util/TreeMap" "comparator" "Ljava/util/Comparator;" .null := D1 (Or.inr (wd hw 55 rfl)) (ty := (.object "java/util/Comparator")) pf_Ljava_util_Comparator_
  refine Go.step (fun _ kt_ => XS.dup X1.here hx rfl (hb hby d8_4) rfl rfl kt_) ?_
  refine Go.step (fun _ kt_ => XS.aloadN X1.here hx rfl (hb hby d8_5) rfl rfl kt_) ?_
  obtain ⟨_, _, ⟨T2, L2, k2, n2⟩, -, X2, ⟨Lc2, hQ2, l2, y2, z2⟩, st2⟩ := X1.specialBack hx (y := (⟨"java/util/TreeMap", "<init>", "(Ljava/util/Comparator;)V"⟩ : MethodName)) rfl hown (mvT hZ (wd hw 65 rfl)) (mvT hZ (wd hw 41 rfl)) (mvT hZ (wd hw 42 rfl)) (by decide) (backOf (W := 2) (rm_a6_0 l Z a0 hw []  b1 x1 (0 : Int32) (0 : Int32) h1 O1_ A1 F1_size g_b1 F1_modCount F1_comparator) hZ (wd hw 42 rfl) (wd hw 39 rfl) (by decide) (by decide)) (g := (mkF m 6 #[.val (.ref x0), .val (.ref x1)] [(.ref x1), (.ref b1), (.ref b1), (.ref x0)])) rfl (by rw [hml]; rfl) (Steps.refl _) (a := b1) (argsL := [(.ref x1)]) (rest := [(.ref b1), (.ref x0)]) (lenOf pd_LLjava_util_Comparator_RV rfl) rfl (by show 2 * 0 + _ ≤ _; exact Nat.le_of_eq rfl) (hb hby d8_6) (fun _ _ => ⟨rfl, e1, (by decide : 1 + 0 ≤ _), (by decide : 9 + 0 ≤ _)⟩)
  dsimp only [Pt.U, Pt.locs, Pt.cells, Pt.slots] at X2 l2 y2 z2 st2 hQ2
  subst y2 z2
  obtain ⟨rfl, Nq2, Kq2⟩ := hQ2
  have O2_ : Ext Z.heap T2.heap := extKeep O1_ Kq2 (allS g_b1 all0)
  have K2 := Keep.trans K1 Kq2 (allS (Or.inr sz_b1) all0)
  have N2_ : Fr Z.heap.size L2 := by rw [l2]; exact Fr.app N0 Nq2
  refine Go.trans st2 ?_
  have f3 := ((Fld.ext E1 r1).keep Kq2 (ninS (Nat.ne_of_lt (Nat.lt_of_lt_of_le r0.lt (Nat.le_of_eq hb1.symm))) nin0))
  obtain ⟨_, _, ⟨T4, L4, k4, n4⟩, -, X4, ⟨Lc4, hQ4, l4, y4, z4⟩, st4⟩ := X2.specialBack hx (y := (⟨"java/util/TreeSet", "<init>", "(Ljava/util/NavigableMap;)V"⟩ : MethodName)) rfl hown (mvT hZ (wd hw 67 rfl)) (mvT hZ (wd hw 68 rfl)) (mvT hZ (wd hw 70 rfl)) (by decide) (backOf (W := 0) (rm_a9_0 l Z a0 hw []  x0 b1 T2.heap O2_ ((Exa.ext E1 r0).keep Kq2) f3 r2) hZ (wd hw 70 rfl) (wd hw 60 rfl) (by decide) (by decide)) (g := (mkF m 9 #[.val (.ref x0), .val (.ref x1)] [(.ref b1), (.ref x0)])) rfl (by rw [hml]; rfl) (Steps.refl _) (a := x0) (argsL := [(.ref b1)]) (rest := []) (lenOf pd_LLjava_util_NavigableMap_RV rfl) rfl (by show 2 * 0 + _ ≤ _; exact Nat.le_of_eq rfl) (hb hby d8_9) (fun _ _ => ⟨rfl, rfl, (by decide : 1 + 0 ≤ _), (by decide : 9 + 0 ≤ _)⟩)
  dsimp only [Pt.U, Pt.locs, Pt.cells, Pt.slots] at X4 l4 y4 z4 st4 hQ4
  subst y4 z4
  obtain ⟨rfl, Nq4, Kq4⟩ := hQ4
  have O4_ : Ext Z.heap T4.heap := extKeep O2_ Kq4 (allS r2 all0)
  have K4 := Keep.trans K2 Kq4 (allS (Or.inl (List.mem_of_getElem? (i := 0) rfl)) all0)
  have N4_ : Fr Z.heap.size L4 := by rw [l4]; exact Fr.app N2_ Nq4
  refine Go.trans st4 ?_
  exact Go.retV X4 hx hret hlk (hb hby d8_12) (by decide) (by decide) ⟨rfl, N4_, K4⟩
theorem d3_52 : decode prog_14_method_1_code 52 = .ok (.putfield 43, 3) := by decide +kernel
theorem d3_55 : decode prog_14_method_1_code 55 = .ok (.return_, 1) := by decide +kernel
theorem pn_3 : plainName "org/matchstone/engine/Ladder" = true := by first | (simp [plainName, overriddenIn]; done) | decide +kernel
def Q_a3_0 (Z : State) (x0 : Addr) (h0 : Heap) (v : Option Value) (h : Heap) (L : List Loc) : Prop := v = none ∧ Fr Z.heap.size L ∧ Keep h0 h [x0]
set_option maxRecDepth 65536 in
set_option maxHeartbeats 40000000 in
theorem rm_a3_0 (l : Launch) (Z : State) (a0 : Array Value) (hw : HW Z a0) (ws : List Jvm.Cond) (x0 : Addr) (x1 : Addr) (w1 : Int32) (w2 : Addr) (h0 : Heap) (O0 : Ext Z.heap h0) (r0 : Exa Z h0 x0 "org/matchstone/engine/Ladder") (r1 : Fld Z h0 x0 "org/matchstone/engine/Ladder" "bestDisplayedKnown" "Z" (.int w1)) (r2 : Z.heap.size ≤ x0) (r3 : Fld Z h0 x0 "org/matchstone/engine/Ladder" "side" "Lorg/matchstone/engine/Side;" .null) (r4 : Sta Z Z.heap "org/matchstone/engine/Side" "BUY" "Lorg/matchstone/engine/Side;" (.ref x1)) (r5 : Sta Z Z.heap "java/util/Collections$ReverseComparator" "REVERSE_ORDER" "Ljava/util/Collections$ReverseComparator;" (.ref w2)) (r6 : Fld Z h0 x0 "org/matchstone/engine/Ladder" "deep" "Ljava/util/TreeMap;" .null) (r7 : Fld Z h0 x0 "org/matchstone/engine/Ladder" "deepDisplayed" "Ljava/util/TreeSet;" .null) :
    Met FrameEnd l (⟨"org/matchstone/engine/Ladder", "<init>", "(Lorg/matchstone/engine/Side;)V"⟩ : MethodName) prog_14_method_1_code 3 none ws ⟨5, 3, 19, 64⟩ Z h0 #[(.ref x0), (.ref x1)] (Q_a3_0 Z x0 h0) := by
  refine own_met "org/matchstone/engine/Ladder" (plainFor_of_name pn_3) rfl #[.val (.ref x0), .val (.ref x1), .unset] (fun _ => by first | (simp [entryFrame, mkF, argsToLocals, Value.category]; done) | rfl) ?_
  intro p e s m below meth c s₁ hx hby hlk hret hml hZ hown hnm X0 e0
  have N0 := Fr.nil Z.heap.size
  refine Go.step (fun _ kt_ => XS.aloadN X0.here hx rfl (hb hby d3_0) rfl rfl kt_) ?_
  obtain ⟨T1, X1, e1, st1⟩ := initO X0 hx hZ hown (wd hw 21 rfl) (wd hw 11 rfl) (wd hw 12 rfl) e0 (g := (mkF m 1 #[.val (.ref x0), .val (.ref x1), .unset] [(.ref x0)])) rfl (by rw [hml]; rfl) rfl (hb hby d3_1) (by decide) (W := 0) (by show 2 * 0 + _ ≤ _; exact Nat.le_of_eq rfl) (by decide)
  refine Go.step st1 ?_
  refine Go.step (fun _ kt_ => XS.aloadN X1.here hx rfl (hb hby d3_4) rfl rfl kt_) ?_
  refine Go.step (fun _ kt_ => XS.iconst X1.here hx rfl (hb hby d3_5)  kt_) ?_
  obtain ⟨T2, h2, X2, e2, W2, st2⟩ := putFN X1 hx hZ hown (wd hw 22 rfl) Via.refl e1 r1 r0 (Or.inl (wd hw 23 rfl)) (wd hw 16 rfl) (ty := .boolean) (v' := (.int (1 : Int32))) pf_Z rfl rfl (g := (mkF m 6 #[.val (.ref x0), .val (.ref x1), .unset] [(.int (1 : Int32)), (.ref x0)])) rfl rfl (hb hby d3_6)
  refine Go.step st2 ?_
  have N2_ := Fr.snoc X2 N0 r2
  have O2_ : Ext Z.heap h2 := extWr O0 W2 r2
  have K2 := Keep.wr (Keep.refl h0 [x0]) W2 (Or.inl (List.mem_of_getElem? (i := 0) rfl))
  have F2 := Fld.same W2 r1
  refine Go.step (fun _ kt_ => XS.aloadN X2.here hx rfl (hb hby d3_9) rfl rfl kt_) ?_
  refine Go.step (fun _ kt_ => XS.aloadN X2.here hx rfl (hb hby d3_10) rfl rfl kt_) ?_
  obtain ⟨T3, h3, X3, e3, W3, st3⟩ := putF X2 hx hZ hown (host := "") (Or.inl (wd hw 24 rfl)) Via.refl e2 (Fld.other W2 r3 (Or.inr (sn_0 hw))) (Exa.wr W2 r0) (Or.inr ⟨(wd hw 25 rfl), rfl, hnm⟩) (wd hw 16 rfl) (ty := (.object "org/matchstone/engine/Side")) pf_Lorg_matchstone_engine_Side_ rfl rfl (g := (mkF m 11 #[.val (.ref x0), .val (.ref x1), .unset] [(.ref x1), (.ref x0)])) rfl rfl (hb hby d3_11)
  refine Go.step st3 ?_
  have N3_ := Fr.snoc X3 N2_ r2
  have O3_ : Ext Z.heap h3 := extWr O2_ W3 r2
  have K3 := Keep.wr K2 W3 (Or.inl (List.mem_of_getElem? (i := 0) rfl))
  have F3 := Fld.same W3 (Fld.other W2 r3 (Or.inr (sn_0 hw)))
  refine Go.step (fun _ kt_ => XS.aloadN X3.here hx rfl (hb hby d3_14) rfl rfl kt_) ?_
  obtain ⟨T4, X4, e4, st4⟩ := getS2 X3 hx hZ hown (host := "") (Or.inl (wd hw 26 rfl)) Via.refl e3 (Sta.ext O3_ r4) (g := (mkF m 15 #[.val (.ref x0), .val (.ref x1), .unset] [(.ref x1)])) rfl (hb hby d3_15)
  refine Go.step st4 ?_
  refine Go.step (fun _ kt_ => Jvm.RoadKit.acmp (g := (mkF m 18 #[.val (.ref x0), .val (.ref x1), .unset] [(.ref x1), (.ref x1)])) X4 hx rfl rfl rfl (pc0 := 18) (pc' := 21) (same := true) rfl (hb hby d3_18) rfl (decide_eq_true rfl) (by decide) (by decide) kt_) ?_
  show Go _ _ _ _ _ _ _ _ T4 (mkF m 21 #[.val (.ref x0), .val (.ref x1), .unset] [])
  obtain ⟨_, _, ⟨T5, L5, k5, n5⟩, -, X5, ⟨Lc5, hQ5, l5, y5, z5⟩, st5⟩ := Jvm.LawKit.callS X4 hx (y := (⟨"java/util/Comparator", "reverseOrder", "()Ljava/util/Comparator;"⟩ : MethodName)) hown (mvT hZ (wd hw 27 rfl)) (mvT hZ (wd hw 28 rfl)) (mvT hZ (wd hw 29 rfl)) (mvT hZ (wd hw 30 rfl)) (by decide) (backOf (W := 0) (rm_a4_0 l Z a0 hw []  w2 h3 O3_ r5) hZ (wd hw 30 rfl) (wd hw 29 rfl) (by decide) (by decide)) (g := (mkF m 21 #[.val (.ref x0), .val (.ref x1), .unset] [])) rfl (by rw [hml]; rfl) (argsL := []) (rest := []) (lenOf pd_LRLjava_util_Comparator_ rfl) rfl (by show 2 * 0 + _ ≤ _; exact Nat.le_of_eq rfl) (hb hby d3_21) (fun _ _ => ⟨rfl, e4, (by decide : 0 + 0 ≤ _), (by decide : 0 + 0 ≤ _)⟩)
  dsimp only [Pt.U, Pt.locs, Pt.cells, Pt.slots] at X5 l5 y5 z5 st5 hQ5
  subst y5 z5
  obtain ⟨rfl, Nq5, e5⟩ := hQ5
  have N5_ : Fr Z.heap.size L5 := by rw [l5]; exact Fr.app N3_ Nq5
  refine Go.step st5 ?_
  refine Go.step (fun _ kt_ => XS.goto X5.here hx rfl (pc0 := 24) (pc' := 30) rfl (hb hby d3_24) (by decide) (by decide) kt_) ?_
  refine Go.step (fun _ kt_ => XS.astoreN X5.here hx rfl (hb hby d3_30) rfl rfl (l' := #[.val (.ref x0), .val (.ref x1), .val (.ref w2)]) rfl kt_) ?_
  refine Go.step (fun _ kt_ => XS.aloadN X5.here hx rfl (hb hby d3_31) rfl rfl kt_) ?_
  obtain ⟨T6, h6, X6, e6, E6, A6, D6, U6, st6⟩ := newO X5 hx hZ hown (wd hw 37 rfl) (wd hw 38 rfl) (wd hw 39 rfl) e5 (g := (mkF m 32 #[.val (.ref x0), .val (.ref x1), .val (.ref w2)] [(.ref x0)])) rfl (hb hby d3_32) (by decide) (by decide)
  obtain ⟨b6, hb6⟩ : ∃ z, z = h3.size := ⟨_, rfl⟩
  rw [← hb6] at A6 D6 U6 st6
  refine Go.step st6 ?_
  have g_b6 : Z.heap.size ≤ b6 := Nat.le_trans O3_.1 (Nat.le_of_eq hb6.symm)
  have O6_ : Ext Z.heap h6 := extTr O3_ E6
  have sz_b6 : h0.size ≤ b6 := Nat.le_trans K3.1 (Nat.le_of_eq hb6.symm)
  have K6 := Keep.ext K3 E6
  have F6_size : Fld Z h6 b6 "java/util/TreeMap" "size" "I" (.int (0 : Int32)) := D6 (Or.inl (wd hw 51 rfl)) (ty := .int) pf_I
  have F6_modCount : Fld Z h6 b6 "java/util/TreeMap" "modCount" "I" (.int (0 : Int32)) := D6 (Or.inl (wd hw 53 rfl)) (ty := .int) pf_I
  have F6_comparator : Fld Z h6 b6 "java/util/TreeMap" "comparator" "Ljava/util/Comparator;" .null := D6 (Or.inr (wd hw 55 rfl)) (ty := (.object "java/util/Comparator")) pf_Ljava_util_Comparator_
  refine Go.step (fun _ kt_ => XS.dup X6.here hx rfl (hb hby d3_35) rfl rfl kt_) ?_
  refine Go.step (fun _ kt_ => XS.aloadN X6.here hx rfl (hb hby d3_36) rfl rfl kt_) ?_
  obtain ⟨_, _, ⟨T7, L7, k7, n7⟩, -, X7, ⟨Lc7, hQ7, l7, y7, z7⟩, st7⟩ := X6.specialBack hx (y := (⟨"java/util/TreeMap", "<init>", "(Ljava/util/Comparator;)V"⟩ : MethodName)) rfl hown (mvT hZ (wd hw 40 rfl)) (mvT hZ (wd hw 41 rfl)) (mvT hZ (wd hw 42 rfl)) (by decide) (backOf (W := 2) (rm_a6_0 l Z a0 hw []  b6 w2 (0 : Int32) (0 : Int32) h6 O6_ A6 F6_size g_b6 F6_modCount F6_comparator) hZ (wd hw 42 rfl) (wd hw 39 rfl) (by decide) (by decide)) (g := (mkF m 37 #[.val (.ref x0), .val (.ref x1), .val (.ref w2)] [(.ref w2), (.ref b6), (.ref b6), (.ref x0)])) rfl (by rw [hml]; rfl) (Steps.refl _) (a := b6) (argsL := [(.ref w2)]) (rest := [(.ref b6), (.ref x0)]) (lenOf pd_LLjava_util_Comparator_RV rfl) rfl (by show 2 * 0 + _ ≤ _; exact Nat.le_of_eq rfl) (hb hby d3_37) (fun _ _ => ⟨rfl, e6, (by decide : 1 + 0 ≤ _), (by decide : 9 + 0 ≤ _)⟩)
  dsimp only [Pt.U, Pt.locs, Pt.cells, Pt.slots] at X7 l7 y7 z7 st7 hQ7
  subst y7 z7
  obtain ⟨rfl, Nq7, Kq7⟩ := hQ7
  have O7_ : Ext Z.heap T7.heap := extKeep O6_ Kq7 (allS g_b6 all0)
  have K7 := Keep.trans K6 Kq7 (allS (Or.inr sz_b6) all0)
  have N7_ : Fr Z.heap.size L7 := by rw [l7]; exact Fr.app N5_ Nq7
  refine Go.trans st7 ?_
  have f8 := ((Exa.ext E6 (Exa.wr W3 (Exa.wr W2 r0))).keep Kq7)
  have f9 := ((Fld.ext E6 (Fld.other W3 (Fld.other W2 r6 (Or.inr (sn_4 hw))) (Or.inr (sn_5 hw)))).keep Kq7 (ninS (Nat.ne_of_lt (Nat.lt_of_lt_of_le (Exa.wr W3 (Exa.wr W2 r0)).lt (Nat.le_of_eq hb6.symm))) nin0))
  obtain ⟨T10, h10, X10, e10, W10, st10⟩ := putF X7 hx hZ hown (host := "") (Or.inl (wd hw 56 rfl)) Via.refl rfl f9 f8 (Or.inr ⟨(wd hw 57 rfl), rfl, hnm⟩) (wd hw 16 rfl) (ty := (.object "java/util/TreeMap")) pf_Ljava_util_TreeMap_ rfl rfl (g := (mkF m 40 #[.val (.ref x0), .val (.ref x1), .val (.ref w2)] [(.ref b6), (.ref x0)])) rfl rfl (hb hby d3_40)
  refine Go.step st10 ?_
  have N10_ := Fr.snoc X10 N7_ r2
  have O10_ : Ext Z.heap h10 := extWr O7_ W10 r2
  have K10 := Keep.wr K7 W10 (Or.inl (List.mem_of_getElem? (i := 0) rfl))
  have F10 := Fld.same W10 f9
  refine Go.step (fun _ kt_ => XS.aloadN X10.here hx rfl (hb hby d3_43) rfl rfl kt_) ?_
  obtain ⟨T11, h11, X11, e11, E11, A11, D11, U11, st11⟩ := newO X10 hx hZ hown (wd hw 58 rfl) (wd hw 59 rfl) (wd hw 60 rfl) e10 (g := (mkF m 44 #[.val (.ref x0), .val (.ref x1), .val (.ref w2)] [(.ref x0)])) rfl (hb hby d3_44) (by decide) (by decide)
  obtain ⟨b11, hb11⟩ : ∃ z, z = h10.size := ⟨_, rfl⟩
  rw [← hb11] at A11 D11 U11 st11
  refine Go.step st11 ?_
  have g_b11 : Z.heap.size ≤ b11 := Nat.le_trans O10_.1 (Nat.le_of_eq hb11.symm)
  have O11_ : Ext Z.heap h11 := extTr O10_ E11
  have sz_b11 : h0.size ≤ b11 := Nat.le_trans K10.1 (Nat.le_of_eq hb11.symm)
  have K11 := Keep.ext K10 E11
  have F11_m : Fld Z h11 b11 "java/util/TreeSet" "m" "Ljava/util/NavigableMap;" .null := D11 (Or.inl (wd hw 85 rfl)) (ty := (.object "java/util/NavigableMap")) pf_Ljava_util_NavigableMap_
  refine Go.step (fun _ kt_ => XS.dup X11.here hx rfl (hb hby d3_47) rfl rfl kt_) ?_
  refine Go.step (fun _ kt_ => XS.aloadN X11.here hx rfl (hb hby d3_48) rfl rfl kt_) ?_
  obtain ⟨_, _, ⟨T12, L12, k12, n12⟩, -, X12, ⟨Lc12, hQ12, l12, y12, z12⟩, st12⟩ := X11.specialBack hx (y := (⟨"java/util/TreeSet", "<init>", "(Ljava/util/Comparator;)V"⟩ : MethodName)) rfl hown (mvT hZ (wd hw 61 rfl)) (mvT hZ (wd hw 62 rfl)) (mvT hZ (wd hw 63 rfl)) (by decide) (backOf (W := 2) (rm_a8_0 l Z a0 hw []  b11 w2 h11 O11_ A11 F11_m g_b11) hZ (wd hw 63 rfl) (wd hw 60 rfl) (by decide) (by decide)) (g := (mkF m 49 #[.val (.ref x0), .val (.ref x1), .val (.ref w2)] [(.ref w2), (.ref b11), (.ref b11), (.ref x0)])) rfl (by rw [hml]; rfl) (Steps.refl _) (a := b11) (argsL := [(.ref w2)]) (rest := [(.ref b11), (.ref x0)]) (lenOf pd_LLjava_util_Comparator_RV rfl) rfl (by show 2 * 0 + _ ≤ _; exact Nat.le_of_eq rfl) (hb hby d3_49) (fun _ _ => ⟨rfl, e11, (by decide : 2 + 1 ≤ _), (by decide : 10 + 9 ≤ _)⟩)
  dsimp only [Pt.U, Pt.locs, Pt.cells, Pt.slots] at X12 l12 y12 z12 st12 hQ12
  subst y12 z12
  obtain ⟨rfl, Nq12, Kq12⟩ := hQ12
  have O12_ : Ext Z.heap T12.heap := extKeep O11_ Kq12 (allS g_b11 all0)
  have K12 := Keep.trans K11 Kq12 (allS (Or.inr sz_b11) all0)
  have N12_ : Fr Z.heap.size L12 := by rw [l12]; exact Fr.app N10_ Nq12
  refine Go.trans st12 ?_
  have f13 := ((Exa.ext E11 (Exa.wr W10 f8)).keep Kq12)
  have f14 := ((Fld.ext E6 (Fld.other W3 (Fld.other W2 r7 (Or.inr (sn_6 hw))) (Or.inr (sn_7 hw)))).keep Kq7 (ninS (Nat.ne_of_lt (Nat.lt_of_lt_of_le (Exa.wr W3 (Exa.wr W2 r0)).lt (Nat.le_of_eq hb6.symm))) nin0))
  have f15 := ((Fld.ext E11 (Fld.other W10 f14 (Or.inr (sn_8 hw)))).keep Kq12 (ninS (Nat.ne_of_lt (Nat.lt_of_lt_of_le (Exa.wr W10 f8).lt (Nat.le_of_eq hb11.symm))) nin0))
  obtain ⟨T16, h16, X16, e16, W16, st16⟩ := putF X12 hx hZ hown (host := "") (Or.inl (wd hw 86 rfl)) Via.refl rfl f15 f13 (Or.inr ⟨(wd hw 87 rfl), rfl, hnm⟩) (wd hw 16 rfl) (ty := (.object "java/util/TreeSet")) pf_Ljava_util_TreeSet_ rfl rfl (g := (mkF m 52 #[.val (.ref x0), .val (.ref x1), .val (.ref w2)] [(.ref b11), (.ref x0)])) rfl rfl (hb hby d3_52)
  refine Go.step st16 ?_
  have N16_ := Fr.snoc X16 N12_ r2
  have O16_ : Ext Z.heap h16 := extWr O12_ W16 r2
  have K16 := Keep.wr K12 W16 (Or.inl (List.mem_of_getElem? (i := 0) rfl))
  have F16 := Fld.same W16 f15
  exact Go.retV X16 hx hret hlk (hb hby d3_55) (by decide) (by decide) (by show Q_a3_0 ..; rw [e16]; exact ⟨rfl, N16_, K16⟩)
theorem pd_LLorg_matchstone_engine_Side_RV : parseMethodDescriptor "(Lorg/matchstone/engine/Side;)V" = some ⟨[(.object "org/matchstone/engine/Side")], none⟩ := by decide +kernel
theorem d1_18 : decode prog_6_method_1_code 18 = .ok (.putfield 18, 3) := by decide +kernel
theorem d1_21 : decode prog_6_method_1_code 21 = .ok (.aload_n 0, 1) := by decide +kernel
theorem d1_22 : decode prog_6_method_1_code 22 = .ok (.new 22, 3) := by decide +kernel
theorem d1_25 : decode prog_6_method_1_code 25 = .ok (.dup, 1) := by decide +kernel
theorem d1_26 : decode prog_6_method_1_code 26 = .ok (.aload_n 1, 1) := by decide +kernel
theorem d1_27 : decode prog_6_method_1_code 27 = .ok (.invokespecial 24, 3) := by decide +kernel
theorem d12_0 : decode prog_19_method_1_code 0 = .ok (.aload_n 0, 1) := by decide +kernel
theorem d12_1 : decode prog_19_method_1_code 1 = .ok (.invokespecial 1, 3) := by decide +kernel
theorem d12_4 : decode prog_19_method_1_code 4 = .ok (.aload_n 0, 1) := by decide +kernel
theorem d12_5 : decode prog_19_method_1_code 5 = .ok (.aload_n 1, 1) := by decide +kernel
theorem d12_6 : decode prog_19_method_1_code 6 = .ok (.putfield 7, 3) := by decide +kernel
theorem d12_9 : decode prog_19_method_1_code 9 = .ok (.aload_n 0, 1) := by decide +kernel
theorem d12_10 : decode prog_19_method_1_code 10 = .ok (.new 13, 3) := by decide +kernel
theorem d12_13 : decode prog_19_method_1_code 13 = .ok (.dup, 1) := by decide +kernel
theorem d12_14 : decode prog_19_method_1_code 14 = .ok (.aload_n 1, 1) := by decide +kernel
theorem d12_15 : decode prog_19_method_1_code 15 = .ok (.invokespecial 15, 3) := by decide +kernel
theorem d13_0 : decode prog_29_method_1_code 0 = .ok (.aload_n 0, 1) := by decide +kernel
theorem d13_1 : decode prog_29_method_1_code 1 = .ok (.invokespecial 1, 3) := by decide +kernel
theorem d14_0 : decode prog_3_method_1_code 0 = .ok (.aload_n 0, 1) := by decide +kernel
theorem d14_1 : decode prog_3_method_1_code 1 = .ok (.invokespecial 1, 3) := by decide +kernel
theorem d14_4 : decode prog_3_method_1_code 4 = .ok (.return_, 1) := by decide +kernel
theorem pn_14 : plainName "org/matchstone/engine/BalancedTree" = true := by first | (simp [plainName, overriddenIn]; done) | decide +kernel
def Q_a14_0 (Z : State)  (h0 : Heap) (v : Option Value) (h : Heap) (L : List Loc) : Prop := v = none ∧ Fr Z.heap.size L ∧ h = h0
set_option maxRecDepth 65536 in
set_option maxHeartbeats 40000000 in
theorem rm_a14_0 (l : Launch) (Z : State) (a0 : Array Value) (hw : HW Z a0) (ws : List Jvm.Cond) (x0 : Addr) (h0 : Heap) (O0 : Ext Z.heap h0) :
    Met FrameEnd l (⟨"org/matchstone/engine/BalancedTree", "<init>", "()V"⟩ : MethodName) prog_3_method_1_code 1 none ws ⟨1, 0, 0, 12⟩ Z h0 #[(.ref x0)] (Q_a14_0 Z  h0) := by
  refine own_met "org/matchstone/engine/BalancedTree" (plainFor_of_name pn_14) rfl #[.val (.ref x0)] (fun _ => by first | (simp [entryFrame, mkF, argsToLocals, Value.category]; done) | rfl) ?_
  intro p e s m below meth c s₁ hx hby hlk hret hml hZ hown hnm X0 e0
  have N0 := Fr.nil Z.heap.size
  refine Go.step (fun _ kt_ => XS.aloadN X0.here hx rfl (hb hby d14_0) rfl rfl kt_) ?_
  obtain ⟨T1, X1, e1, st1⟩ := initO X0 hx hZ hown (wd hw 110 rfl) (wd hw 11 rfl) (wd hw 12 rfl) e0 (g := (mkF m 1 #[.val (.ref x0)] [(.ref x0)])) rfl (by rw [hml]; rfl) rfl (hb hby d14_1) (by decide) (W := 0) (by show 2 * 0 + _ ≤ _; exact Nat.le_of_eq rfl) (by decide)
  refine Go.step st1 ?_
  exact Go.retV X1 hx hret hlk (hb hby d14_4) (by decide) (by decide) (by show _ ∧ _ ∧ _; rw [e1]; exact ⟨rfl, N0, rfl⟩)
theorem d13_4 : decode prog_29_method_1_code 4 = .ok (.aload_n 0, 1) := by decide +kernel
theorem d13_5 : decode prog_29_method_1_code 5 = .ok (.aload_n 1, 1) := by decide +kernel
theorem d13_6 : decode prog_29_method_1_code 6 = .ok (.putfield 7, 3) := by decide +kernel
theorem d13_9 : decode prog_29_method_1_code 9 = .ok (.return_, 1) := by decide +kernel
theorem pn_13 : plainName "org/matchstone/engine/OrderTree" = true := by first | (simp [plainName, overriddenIn]; done) | decide +kernel
def Q_a13_0 (Z : State) (x0 : Addr) (h0 : Heap) (v : Option Value) (h : Heap) (L : List Loc) : Prop := v = none ∧ Fr Z.heap.size L ∧ Keep h0 h [x0]
set_option maxRecDepth 65536 in
set_option maxHeartbeats 40000000 in
theorem rm_a13_0 (l : Launch) (Z : State) (a0 : Array Value) (hw : HW Z a0) (ws : List Jvm.Cond) (x0 : Addr) (x1 : Addr) (h0 : Heap) (O0 : Ext Z.heap h0) (r0 : Exa Z h0 x0 "org/matchstone/engine/OrderTree") (r1 : Fld Z h0 x0 "org/matchstone/engine/OrderTree" "side" "Lorg/matchstone/engine/Side;" .null) (r2 : Z.heap.size ≤ x0) :
    Met FrameEnd l (⟨"org/matchstone/engine/OrderTree", "<init>", "(Lorg/matchstone/engine/Side;)V"⟩ : MethodName) prog_29_method_1_code 2 none ws ⟨2, 0, 0, 24⟩ Z h0 #[(.ref x0), (.ref x1)] (Q_a13_0 Z x0 h0) := by
  refine own_met "org/matchstone/engine/OrderTree" (plainFor_of_name pn_13) rfl #[.val (.ref x0), .val (.ref x1)] (fun _ => by first | (simp [entryFrame, mkF, argsToLocals, Value.category]; done) | rfl) ?_
  intro p e s m below meth c s₁ hx hby hlk hret hml hZ hown hnm X0 e0
  have N0 := Fr.nil Z.heap.size
  refine Go.step (fun _ kt_ => XS.aloadN X0.here hx rfl (hb hby d13_0) rfl rfl kt_) ?_
  obtain ⟨_, _, ⟨T1, L1, k1, n1⟩, -, X1, ⟨Lc1, hQ1, l1, y1, z1⟩, st1⟩ := X0.specialBack hx (y := (⟨"org/matchstone/engine/BalancedTree", "<init>", "()V"⟩ : MethodName)) rfl hown (mvT hZ (wd hw 105 rfl)) (mvT hZ (wd hw 106 rfl)) (mvT hZ (wd hw 109 rfl)) (by decide) (backOf (W := 0) (rm_a14_0 l Z a0 hw []  x0 h0 O0 ) hZ (wd hw 109 rfl) (wd hw 108 rfl) (by decide) (by decide)) (g := (mkF m 1 #[.val (.ref x0), .val (.ref x1)] [(.ref x0)])) rfl (by rw [hml]; rfl) (Steps.refl _) (a := x0) (argsL := []) (rest := []) (lenOf pd_LRV rfl) rfl (by show 2 * 0 + _ ≤ _; exact Nat.le_of_eq rfl) (hb hby d13_1) (fun _ _ => ⟨rfl, e0, (by decide : 0 + 0 ≤ _), (by decide : 0 + 0 ≤ _)⟩)
  dsimp only [Pt.U, Pt.locs, Pt.cells, Pt.slots] at X1 l1 y1 z1 st1 hQ1
  subst y1 z1
  obtain ⟨rfl, Nq1, e1⟩ := hQ1
  have N1_ : Fr Z.heap.size L1 := by rw [l1]; exact Fr.app N0 Nq1
  refine Go.trans st1 ?_
  refine Go.step (fun _ kt_ => XS.aloadN X1.here hx rfl (hb hby d13_4) rfl rfl kt_) ?_
  refine Go.step (fun _ kt_ => XS.aloadN X1.here hx rfl (hb hby d13_5) rfl rfl kt_) ?_
  obtain ⟨T2, h2, X2, e2, W2, st2⟩ := putF X1 hx hZ hown (host := "") (Or.inl (wd hw 111 rfl)) Via.refl e1 r1 r0 (Or.inr ⟨(wd hw 112 rfl), rfl, hnm⟩) (wd hw 100 rfl) (ty := (.object "org/matchstone/engine/Side")) pf_Lorg_matchstone_engine_Side_ rfl rfl (g := (mkF m 6 #[.val (.ref x0), .val (.ref x1)] [(.ref x1), (.ref x0)])) rfl rfl (hb hby d13_6)
  refine Go.step st2 ?_
  have N2_ := Fr.snoc X2 N1_ r2
  have O2_ : Ext Z.heap h2 := extWr O0 W2 r2
  have K2 := Keep.wr (Keep.refl h0 [x0]) W2 (Or.inl (List.mem_of_getElem? (i := 0) rfl))
  have F2 := Fld.same W2 r1
  exact Go.retV X2 hx hret hlk (hb hby d13_9) (by decide) (by decide) (by show Q_a13_0 ..; rw [e2]; exact ⟨rfl, N2_, K2⟩)
theorem d12_18 : decode prog_19_method_1_code 18 = .ok (.putfield 18, 3) := by decide +kernel
theorem d12_21 : decode prog_19_method_1_code 21 = .ok (.aload_n 0, 1) := by decide +kernel
theorem d12_22 : decode prog_19_method_1_code 22 = .ok (.new 22, 3) := by decide +kernel
theorem d12_25 : decode prog_19_method_1_code 25 = .ok (.dup, 1) := by decide +kernel
theorem d12_26 : decode prog_19_method_1_code 26 = .ok (.aload_n 1, 1) := by decide +kernel
theorem d12_27 : decode prog_19_method_1_code 27 = .ok (.invokespecial 24, 3) := by decide +kernel
theorem d15_0 : decode prog_20_method_1_code 0 = .ok (.aload_n 0, 1) := by decide +kernel
theorem d15_1 : decode prog_20_method_1_code 1 = .ok (.invokespecial 1, 3) := by decide +kernel
theorem d15_4 : decode prog_20_method_1_code 4 = .ok (.aload_n 0, 1) := by decide +kernel
theorem d15_5 : decode prog_20_method_1_code 5 = .ok (.iconst (-1), 1) := by decide +kernel
theorem d15_6 : decode prog_20_method_1_code 6 = .ok (.putfield 7, 3) := by decide +kernel
theorem d15_9 : decode prog_20_method_1_code 9 = .ok (.aload_n 0, 1) := by decide +kernel
theorem d15_10 : decode prog_20_method_1_code 10 = .ok (.new 13, 3) := by decide +kernel
theorem d15_13 : decode prog_20_method_1_code 13 = .ok (.dup, 1) := by decide +kernel
theorem d15_14 : decode prog_20_method_1_code 14 = .ok (.aload_n 1, 1) := by decide +kernel
theorem d15_15 : decode prog_20_method_1_code 15 = .ok (.invokespecial 15, 3) := by decide +kernel
theorem d15_18 : decode prog_20_method_1_code 18 = .ok (.putfield 18, 3) := by decide +kernel
theorem d15_21 : decode prog_20_method_1_code 21 = .ok (.return_, 1) := by decide +kernel
theorem pn_15 : plainName "org/matchstone/engine/MinimumIndex$Bucket" = true := by first | (simp [plainName, overriddenIn]; done) | decide +kernel
def Q_a15_0 (Z : State) (x0 : Addr) (h0 : Heap) (v : Option Value) (h : Heap) (L : List Loc) : Prop := v = none ∧ Fr Z.heap.size L ∧ Keep h0 h [x0]
set_option maxRecDepth 65536 in
set_option maxHeartbeats 40000000 in
theorem rm_a15_0 (l : Launch) (Z : State) (a0 : Array Value) (hw : HW Z a0) (ws : List Jvm.Cond) (x0 : Addr) (x1 : Addr) (w1 : Int32) (h0 : Heap) (O0 : Ext Z.heap h0) (r0 : Exa Z h0 x0 "org/matchstone/engine/MinimumIndex$Bucket") (r1 : Fld Z h0 x0 "org/matchstone/engine/MinimumIndex$Bucket" "bit" "I" (.int w1)) (r2 : Z.heap.size ≤ x0) (r3 : Fld Z h0 x0 "org/matchstone/engine/MinimumIndex$Bucket" "orders" "Lorg/matchstone/engine/OrderTree;" .null) :
    Met FrameEnd l (⟨"org/matchstone/engine/MinimumIndex$Bucket", "<init>", "(Lorg/matchstone/engine/Side;)V"⟩ : MethodName) prog_20_method_1_code 2 none ws ⟨3, 1, 2, 39⟩ Z h0 #[(.ref x0), (.ref x1)] (Q_a15_0 Z x0 h0) := by
  refine own_met "org/matchstone/engine/MinimumIndex$Bucket" (plainFor_of_name pn_15) rfl #[.val (.ref x0), .val (.ref x1)] (fun _ => by first | (simp [entryFrame, mkF, argsToLocals, Value.category]; done) | rfl) ?_
  intro p e s m below meth c s₁ hx hby hlk hret hml hZ hown hnm X0 e0
  have N0 := Fr.nil Z.heap.size
  refine Go.step (fun _ kt_ => XS.aloadN X0.here hx rfl (hb hby d15_0) rfl rfl kt_) ?_
  obtain ⟨T1, X1, e1, st1⟩ := initO X0 hx hZ hown (wd hw 121 rfl) (wd hw 11 rfl) (wd hw 12 rfl) e0 (g := (mkF m 1 #[.val (.ref x0), .val (.ref x1)] [(.ref x0)])) rfl (by rw [hml]; rfl) rfl (hb hby d15_1) (by decide) (W := 0) (by show 2 * 0 + _ ≤ _; exact Nat.le_of_eq rfl) (by decide)
  refine Go.step st1 ?_
  refine Go.step (fun _ kt_ => XS.aloadN X1.here hx rfl (hb hby d15_4) rfl rfl kt_) ?_
  refine Go.step (fun _ kt_ => XS.iconst X1.here hx rfl (hb hby d15_5)  kt_) ?_
  obtain ⟨T2, h2, X2, e2, W2, st2⟩ := putF X1 hx hZ hown (host := "") (Or.inl (wd hw 122 rfl)) Via.refl e1 r1 r0 (Or.inl (wd hw 123 rfl)) (wd hw 116 rfl) (ty := .int) pf_I rfl rfl (g := (mkF m 6 #[.val (.ref x0), .val (.ref x1)] [(.int (-1 : Int32)), (.ref x0)])) rfl rfl (hb hby d15_6)
  refine Go.step st2 ?_
  have N2_ := Fr.snoc X2 N0 r2
  have O2_ : Ext Z.heap h2 := extWr O0 W2 r2
  have K2 := Keep.wr (Keep.refl h0 [x0]) W2 (Or.inl (List.mem_of_getElem? (i := 0) rfl))
  have F2 := Fld.same W2 r1
  refine Go.step (fun _ kt_ => XS.aloadN X2.here hx rfl (hb hby d15_9) rfl rfl kt_) ?_
  obtain ⟨T3, h3, X3, e3, E3, A3, D3, U3, st3⟩ := newO X2 hx hZ hown (wd hw 124 rfl) (wd hw 100 rfl) (wd hw 101 rfl) e2 (g := (mkF m 10 #[.val (.ref x0), .val (.ref x1)] [(.ref x0)])) rfl (hb hby d15_10) (by decide) (by decide)
  obtain ⟨b3, hb3⟩ : ∃ z, z = h2.size := ⟨_, rfl⟩
  rw [← hb3] at A3 D3 U3 st3
  refine Go.step st3 ?_
  have g_b3 : Z.heap.size ≤ b3 := Nat.le_trans O2_.1 (Nat.le_of_eq hb3.symm)
  have O3_ : Ext Z.heap h3 := extTr O2_ E3
  have sz_b3 : h0.size ≤ b3 := Nat.le_trans K2.1 (Nat.le_of_eq hb3.symm)
  have K3 := Keep.ext K2 E3
  have F3_side : Fld Z h3 b3 "org/matchstone/engine/OrderTree" "side" "Lorg/matchstone/engine/Side;" .null := D3 (Or.inr (wd hw 112 rfl)) (ty := (.object "org/matchstone/engine/Side")) pf_Lorg_matchstone_engine_Side_
  refine Go.step (fun _ kt_ => XS.dup X3.here hx rfl (hb hby d15_13) rfl rfl kt_) ?_
  refine Go.step (fun _ kt_ => XS.aloadN X3.here hx rfl (hb hby d15_14) rfl rfl kt_) ?_
  obtain ⟨_, _, ⟨T4, L4, k4, n4⟩, -, X4, ⟨Lc4, hQ4, l4, y4, z4⟩, st4⟩ := X3.specialBack hx (y := (⟨"org/matchstone/engine/OrderTree", "<init>", "(Lorg/matchstone/engine/Side;)V"⟩ : MethodName)) rfl hown (mvT hZ (wd hw 125 rfl)) (mvT hZ (wd hw 103 rfl)) (mvT hZ (wd hw 104 rfl)) (by decide) (backOf (W := 2) (rm_a13_0 l Z a0 hw []  b3 x1 h3 O3_ A3 F3_side g_b3) hZ (wd hw 104 rfl) (wd hw 101 rfl) (by decide) (by decide)) (g := (mkF m 15 #[.val (.ref x0), .val (.ref x1)] [(.ref x1), (.ref b3), (.ref b3), (.ref x0)])) rfl (by rw [hml]; rfl) (Steps.refl _) (a := b3) (argsL := [(.ref x1)]) (rest := [(.ref b3), (.ref x0)]) (lenOf pd_LLorg_matchstone_engine_Side_RV rfl) rfl (by show 2 * 0 + _ ≤ _; exact Nat.le_of_eq rfl) (hb hby d15_15) (fun _ _ => ⟨rfl, e3, (by decide : 1 + 0 ≤ _), (by decide : 2 + 0 ≤ _)⟩)
  dsimp only [Pt.U, Pt.locs, Pt.cells, Pt.slots] at X4 l4 y4 z4 st4 hQ4
  subst y4 z4
  obtain ⟨rfl, Nq4, Kq4⟩ := hQ4
  have O4_ : Ext Z.heap T4.heap := extKeep O3_ Kq4 (allS g_b3 all0)
  have K4 := Keep.trans K3 Kq4 (allS (Or.inr sz_b3) all0)
  have N4_ : Fr Z.heap.size L4 := by rw [l4]; exact Fr.app N2_ Nq4
  refine Go.trans st4 ?_
  have f5 := ((Fld.ext E3 (Fld.other W2 r3 (Or.inr (sn_11 hw)))).keep Kq4 (ninS (Nat.ne_of_lt (Nat.lt_of_lt_of_le (Exa.wr W2 r0).lt (Nat.le_of_eq hb3.symm))) nin0))
  obtain ⟨T6, h6, X6, e6, W6, st6⟩ := putF X4 hx hZ hown (host := "") (Or.inl (wd hw 126 rfl)) Via.refl rfl f5 ((Exa.ext E3 (Exa.wr W2 r0)).keep Kq4) (Or.inr ⟨(wd hw 127 rfl), rfl, hnm⟩) (wd hw 116 rfl) (ty := (.object "org/matchstone/engine/OrderTree")) pf_Lorg_matchstone_engine_OrderTree_ rfl rfl (g := (mkF m 18 #[.val (.ref x0), .val (.ref x1)] [(.ref b3), (.ref x0)])) rfl rfl (hb hby d15_18)
  refine Go.step st6 ?_
  have N6_ := Fr.snoc X6 N4_ r2
  have O6_ : Ext Z.heap h6 := extWr O4_ W6 r2
  have K6 := Keep.wr K4 W6 (Or.inl (List.mem_of_getElem? (i := 0) rfl))
  have F6 := Fld.same W6 f5
  exact Go.retV X6 hx hret hlk (hb hby d15_21) (by decide) (by decide) (by show Q_a15_0 ..; rw [e6]; exact ⟨rfl, N6_, K6⟩)
theorem d12_30 : decode prog_19_method_1_code 30 = .ok (.putfield 25, 3) := by decide +kernel
theorem d12_33 : decode prog_19_method_1_code 33 = .ok (.return_, 1) := by decide +kernel
theorem pn_12 : plainName "org/matchstone/engine/MinimumIndex" = true := by first | (simp [plainName, overriddenIn]; done) | decide +kernel
def Q_a12_0 (Z : State) (x0 : Addr) (h0 : Heap) (v : Option Value) (h : Heap) (L : List Loc) : Prop := v = none ∧ Fr Z.heap.size L ∧ Keep h0 h [x0]
set_option maxRecDepth 65536 in
set_option maxHeartbeats 40000000 in
theorem rm_a12_0 (l : Launch) (Z : State) (a0 : Array Value) (hw : HW Z a0) (ws : List Jvm.Cond) (x0 : Addr) (x1 : Addr) (h0 : Heap) (O0 : Ext Z.heap h0) (r0 : Exa Z h0 x0 "org/matchstone/engine/MinimumIndex") (r1 : Fld Z h0 x0 "org/matchstone/engine/MinimumIndex" "side" "Lorg/matchstone/engine/Side;" .null) (r2 : Z.heap.size ≤ x0) (r3 : Fld Z h0 x0 "org/matchstone/engine/MinimumIndex" "withoutMinimum" "Lorg/matchstone/engine/OrderTree;" .null) (r4 : Fld Z h0 x0 "org/matchstone/engine/MinimumIndex" "withMinimum" "Lorg/matchstone/engine/MinimumIndex$Bucket;" .null) :
    Met FrameEnd l (⟨"org/matchstone/engine/MinimumIndex", "<init>", "(Lorg/matchstone/engine/Side;)V"⟩ : MethodName) prog_19_method_1_code 2 none ws ⟨4, 3, 12, 54⟩ Z h0 #[(.ref x0), (.ref x1)] (Q_a12_0 Z x0 h0) := by
  refine own_met "org/matchstone/engine/MinimumIndex" (plainFor_of_name pn_12) rfl #[.val (.ref x0), .val (.ref x1)] (fun _ => by first | (simp [entryFrame, mkF, argsToLocals, Value.category]; done) | rfl) ?_
  intro p e s m below meth c s₁ hx hby hlk hret hml hZ hown hnm X0 e0
  have N0 := Fr.nil Z.heap.size
  refine Go.step (fun _ kt_ => XS.aloadN X0.here hx rfl (hb hby d12_0) rfl rfl kt_) ?_
  obtain ⟨T1, X1, e1, st1⟩ := initO X0 hx hZ hown (wd hw 96 rfl) (wd hw 11 rfl) (wd hw 12 rfl) e0 (g := (mkF m 1 #[.val (.ref x0), .val (.ref x1)] [(.ref x0)])) rfl (by rw [hml]; rfl) rfl (hb hby d12_1) (by decide) (W := 0) (by show 2 * 0 + _ ≤ _; exact Nat.le_of_eq rfl) (by decide)
  refine Go.step st1 ?_
  refine Go.step (fun _ kt_ => XS.aloadN X1.here hx rfl (hb hby d12_4) rfl rfl kt_) ?_
  refine Go.step (fun _ kt_ => XS.aloadN X1.here hx rfl (hb hby d12_5) rfl rfl kt_) ?_
  obtain ⟨T2, h2, X2, e2, W2, st2⟩ := putF X1 hx hZ hown (host := "") (Or.inl (wd hw 97 rfl)) Via.refl e1 r1 r0 (Or.inr ⟨(wd hw 98 rfl), rfl, hnm⟩) (wd hw 91 rfl) (ty := (.object "org/matchstone/engine/Side")) pf_Lorg_matchstone_engine_Side_ rfl rfl (g := (mkF m 6 #[.val (.ref x0), .val (.ref x1)] [(.ref x1), (.ref x0)])) rfl rfl (hb hby d12_6)
  refine Go.step st2 ?_
  have N2_ := Fr.snoc X2 N0 r2
  have O2_ : Ext Z.heap h2 := extWr O0 W2 r2
  have K2 := Keep.wr (Keep.refl h0 [x0]) W2 (Or.inl (List.mem_of_getElem? (i := 0) rfl))
  have F2 := Fld.same W2 r1
  refine Go.step (fun _ kt_ => XS.aloadN X2.here hx rfl (hb hby d12_9) rfl rfl kt_) ?_
  obtain ⟨T3, h3, X3, e3, E3, A3, D3, U3, st3⟩ := newO X2 hx hZ hown (wd hw 99 rfl) (wd hw 100 rfl) (wd hw 101 rfl) e2 (g := (mkF m 10 #[.val (.ref x0), .val (.ref x1)] [(.ref x0)])) rfl (hb hby d12_10) (by decide) (by decide)
  obtain ⟨b3, hb3⟩ : ∃ z, z = h2.size := ⟨_, rfl⟩
  rw [← hb3] at A3 D3 U3 st3
  refine Go.step st3 ?_
  have g_b3 : Z.heap.size ≤ b3 := Nat.le_trans O2_.1 (Nat.le_of_eq hb3.symm)
  have O3_ : Ext Z.heap h3 := extTr O2_ E3
  have sz_b3 : h0.size ≤ b3 := Nat.le_trans K2.1 (Nat.le_of_eq hb3.symm)
  have K3 := Keep.ext K2 E3
  have F3_side : Fld Z h3 b3 "org/matchstone/engine/OrderTree" "side" "Lorg/matchstone/engine/Side;" .null := D3 (Or.inr (wd hw 112 rfl)) (ty := (.object "org/matchstone/engine/Side")) pf_Lorg_matchstone_engine_Side_
  refine Go.step (fun _ kt_ => XS.dup X3.here hx rfl (hb hby d12_13) rfl rfl kt_) ?_
  refine Go.step (fun _ kt_ => XS.aloadN X3.here hx rfl (hb hby d12_14) rfl rfl kt_) ?_
  obtain ⟨_, _, ⟨T4, L4, k4, n4⟩, -, X4, ⟨Lc4, hQ4, l4, y4, z4⟩, st4⟩ := X3.specialBack hx (y := (⟨"org/matchstone/engine/OrderTree", "<init>", "(Lorg/matchstone/engine/Side;)V"⟩ : MethodName)) rfl hown (mvT hZ (wd hw 102 rfl)) (mvT hZ (wd hw 103 rfl)) (mvT hZ (wd hw 104 rfl)) (by decide) (backOf (W := 2) (rm_a13_0 l Z a0 hw []  b3 x1 h3 O3_ A3 F3_side g_b3) hZ (wd hw 104 rfl) (wd hw 101 rfl) (by decide) (by decide)) (g := (mkF m 15 #[.val (.ref x0), .val (.ref x1)] [(.ref x1), (.ref b3), (.ref b3), (.ref x0)])) rfl (by rw [hml]; rfl) (Steps.refl _) (a := b3) (argsL := [(.ref x1)]) (rest := [(.ref b3), (.ref x0)]) (lenOf pd_LLorg_matchstone_engine_Side_RV rfl) rfl (by show 2 * 0 + _ ≤ _; exact Nat.le_of_eq rfl) (hb hby d12_15) (fun _ _ => ⟨rfl, e3, (by decide : 1 + 0 ≤ _), (by decide : 2 + 0 ≤ _)⟩)
  dsimp only [Pt.U, Pt.locs, Pt.cells, Pt.slots] at X4 l4 y4 z4 st4 hQ4
  subst y4 z4
  obtain ⟨rfl, Nq4, Kq4⟩ := hQ4
  have O4_ : Ext Z.heap T4.heap := extKeep O3_ Kq4 (allS g_b3 all0)
  have K4 := Keep.trans K3 Kq4 (allS (Or.inr sz_b3) all0)
  have N4_ : Fr Z.heap.size L4 := by rw [l4]; exact Fr.app N2_ Nq4
  refine Go.trans st4 ?_
  have f5 := ((Fld.ext E3 (Fld.other W2 r3 (Or.inr (sn_10 hw)))).keep Kq4 (ninS (Nat.ne_of_lt (Nat.lt_of_lt_of_le (Exa.wr W2 r0).lt (Nat.le_of_eq hb3.symm))) nin0))
  obtain ⟨T6, h6, X6, e6, W6, st6⟩ := putF X4 hx hZ hown (host := "") (Or.inl (wd hw 113 rfl)) Via.refl rfl f5 ((Exa.ext E3 (Exa.wr W2 r0)).keep Kq4) (Or.inr ⟨(wd hw 114 rfl), rfl, hnm⟩) (wd hw 91 rfl) (ty := (.object "org/matchstone/engine/OrderTree")) pf_Lorg_matchstone_engine_OrderTree_ rfl rfl (g := (mkF m 18 #[.val (.ref x0), .val (.ref x1)] [(.ref b3), (.ref x0)])) rfl rfl (hb hby d12_18)
  refine Go.step st6 ?_
  have N6_ := Fr.snoc X6 N4_ r2
  have O6_ : Ext Z.heap h6 := extWr O4_ W6 r2
  have K6 := Keep.wr K4 W6 (Or.inl (List.mem_of_getElem? (i := 0) rfl))
  have F6 := Fld.same W6 f5
  refine Go.step (fun _ kt_ => XS.aloadN X6.here hx rfl (hb hby d12_21) rfl rfl kt_) ?_
  obtain ⟨T7, h7, X7, e7, E7, A7, D7, U7, st7⟩ := newO X6 hx hZ hown (wd hw 115 rfl) (wd hw 116 rfl) (wd hw 117 rfl) e6 (g := (mkF m 22 #[.val (.ref x0), .val (.ref x1)] [(.ref x0)])) rfl (hb hby d12_22) (by decide) (by decide)
  obtain ⟨b7, hb7⟩ : ∃ z, z = h6.size := ⟨_, rfl⟩
  rw [← hb7] at A7 D7 U7 st7
  refine Go.step st7 ?_
  have g_b7 : Z.heap.size ≤ b7 := Nat.le_trans O6_.1 (Nat.le_of_eq hb7.symm)
  have O7_ : Ext Z.heap h7 := extTr O6_ E7
  have sz_b7 : h0.size ≤ b7 := Nat.le_trans K6.1 (Nat.le_of_eq hb7.symm)
  have K7 := Keep.ext K6 E7
  have F7_bit : Fld Z h7 b7 "org/matchstone/engine/MinimumIndex$Bucket" "bit" "I" (.int (0 : Int32)) := D7 (Or.inl (wd hw 123 rfl)) (ty := .int) pf_I
  have F7_orders : Fld Z h7 b7 "org/matchstone/engine/MinimumIndex$Bucket" "orders" "Lorg/matchstone/engine/OrderTree;" .null := D7 (Or.inr (wd hw 127 rfl)) (ty := (.object "org/matchstone/engine/OrderTree")) pf_Lorg_matchstone_engine_OrderTree_
  refine Go.step (fun _ kt_ => XS.dup X7.here hx rfl (hb hby d12_25) rfl rfl kt_) ?_
  refine Go.step (fun _ kt_ => XS.aloadN X7.here hx rfl (hb hby d12_26) rfl rfl kt_) ?_
  obtain ⟨_, _, ⟨T8, L8, k8, n8⟩, -, X8, ⟨Lc8, hQ8, l8, y8, z8⟩, st8⟩ := X7.specialBack hx (y := (⟨"org/matchstone/engine/MinimumIndex$Bucket", "<init>", "(Lorg/matchstone/engine/Side;)V"⟩ : MethodName)) rfl hown (mvT hZ (wd hw 118 rfl)) (mvT hZ (wd hw 119 rfl)) (mvT hZ (wd hw 120 rfl)) (by decide) (backOf (W := 2) (rm_a15_0 l Z a0 hw []  b7 x1 (0 : Int32) h7 O7_ A7 F7_bit g_b7 F7_orders) hZ (wd hw 120 rfl) (wd hw 117 rfl) (by decide) (by decide)) (g := (mkF m 27 #[.val (.ref x0), .val (.ref x1)] [(.ref x1), (.ref b7), (.ref b7), (.ref x0)])) rfl (by rw [hml]; rfl) (Steps.refl _) (a := b7) (argsL := [(.ref x1)]) (rest := [(.ref b7), (.ref x0)]) (lenOf pd_LLorg_matchstone_engine_Side_RV rfl) rfl (by show 2 * 0 + _ ≤ _; exact Nat.le_of_eq rfl) (hb hby d12_27) (fun _ _ => ⟨rfl, e7, (by decide : 2 + 1 ≤ _), (by decide : 10 + 2 ≤ _)⟩)
  dsimp only [Pt.U, Pt.locs, Pt.cells, Pt.slots] at X8 l8 y8 z8 st8 hQ8
  subst y8 z8
  obtain ⟨rfl, Nq8, Kq8⟩ := hQ8
  have O8_ : Ext Z.heap T8.heap := extKeep O7_ Kq8 (allS g_b7 all0)
  have K8 := Keep.trans K7 Kq8 (allS (Or.inr sz_b7) all0)
  have N8_ : Fr Z.heap.size L8 := by rw [l8]; exact Fr.app N6_ Nq8
  refine Go.trans st8 ?_
  have f9 := (Exa.wr W6 ((Exa.ext E3 (Exa.wr W2 r0)).keep Kq4))
  have f10 := (Fld.other W6 ((Fld.ext E3 (Fld.other W2 r4 (Or.inr (sn_12 hw)))).keep Kq4 (ninS (Nat.ne_of_lt (Nat.lt_of_lt_of_le (Exa.wr W2 r0).lt (Nat.le_of_eq hb3.symm))) nin0)) (Or.inr (sn_13 hw)))
  have f11 := ((Fld.ext E7 f10).keep Kq8 (ninS (Nat.ne_of_lt (Nat.lt_of_lt_of_le f9.lt (Nat.le_of_eq hb7.symm))) nin0))
  obtain ⟨T12, h12, X12, e12, W12, st12⟩ := putF X8 hx hZ hown (host := "") (Or.inl (wd hw 128 rfl)) Via.refl rfl f11 ((Exa.ext E7 f9).keep Kq8) (Or.inr ⟨(wd hw 129 rfl), rfl, hnm⟩) (wd hw 91 rfl) (ty := (.object "org/matchstone/engine/MinimumIndex$Bucket")) pf_Lorg_matchstone_engine_MinimumIndexSBucket_ rfl rfl (g := (mkF m 30 #[.val (.ref x0), .val (.ref x1)] [(.ref b7), (.ref x0)])) rfl rfl (hb hby d12_30)
  refine Go.step st12 ?_
  have N12_ := Fr.snoc X12 N8_ r2
  have O12_ : Ext Z.heap h12 := extWr O8_ W12 r2
  have K12 := Keep.wr K8 W12 (Or.inl (List.mem_of_getElem? (i := 0) rfl))
  have F12 := Fld.same W12 f11
  exact Go.retV X12 hx hret hlk (hb hby d12_33) (by decide) (by decide) (by show Q_a12_0 ..; rw [e12]; exact ⟨rfl, N12_, K12⟩)
theorem d1_30 : decode prog_6_method_1_code 30 = .ok (.putfield 25, 3) := by decide +kernel
theorem d1_33 : decode prog_6_method_1_code 33 = .ok (.return_, 1) := by decide +kernel
theorem pn_1 : plainName "org/matchstone/engine/BookSide" = true := by first | (simp [plainName, overriddenIn]; done) | decide +kernel
def Q_a1_0 (Z : State) (x0 : Addr) (h0 : Heap) (v : Option Value) (h : Heap) (L : List Loc) : Prop := v = none ∧ Fr Z.heap.size L ∧ Keep h0 h [x0]
set_option maxRecDepth 65536 in
set_option maxHeartbeats 40000000 in
theorem rm_a1_0 (l : Launch) (Z : State) (a0 : Array Value) (hw : HW Z a0) (ws : List Jvm.Cond) (x0 : Addr) (x1 : Addr) (w1 : Addr) (h0 : Heap) (O0 : Ext Z.heap h0) (r0 : Exa Z h0 x0 "org/matchstone/engine/BookSide") (r1 : Fld Z h0 x0 "org/matchstone/engine/BookSide" "side" "Lorg/matchstone/engine/Side;" .null) (r2 : Z.heap.size ≤ x0) (r3 : Sta Z Z.heap "org/matchstone/engine/Side" "BUY" "Lorg/matchstone/engine/Side;" (.ref x1)) (r4 : Sta Z Z.heap "java/util/Collections$ReverseComparator" "REVERSE_ORDER" "Ljava/util/Collections$ReverseComparator;" (.ref w1)) (r5 : Fld Z h0 x0 "org/matchstone/engine/BookSide" "levels" "Lorg/matchstone/engine/Ladder;" .null) (r6 : Fld Z h0 x0 "org/matchstone/engine/BookSide" "hiddenOrders" "Lorg/matchstone/engine/MinimumIndex;" .null) :
    Met FrameEnd l (⟨"org/matchstone/engine/BookSide", "<init>", "(Lorg/matchstone/engine/Side;)V"⟩ : MethodName) prog_6_method_1_code 2 none ws ⟨6, 8, 42, 80⟩ Z h0 #[(.ref x0), (.ref x1)] (Q_a1_0 Z x0 h0) := by
  refine own_met "org/matchstone/engine/BookSide" (plainFor_of_name pn_1) rfl #[.val (.ref x0), .val (.ref x1)] (fun _ => by first | (simp [entryFrame, mkF, argsToLocals, Value.category]; done) | rfl) ?_
  intro p e s m below meth c s₁ hx hby hlk hret hml hZ hown hnm X0 e0
  have N0 := Fr.nil Z.heap.size
  refine Go.step (fun _ kt_ => XS.aloadN X0.here hx rfl (hb hby d1_0) rfl rfl kt_) ?_
  obtain ⟨T1, X1, e1, st1⟩ := initO X0 hx hZ hown (wd hw 10 rfl) (wd hw 11 rfl) (wd hw 12 rfl) e0 (g := (mkF m 1 #[.val (.ref x0), .val (.ref x1)] [(.ref x0)])) rfl (by rw [hml]; rfl) rfl (hb hby d1_1) (by decide) (W := 0) (by show 2 * 0 + _ ≤ _; exact Nat.le_of_eq rfl) (by decide)
  refine Go.step st1 ?_
  refine Go.step (fun _ kt_ => XS.aloadN X1.here hx rfl (hb hby d1_4) rfl rfl kt_) ?_
  refine Go.step (fun _ kt_ => XS.aloadN X1.here hx rfl (hb hby d1_5) rfl rfl kt_) ?_
  obtain ⟨T2, h2, X2, e2, W2, st2⟩ := putF X1 hx hZ hown (host := "") (Or.inl (wd hw 13 rfl)) Via.refl e1 r1 r0 (Or.inr ⟨(wd hw 14 rfl), rfl, hnm⟩) (wd hw 2 rfl) (ty := (.object "org/matchstone/engine/Side")) pf_Lorg_matchstone_engine_Side_ rfl rfl (g := (mkF m 6 #[.val (.ref x0), .val (.ref x1)] [(.ref x1), (.ref x0)])) rfl rfl (hb hby d1_6)
  refine Go.step st2 ?_
  have N2_ := Fr.snoc X2 N0 r2
  have O2_ : Ext Z.heap h2 := extWr O0 W2 r2
  have K2 := Keep.wr (Keep.refl h0 [x0]) W2 (Or.inl (List.mem_of_getElem? (i := 0) rfl))
  have F2 := Fld.same W2 r1
  refine Go.step (fun _ kt_ => XS.aloadN X2.here hx rfl (hb hby d1_9) rfl rfl kt_) ?_
  obtain ⟨T3, h3, X3, e3, E3, A3, D3, U3, st3⟩ := newO X2 hx hZ hown (wd hw 15 rfl) (wd hw 16 rfl) (wd hw 17 rfl) e2 (g := (mkF m 10 #[.val (.ref x0), .val (.ref x1)] [(.ref x0)])) rfl (hb hby d1_10) (by decide) (by decide)
  obtain ⟨b3, hb3⟩ : ∃ z, z = h2.size := ⟨_, rfl⟩
  rw [← hb3] at A3 D3 U3 st3
  refine Go.step st3 ?_
  have g_b3 : Z.heap.size ≤ b3 := Nat.le_trans O2_.1 (Nat.le_of_eq hb3.symm)
  have O3_ : Ext Z.heap h3 := extTr O2_ E3
  have sz_b3 : h0.size ≤ b3 := Nat.le_trans K2.1 (Nat.le_of_eq hb3.symm)
  have K3 := Keep.ext K2 E3
  have F3_bestDisplayedKnown : Fld Z h3 b3 "org/matchstone/engine/Ladder" "bestDisplayedKnown" "Z" (.int (0 : Int32)) := D3 (Or.inl (wd hw 23 rfl)) (ty := .boolean) pf_Z
  have F3_side : Fld Z h3 b3 "org/matchstone/engine/Ladder" "side" "Lorg/matchstone/engine/Side;" .null := D3 (Or.inr (wd hw 25 rfl)) (ty := (.object "org/matchstone/engine/Side")) pf_Lorg_matchstone_engine_Side_
  have F3_deep : Fld Z h3 b3 "org/matchstone/engine/Ladder" "deep" "Ljava/util/TreeMap;" .null := D3 (Or.inr (wd hw 57 rfl)) (ty := (.object "java/util/TreeMap")) pf_Ljava_util_TreeMap_
  have F3_deepDisplayed : Fld Z h3 b3 "org/matchstone/engine/Ladder" "deepDisplayed" "Ljava/util/TreeSet;" .null := D3 (Or.inr (wd hw 87 rfl)) (ty := (.object "java/util/TreeSet")) pf_Ljava_util_TreeSet_
  refine Go.step (fun _ kt_ => XS.dup X3.here hx rfl (hb hby d1_13) rfl rfl kt_) ?_
  refine Go.step (fun _ kt_ => XS.aloadN X3.here hx rfl (hb hby d1_14) rfl rfl kt_) ?_
  obtain ⟨_, _, ⟨T4, L4, k4, n4⟩, -, X4, ⟨Lc4, hQ4, l4, y4, z4⟩, st4⟩ := X3.specialBack hx (y := (⟨"org/matchstone/engine/Ladder", "<init>", "(Lorg/matchstone/engine/Side;)V"⟩ : MethodName)) rfl hown (mvT hZ (wd hw 18 rfl)) (mvT hZ (wd hw 19 rfl)) (mvT hZ (wd hw 20 rfl)) (by decide) (backOf (W := 2) (rm_a3_0 l Z a0 hw []  b3 x1 (0 : Int32) w1 h3 O3_ A3 F3_bestDisplayedKnown g_b3 F3_side r3 r4 F3_deep F3_deepDisplayed) hZ (wd hw 20 rfl) (wd hw 17 rfl) (by decide) (by decide)) (g := (mkF m 15 #[.val (.ref x0), .val (.ref x1)] [(.ref x1), (.ref b3), (.ref b3), (.ref x0)])) rfl (by rw [hml]; rfl) (Steps.refl _) (a := b3) (argsL := [(.ref x1)]) (rest := [(.ref b3), (.ref x0)]) (lenOf pd_LLorg_matchstone_engine_Side_RV rfl) rfl (by show 2 * 0 + _ ≤ _; exact Nat.le_of_eq rfl) (hb hby d1_15) (fun _ _ => ⟨rfl, e3, (by decide : 1 + 3 ≤ _), (by decide : 8 + 19 ≤ _)⟩)
  dsimp only [Pt.U, Pt.locs, Pt.cells, Pt.slots] at X4 l4 y4 z4 st4 hQ4
  subst y4 z4
  obtain ⟨rfl, Nq4, Kq4⟩ := hQ4
  have O4_ : Ext Z.heap T4.heap := extKeep O3_ Kq4 (allS g_b3 all0)
  have K4 := Keep.trans K3 Kq4 (allS (Or.inr sz_b3) all0)
  have N4_ : Fr Z.heap.size L4 := by rw [l4]; exact Fr.app N2_ Nq4
  refine Go.trans st4 ?_
  have f5 := ((Fld.ext E3 (Fld.other W2 r5 (Or.inr (sn_9 hw)))).keep Kq4 (ninS (Nat.ne_of_lt (Nat.lt_of_lt_of_le (Exa.wr W2 r0).lt (Nat.le_of_eq hb3.symm))) nin0))
  obtain ⟨T6, h6, X6, e6, W6, st6⟩ := putF X4 hx hZ hown (host := "") (Or.inl (wd hw 88 rfl)) Via.refl rfl f5 ((Exa.ext E3 (Exa.wr W2 r0)).keep Kq4) (Or.inr ⟨(wd hw 89 rfl), rfl, hnm⟩) (wd hw 2 rfl) (ty := (.object "org/matchstone/engine/Ladder")) pf_Lorg_matchstone_engine_Ladder_ rfl rfl (g := (mkF m 18 #[.val (.ref x0), .val (.ref x1)] [(.ref b3), (.ref x0)])) rfl rfl (hb hby d1_18)
  refine Go.step st6 ?_
  have N6_ := Fr.snoc X6 N4_ r2
  have O6_ : Ext Z.heap h6 := extWr O4_ W6 r2
  have K6 := Keep.wr K4 W6 (Or.inl (List.mem_of_getElem? (i := 0) rfl))
  have F6 := Fld.same W6 f5
  refine Go.step (fun _ kt_ => XS.aloadN X6.here hx rfl (hb hby d1_21) rfl rfl kt_) ?_
  obtain ⟨T7, h7, X7, e7, E7, A7, D7, U7, st7⟩ := newO X6 hx hZ hown (wd hw 90 rfl) (wd hw 91 rfl) (wd hw 92 rfl) e6 (g := (mkF m 22 #[.val (.ref x0), .val (.ref x1)] [(.ref x0)])) rfl (hb hby d1_22) (by decide) (by decide)
  obtain ⟨b7, hb7⟩ : ∃ z, z = h6.size := ⟨_, rfl⟩
  rw [← hb7] at A7 D7 U7 st7
  refine Go.step st7 ?_
  have g_b7 : Z.heap.size ≤ b7 := Nat.le_trans O6_.1 (Nat.le_of_eq hb7.symm)
  have O7_ : Ext Z.heap h7 := extTr O6_ E7
  have sz_b7 : h0.size ≤ b7 := Nat.le_trans K6.1 (Nat.le_of_eq hb7.symm)
  have K7 := Keep.ext K6 E7
  have F7_side : Fld Z h7 b7 "org/matchstone/engine/MinimumIndex" "side" "Lorg/matchstone/engine/Side;" .null := D7 (Or.inr (wd hw 98 rfl)) (ty := (.object "org/matchstone/engine/Side")) pf_Lorg_matchstone_engine_Side_
  have F7_withoutMinimum : Fld Z h7 b7 "org/matchstone/engine/MinimumIndex" "withoutMinimum" "Lorg/matchstone/engine/OrderTree;" .null := D7 (Or.inr (wd hw 114 rfl)) (ty := (.object "org/matchstone/engine/OrderTree")) pf_Lorg_matchstone_engine_OrderTree_
  have F7_withMinimum : Fld Z h7 b7 "org/matchstone/engine/MinimumIndex" "withMinimum" "Lorg/matchstone/engine/MinimumIndex$Bucket;" .null := D7 (Or.inr (wd hw 129 rfl)) (ty := (.object "org/matchstone/engine/MinimumIndex$Bucket")) pf_Lorg_matchstone_engine_MinimumIndexSBucket_
  refine Go.step (fun _ kt_ => XS.dup X7.here hx rfl (hb hby d1_25) rfl rfl kt_) ?_
  refine Go.step (fun _ kt_ => XS.aloadN X7.here hx rfl (hb hby d1_26) rfl rfl kt_) ?_
  obtain ⟨_, _, ⟨T8, L8, k8, n8⟩, -, X8, ⟨Lc8, hQ8, l8, y8, z8⟩, st8⟩ := X7.specialBack hx (y := (⟨"org/matchstone/engine/MinimumIndex", "<init>", "(Lorg/matchstone/engine/Side;)V"⟩ : MethodName)) rfl hown (mvT hZ (wd hw 93 rfl)) (mvT hZ (wd hw 94 rfl)) (mvT hZ (wd hw 95 rfl)) (by decide) (backOf (W := 2) (rm_a12_0 l Z a0 hw []  b7 x1 h7 O7_ A7 F7_side g_b7 F7_withoutMinimum F7_withMinimum) hZ (wd hw 95 rfl) (wd hw 92 rfl) (by decide) (by decide)) (g := (mkF m 27 #[.val (.ref x0), .val (.ref x1)] [(.ref x1), (.ref b7), (.ref b7), (.ref x0)])) rfl (by rw [hml]; rfl) (Steps.refl _) (a := b7) (argsL := [(.ref x1)]) (rest := [(.ref b7), (.ref x0)]) (lenOf pd_LLorg_matchstone_engine_Side_RV rfl) rfl (by show 2 * 0 + _ ≤ _; exact Nat.le_of_eq rfl) (hb hby d1_27) (fun _ _ => ⟨rfl, e7, (by decide : 5 + 3 ≤ _), (by decide : 30 + 12 ≤ _)⟩)
  dsimp only [Pt.U, Pt.locs, Pt.cells, Pt.slots] at X8 l8 y8 z8 st8 hQ8
  subst y8 z8
  obtain ⟨rfl, Nq8, Kq8⟩ := hQ8
  have O8_ : Ext Z.heap T8.heap := extKeep O7_ Kq8 (allS g_b7 all0)
  have K8 := Keep.trans K7 Kq8 (allS (Or.inr sz_b7) all0)
  have N8_ : Fr Z.heap.size L8 := by rw [l8]; exact Fr.app N6_ Nq8
  refine Go.trans st8 ?_
  have f9 := (Exa.wr W6 ((Exa.ext E3 (Exa.wr W2 r0)).keep Kq4))
  have f10 := (Fld.other W6 ((Fld.ext E3 (Fld.other W2 r6 (Or.inr (sn_14 hw)))).keep Kq4 (ninS (Nat.ne_of_lt (Nat.lt_of_lt_of_le (Exa.wr W2 r0).lt (Nat.le_of_eq hb3.symm))) nin0)) (Or.inr (sn_15 hw)))
  have f11 := ((Fld.ext E7 f10).keep Kq8 (ninS (Nat.ne_of_lt (Nat.lt_of_lt_of_le f9.lt (Nat.le_of_eq hb7.symm))) nin0))
  obtain ⟨T12, h12, X12, e12, W12, st12⟩ := putF X8 hx hZ hown (host := "") (Or.inl (wd hw 130 rfl)) Via.refl rfl f11 ((Exa.ext E7 f9).keep Kq8) (Or.inr ⟨(wd hw 131 rfl), rfl, hnm⟩) (wd hw 2 rfl) (ty := (.object "org/matchstone/engine/MinimumIndex")) pf_Lorg_matchstone_engine_MinimumIndex_ rfl rfl (g := (mkF m 30 #[.val (.ref x0), .val (.ref x1)] [(.ref b7), (.ref x0)])) rfl rfl (hb hby d1_30)
  refine Go.step st12 ?_
  have N12_ := Fr.snoc X12 N8_ r2
  have O12_ : Ext Z.heap h12 := extWr O8_ W12 r2
  have K12 := Keep.wr K8 W12 (Or.inl (List.mem_of_getElem? (i := 0) rfl))
  have F12 := Fld.same W12 f11
  exact Go.retV X12 hx hret hlk (hb hby d1_33) (by decide) (by decide) (by show Q_a1_0 ..; rw [e12]; exact ⟨rfl, N12_, K12⟩)
theorem d16_0 : decode prog_6_method_2_code 0 = .ok (.new 29, 3) := by decide +kernel
theorem d16_3 : decode prog_6_method_2_code 3 = .ok (.dup, 1) := by decide +kernel
theorem d16_4 : decode prog_6_method_2_code 4 = .ok (.aload_n 0, 1) := by decide +kernel
theorem d16_5 : decode prog_6_method_2_code 5 = .ok (.invokespecial 31, 3) := by decide +kernel
theorem d17_0 : decode prog_11_method_1_code 0 = .ok (.aload_n 0, 1) := by decide +kernel
theorem d17_1 : decode prog_11_method_1_code 1 = .ok (.aload_n 1, 1) := by decide +kernel
theorem d17_2 : decode prog_11_method_1_code 2 = .ok (.putfield 1, 3) := by decide +kernel
theorem d17_5 : decode prog_11_method_1_code 5 = .ok (.aload_n 0, 1) := by decide +kernel
theorem d17_6 : decode prog_11_method_1_code 6 = .ok (.invokespecial 7, 3) := by decide +kernel
theorem d17_9 : decode prog_11_method_1_code 9 = .ok (.return_, 1) := by decide +kernel
theorem pn_17 : plainName "org/matchstone/engine/BookSide$Walk" = true := by first | (simp [plainName, overriddenIn]; done) | decide +kernel
def Q_a17_0 (Z : State) (x0 : Addr) (w1 : Int32) (h0 : Heap) (v : Option Value) (h : Heap) (L : List Loc) : Prop := v = none ∧ Fr Z.heap.size L ∧ Keep h0 h [x0] ∧ fl_0 Z h x0 .null ∧ fl_1 Z h x0 .null ∧ fl_2 Z h x0 .null ∧ fl_3 Z h x0 (.int w1)
set_option maxRecDepth 65536 in
set_option maxHeartbeats 40000000 in
theorem rm_a17_0 (l : Launch) (Z : State) (a0 : Array Value) (hw : HW Z a0) (ws : List Jvm.Cond) (x0 : Addr) (x1 : Addr) (w1 : Int32) (h0 : Heap) (O0 : Ext Z.heap h0) (r0 : Exa Z h0 x0 "org/matchstone/engine/BookSide$Walk") (r1 : Fld Z h0 x0 "org/matchstone/engine/BookSide$Walk" "this$0" "Lorg/matchstone/engine/BookSide;" .null) (r2 : Z.heap.size ≤ x0) (r3 : fl_0 Z h0 x0 .null) (r4 : fl_1 Z h0 x0 .null) (r5 : fl_2 Z h0 x0 .null) (r6 : fl_3 Z h0 x0 (.int w1)) :
    Met FrameEnd l (⟨"org/matchstone/engine/BookSide$Walk", "<init>", "(Lorg/matchstone/engine/BookSide;)V"⟩ : MethodName) prog_11_method_1_code 2 none ws ⟨1, 0, 0, 12⟩ Z h0 #[(.ref x0), (.ref x1)] (Q_a17_0 Z x0 w1 h0) := by
  refine own_met "org/matchstone/engine/BookSide$Walk" (plainFor_of_name pn_17) rfl #[.val (.ref x0), .val (.ref x1)] (fun _ => by first | (simp [entryFrame, mkF, argsToLocals, Value.category]; done) | rfl) ?_
  intro p e s m below meth c s₁ hx hby hlk hret hml hZ hown hnm X0 e0
  have N0 := Fr.nil Z.heap.size
  refine Go.step (fun _ kt_ => XS.aloadN X0.here hx rfl (hb hby d17_0) rfl rfl kt_) ?_
  refine Go.step (fun _ kt_ => XS.aloadN X0.here hx rfl (hb hby d17_1) rfl rfl kt_) ?_
  obtain ⟨T1, h1, X1, e1, W1, st1⟩ := putF X0 hx hZ hown (host := "") (Or.inl (wd hw 143 rfl)) Via.refl e0 r1 r0 (Or.inr ⟨(wd hw 144 rfl), rfl, hnm⟩) (wd hw 138 rfl) (ty := (.object "org/matchstone/engine/BookSide")) pf_Lorg_matchstone_engine_BookSide_ rfl rfl (g := (mkF m 2 #[.val (.ref x0), .val (.ref x1)] [(.ref x1), (.ref x0)])) rfl rfl (hb hby d17_2)
  refine Go.step st1 ?_
  have N1_ := Fr.snoc X1 N0 r2
  have O1_ : Ext Z.heap h1 := extWr O0 W1 r2
  have K1 := Keep.wr (Keep.refl h0 [x0]) W1 (Or.inl (List.mem_of_getElem? (i := 0) rfl))
  have F1 := Fld.same W1 r1
  refine Go.step (fun _ kt_ => XS.aloadN X1.here hx rfl (hb hby d17_5) rfl rfl kt_) ?_
  obtain ⟨T2, X2, e2, st2⟩ := initO X1 hx hZ hown (wd hw 145 rfl) (wd hw 11 rfl) (wd hw 12 rfl) e1 (g := (mkF m 6 #[.val (.ref x0), .val (.ref x1)] [(.ref x0)])) rfl (by rw [hml]; rfl) rfl (hb hby d17_6) (by decide) (W := 0) (by show 2 * 0 + _ ≤ _; exact Nat.le_of_eq rfl) (by decide)
  refine Go.step st2 ?_
  exact Go.retV X2 hx hret hlk (hb hby d17_9) (by decide) (by decide) (by show Q_a17_0 ..; rw [e2]; exact ⟨rfl, N1_, K1, (Fld.other W1 r3 (Or.inr (sn_16 hw))), (Fld.other W1 r4 (Or.inr (sn_17 hw))), (Fld.other W1 r5 (Or.inr (sn_18 hw))), (Fld.other W1 r6 (Or.inr (sn_19 hw)))⟩)
theorem pd_LLorg_matchstone_engine_BookSide_RV : parseMethodDescriptor "(Lorg/matchstone/engine/BookSide;)V" = some ⟨[(.object "org/matchstone/engine/BookSide")], none⟩ := by decide +kernel
theorem d16_8 : decode prog_6_method_2_code 8 = .ok (.areturn, 1) := by decide +kernel
theorem pn_16 : plainName "org/matchstone/engine/BookSide" = true := by first | (simp [plainName, overriddenIn]; done) | decide +kernel
def Q_a16_0 (Z : State)  (h0 : Heap) (v : Option Value) (h : Heap) (L : List Loc) : Prop := ∃ (b1 : Addr), v = some (.ref b1) ∧ Fr Z.heap.size L ∧ Keep h0 h [] ∧ h0.size ≤ b1 ∧ Exa Z h b1 "org/matchstone/engine/BookSide$Walk" ∧ fl_0 Z h b1 .null ∧ fl_1 Z h b1 .null ∧ fl_2 Z h b1 .null ∧ fl_3 Z h b1 (.int (0 : Int32))
set_option maxRecDepth 65536 in
set_option maxHeartbeats 40000000 in
theorem rm_a16_0 (l : Launch) (Z : State) (a0 : Array Value) (hw : HW Z a0) (ws : List Jvm.Cond) (x0 : Addr) (h0 : Heap) (O0 : Ext Z.heap h0) :
    Met FrameEnd l (⟨"org/matchstone/engine/BookSide", "walk", "()Lorg/matchstone/engine/BookSide$Walk;"⟩ : MethodName) prog_6_method_2_code 1 (some (.object "org/matchstone/engine/BookSide$Walk")) ws ⟨2, 1, 5, 26⟩ Z h0 #[(.ref x0)] (Q_a16_0 Z  h0) := by
  refine own_met "org/matchstone/engine/BookSide" (plainFor_of_name pn_16) rfl #[.val (.ref x0)] (fun _ => by first | (simp [entryFrame, mkF, argsToLocals, Value.category]; done) | rfl) ?_
  intro p e s m below meth c s₁ hx hby hlk hret hml hZ hown hnm X0 e0
  have N0 := Fr.nil Z.heap.size
  obtain ⟨T1, h1, X1, e1, E1, A1, D1, U1, st1⟩ := newO X0 hx hZ hown (wd hw 137 rfl) (wd hw 138 rfl) (wd hw 139 rfl) e0 (g := (mkF m 0 #[.val (.ref x0)] [])) rfl (hb hby d16_0) (by decide) (by decide)
  obtain ⟨b1, hb1⟩ : ∃ z, z = h0.size := ⟨_, rfl⟩
  rw [← hb1] at A1 D1 U1 st1
  refine Go.step st1 ?_
  have g_b1 : Z.heap.size ≤ b1 := Nat.le_trans O0.1 (Nat.le_of_eq hb1.symm)
  have O1_ : Ext Z.heap h1 := extTr O0 E1
  have sz_b1 : h0.size ≤ b1 := Nat.le_trans (Keep.refl h0 []).1 (Nat.le_of_eq hb1.symm)
  have K1 := Keep.ext (Keep.refl h0 []) E1
  have F1_this_0 : Fld Z h1 b1 "org/matchstone/engine/BookSide$Walk" "this$0" "Lorg/matchstone/engine/BookSide;" .null := D1 (Or.inr (wd hw 144 rfl)) (ty := (.object "org/matchstone/engine/BookSide")) pf_Lorg_matchstone_engine_BookSide_
  have F1_place : fl_0 Z h1 b1 .null := D1 (Or.inl (wd hw 385 rfl)) (ty := (.object "org/matchstone/engine/BookSide$Place")) pf_Lorg_matchstone_engine_BookSideSPlace_
  have F1_hidden : fl_1 Z h1 b1 .null := D1 (Or.inl (wd hw 387 rfl)) (ty := (.object "org/matchstone/engine/BookSide$Order")) pf_Lorg_matchstone_engine_BookSideSOrder_
  have F1_displayed : fl_2 Z h1 b1 .null := D1 (Or.inl (wd hw 389 rfl)) (ty := (.object "org/matchstone/engine/BookSide$Order")) pf_Lorg_matchstone_engine_BookSideSOrder_
  have F1_displayedKnown : fl_3 Z h1 b1 (.int (0 : Int32)) := D1 (Or.inl (wd hw 441 rfl)) (ty := .boolean) pf_Z
  refine Go.step (fun _ kt_ => XS.dup X1.here hx rfl (hb hby d16_3) rfl rfl kt_) ?_
  refine Go.step (fun _ kt_ => XS.aloadN X1.here hx rfl (hb hby d16_4) rfl rfl kt_) ?_
  obtain ⟨_, _, ⟨T2, L2, k2, n2⟩, -, X2, ⟨Lc2, hQ2, l2, y2, z2⟩, st2⟩ := X1.specialBack hx (y := (⟨"org/matchstone/engine/BookSide$Walk", "<init>", "(Lorg/matchstone/engine/BookSide;)V"⟩ : MethodName)) rfl hown (mvT hZ (wd hw 140 rfl)) (mvT hZ (wd hw 141 rfl)) (mvT hZ (wd hw 142 rfl)) (by decide) (backOf (W := 1) (rm_a17_0 l Z a0 hw []  b1 x0 (0 : Int32) h1 O1_ A1 F1_this_0 g_b1 F1_place F1_hidden F1_displayed F1_displayedKnown) hZ (wd hw 142 rfl) (wd hw 139 rfl) (by decide) (by decide)) (g := (mkF m 5 #[.val (.ref x0)] [(.ref x0), (.ref b1), (.ref b1)])) rfl (by rw [hml]; rfl) (Steps.refl _) (a := b1) (argsL := [(.ref x0)]) (rest := [(.ref b1)]) (lenOf pd_LLorg_matchstone_engine_BookSide_RV rfl) rfl (by show 2 * 0 + _ ≤ _; exact Nat.le_of_eq rfl) (hb hby d16_5) (fun _ _ => ⟨rfl, e1, (by decide : 1 + 0 ≤ _), (by decide : 5 + 0 ≤ _)⟩)
  dsimp only [Pt.U, Pt.locs, Pt.cells, Pt.slots] at X2 l2 y2 z2 st2 hQ2
  subst y2 z2
  obtain ⟨rfl, Nq2, Kq2, p2_0, p2_1, p2_2, p2_3⟩ := hQ2
  have O2_ : Ext Z.heap T2.heap := extKeep O1_ Kq2 (allS g_b1 all0)
  have K2 := Keep.trans K1 Kq2 (allS (Or.inr sz_b1) all0)
  have N2_ : Fr Z.heap.size L2 := by rw [l2]; exact Fr.app N0 Nq2
  refine Go.trans st2 ?_
  exact Go.retA X2 hx hret rfl rfl hlk (hb hby d16_8) (by decide) (by decide) ⟨b1, rfl, N2_, K2, sz_b1, (A1.keep Kq2), p2_0, p2_1, p2_2, p2_3⟩
theorem pd_LRLorg_matchstone_engine_BookSideSWalk_ : parseMethodDescriptor "()Lorg/matchstone/engine/BookSide$Walk;" = some ⟨[], some (.object "org/matchstone/engine/BookSide$Walk")⟩ := by decide +kernel
theorem d18_0 : decode prog_22_method_2_code 0 = .ok (.new 62, 3) := by decide +kernel
theorem d18_3 : decode prog_22_method_2_code 3 = .ok (.dup, 1) := by decide +kernel
theorem d18_4 : decode prog_22_method_2_code 4 = .ok (.aload_n 0, 1) := by decide +kernel
theorem d18_5 : decode prog_22_method_2_code 5 = .ok (.aload_n 1, 1) := by decide +kernel
theorem d18_6 : decode prog_22_method_2_code 6 = .ok (.lload_n 2, 1) := by decide +kernel
theorem d18_7 : decode prog_22_method_2_code 7 = .ok (.lload 4, 2) := by decide +kernel
theorem d18_9 : decode prog_22_method_2_code 9 = .ok (.invokespecial 64, 3) := by decide +kernel
theorem d19_0 : decode prog_23_method_1_code 0 = .ok (.aload_n 0, 1) := by decide +kernel
theorem d19_1 : decode prog_23_method_1_code 1 = .ok (.invokespecial 1, 3) := by decide +kernel
theorem d19_4 : decode prog_23_method_1_code 4 = .ok (.aload_n 0, 1) := by decide +kernel
theorem d19_5 : decode prog_23_method_1_code 5 = .ok (.getstatic 7, 3) := by decide +kernel
theorem d19_8 : decode prog_23_method_1_code 8 = .ok (.putfield 13, 3) := by decide +kernel
theorem d19_11 : decode prog_23_method_1_code 11 = .ok (.aload_n 0, 1) := by decide +kernel
theorem d19_12 : decode prog_23_method_1_code 12 = .ok (.iconst 1, 1) := by decide +kernel
theorem d19_13 : decode prog_23_method_1_code 13 = .ok (.putfield 18, 3) := by decide +kernel
theorem d19_16 : decode prog_23_method_1_code 16 = .ok (.aload_n 0, 1) := by decide +kernel
theorem d19_17 : decode prog_23_method_1_code 17 = .ok (.aload_n 1, 1) := by decide +kernel
theorem d19_18 : decode prog_23_method_1_code 18 = .ok (.putfield 22, 3) := by decide +kernel
theorem d19_21 : decode prog_23_method_1_code 21 = .ok (.aload_n 0, 1) := by decide +kernel
theorem d19_22 : decode prog_23_method_1_code 22 = .ok (.aload_n 2, 1) := by decide +kernel
theorem d19_23 : decode prog_23_method_1_code 23 = .ok (.putfield 26, 3) := by decide +kernel
theorem d19_26 : decode prog_23_method_1_code 26 = .ok (.aload_n 0, 1) := by decide +kernel
theorem d19_27 : decode prog_23_method_1_code 27 = .ok (.lload_n 3, 1) := by decide +kernel
theorem d19_28 : decode prog_23_method_1_code 28 = .ok (.putfield 30, 3) := by decide +kernel
theorem d19_31 : decode prog_23_method_1_code 31 = .ok (.aload_n 0, 1) := by decide +kernel
theorem d19_32 : decode prog_23_method_1_code 32 = .ok (.lload 5, 2) := by decide +kernel
theorem d19_34 : decode prog_23_method_1_code 34 = .ok (.putfield 34, 3) := by decide +kernel
theorem d19_37 : decode prog_23_method_1_code 37 = .ok (.return_, 1) := by decide +kernel
theorem pn_19 : plainName "org/matchstone/engine/NewOrder$Draft" = true := by first | (simp [plainName, overriddenIn]; done) | decide +kernel
def Q_a19_0 (Z : State) (x0 : Addr) (x1 : Addr) (x2 : Addr) (x3 : Int64) (x4 : Int64) (w1 : Addr) (w5 : Int32) (w6 : Int32) (w7 : Int32) (h0 : Heap) (v : Option Value) (h : Heap) (L : List Loc) : Prop := v = none ∧ Fr Z.heap.size L ∧ Keep h0 h [x0] ∧ fl_4 Z h x0 (.ref w1) ∧ fl_5 Z h x0 (.int (1 : Int32)) ∧ fl_6 Z h x0 (.ref x1) ∧ fl_7 Z h x0 (.ref x2) ∧ fl_8 Z h x0 (.long x3) ∧ fl_9 Z h x0 (.long x4) ∧ fl_10 Z h x0 .null ∧ fl_11 Z h x0 (.int w5) ∧ fl_12 Z h x0 (.int w6) ∧ fl_13 Z h x0 (.int w7) ∧ fl_14 Z h x0 .null ∧ fl_15 Z h x0 .null
set_option maxRecDepth 65536 in
set_option maxHeartbeats 40000000 in
theorem rm_a19_0 (l : Launch) (Z : State) (a0 : Array Value) (hw : HW Z a0) (ws : List Jvm.Cond) (x0 : Addr) (x1 : Addr) (x2 : Addr) (x3 : Int64) (x4 : Int64) (w1 : Addr) (w2 : Int32) (w3 : Int64) (w4 : Int64) (w5 : Int32) (w6 : Int32) (w7 : Int32) (h0 : Heap) (O0 : Ext Z.heap h0) (r0 : Sta Z Z.heap "org/matchstone/engine/TimeInForce" "DAY" "Lorg/matchstone/engine/TimeInForce;" (.ref w1)) (r1 : Exa Z h0 x0 "org/matchstone/engine/NewOrder$Draft") (r2 : fl_4 Z h0 x0 .null) (r3 : Z.heap.size ≤ x0) (r4 : fl_5 Z h0 x0 (.int w2)) (r5 : fl_6 Z h0 x0 .null) (r6 : fl_7 Z h0 x0 .null) (r7 : fl_8 Z h0 x0 (.long w3)) (r8 : fl_9 Z h0 x0 (.long w4)) (r9 : fl_10 Z h0 x0 .null) (r10 : fl_11 Z h0 x0 (.int w5)) (r11 : fl_12 Z h0 x0 (.int w6)) (r12 : fl_13 Z h0 x0 (.int w7)) (r13 : fl_14 Z h0 x0 .null) (r14 : fl_15 Z h0 x0 .null) :
    Met FrameEnd l (⟨"org/matchstone/engine/NewOrder$Draft", "<init>", "(Ljava/lang/String;Lorg/matchstone/engine/Side;JJ)V"⟩ : MethodName) prog_23_method_1_code 7 none ws ⟨1, 0, 0, 12⟩ Z h0 #[(.ref x0), (.ref x1), (.ref x2), (.long x3), (.long x4)] (Q_a19_0 Z x0 x1 x2 x3 x4 w1 w5 w6 w7 h0) := by
  refine own_met "org/matchstone/engine/NewOrder$Draft" (plainFor_of_name pn_19) rfl #[.val (.ref x0), .val (.ref x1), .val (.ref x2), .val (.long x3), .second, .val (.long x4), .second] (fun _ => by first | (simp [entryFrame, mkF, argsToLocals, Value.category]; done) | rfl) ?_
  intro p e s m below meth c s₁ hx hby hlk hret hml hZ hown hnm X0 e0
  have N0 := Fr.nil Z.heap.size
  refine Go.step (fun _ kt_ => XS.aloadN X0.here hx rfl (hb hby d19_0) rfl rfl kt_) ?_
  obtain ⟨T1, X1, e1, st1⟩ := initO X0 hx hZ hown (wd hw 165 rfl) (wd hw 11 rfl) (wd hw 12 rfl) e0 (g := (mkF m 1 #[.val (.ref x0), .val (.ref x1), .val (.ref x2), .val (.long x3), .second, .val (.long x4), .second] [(.ref x0)])) rfl (by rw [hml]; rfl) rfl (hb hby d19_1) (by decide) (W := 0) (by show 2 * 0 + _ ≤ _; exact Nat.le_of_eq rfl) (by decide)
  refine Go.step st1 ?_
  refine Go.step (fun _ kt_ => XS.aloadN X1.here hx rfl (hb hby d19_4) rfl rfl kt_) ?_
  obtain ⟨T2, X2, e2, st2⟩ := getS2 X1 hx hZ hown (host := "") (Or.inl (wd hw 166 rfl)) Via.refl e1 (Sta.ext O0 r0) (g := (mkF m 5 #[.val (.ref x0), .val (.ref x1), .val (.ref x2), .val (.long x3), .second, .val (.long x4), .second] [(.ref x0)])) rfl (hb hby d19_5)
  refine Go.step st2 ?_
  obtain ⟨T3, h3, X3, e3, W3, st3⟩ := putF X2 hx hZ hown (host := "") (Or.inl (wd hw 169 rfl)) Via.refl e2 r2 r1 (Or.inl (wd hw 170 rfl)) (wd hw 160 rfl) (ty := (.object "org/matchstone/engine/TimeInForce")) pf_Lorg_matchstone_engine_TimeInForce_ rfl rfl (g := (mkF m 8 #[.val (.ref x0), .val (.ref x1), .val (.ref x2), .val (.long x3), .second, .val (.long x4), .second] [(.ref w1), (.ref x0)])) rfl rfl (hb hby d19_8)
  refine Go.step st3 ?_
  have N3_ := Fr.snoc X3 N0 r3
  have O3_ : Ext Z.heap h3 := extWr O0 W3 r3
  have K3 := Keep.wr (Keep.refl h0 [x0]) W3 (Or.inl (List.mem_of_getElem? (i := 0) rfl))
  have F3 := Fld.same W3 r2
  refine Go.step (fun _ kt_ => XS.aloadN X3.here hx rfl (hb hby d19_11) rfl rfl kt_) ?_
  refine Go.step (fun _ kt_ => XS.iconst X3.here hx rfl (hb hby d19_12)  kt_) ?_
  obtain ⟨T4, h4, X4, e4, W4, st4⟩ := putFN X3 hx hZ hown (wd hw 171 rfl) Via.refl e3 (Fld.other W3 r4 (Or.inr (sn_20 hw))) (Exa.wr W3 r1) (Or.inl (wd hw 172 rfl)) (wd hw 160 rfl) (ty := .boolean) (v' := (.int (1 : Int32))) pf_Z rfl rfl (g := (mkF m 13 #[.val (.ref x0), .val (.ref x1), .val (.ref x2), .val (.long x3), .second, .val (.long x4), .second] [(.int (1 : Int32)), (.ref x0)])) rfl rfl (hb hby d19_13)
  refine Go.step st4 ?_
  have N4_ := Fr.snoc X4 N3_ r3
  have O4_ : Ext Z.heap h4 := extWr O3_ W4 r3
  have K4 := Keep.wr K3 W4 (Or.inl (List.mem_of_getElem? (i := 0) rfl))
  have F4 := Fld.same W4 (Fld.other W3 r4 (Or.inr (sn_20 hw)))
  refine Go.step (fun _ kt_ => XS.aloadN X4.here hx rfl (hb hby d19_16) rfl rfl kt_) ?_
  refine Go.step (fun _ kt_ => XS.aloadN X4.here hx rfl (hb hby d19_17) rfl rfl kt_) ?_
  have f5 := (Fld.other W4 (Fld.other W3 r5 (Or.inr (sn_21 hw))) (Or.inr (sn_22 hw)))
  obtain ⟨T6, h6, X6, e6, W6, st6⟩ := putF X4 hx hZ hown (host := "") (Or.inl (wd hw 173 rfl)) Via.refl e4 f5 (Exa.wr W4 (Exa.wr W3 r1)) (Or.inr ⟨(wd hw 174 rfl), rfl, hnm⟩) (wd hw 160 rfl) (ty := (.object "java/lang/String")) pf_Ljava_lang_String_ rfl rfl (g := (mkF m 18 #[.val (.ref x0), .val (.ref x1), .val (.ref x2), .val (.long x3), .second, .val (.long x4), .second] [(.ref x1), (.ref x0)])) rfl rfl (hb hby d19_18)
  refine Go.step st6 ?_
  have N6_ := Fr.snoc X6 N4_ r3
  have O6_ : Ext Z.heap h6 := extWr O4_ W6 r3
  have K6 := Keep.wr K4 W6 (Or.inl (List.mem_of_getElem? (i := 0) rfl))
  have F6 := Fld.same W6 f5
  refine Go.step (fun _ kt_ => XS.aloadN X6.here hx rfl (hb hby d19_21) rfl rfl kt_) ?_
  refine Go.step (fun _ kt_ => XS.aloadN X6.here hx rfl (hb hby d19_22) rfl rfl kt_) ?_
  have f7 := (Fld.other W6 (Fld.other W4 (Fld.other W3 r6 (Or.inr (sn_23 hw))) (Or.inr (sn_24 hw))) (Or.inr (sn_25 hw)))
  obtain ⟨T8, h8, X8, e8, W8, st8⟩ := putF X6 hx hZ hown (host := "") (Or.inl (wd hw 175 rfl)) Via.refl e6 f7 (Exa.wr W6 (Exa.wr W4 (Exa.wr W3 r1))) (Or.inr ⟨(wd hw 176 rfl), rfl, hnm⟩) (wd hw 160 rfl) (ty := (.object "org/matchstone/engine/Side")) pf_Lorg_matchstone_engine_Side_ rfl rfl (g := (mkF m 23 #[.val (.ref x0), .val (.ref x1), .val (.ref x2), .val (.long x3), .second, .val (.long x4), .second] [(.ref x2), (.ref x0)])) rfl rfl (hb hby d19_23)
  refine Go.step st8 ?_
  have N8_ := Fr.snoc X8 N6_ r3
  have O8_ : Ext Z.heap h8 := extWr O6_ W8 r3
  have K8 := Keep.wr K6 W8 (Or.inl (List.mem_of_getElem? (i := 0) rfl))
  have F8 := Fld.same W8 f7
  refine Go.step (fun _ kt_ => XS.aloadN X8.here hx rfl (hb hby d19_26) rfl rfl kt_) ?_
  refine Go.step (fun _ kt_ => XS.lloadN X8.here hx rfl (hb hby d19_27) rfl kt_) ?_
  have f9 := (Exa.wr W8 (Exa.wr W6 (Exa.wr W4 (Exa.wr W3 r1))))
  have f10 := (Fld.other W8 (Fld.other W6 (Fld.other W4 (Fld.other W3 r7 (Or.inr (sn_26 hw))) (Or.inr (sn_27 hw))) (Or.inr (sn_28 hw))) (Or.inr (sn_29 hw)))
  obtain ⟨T11, h11, X11, e11, W11, st11⟩ := putF X8 hx hZ hown (host := "") (Or.inl (wd hw 177 rfl)) Via.refl e8 f10 f9 (Or.inr ⟨(wd hw 178 rfl), rfl, hnm⟩) (wd hw 160 rfl) (ty := .long) pf_J rfl rfl (g := (mkF m 28 #[.val (.ref x0), .val (.ref x1), .val (.ref x2), .val (.long x3), .second, .val (.long x4), .second] [(.long x3), (.ref x0)])) rfl rfl (hb hby d19_28)
  refine Go.step st11 ?_
  have N11_ := Fr.snoc X11 N8_ r3
  have O11_ : Ext Z.heap h11 := extWr O8_ W11 r3
  have K11 := Keep.wr K8 W11 (Or.inl (List.mem_of_getElem? (i := 0) rfl))
  have F11 := Fld.same W11 f10
  refine Go.step (fun _ kt_ => XS.aloadN X11.here hx rfl (hb hby d19_31) rfl rfl kt_) ?_
  refine Go.step (fun _ kt_ => XS.lload X11.here hx rfl (hb hby d19_32) rfl kt_) ?_
  have f12 := (Fld.other W8 (Fld.other W6 (Fld.other W4 (Fld.other W3 r8 (Or.inr (sn_30 hw))) (Or.inr (sn_31 hw))) (Or.inr (sn_32 hw))) (Or.inr (sn_33 hw)))
  obtain ⟨T13, h13, X13, e13, W13, st13⟩ := putF X11 hx hZ hown (host := "") (Or.inl (wd hw 179 rfl)) Via.refl e11 (Fld.other W11 f12 (Or.inr (sn_34 hw))) (Exa.wr W11 f9) (Or.inr ⟨(wd hw 180 rfl), rfl, hnm⟩) (wd hw 160 rfl) (ty := .long) pf_J rfl rfl (g := (mkF m 34 #[.val (.ref x0), .val (.ref x1), .val (.ref x2), .val (.long x3), .second, .val (.long x4), .second] [(.long x4), (.ref x0)])) rfl rfl (hb hby d19_34)
  refine Go.step st13 ?_
  have N13_ := Fr.snoc X13 N11_ r3
  have O13_ : Ext Z.heap h13 := extWr O11_ W13 r3
  have K13 := Keep.wr K11 W13 (Or.inl (List.mem_of_getElem? (i := 0) rfl))
  have F13 := Fld.same W13 (Fld.other W11 f12 (Or.inr (sn_34 hw)))
  have f14 := (Fld.other W11 (Fld.other W8 (Fld.other W6 (Fld.other W4 F3 (Or.inr (Ne.symm (sn_20 hw)))) (Or.inr (Ne.symm (sn_21 hw)))) (Or.inr (Ne.symm (sn_23 hw)))) (Or.inr (Ne.symm (sn_26 hw))))
  have f15 := (Fld.other W13 f14 (Or.inr (Ne.symm (sn_30 hw))))
  have f16 := (Fld.other W13 (Fld.other W11 (Fld.other W8 (Fld.other W6 F4 (Or.inr (Ne.symm (sn_22 hw)))) (Or.inr (Ne.symm (sn_24 hw)))) (Or.inr (Ne.symm (sn_27 hw)))) (Or.inr (Ne.symm (sn_31 hw))))
  have f17 := (Fld.other W13 (Fld.other W11 (Fld.other W8 F6 (Or.inr (Ne.symm (sn_25 hw)))) (Or.inr (Ne.symm (sn_28 hw)))) (Or.inr (Ne.symm (sn_32 hw))))
  have f18 := (Fld.other W13 (Fld.other W11 F8 (Or.inr (Ne.symm (sn_29 hw)))) (Or.inr (Ne.symm (sn_33 hw))))
  have f19 := (Fld.other W13 F11 (Or.inr (Ne.symm (sn_34 hw))))
  have f20 := (Fld.other W8 (Fld.other W6 (Fld.other W4 (Fld.other W3 r9 (Or.inr (sn_35 hw))) (Or.inr (sn_36 hw))) (Or.inr (sn_37 hw))) (Or.inr (sn_38 hw)))
  have f21 := (Fld.other W13 (Fld.other W11 f20 (Or.inr (sn_39 hw))) (Or.inr (sn_40 hw)))
  have f22 := (Fld.other W8 (Fld.other W6 (Fld.other W4 (Fld.other W3 r10 (Or.inr (sn_41 hw))) (Or.inr (sn_42 hw))) (Or.inr (sn_43 hw))) (Or.inr (sn_44 hw)))
  have f23 := (Fld.other W13 (Fld.other W11 f22 (Or.inr (sn_45 hw))) (Or.inr (sn_46 hw)))
  have f24 := (Fld.other W8 (Fld.other W6 (Fld.other W4 (Fld.other W3 r11 (Or.inr (sn_47 hw))) (Or.inr (sn_48 hw))) (Or.inr (sn_49 hw))) (Or.inr (sn_50 hw)))
  have f25 := (Fld.other W13 (Fld.other W11 f24 (Or.inr (sn_51 hw))) (Or.inr (sn_52 hw)))
  have f26 := (Fld.other W8 (Fld.other W6 (Fld.other W4 (Fld.other W3 r12 (Or.inr (sn_53 hw))) (Or.inr (sn_54 hw))) (Or.inr (sn_55 hw))) (Or.inr (sn_56 hw)))
  have f27 := (Fld.other W13 (Fld.other W11 f26 (Or.inr (sn_57 hw))) (Or.inr (sn_58 hw)))
  have f28 := (Fld.other W8 (Fld.other W6 (Fld.other W4 (Fld.other W3 r13 (Or.inr (sn_59 hw))) (Or.inr (sn_60 hw))) (Or.inr (sn_61 hw))) (Or.inr (sn_62 hw)))
  have f29 := (Fld.other W13 (Fld.other W11 f28 (Or.inr (sn_63 hw))) (Or.inr (sn_64 hw)))
  have f30 := (Fld.other W8 (Fld.other W6 (Fld.other W4 (Fld.other W3 r14 (Or.inr (sn_65 hw))) (Or.inr (sn_66 hw))) (Or.inr (sn_67 hw))) (Or.inr (sn_68 hw)))
  have f31 := (Fld.other W13 (Fld.other W11 f30 (Or.inr (sn_69 hw))) (Or.inr (sn_70 hw)))
  exact Go.retV X13 hx hret hlk (hb hby d19_37) (by decide) (by decide) (by show Q_a19_0 ..; rw [e13]; exact ⟨rfl, N13_, K13, f15, f16, f17, f18, f19, F13, f21, f23, f25, f27, f29, f31⟩)
theorem pd_LLjava_lang_String_Lorg_matchstone_engine_Side_JJRV : parseMethodDescriptor "(Ljava/lang/String;Lorg/matchstone/engine/Side;JJ)V" = some ⟨[(.object "java/lang/String"), (.object "org/matchstone/engine/Side"), .long, .long], none⟩ := by decide +kernel
theorem d18_12 : decode prog_22_method_2_code 12 = .ok (.invokevirtual 67, 3) := by decide +kernel
theorem d20_0 : decode prog_23_method_3_code 0 = .ok (.new 38, 3) := by decide +kernel
theorem d20_3 : decode prog_23_method_3_code 3 = .ok (.dup, 1) := by decide +kernel
theorem d20_4 : decode prog_23_method_3_code 4 = .ok (.aload_n 0, 1) := by decide +kernel
theorem d20_5 : decode prog_23_method_3_code 5 = .ok (.getfield 22, 3) := by decide +kernel
theorem d20_8 : decode prog_23_method_3_code 8 = .ok (.aload_n 0, 1) := by decide +kernel
theorem d20_9 : decode prog_23_method_3_code 9 = .ok (.getfield 26, 3) := by decide +kernel
theorem d20_12 : decode prog_23_method_3_code 12 = .ok (.aload_n 0, 1) := by decide +kernel
theorem d20_13 : decode prog_23_method_3_code 13 = .ok (.getfield 30, 3) := by decide +kernel
theorem d20_16 : decode prog_23_method_3_code 16 = .ok (.aload_n 0, 1) := by decide +kernel
theorem d20_17 : decode prog_23_method_3_code 17 = .ok (.getfield 34, 3) := by decide +kernel
theorem d20_20 : decode prog_23_method_3_code 20 = .ok (.aload_n 0, 1) := by decide +kernel
theorem d20_21 : decode prog_23_method_3_code 21 = .ok (.getfield 13, 3) := by decide +kernel
theorem d20_24 : decode prog_23_method_3_code 24 = .ok (.aload_n 0, 1) := by decide +kernel
theorem d20_25 : decode prog_23_method_3_code 25 = .ok (.getfield 51, 3) := by decide +kernel
theorem d20_28 : decode prog_23_method_3_code 28 = .ok (.aload_n 0, 1) := by decide +kernel
theorem d20_29 : decode prog_23_method_3_code 29 = .ok (.getfield 18, 3) := by decide +kernel
theorem d20_32 : decode prog_23_method_3_code 32 = .ok (.aload_n 0, 1) := by decide +kernel
theorem d20_33 : decode prog_23_method_3_code 33 = .ok (.getfield 56, 3) := by decide +kernel
theorem d20_36 : decode prog_23_method_3_code 36 = .ok (.aload_n 0, 1) := by decide +kernel
theorem d20_37 : decode prog_23_method_3_code 37 = .ok (.getfield 60, 3) := by decide +kernel
theorem d20_40 : decode prog_23_method_3_code 40 = .ok (.aload_n 0, 1) := by decide +kernel
theorem d20_41 : decode prog_23_method_3_code 41 = .ok (.getfield 64, 3) := by decide +kernel
theorem d20_44 : decode prog_23_method_3_code 44 = .ok (.aload_n 0, 1) := by decide +kernel
theorem d20_45 : decode prog_23_method_3_code 45 = .ok (.getfield 69, 3) := by decide +kernel
theorem d20_48 : decode prog_23_method_3_code 48 = .ok (.aload_n 0, 1) := by decide +kernel
theorem d20_49 : decode prog_23_method_3_code 49 = .ok (.getfield 74, 3) := by decide +kernel
theorem d20_52 : decode prog_23_method_3_code 52 = .ok (.invokespecial 75, 3) := by decide +kernel
theorem d21_0 : decode prog_22_method_1_code 0 = .ok (.aload_n 0, 1) := by decide +kernel
theorem d21_1 : decode prog_22_method_1_code 1 = .ok (.invokespecial 1, 3) := by decide +kernel
theorem d22_0 : decode jdk_30_method_1_code 0 = .ok (.aload_n 0, 1) := by decide +kernel
theorem d22_1 : decode jdk_30_method_1_code 1 = .ok (.invokespecial 1, 3) := by decide +kernel
theorem d22_4 : decode jdk_30_method_1_code 4 = .ok (.return_, 1) := by decide +kernel
theorem pn_22 : plainName "java/lang/Record" = true := by first | (simp [plainName, overriddenIn]; done) | decide +kernel
def Q_a22_0 (Z : State)  (h0 : Heap) (v : Option Value) (h : Heap) (L : List Loc) : Prop := v = none ∧ Fr Z.heap.size L ∧ h = h0
set_option maxRecDepth 65536 in
set_option maxHeartbeats 40000000 in
theorem rm_a22_0 (l : Launch) (Z : State) (a0 : Array Value) (hw : HW Z a0) (ws : List Jvm.Cond) (x0 : Addr) (h0 : Heap) (O0 : Ext Z.heap h0) :
    Met FrameEnd l (⟨"java/lang/Record", "<init>", "()V"⟩ : MethodName) jdk_30_method_1_code 1 none ws ⟨1, 0, 0, 12⟩ Z h0 #[(.ref x0)] (Q_a22_0 Z  h0) := by
  refine own_met "java/lang/Record" (plainFor_of_name pn_22) rfl #[.val (.ref x0)] (fun _ => by first | (simp [entryFrame, mkF, argsToLocals, Value.category]; done) | rfl) ?_
  intro p e s m below meth c s₁ hx hby hlk hret hml hZ hown hnm X0 e0
  have N0 := Fr.nil Z.heap.size
  refine Go.step (fun _ kt_ => XS.aloadN X0.here hx rfl (hb hby d22_0) rfl rfl kt_) ?_
  obtain ⟨T1, X1, e1, st1⟩ := initO X0 hx hZ hown (wd hw 208 rfl) (wd hw 11 rfl) (wd hw 12 rfl) e0 (g := (mkF m 1 #[.val (.ref x0)] [(.ref x0)])) rfl (by rw [hml]; rfl) rfl (hb hby d22_1) (by decide) (W := 0) (by show 2 * 0 + _ ≤ _; exact Nat.le_of_eq rfl) (by decide)
  refine Go.step st1 ?_
  exact Go.retV X1 hx hret hlk (hb hby d22_4) (by decide) (by decide) (by show _ ∧ _ ∧ _; rw [e1]; exact ⟨rfl, N0, rfl⟩)
theorem d21_4 : decode prog_22_method_1_code 4 = .ok (.aload_n 1, 1) := by decide +kernel
theorem d21_5 : decode prog_22_method_1_code 5 = .ok (.ldc 7, 2) := by decide +kernel
theorem d21_7 : decode prog_22_method_1_code 7 = .ok (.invokestatic 9, 3) := by decide +kernel
theorem d23_0 : decode jdk_31_method_11_code 0 = .ok (.aload_n 0, 1) := by decide +kernel
theorem d23_1 : decode jdk_31_method_11_code 1 = .ok (.ifnonnull 12, 3) := by decide +kernel
theorem d23_13 : decode jdk_31_method_11_code 13 = .ok (.aload_n 0, 1) := by decide +kernel
theorem d23_14 : decode jdk_31_method_11_code 14 = .ok (.areturn, 1) := by decide +kernel
theorem pn_23 : plainName "java/util/Objects" = true := by first | (simp [plainName, overriddenIn]; done) | decide +kernel
def Q_a23_0 (Z : State) (x0 : Addr) (h0 : Heap) (v : Option Value) (h : Heap) (L : List Loc) : Prop := v = some (.ref x0) ∧ Fr Z.heap.size L ∧ h = h0
set_option maxRecDepth 65536 in
set_option maxHeartbeats 40000000 in
theorem rm_a23_0 (l : Launch) (Z : State) (a0 : Array Value) (hw : HW Z a0) (ws : List Jvm.Cond) (x0 : Addr) (x1 : Addr) (h0 : Heap) (O0 : Ext Z.heap h0) :
    Met FrameEnd l (⟨"java/util/Objects", "requireNonNull", "(Ljava/lang/Object;Ljava/lang/String;)Ljava/lang/Object;"⟩ : MethodName) jdk_31_method_11_code 2 (some (.object "java/lang/Object")) ws ⟨0, 0, 0, 0⟩ Z h0 #[(.ref x0), (.ref x1)] (Q_a23_0 Z x0 h0) := by
  refine own_met "java/util/Objects" (plainFor_of_name pn_23) rfl #[.val (.ref x0), .val (.ref x1)] (fun _ => by first | (simp [entryFrame, mkF, argsToLocals, Value.category]; done) | rfl) ?_
  intro p e s m below meth c s₁ hx hby hlk hret hml hZ hown hnm X0 e0
  have N0 := Fr.nil Z.heap.size
  refine Go.step (fun _ kt_ => XS.aloadN X0.here hx rfl (hb hby d23_0) rfl rfl kt_) ?_
  refine Go.step (fun _ kt_ => XS.ifnonnullYes X0.here hx rfl (pc0 := 1) (pc' := 13) rfl (hb hby d23_1) rfl (by decide) (by decide) kt_) ?_
  refine Go.step (fun _ kt_ => XS.aloadN X0.here hx rfl (hb hby d23_13) rfl rfl kt_) ?_
  exact Go.retA X0 hx hret rfl rfl hlk (hb hby d23_14) (by decide) (by decide) (by show _ ∧ _ ∧ _; rw [e0]; exact ⟨rfl, N0, rfl⟩)
theorem pd_LLjava_lang_Object_Ljava_lang_String_RLjava_lang_Object_ : parseMethodDescriptor "(Ljava/lang/Object;Ljava/lang/String;)Ljava/lang/Object;" = some ⟨[(.object "java/lang/Object"), (.object "java/lang/String")], some (.object "java/lang/Object")⟩ := by decide +kernel
theorem d21_10 : decode prog_22_method_1_code 10 = .ok (.pop, 1) := by decide +kernel
theorem d21_11 : decode prog_22_method_1_code 11 = .ok (.aload_n 2, 1) := by decide +kernel
theorem d21_12 : decode prog_22_method_1_code 12 = .ok (.ldc 15, 2) := by decide +kernel
theorem d21_14 : decode prog_22_method_1_code 14 = .ok (.invokestatic 9, 3) := by decide +kernel
theorem d21_17 : decode prog_22_method_1_code 17 = .ok (.pop, 1) := by decide +kernel
theorem d21_18 : decode prog_22_method_1_code 18 = .ok (.aload 7, 2) := by decide +kernel
theorem d21_20 : decode prog_22_method_1_code 20 = .ok (.ldc 17, 2) := by decide +kernel
theorem d21_22 : decode prog_22_method_1_code 22 = .ok (.invokestatic 9, 3) := by decide +kernel
theorem d21_25 : decode prog_22_method_1_code 25 = .ok (.pop, 1) := by decide +kernel
theorem d21_26 : decode prog_22_method_1_code 26 = .ok (.aload_n 0, 1) := by decide +kernel
theorem d21_27 : decode prog_22_method_1_code 27 = .ok (.aload_n 1, 1) := by decide +kernel
theorem d21_28 : decode prog_22_method_1_code 28 = .ok (.putfield 19, 3) := by decide +kernel
theorem d21_31 : decode prog_22_method_1_code 31 = .ok (.aload_n 0, 1) := by decide +kernel
theorem d21_32 : decode prog_22_method_1_code 32 = .ok (.aload_n 2, 1) := by decide +kernel
theorem d21_33 : decode prog_22_method_1_code 33 = .ok (.putfield 24, 3) := by decide +kernel
theorem d21_36 : decode prog_22_method_1_code 36 = .ok (.aload_n 0, 1) := by decide +kernel
theorem d21_37 : decode prog_22_method_1_code 37 = .ok (.lload_n 3, 1) := by decide +kernel
theorem d21_38 : decode prog_22_method_1_code 38 = .ok (.putfield 27, 3) := by decide +kernel
theorem d21_41 : decode prog_22_method_1_code 41 = .ok (.aload_n 0, 1) := by decide +kernel
theorem d21_42 : decode prog_22_method_1_code 42 = .ok (.lload 5, 2) := by decide +kernel
theorem d21_44 : decode prog_22_method_1_code 44 = .ok (.putfield 31, 3) := by decide +kernel
theorem d21_47 : decode prog_22_method_1_code 47 = .ok (.aload_n 0, 1) := by decide +kernel
theorem d21_48 : decode prog_22_method_1_code 48 = .ok (.aload 7, 2) := by decide +kernel
theorem d21_50 : decode prog_22_method_1_code 50 = .ok (.putfield 34, 3) := by decide +kernel
theorem d21_53 : decode prog_22_method_1_code 53 = .ok (.aload_n 0, 1) := by decide +kernel
theorem d21_54 : decode prog_22_method_1_code 54 = .ok (.aload 8, 2) := by decide +kernel
theorem d21_56 : decode prog_22_method_1_code 56 = .ok (.putfield 37, 3) := by decide +kernel
theorem d21_59 : decode prog_22_method_1_code 59 = .ok (.aload_n 0, 1) := by decide +kernel
theorem d21_60 : decode prog_22_method_1_code 60 = .ok (.iload 9, 2) := by decide +kernel
theorem d21_62 : decode prog_22_method_1_code 62 = .ok (.putfield 41, 3) := by decide +kernel
theorem d21_65 : decode prog_22_method_1_code 65 = .ok (.aload_n 0, 1) := by decide +kernel
theorem d21_66 : decode prog_22_method_1_code 66 = .ok (.iload 10, 2) := by decide +kernel
theorem d21_68 : decode prog_22_method_1_code 68 = .ok (.putfield 45, 3) := by decide +kernel
theorem d21_71 : decode prog_22_method_1_code 71 = .ok (.aload_n 0, 1) := by decide +kernel
theorem d21_72 : decode prog_22_method_1_code 72 = .ok (.iload 11, 2) := by decide +kernel
theorem d21_74 : decode prog_22_method_1_code 74 = .ok (.putfield 48, 3) := by decide +kernel
theorem d21_77 : decode prog_22_method_1_code 77 = .ok (.aload_n 0, 1) := by decide +kernel
theorem d21_78 : decode prog_22_method_1_code 78 = .ok (.iload 12, 2) := by decide +kernel
theorem d21_80 : decode prog_22_method_1_code 80 = .ok (.putfield 51, 3) := by decide +kernel
theorem d21_83 : decode prog_22_method_1_code 83 = .ok (.aload_n 0, 1) := by decide +kernel
theorem d21_84 : decode prog_22_method_1_code 84 = .ok (.aload 13, 2) := by decide +kernel
theorem d21_86 : decode prog_22_method_1_code 86 = .ok (.putfield 54, 3) := by decide +kernel
theorem d21_89 : decode prog_22_method_1_code 89 = .ok (.aload_n 0, 1) := by decide +kernel
theorem d21_90 : decode prog_22_method_1_code 90 = .ok (.aload 14, 2) := by decide +kernel
theorem d21_92 : decode prog_22_method_1_code 92 = .ok (.putfield 58, 3) := by decide +kernel
theorem d21_95 : decode prog_22_method_1_code 95 = .ok (.return_, 1) := by decide +kernel
theorem pn_21 : plainName "org/matchstone/engine/NewOrder" = true := by first | (simp [plainName, overriddenIn]; done) | decide +kernel
def Q_a21_0 (Z : State) (x0 : Addr) (x1 : Addr) (x2 : Addr) (x3 : Int64) (x4 : Int64) (x5 : Addr) (x7 : Int32) (x8 : Int32) (x9 : Int32) (x10 : Int32) (h0 : Heap) (v : Option Value) (h : Heap) (L : List Loc) : Prop := v = none ∧ Fr Z.heap.size L ∧ Keep h0 h [x0] ∧ fl_16 Z h x0 (.ref x1) ∧ fl_17 Z h x0 (.ref x2) ∧ fl_18 Z h x0 (.long x3) ∧ fl_19 Z h x0 (.long x4) ∧ fl_20 Z h x0 (.ref x5) ∧ fl_21 Z h x0 .null ∧ fl_22 Z h x0 (.int ((x7 &&& 1))) ∧ fl_23 Z h x0 (.int ((x8 &&& 1))) ∧ fl_24 Z h x0 (.int ((x9 &&& 1))) ∧ fl_25 Z h x0 (.int ((x10 &&& 1))) ∧ fl_26 Z h x0 .null ∧ fl_27 Z h x0 .null
set_option maxRecDepth 65536 in
set_option maxHeartbeats 40000000 in
theorem rm_a21_0 (l : Launch) (Z : State) (a0 : Array Value) (hw : HW Z a0) (ws : List Jvm.Cond) (x0 : Addr) (x1 : Addr) (x2 : Addr) (x3 : Int64) (x4 : Int64) (x5 : Addr) (x7 : Int32) (x8 : Int32) (x9 : Int32) (x10 : Int32) (w1 : Int64) (w2 : Int64) (w3 : Int32) (w4 : Int32) (w5 : Int32) (w6 : Int32) (h0 : Heap) (O0 : Ext Z.heap h0) (r0 : Exa Z h0 x0 "org/matchstone/engine/NewOrder") (r1 : fl_16 Z h0 x0 .null) (r2 : Z.heap.size ≤ x0) (r3 : fl_17 Z h0 x0 .null) (r4 : fl_18 Z h0 x0 (.long w1)) (r5 : fl_19 Z h0 x0 (.long w2)) (r6 : fl_20 Z h0 x0 .null) (r7 : fl_21 Z h0 x0 .null) (r8 : fl_22 Z h0 x0 (.int w3)) (r9 : fl_23 Z h0 x0 (.int w4)) (r10 : fl_24 Z h0 x0 (.int w5)) (r11 : fl_25 Z h0 x0 (.int w6)) (r12 : fl_26 Z h0 x0 .null) (r13 : fl_27 Z h0 x0 .null) :
    Met ReturnedEndW l (⟨"org/matchstone/engine/NewOrder", "<init>", "(Ljava/lang/String;Lorg/matchstone/engine/Side;JJLorg/matchstone/engine/TimeInForce;Ljava/time/LocalTime;ZZZZLorg/matchstone/engine/Peg;Lorg/matchstone/engine/MinQuantity;)V"⟩ : MethodName) prog_22_method_1_code 15 none ws ⟨2, 6, 80, 24⟩ Z h0 #[(.ref x0), (.ref x1), (.ref x2), (.long x3), (.long x4), (.ref x5), .null, (.int x7), (.int x8), (.int x9), (.int x10), .null, .null] (Q_a21_0 Z x0 x1 x2 x3 x4 x5 x7 x8 x9 x10 h0) := by
  refine own_metW "org/matchstone/engine/NewOrder" (plainFor_of_name pn_21) rfl #[.val (.ref x0), .val (.ref x1), .val (.ref x2), .val (.long x3), .second, .val (.long x4), .second, .val (.ref x5), .val .null, .val (.int x7), .val (.int x8), .val (.int x9), .val (.int x10), .val .null, .val .null] (fun _ => by first | (simp [entryFrame, mkF, argsToLocals, Value.category]; done) | rfl) ?_
  intro p e s m below meth c s₁ hx hby hlk hret hml hZ hown hnm X0 e0 S0 kk0
  have N0 := Fr.nil Z.heap.size
  have wS := own_wS hw
  refine Go.step (fun _ kt_ => XS.aloadN X0.here hx rfl (hb hby d21_0) rfl rfl kt_) ?_
  obtain ⟨_, _, ⟨T1, L1, k1, n1⟩, -, X1, ⟨Lc1, hQ1, l1, y1, z1⟩, st1⟩ := X0.specialBack hx (y := (⟨"java/lang/Record", "<init>", "()V"⟩ : MethodName)) rfl hown (mvT hZ (wd hw 203 rfl)) (mvT hZ (wd hw 204 rfl)) (mvT hZ (wd hw 207 rfl)) (by decide) (backOf (W := 0) (rm_a22_0 l Z a0 hw []  x0 h0 O0 ) hZ (wd hw 207 rfl) (wd hw 206 rfl) (by decide) (by decide)) (g := (mkF m 1 #[.val (.ref x0), .val (.ref x1), .val (.ref x2), .val (.long x3), .second, .val (.long x4), .second, .val (.ref x5), .val .null, .val (.int x7), .val (.int x8), .val (.int x9), .val (.int x10), .val .null, .val .null] [(.ref x0)])) rfl (by rw [hml]; rfl) (Steps.refl _) (a := x0) (argsL := []) (rest := []) (lenOf pd_LRV rfl) rfl (by show 2 * 0 + _ ≤ _; exact Nat.le_of_eq rfl) (hb hby d21_1) (fun _ _ => ⟨rfl, e0, (by decide : 0 + 0 ≤ _), (by decide : 0 + 0 ≤ _)⟩)
  dsimp only [Pt.U, Pt.locs, Pt.cells, Pt.slots] at X1 l1 y1 z1 st1 hQ1
  subst y1 z1
  obtain ⟨rfl, Nq1, e1⟩ := hQ1
  have N1_ : Fr Z.heap.size L1 := by rw [l1]; exact Fr.app N0 Nq1
  refine Go.trans st1 ?_
  refine Go.step (fun _ kt_ => XS.aloadN X1.here hx rfl (hb hby d21_4) rfl rfl kt_) ?_
  obtain ⟨a2, T2, h2, k2, X2, e2, E2, S2, kq2, hZ2, hown2, st2⟩ := ldcS X1 hx hZ hown (wd hw 209 rfl) wS e1 S0 kk0 (g := (mkF m 5 #[.val (.ref x0), .val (.ref x1), .val (.ref x2), .val (.long x3), .second, .val (.long x4), .second, .val (.ref x5), .val .null, .val (.int x7), .val (.int x8), .val (.int x9), .val (.int x10), .val .null, .val .null] [(.ref x1)])) rfl (hb hby d21_5) (n := 8) (by decide) (by decide) (by decide) (by decide)
  have O2_ : Ext Z.heap h2 := extTr O0 E2
  have K2 := Keep.ext (Keep.refl h0 [x0]) E2
  refine Go.step st2 ?_
  obtain ⟨_, _, ⟨T3, L3, k3, n3⟩, -, X3, ⟨Lc3, hQ3, l3, y3, z3⟩, st3⟩ := Jvm.LawKit.callS X2 hx (y := (⟨"java/util/Objects", "requireNonNull", "(Ljava/lang/Object;Ljava/lang/String;)Ljava/lang/Object;"⟩ : MethodName)) hown2 (mvT hZ2 (wd hw 210 rfl)) (mvT hZ2 (wd hw 211 rfl)) (mvT hZ2 (wd hw 212 rfl)) (mvT hZ2 (wd hw 213 rfl)) (by decide) (backOf (W := 0) (rm_a23_0 l Z a0 hw []  x1 a2 h2 O2_ ) hZ2 (wd hw 213 rfl) (wd hw 212 rfl) (by decide) (by decide)) (g := (mkF m 7 #[.val (.ref x0), .val (.ref x1), .val (.ref x2), .val (.long x3), .second, .val (.long x4), .second, .val (.ref x5), .val .null, .val (.int x7), .val (.int x8), .val (.int x9), .val (.int x10), .val .null, .val .null] [(.ref a2), (.ref x1)])) rfl (by rw [hml]; rfl) (argsL := [(.ref x1), (.ref a2)]) (rest := []) (lenOf pd_LLjava_lang_Object_Ljava_lang_String_RLjava_lang_Object_ rfl) rfl (by show 2 * 0 + _ ≤ _; exact Nat.le_of_eq rfl) (hb hby d21_7) (fun _ _ => ⟨rfl, e2, (by decide : 2 + 0 ≤ _), (by decide : 12 + 0 ≤ _)⟩)
  dsimp only [Pt.U, Pt.locs, Pt.cells, Pt.slots] at X3 l3 y3 z3 st3 hQ3
  subst y3 z3
  obtain ⟨rfl, Nq3, e3⟩ := hQ3
  have N3_ : Fr Z.heap.size L3 := by rw [l3]; exact Fr.app N1_ Nq3
  refine Go.step st3 ?_
  refine Go.step (fun _ kt_ => XS.pop X3.here hx rfl (hb hby d21_10) rfl rfl kt_) ?_
  refine Go.step (fun _ kt_ => XS.aloadN X3.here hx rfl (hb hby d21_11) rfl rfl kt_) ?_
  obtain ⟨a4, T4, h4, k4, X4, e4, E4, S4, kq4, hZ4, hown4, st4⟩ := ldcS X3 hx hZ2 hown2 (wd hw 214 rfl) wS e3 S2 kq2 (g := (mkF m 12 #[.val (.ref x0), .val (.ref x1), .val (.ref x2), .val (.long x3), .second, .val (.long x4), .second, .val (.ref x5), .val .null, .val (.int x7), .val (.int x8), .val (.int x9), .val (.int x10), .val .null, .val .null] [(.ref x2)])) rfl (hb hby d21_12) (n := 16) (by decide) (by decide) (by decide) (by decide)
  have O4_ : Ext Z.heap h4 := extTr O2_ E4
  have K4 := Keep.ext K2 E4
  refine Go.step st4 ?_
  obtain ⟨_, _, ⟨T5, L5, k5, n5⟩, -, X5, ⟨Lc5, hQ5, l5, y5, z5⟩, st5⟩ := Jvm.LawKit.callS X4 hx (y := (⟨"java/util/Objects", "requireNonNull", "(Ljava/lang/Object;Ljava/lang/String;)Ljava/lang/Object;"⟩ : MethodName)) hown4 (mvT hZ4 (wd hw 210 rfl)) (mvT hZ4 (wd hw 211 rfl)) (mvT hZ4 (wd hw 212 rfl)) (mvT hZ4 (wd hw 213 rfl)) (by decide) (backOf (W := 0) (rm_a23_0 l Z a0 hw []  x2 a4 h4 O4_ ) hZ4 (wd hw 213 rfl) (wd hw 212 rfl) (by decide) (by decide)) (g := (mkF m 14 #[.val (.ref x0), .val (.ref x1), .val (.ref x2), .val (.long x3), .second, .val (.long x4), .second, .val (.ref x5), .val .null, .val (.int x7), .val (.int x8), .val (.int x9), .val (.int x10), .val .null, .val .null] [(.ref a4), (.ref x2)])) rfl (by rw [hml]; rfl) (argsL := [(.ref x2), (.ref a4)]) (rest := []) (lenOf pd_LLjava_lang_Object_Ljava_lang_String_RLjava_lang_Object_ rfl) rfl (by show 2 * 0 + _ ≤ _; exact Nat.le_of_eq rfl) (hb hby d21_14) (fun _ _ => ⟨rfl, e4, (by decide : 4 + 0 ≤ _), (by decide : 32 + 0 ≤ _)⟩)
  dsimp only [Pt.U, Pt.locs, Pt.cells, Pt.slots] at X5 l5 y5 z5 st5 hQ5
  subst y5 z5
  obtain ⟨rfl, Nq5, e5⟩ := hQ5
  have N5_ : Fr Z.heap.size L5 := by rw [l5]; exact Fr.app N3_ Nq5
  refine Go.step st5 ?_
  refine Go.step (fun _ kt_ => XS.pop X5.here hx rfl (hb hby d21_17) rfl rfl kt_) ?_
  refine Go.step (fun _ kt_ => XS.aload X5.here hx rfl (hb hby d21_18) rfl rfl kt_) ?_
  obtain ⟨a6, T6, h6, k6, X6, e6, E6, S6, kq6, hZ6, hown6, st6⟩ := ldcS X5 hx hZ4 hown4 (wd hw 215 rfl) wS e5 S4 kq4 (g := (mkF m 20 #[.val (.ref x0), .val (.ref x1), .val (.ref x2), .val (.long x3), .second, .val (.long x4), .second, .val (.ref x5), .val .null, .val (.int x7), .val (.int x8), .val (.int x9), .val (.int x10), .val .null, .val .null] [(.ref x5)])) rfl (hb hby d21_20) (n := 44) (by decide) (by decide) (by decide) (by decide)
  have O6_ : Ext Z.heap h6 := extTr O4_ E6
  have K6 := Keep.ext K4 E6
  refine Go.step st6 ?_
  obtain ⟨_, _, ⟨T7, L7, k7, n7⟩, -, X7, ⟨Lc7, hQ7, l7, y7, z7⟩, st7⟩ := Jvm.LawKit.callS X6 hx (y := (⟨"java/util/Objects", "requireNonNull", "(Ljava/lang/Object;Ljava/lang/String;)Ljava/lang/Object;"⟩ : MethodName)) hown6 (mvT hZ6 (wd hw 210 rfl)) (mvT hZ6 (wd hw 211 rfl)) (mvT hZ6 (wd hw 212 rfl)) (mvT hZ6 (wd hw 213 rfl)) (by decide) (backOf (W := 0) (rm_a23_0 l Z a0 hw []  x5 a6 h6 O6_ ) hZ6 (wd hw 213 rfl) (wd hw 212 rfl) (by decide) (by decide)) (g := (mkF m 22 #[.val (.ref x0), .val (.ref x1), .val (.ref x2), .val (.long x3), .second, .val (.long x4), .second, .val (.ref x5), .val .null, .val (.int x7), .val (.int x8), .val (.int x9), .val (.int x10), .val .null, .val .null] [(.ref a6), (.ref x5)])) rfl (by rw [hml]; rfl) (argsL := [(.ref x5), (.ref a6)]) (rest := []) (lenOf pd_LLjava_lang_Object_Ljava_lang_String_RLjava_lang_Object_ rfl) rfl (by show 2 * 0 + _ ≤ _; exact Nat.le_of_eq rfl) (hb hby d21_22) (fun _ _ => ⟨rfl, e6, (by decide : 6 + 0 ≤ _), (by decide : 80 + 0 ≤ _)⟩)
  dsimp only [Pt.U, Pt.locs, Pt.cells, Pt.slots] at X7 l7 y7 z7 st7 hQ7
  subst y7 z7
  obtain ⟨rfl, Nq7, e7⟩ := hQ7
  have N7_ : Fr Z.heap.size L7 := by rw [l7]; exact Fr.app N5_ Nq7
  refine Go.step st7 ?_
  refine Go.step (fun _ kt_ => XS.pop X7.here hx rfl (hb hby d21_25) rfl rfl kt_) ?_
  refine Go.step (fun _ kt_ => XS.aloadN X7.here hx rfl (hb hby d21_26) rfl rfl kt_) ?_
  refine Go.step (fun _ kt_ => XS.aloadN X7.here hx rfl (hb hby d21_27) rfl rfl kt_) ?_
  have f8 := (Exa.ext E6 (Exa.ext E4 (Exa.ext E2 r0)))
  have f9 := (Fld.ext E6 (Fld.ext E4 (Fld.ext E2 r1)))
  obtain ⟨T10, h10, X10, e10, W10, st10⟩ := putF X7 hx hZ6 hown6 (host := "") (Or.inl (wd hw 216 rfl)) Via.refl e7 f9 f8 (Or.inr ⟨(wd hw 217 rfl), rfl, hnm⟩) (wd hw 187 rfl) (ty := (.object "java/lang/String")) pf_Ljava_lang_String_ rfl rfl (g := (mkF m 28 #[.val (.ref x0), .val (.ref x1), .val (.ref x2), .val (.long x3), .second, .val (.long x4), .second, .val (.ref x5), .val .null, .val (.int x7), .val (.int x8), .val (.int x9), .val (.int x10), .val .null, .val .null] [(.ref x1), (.ref x0)])) rfl rfl (hb hby d21_28)
  refine Go.step st10 ?_
  have N10_ := Fr.snoc X10 N7_ r2
  have O10_ : Ext Z.heap h10 := extWr O6_ W10 r2
  have K10 := Keep.wr K6 W10 (Or.inl (List.mem_of_getElem? (i := 0) rfl))
  have F10 := Fld.same W10 f9
  refine Go.step (fun _ kt_ => XS.aloadN X10.here hx rfl (hb hby d21_31) rfl rfl kt_) ?_
  refine Go.step (fun _ kt_ => XS.aloadN X10.here hx rfl (hb hby d21_32) rfl rfl kt_) ?_
  have f11 := (Fld.other W10 (Fld.ext E6 (Fld.ext E4 (Fld.ext E2 r3))) (Or.inr (sn_71 hw)))
  obtain ⟨T12, h12, X12, e12, W12, st12⟩ := putF X10 hx hZ6 hown6 (host := "") (Or.inl (wd hw 218 rfl)) Via.refl e10 f11 (Exa.wr W10 f8) (Or.inr ⟨(wd hw 219 rfl), rfl, hnm⟩) (wd hw 187 rfl) (ty := (.object "org/matchstone/engine/Side")) pf_Lorg_matchstone_engine_Side_ rfl rfl (g := (mkF m 33 #[.val (.ref x0), .val (.ref x1), .val (.ref x2), .val (.long x3), .second, .val (.long x4), .second, .val (.ref x5), .val .null, .val (.int x7), .val (.int x8), .val (.int x9), .val (.int x10), .val .null, .val .null] [(.ref x2), (.ref x0)])) rfl rfl (hb hby d21_33)
  refine Go.step st12 ?_
  have N12_ := Fr.snoc X12 N10_ r2
  have O12_ : Ext Z.heap h12 := extWr O10_ W12 r2
  have K12 := Keep.wr K10 W12 (Or.inl (List.mem_of_getElem? (i := 0) rfl))
  have F12 := Fld.same W12 f11
  refine Go.step (fun _ kt_ => XS.aloadN X12.here hx rfl (hb hby d21_36) rfl rfl kt_) ?_
  refine Go.step (fun _ kt_ => XS.lloadN X12.here hx rfl (hb hby d21_37) rfl kt_) ?_
  have f13 := (Fld.other W10 (Fld.ext E6 (Fld.ext E4 (Fld.ext E2 r4))) (Or.inr (sn_72 hw)))
  obtain ⟨T14, h14, X14, e14, W14, st14⟩ := putF X12 hx hZ6 hown6 (host := "") (Or.inl (wd hw 220 rfl)) Via.refl e12 (Fld.other W12 f13 (Or.inr (sn_73 hw))) (Exa.wr W12 (Exa.wr W10 f8)) (Or.inr ⟨(wd hw 221 rfl), rfl, hnm⟩) (wd hw 187 rfl) (ty := .long) pf_J rfl rfl (g := (mkF m 38 #[.val (.ref x0), .val (.ref x1), .val (.ref x2), .val (.long x3), .second, .val (.long x4), .second, .val (.ref x5), .val .null, .val (.int x7), .val (.int x8), .val (.int x9), .val (.int x10), .val .null, .val .null] [(.long x3), (.ref x0)])) rfl rfl (hb hby d21_38)
  refine Go.step st14 ?_
  have N14_ := Fr.snoc X14 N12_ r2
  have O14_ : Ext Z.heap h14 := extWr O12_ W14 r2
  have K14 := Keep.wr K12 W14 (Or.inl (List.mem_of_getElem? (i := 0) rfl))
  have F14 := Fld.same W14 (Fld.other W12 f13 (Or.inr (sn_73 hw)))
  refine Go.step (fun _ kt_ => XS.aloadN X14.here hx rfl (hb hby d21_41) rfl rfl kt_) ?_
  refine Go.step (fun _ kt_ => XS.lload X14.here hx rfl (hb hby d21_42) rfl kt_) ?_
  have f15 := (Exa.wr W14 (Exa.wr W12 (Exa.wr W10 f8)))
  have f16 := (Fld.other W10 (Fld.ext E6 (Fld.ext E4 (Fld.ext E2 r5))) (Or.inr (sn_74 hw)))
  have f17 := (Fld.other W14 (Fld.other W12 f16 (Or.inr (sn_75 hw))) (Or.inr (sn_76 hw)))
  obtain ⟨T18, h18, X18, e18, W18, st18⟩ := putF X14 hx hZ6 hown6 (host := "") (Or.inl (wd hw 222 rfl)) Via.refl e14 f17 f15 (Or.inr ⟨(wd hw 223 rfl), rfl, hnm⟩) (wd hw 187 rfl) (ty := .long) pf_J rfl rfl (g := (mkF m 44 #[.val (.ref x0), .val (.ref x1), .val (.ref x2), .val (.long x3), .second, .val (.long x4), .second, .val (.ref x5), .val .null, .val (.int x7), .val (.int x8), .val (.int x9), .val (.int x10), .val .null, .val .null] [(.long x4), (.ref x0)])) rfl rfl (hb hby d21_44)
  refine Go.step st18 ?_
  have N18_ := Fr.snoc X18 N14_ r2
  have O18_ : Ext Z.heap h18 := extWr O14_ W18 r2
  have K18 := Keep.wr K14 W18 (Or.inl (List.mem_of_getElem? (i := 0) rfl))
  have F18 := Fld.same W18 f17
  refine Go.step (fun _ kt_ => XS.aloadN X18.here hx rfl (hb hby d21_47) rfl rfl kt_) ?_
  refine Go.step (fun _ kt_ => XS.aload X18.here hx rfl (hb hby d21_48) rfl rfl kt_) ?_
  have f19 := (Fld.other W10 (Fld.ext E6 (Fld.ext E4 (Fld.ext E2 r6))) (Or.inr (sn_77 hw)))
  have f20 := (Fld.other W18 (Fld.other W14 (Fld.other W12 f19 (Or.inr (sn_78 hw))) (Or.inr (sn_79 hw))) (Or.inr (sn_80 hw)))
  obtain ⟨T21, h21, X21, e21, W21, st21⟩ := putF X18 hx hZ6 hown6 (host := "") (Or.inl (wd hw 224 rfl)) Via.refl e18 f20 (Exa.wr W18 f15) (Or.inr ⟨(wd hw 225 rfl), rfl, hnm⟩) (wd hw 187 rfl) (ty := (.object "org/matchstone/engine/TimeInForce")) pf_Lorg_matchstone_engine_TimeInForce_ rfl rfl (g := (mkF m 50 #[.val (.ref x0), .val (.ref x1), .val (.ref x2), .val (.long x3), .second, .val (.long x4), .second, .val (.ref x5), .val .null, .val (.int x7), .val (.int x8), .val (.int x9), .val (.int x10), .val .null, .val .null] [(.ref x5), (.ref x0)])) rfl rfl (hb hby d21_50)
  refine Go.step st21 ?_
  have N21_ := Fr.snoc X21 N18_ r2
  have O21_ : Ext Z.heap h21 := extWr O18_ W21 r2
  have K21 := Keep.wr K18 W21 (Or.inl (List.mem_of_getElem? (i := 0) rfl))
  have F21 := Fld.same W21 f20
  refine Go.step (fun _ kt_ => XS.aloadN X21.here hx rfl (hb hby d21_53) rfl rfl kt_) ?_
  refine Go.step (fun _ kt_ => XS.aload X21.here hx rfl (hb hby d21_54) rfl rfl kt_) ?_
  have f22 := (Fld.other W10 (Fld.ext E6 (Fld.ext E4 (Fld.ext E2 r7))) (Or.inr (sn_81 hw)))
  have f23 := (Fld.other W21 (Fld.other W18 (Fld.other W14 (Fld.other W12 f22 (Or.inr (sn_82 hw))) (Or.inr (sn_83 hw))) (Or.inr (sn_84 hw))) (Or.inr (sn_85 hw)))
  obtain ⟨T24, h24, X24, e24, W24, st24⟩ := putF X21 hx hZ6 hown6 (host := "") (Or.inl (wd hw 226 rfl)) Via.refl e21 f23 (Exa.wr W21 (Exa.wr W18 f15)) (Or.inr ⟨(wd hw 227 rfl), rfl, hnm⟩) (wd hw 187 rfl) (ty := (.object "java/time/LocalTime")) pf_Ljava_time_LocalTime_ rfl rfl (g := (mkF m 56 #[.val (.ref x0), .val (.ref x1), .val (.ref x2), .val (.long x3), .second, .val (.long x4), .second, .val (.ref x5), .val .null, .val (.int x7), .val (.int x8), .val (.int x9), .val (.int x10), .val .null, .val .null] [.null, (.ref x0)])) rfl rfl (hb hby d21_56)
  refine Go.step st24 ?_
  have N24_ := Fr.snoc X24 N21_ r2
  have O24_ : Ext Z.heap h24 := extWr O21_ W24 r2
  have K24 := Keep.wr K21 W24 (Or.inl (List.mem_of_getElem? (i := 0) rfl))
  have F24 := Fld.same W24 f23
  refine Go.step (fun _ kt_ => XS.aloadN X24.here hx rfl (hb hby d21_59) rfl rfl kt_) ?_
  refine Go.step (fun _ kt_ => XS.iload X24.here hx rfl (hb hby d21_60) rfl kt_) ?_
  have f25 := (Exa.wr W24 (Exa.wr W21 (Exa.wr W18 f15)))
  have f26 := (Fld.other W10 (Fld.ext E6 (Fld.ext E4 (Fld.ext E2 r8))) (Or.inr (sn_86 hw)))
  have f27 := (Fld.other W21 (Fld.other W18 (Fld.other W14 (Fld.other W12 f26 (Or.inr (sn_87 hw))) (Or.inr (sn_88 hw))) (Or.inr (sn_89 hw))) (Or.inr (sn_90 hw)))
  obtain ⟨T28, h28, X28, e28, W28, st28⟩ := putFN X24 hx hZ6 hown6 (wd hw 228 rfl) Via.refl e24 (Fld.other W24 f27 (Or.inr (sn_91 hw))) f25 (Or.inr ⟨(wd hw 229 rfl), rfl, hnm⟩) (wd hw 187 rfl) (ty := .boolean) (v' := (.int ((x7 &&& 1)))) pf_Z rfl (fits_nar_bool _) (g := (mkF m 62 #[.val (.ref x0), .val (.ref x1), .val (.ref x2), .val (.long x3), .second, .val (.long x4), .second, .val (.ref x5), .val .null, .val (.int x7), .val (.int x8), .val (.int x9), .val (.int x10), .val .null, .val .null] [(.int x7), (.ref x0)])) rfl rfl (hb hby d21_62)
  refine Go.step st28 ?_
  have N28_ := Fr.snoc X28 N24_ r2
  have O28_ : Ext Z.heap h28 := extWr O24_ W28 r2
  have K28 := Keep.wr K24 W28 (Or.inl (List.mem_of_getElem? (i := 0) rfl))
  have F28 := Fld.same W28 (Fld.other W24 f27 (Or.inr (sn_91 hw)))
  refine Go.step (fun _ kt_ => XS.aloadN X28.here hx rfl (hb hby d21_65) rfl rfl kt_) ?_
  refine Go.step (fun _ kt_ => XS.iload X28.here hx rfl (hb hby d21_66) rfl kt_) ?_
  have f29 := (Fld.other W10 (Fld.ext E6 (Fld.ext E4 (Fld.ext E2 r9))) (Or.inr (sn_92 hw)))
  have f30 := (Fld.other W21 (Fld.other W18 (Fld.other W14 (Fld.other W12 f29 (Or.inr (sn_93 hw))) (Or.inr (sn_94 hw))) (Or.inr (sn_95 hw))) (Or.inr (sn_96 hw)))
  have f31 := (Fld.other W28 (Fld.other W24 f30 (Or.inr (sn_97 hw))) (Or.inr (sn_98 hw)))
  obtain ⟨T32, h32, X32, e32, W32, st32⟩ := putFN X28 hx hZ6 hown6 (wd hw 230 rfl) Via.refl e28 f31 (Exa.wr W28 f25) (Or.inr ⟨(wd hw 231 rfl), rfl, hnm⟩) (wd hw 187 rfl) (ty := .boolean) (v' := (.int ((x8 &&& 1)))) pf_Z rfl (fits_nar_bool _) (g := (mkF m 68 #[.val (.ref x0), .val (.ref x1), .val (.ref x2), .val (.long x3), .second, .val (.long x4), .second, .val (.ref x5), .val .null, .val (.int x7), .val (.int x8), .val (.int x9), .val (.int x10), .val .null, .val .null] [(.int x8), (.ref x0)])) rfl rfl (hb hby d21_68)
  refine Go.step st32 ?_
  have N32_ := Fr.snoc X32 N28_ r2
  have O32_ : Ext Z.heap h32 := extWr O28_ W32 r2
  have K32 := Keep.wr K28 W32 (Or.inl (List.mem_of_getElem? (i := 0) rfl))
  have F32 := Fld.same W32 f31
  refine Go.step (fun _ kt_ => XS.aloadN X32.here hx rfl (hb hby d21_71) rfl rfl kt_) ?_
  refine Go.step (fun _ kt_ => XS.iload X32.here hx rfl (hb hby d21_72) rfl kt_) ?_
  have f33 := (Fld.other W10 (Fld.ext E6 (Fld.ext E4 (Fld.ext E2 r10))) (Or.inr (sn_99 hw)))
  have f34 := (Fld.other W21 (Fld.other W18 (Fld.other W14 (Fld.other W12 f33 (Or.inr (sn_100 hw))) (Or.inr (sn_101 hw))) (Or.inr (sn_102 hw))) (Or.inr (sn_103 hw)))
  have f35 := (Fld.other W32 (Fld.other W28 (Fld.other W24 f34 (Or.inr (sn_104 hw))) (Or.inr (sn_105 hw))) (Or.inr (sn_106 hw)))
  obtain ⟨T36, h36, X36, e36, W36, st36⟩ := putFN X32 hx hZ6 hown6 (wd hw 232 rfl) Via.refl e32 f35 (Exa.wr W32 (Exa.wr W28 f25)) (Or.inr ⟨(wd hw 233 rfl), rfl, hnm⟩) (wd hw 187 rfl) (ty := .boolean) (v' := (.int ((x9 &&& 1)))) pf_Z rfl (fits_nar_bool _) (g := (mkF m 74 #[.val (.ref x0), .val (.ref x1), .val (.ref x2), .val (.long x3), .second, .val (.long x4), .second, .val (.ref x5), .val .null, .val (.int x7), .val (.int x8), .val (.int x9), .val (.int x10), .val .null, .val .null] [(.int x9), (.ref x0)])) rfl rfl (hb hby d21_74)
  refine Go.step st36 ?_
  have N36_ := Fr.snoc X36 N32_ r2
  have O36_ : Ext Z.heap h36 := extWr O32_ W36 r2
  have K36 := Keep.wr K32 W36 (Or.inl (List.mem_of_getElem? (i := 0) rfl))
  have F36 := Fld.same W36 f35
  refine Go.step (fun _ kt_ => XS.aloadN X36.here hx rfl (hb hby d21_77) rfl rfl kt_) ?_
  refine Go.step (fun _ kt_ => XS.iload X36.here hx rfl (hb hby d21_78) rfl kt_) ?_
  have f37 := (Exa.wr W36 (Exa.wr W32 (Exa.wr W28 f25)))
  have f38 := (Fld.other W10 (Fld.ext E6 (Fld.ext E4 (Fld.ext E2 r11))) (Or.inr (sn_107 hw)))
  have f39 := (Fld.other W21 (Fld.other W18 (Fld.other W14 (Fld.other W12 f38 (Or.inr (sn_108 hw))) (Or.inr (sn_109 hw))) (Or.inr (sn_110 hw))) (Or.inr (sn_111 hw)))
  have f40 := (Fld.other W36 (Fld.other W32 (Fld.other W28 (Fld.other W24 f39 (Or.inr (sn_112 hw))) (Or.inr (sn_113 hw))) (Or.inr (sn_114 hw))) (Or.inr (sn_115 hw)))
  obtain ⟨T41, h41, X41, e41, W41, st41⟩ := putFN X36 hx hZ6 hown6 (wd hw 234 rfl) Via.refl e36 f40 f37 (Or.inr ⟨(wd hw 235 rfl), rfl, hnm⟩) (wd hw 187 rfl) (ty := .boolean) (v' := (.int ((x10 &&& 1)))) pf_Z rfl (fits_nar_bool _) (g := (mkF m 80 #[.val (.ref x0), .val (.ref x1), .val (.ref x2), .val (.long x3), .second, .val (.long x4), .second, .val (.ref x5), .val .null, .val (.int x7), .val (.int x8), .val (.int x9), .val (.int x10), .val .null, .val .null] [(.int x10), (.ref x0)])) rfl rfl (hb hby d21_80)
  refine Go.step st41 ?_
  have N41_ := Fr.snoc X41 N36_ r2
  have O41_ : Ext Z.heap h41 := extWr O36_ W41 r2
  have K41 := Keep.wr K36 W41 (Or.inl (List.mem_of_getElem? (i := 0) rfl))
  have F41 := Fld.same W41 f40
  refine Go.step (fun _ kt_ => XS.aloadN X41.here hx rfl (hb hby d21_83) rfl rfl kt_) ?_
  refine Go.step (fun _ kt_ => XS.aload X41.here hx rfl (hb hby d21_84) rfl rfl kt_) ?_
  have f42 := (Fld.other W10 (Fld.ext E6 (Fld.ext E4 (Fld.ext E2 r12))) (Or.inr (sn_116 hw)))
  have f43 := (Fld.other W21 (Fld.other W18 (Fld.other W14 (Fld.other W12 f42 (Or.inr (sn_117 hw))) (Or.inr (sn_118 hw))) (Or.inr (sn_119 hw))) (Or.inr (sn_120 hw)))
  have f44 := (Fld.other W36 (Fld.other W32 (Fld.other W28 (Fld.other W24 f43 (Or.inr (sn_121 hw))) (Or.inr (sn_122 hw))) (Or.inr (sn_123 hw))) (Or.inr (sn_124 hw)))
  obtain ⟨T45, h45, X45, e45, W45, st45⟩ := putF X41 hx hZ6 hown6 (host := "") (Or.inl (wd hw 236 rfl)) Via.refl e41 (Fld.other W41 f44 (Or.inr (sn_125 hw))) (Exa.wr W41 f37) (Or.inr ⟨(wd hw 237 rfl), rfl, hnm⟩) (wd hw 187 rfl) (ty := (.object "org/matchstone/engine/Peg")) pf_Lorg_matchstone_engine_Peg_ rfl rfl (g := (mkF m 86 #[.val (.ref x0), .val (.ref x1), .val (.ref x2), .val (.long x3), .second, .val (.long x4), .second, .val (.ref x5), .val .null, .val (.int x7), .val (.int x8), .val (.int x9), .val (.int x10), .val .null, .val .null] [.null, (.ref x0)])) rfl rfl (hb hby d21_86)
  refine Go.step st45 ?_
  have N45_ := Fr.snoc X45 N41_ r2
  have O45_ : Ext Z.heap h45 := extWr O41_ W45 r2
  have K45 := Keep.wr K41 W45 (Or.inl (List.mem_of_getElem? (i := 0) rfl))
  have F45 := Fld.same W45 (Fld.other W41 f44 (Or.inr (sn_125 hw)))
  refine Go.step (fun _ kt_ => XS.aloadN X45.here hx rfl (hb hby d21_89) rfl rfl kt_) ?_
  refine Go.step (fun _ kt_ => XS.aload X45.here hx rfl (hb hby d21_90) rfl rfl kt_) ?_
  have f46 := (Fld.other W10 (Fld.ext E6 (Fld.ext E4 (Fld.ext E2 r13))) (Or.inr (sn_126 hw)))
  have f47 := (Fld.other W21 (Fld.other W18 (Fld.other W14 (Fld.other W12 f46 (Or.inr (sn_127 hw))) (Or.inr (sn_128 hw))) (Or.inr (sn_129 hw))) (Or.inr (sn_130 hw)))
  have f48 := (Fld.other W36 (Fld.other W32 (Fld.other W28 (Fld.other W24 f47 (Or.inr (sn_131 hw))) (Or.inr (sn_132 hw))) (Or.inr (sn_133 hw))) (Or.inr (sn_134 hw)))
  have f49 := (Fld.other W45 (Fld.other W41 f48 (Or.inr (sn_135 hw))) (Or.inr (sn_136 hw)))
  obtain ⟨T50, h50, X50, e50, W50, st50⟩ := putF X45 hx hZ6 hown6 (host := "") (Or.inl (wd hw 238 rfl)) Via.refl e45 f49 (Exa.wr W45 (Exa.wr W41 f37)) (Or.inr ⟨(wd hw 239 rfl), rfl, hnm⟩) (wd hw 187 rfl) (ty := (.object "org/matchstone/engine/MinQuantity")) pf_Lorg_matchstone_engine_MinQuantity_ rfl rfl (g := (mkF m 92 #[.val (.ref x0), .val (.ref x1), .val (.ref x2), .val (.long x3), .second, .val (.long x4), .second, .val (.ref x5), .val .null, .val (.int x7), .val (.int x8), .val (.int x9), .val (.int x10), .val .null, .val .null] [.null, (.ref x0)])) rfl rfl (hb hby d21_92)
  refine Go.step st50 ?_
  have N50_ := Fr.snoc X50 N45_ r2
  have O50_ : Ext Z.heap h50 := extWr O45_ W50 r2
  have K50 := Keep.wr K45 W50 (Or.inl (List.mem_of_getElem? (i := 0) rfl))
  have F50 := Fld.same W50 f49
  have f51 := (Exa.wr W50 (Exa.wr W45 (Exa.wr W41 f37)))
  have f52 := (Fld.other W21 (Fld.other W18 (Fld.other W14 (Fld.other W12 F10 (Or.inr (Ne.symm (sn_71 hw)))) (Or.inr (Ne.symm (sn_72 hw)))) (Or.inr (Ne.symm (sn_74 hw)))) (Or.inr (Ne.symm (sn_77 hw))))
  have f53 := (Fld.other W36 (Fld.other W32 (Fld.other W28 (Fld.other W24 f52 (Or.inr (Ne.symm (sn_81 hw)))) (Or.inr (Ne.symm (sn_86 hw)))) (Or.inr (Ne.symm (sn_92 hw)))) (Or.inr (Ne.symm (sn_99 hw))))
  have f54 := (Fld.other W50 (Fld.other W45 (Fld.other W41 f53 (Or.inr (Ne.symm (sn_107 hw)))) (Or.inr (Ne.symm (sn_116 hw)))) (Or.inr (Ne.symm (sn_126 hw))))
  have f55 := (Fld.other W24 (Fld.other W21 (Fld.other W18 (Fld.other W14 F12 (Or.inr (Ne.symm (sn_73 hw)))) (Or.inr (Ne.symm (sn_75 hw)))) (Or.inr (Ne.symm (sn_78 hw)))) (Or.inr (Ne.symm (sn_82 hw))))
  have f56 := (Fld.other W41 (Fld.other W36 (Fld.other W32 (Fld.other W28 f55 (Or.inr (Ne.symm (sn_87 hw)))) (Or.inr (Ne.symm (sn_93 hw)))) (Or.inr (Ne.symm (sn_100 hw)))) (Or.inr (Ne.symm (sn_108 hw))))
  have f57 := (Fld.other W50 (Fld.other W45 f56 (Or.inr (Ne.symm (sn_117 hw)))) (Or.inr (Ne.symm (sn_127 hw))))
  have f58 := (Fld.other W28 (Fld.other W24 (Fld.other W21 (Fld.other W18 F14 (Or.inr (Ne.symm (sn_76 hw)))) (Or.inr (Ne.symm (sn_79 hw)))) (Or.inr (Ne.symm (sn_83 hw)))) (Or.inr (Ne.symm (sn_88 hw))))
  have f59 := (Fld.other W45 (Fld.other W41 (Fld.other W36 (Fld.other W32 f58 (Or.inr (Ne.symm (sn_94 hw)))) (Or.inr (Ne.symm (sn_101 hw)))) (Or.inr (Ne.symm (sn_109 hw)))) (Or.inr (Ne.symm (sn_118 hw))))
  have f60 := (Fld.other W50 f59 (Or.inr (Ne.symm (sn_128 hw))))
  have f61 := (Fld.other W32 (Fld.other W28 (Fld.other W24 (Fld.other W21 F18 (Or.inr (Ne.symm (sn_80 hw)))) (Or.inr (Ne.symm (sn_84 hw)))) (Or.inr (Ne.symm (sn_89 hw)))) (Or.inr (Ne.symm (sn_95 hw))))
  have f62 := (Fld.other W50 (Fld.other W45 (Fld.other W41 (Fld.other W36 f61 (Or.inr (Ne.symm (sn_102 hw)))) (Or.inr (Ne.symm (sn_110 hw)))) (Or.inr (Ne.symm (sn_119 hw)))) (Or.inr (Ne.symm (sn_129 hw))))
  have f63 := (Fld.other W36 (Fld.other W32 (Fld.other W28 (Fld.other W24 F21 (Or.inr (Ne.symm (sn_85 hw)))) (Or.inr (Ne.symm (sn_90 hw)))) (Or.inr (Ne.symm (sn_96 hw)))) (Or.inr (Ne.symm (sn_103 hw))))
  have f64 := (Fld.other W50 (Fld.other W45 (Fld.other W41 f63 (Or.inr (Ne.symm (sn_111 hw)))) (Or.inr (Ne.symm (sn_120 hw)))) (Or.inr (Ne.symm (sn_130 hw))))
  have f65 := (Fld.other W41 (Fld.other W36 (Fld.other W32 (Fld.other W28 F24 (Or.inr (Ne.symm (sn_91 hw)))) (Or.inr (Ne.symm (sn_97 hw)))) (Or.inr (Ne.symm (sn_104 hw)))) (Or.inr (Ne.symm (sn_112 hw))))
  have f66 := (Fld.other W50 (Fld.other W45 f65 (Or.inr (Ne.symm (sn_121 hw)))) (Or.inr (Ne.symm (sn_131 hw))))
  have f67 := (Fld.other W45 (Fld.other W41 (Fld.other W36 (Fld.other W32 F28 (Or.inr (Ne.symm (sn_98 hw)))) (Or.inr (Ne.symm (sn_105 hw)))) (Or.inr (Ne.symm (sn_113 hw)))) (Or.inr (Ne.symm (sn_122 hw))))
  have f68 := (Fld.other W50 f67 (Or.inr (Ne.symm (sn_132 hw))))
  have f69 := (Fld.other W50 (Fld.other W45 (Fld.other W41 (Fld.other W36 F32 (Or.inr (Ne.symm (sn_106 hw)))) (Or.inr (Ne.symm (sn_114 hw)))) (Or.inr (Ne.symm (sn_123 hw)))) (Or.inr (Ne.symm (sn_133 hw))))
  have f70 := (Fld.other W50 (Fld.other W45 (Fld.other W41 F36 (Or.inr (Ne.symm (sn_115 hw)))) (Or.inr (Ne.symm (sn_124 hw)))) (Or.inr (Ne.symm (sn_134 hw))))
  have f71 := (Fld.other W50 (Fld.other W45 F41 (Or.inr (Ne.symm (sn_125 hw)))) (Or.inr (Ne.symm (sn_135 hw))))
  have f72 := (Fld.other W50 F45 (Or.inr (Ne.symm (sn_136 hw))))
  exact Go.retVW X50 S6 (by rw [e50]; exact (Nat.le_trans (Nat.le_trans (Nat.le_trans (Nat.le_trans (Nat.le_trans (Nat.le_trans (Nat.le_trans (Nat.le_trans (Nat.le_trans (Nat.le_trans (Nat.le_trans (Nat.le_trans kq6 (Keep.of_wr W10).1) (Keep.of_wr W12).1) (Keep.of_wr W14).1) (Keep.of_wr W18).1) (Keep.of_wr W21).1) (Keep.of_wr W24).1) (Keep.of_wr W28).1) (Keep.of_wr W32).1) (Keep.of_wr W36).1) (Keep.of_wr W41).1) (Keep.of_wr W45).1) (Keep.of_wr W50).1)) hx hret hlk (hb hby d21_95) (by decide) (by decide) (by show Q_a21_0 ..; rw [e50]; exact ⟨rfl, N50_, K50, f54, f57, f60, f62, f64, f66, f68, f69, f70, f71, f72, F50⟩)
theorem pd_LLjava_lang_String_Lorg_matchstone_engine_Side_JJLorg_matchstone_engine_TimeInForce_Ljava_time_LocalTime_ZZZZLorg_matchstone_engine_Peg_Lorg_matchstone_engine_MinQuantity_RV : parseMethodDescriptor "(Ljava/lang/String;Lorg/matchstone/engine/Side;JJLorg/matchstone/engine/TimeInForce;Ljava/time/LocalTime;ZZZZLorg/matchstone/engine/Peg;Lorg/matchstone/engine/MinQuantity;)V" = some ⟨[(.object "java/lang/String"), (.object "org/matchstone/engine/Side"), .long, .long, (.object "org/matchstone/engine/TimeInForce"), (.object "java/time/LocalTime"), .boolean, .boolean, .boolean, .boolean, (.object "org/matchstone/engine/Peg"), (.object "org/matchstone/engine/MinQuantity")], none⟩ := by decide +kernel
theorem d20_55 : decode prog_23_method_3_code 55 = .ok (.areturn, 1) := by decide +kernel
theorem pn_20 : plainName "org/matchstone/engine/NewOrder$Draft" = true := by first | (simp [plainName, overriddenIn]; done) | decide +kernel
def Q_a20_0 (Z : State) (w1 : Addr) (w2 : Addr) (w3 : Int64) (w4 : Int64) (w5 : Addr) (w6 : Int32) (w7 : Int32) (w8 : Int32) (w9 : Int32) (h0 : Heap) (v : Option Value) (h : Heap) (L : List Loc) : Prop := ∃ (b1 : Addr), v = some (.ref b1) ∧ Fr Z.heap.size L ∧ Keep h0 h [] ∧ h0.size ≤ b1 ∧ Exa Z h b1 "org/matchstone/engine/NewOrder" ∧ fl_16 Z h b1 (.ref w1) ∧ fl_17 Z h b1 (.ref w2) ∧ fl_18 Z h b1 (.long w3) ∧ fl_19 Z h b1 (.long w4) ∧ fl_20 Z h b1 (.ref w5) ∧ fl_21 Z h b1 .null ∧ fl_22 Z h b1 (.int ((w6 &&& 1))) ∧ fl_23 Z h b1 (.int ((w7 &&& 1))) ∧ fl_24 Z h b1 (.int ((w8 &&& 1))) ∧ fl_25 Z h b1 (.int ((w9 &&& 1))) ∧ fl_26 Z h b1 .null ∧ fl_27 Z h b1 .null
set_option maxRecDepth 65536 in
set_option maxHeartbeats 40000000 in
theorem rm_a20_0 (l : Launch) (Z : State) (a0 : Array Value) (hw : HW Z a0) (ws : List Jvm.Cond) (x0 : Addr) (w1 : Addr) (w2 : Addr) (w3 : Int64) (w4 : Int64) (w5 : Addr) (w6 : Int32) (w7 : Int32) (w8 : Int32) (w9 : Int32) (h0 : Heap) (O0 : Ext Z.heap h0) (r0 : fl_6 Z h0 x0 (.ref w1)) (r1 : fl_7 Z h0 x0 (.ref w2)) (r2 : fl_8 Z h0 x0 (.long w3)) (r3 : fl_9 Z h0 x0 (.long w4)) (r4 : fl_4 Z h0 x0 (.ref w5)) (r5 : fl_10 Z h0 x0 .null) (r6 : fl_5 Z h0 x0 (.int w6)) (r7 : fl_11 Z h0 x0 (.int w7)) (r8 : fl_12 Z h0 x0 (.int w8)) (r9 : fl_13 Z h0 x0 (.int w9)) (r10 : fl_14 Z h0 x0 .null) (r11 : fl_15 Z h0 x0 .null) :
    Met ReturnedEndW l (⟨"org/matchstone/engine/NewOrder$Draft", "order", "()Lorg/matchstone/engine/NewOrder;"⟩ : MethodName) prog_23_method_3_code 1 (some (.object "org/matchstone/engine/NewOrder")) ws ⟨3, 7, 92, 51⟩ Z h0 #[(.ref x0)] (Q_a20_0 Z w1 w2 w3 w4 w5 w6 w7 w8 w9 h0) := by
  refine own_metW "org/matchstone/engine/NewOrder$Draft" (plainFor_of_name pn_20) rfl #[.val (.ref x0)] (fun _ => by first | (simp [entryFrame, mkF, argsToLocals, Value.category]; done) | rfl) ?_
  intro p e s m below meth c s₁ hx hby hlk hret hml hZ hown hnm X0 e0 S0 kk0
  have N0 := Fr.nil Z.heap.size
  have wS := own_wS hw
  obtain ⟨T1, h1, X1, e1, E1, A1, D1, U1, st1⟩ := newO X0 hx hZ hown (wd hw 186 rfl) (wd hw 187 rfl) (wd hw 157 rfl) e0 (g := (mkF m 0 #[.val (.ref x0)] [])) rfl (hb hby d20_0) (by decide) (by decide)
  obtain ⟨b1, hb1⟩ : ∃ z, z = h0.size := ⟨_, rfl⟩
  rw [← hb1] at A1 D1 U1 st1
  refine Go.step st1 ?_
  have g_b1 : Z.heap.size ≤ b1 := Nat.le_trans O0.1 (Nat.le_of_eq hb1.symm)
  have O1_ : Ext Z.heap h1 := extTr O0 E1
  have sz_b1 : h0.size ≤ b1 := Nat.le_trans (Keep.refl h0 []).1 (Nat.le_of_eq hb1.symm)
  have K1 := Keep.ext (Keep.refl h0 []) E1
  have F1_id : fl_16 Z h1 b1 .null := D1 (Or.inr (wd hw 217 rfl)) (ty := (.object "java/lang/String")) pf_Ljava_lang_String_
  have F1_side : fl_17 Z h1 b1 .null := D1 (Or.inr (wd hw 219 rfl)) (ty := (.object "org/matchstone/engine/Side")) pf_Lorg_matchstone_engine_Side_
  have F1_quantity : fl_18 Z h1 b1 (.long (0 : Int64)) := D1 (Or.inr (wd hw 221 rfl)) (ty := .long) pf_J
  have F1_price : fl_19 Z h1 b1 (.long (0 : Int64)) := D1 (Or.inr (wd hw 223 rfl)) (ty := .long) pf_J
  have F1_timeInForce : fl_20 Z h1 b1 .null := D1 (Or.inr (wd hw 225 rfl)) (ty := (.object "org/matchstone/engine/TimeInForce")) pf_Lorg_matchstone_engine_TimeInForce_
  have F1_expireTime : fl_21 Z h1 b1 .null := D1 (Or.inr (wd hw 227 rfl)) (ty := (.object "java/time/LocalTime")) pf_Ljava_time_LocalTime_
  have F1_displayed : fl_22 Z h1 b1 (.int (0 : Int32)) := D1 (Or.inr (wd hw 229 rfl)) (ty := .boolean) pf_Z
  have F1_postOnly : fl_23 Z h1 b1 (.int (0 : Int32)) := D1 (Or.inr (wd hw 231 rfl)) (ty := .boolean) pf_Z
  have F1_swap : fl_24 Z h1 b1 (.int (0 : Int32)) := D1 (Or.inr (wd hw 233 rfl)) (ty := .boolean) pf_Z
  have F1_superAggressive : fl_25 Z h1 b1 (.int (0 : Int32)) := D1 (Or.inr (wd hw 235 rfl)) (ty := .boolean) pf_Z
  have F1_peg : fl_26 Z h1 b1 .null := D1 (Or.inr (wd hw 237 rfl)) (ty := (.object "org/matchstone/engine/Peg")) pf_Lorg_matchstone_engine_Peg_
  have F1_minQuantity : fl_27 Z h1 b1 .null := D1 (Or.inr (wd hw 239 rfl)) (ty := (.object "org/matchstone/engine/MinQuantity")) pf_Lorg_matchstone_engine_MinQuantity_
  refine Go.step (fun _ kt_ => XS.dup X1.here hx rfl (hb hby d20_3) rfl rfl kt_) ?_
  refine Go.step (fun _ kt_ => XS.aloadN X1.here hx rfl (hb hby d20_4) rfl rfl kt_) ?_
  obtain ⟨T2, X2, e2, st2⟩ := getF X1 hx hZ hown (host := "") (Or.inl (wd hw 173 rfl)) Via.refl e1 (Fld.ext E1 r0) (g := (mkF m 5 #[.val (.ref x0)] [(.ref x0), (.ref b1), (.ref b1)])) rfl rfl (hb hby d20_5)
  refine Go.step st2 ?_
  refine Go.step (fun _ kt_ => XS.aloadN X2.here hx rfl (hb hby d20_8) rfl rfl kt_) ?_
  obtain ⟨T3, X3, e3, st3⟩ := getF X2 hx hZ hown (host := "") (Or.inl (wd hw 175 rfl)) Via.refl e2 (Fld.ext E1 r1) (g := (mkF m 9 #[.val (.ref x0)] [(.ref x0), (.ref w1), (.ref b1), (.ref b1)])) rfl rfl (hb hby d20_9)
  refine Go.step st3 ?_
  refine Go.step (fun _ kt_ => XS.aloadN X3.here hx rfl (hb hby d20_12) rfl rfl kt_) ?_
  obtain ⟨T4, X4, e4, st4⟩ := getF X3 hx hZ hown (host := "") (Or.inl (wd hw 177 rfl)) Via.refl e3 (Fld.ext E1 r2) (g := (mkF m 13 #[.val (.ref x0)] [(.ref x0), (.ref w2), (.ref w1), (.ref b1), (.ref b1)])) rfl rfl (hb hby d20_13)
  refine Go.step st4 ?_
  refine Go.step (fun _ kt_ => XS.aloadN X4.here hx rfl (hb hby d20_16) rfl rfl kt_) ?_
  obtain ⟨T5, X5, e5, st5⟩ := getF X4 hx hZ hown (host := "") (Or.inl (wd hw 179 rfl)) Via.refl e4 (Fld.ext E1 r3) (g := (mkF m 17 #[.val (.ref x0)] [(.ref x0), (.long w3), (.ref w2), (.ref w1), (.ref b1), (.ref b1)])) rfl rfl (hb hby d20_17)
  refine Go.step st5 ?_
  refine Go.step (fun _ kt_ => XS.aloadN X5.here hx rfl (hb hby d20_20) rfl rfl kt_) ?_
  obtain ⟨T6, X6, e6, st6⟩ := getF X5 hx hZ hown (host := "") (Or.inl (wd hw 169 rfl)) Via.refl e5 (Fld.ext E1 r4) (g := (mkF m 21 #[.val (.ref x0)] [(.ref x0), (.long w4), (.long w3), (.ref w2), (.ref w1), (.ref b1), (.ref b1)])) rfl rfl (hb hby d20_21)
  refine Go.step st6 ?_
  refine Go.step (fun _ kt_ => XS.aloadN X6.here hx rfl (hb hby d20_24) rfl rfl kt_) ?_
  obtain ⟨T7, X7, e7, st7⟩ := getF X6 hx hZ hown (host := "") (Or.inl (wd hw 188 rfl)) Via.refl e6 (Fld.ext E1 r5) (g := (mkF m 25 #[.val (.ref x0)] [(.ref x0), (.ref w5), (.long w4), (.long w3), (.ref w2), (.ref w1), (.ref b1), (.ref b1)])) rfl rfl (hb hby d20_25)
  refine Go.step st7 ?_
  refine Go.step (fun _ kt_ => XS.aloadN X7.here hx rfl (hb hby d20_28) rfl rfl kt_) ?_
  obtain ⟨T8, X8, e8, st8⟩ := getF X7 hx hZ hown (host := "") (Or.inl (wd hw 171 rfl)) Via.refl e7 (Fld.ext E1 r6) (g := (mkF m 29 #[.val (.ref x0)] [(.ref x0), .null, (.ref w5), (.long w4), (.long w3), (.ref w2), (.ref w1), (.ref b1), (.ref b1)])) rfl rfl (hb hby d20_29)
  refine Go.step st8 ?_
  refine Go.step (fun _ kt_ => XS.aloadN X8.here hx rfl (hb hby d20_32) rfl rfl kt_) ?_
  obtain ⟨T9, X9, e9, st9⟩ := getF X8 hx hZ hown (host := "") (Or.inl (wd hw 190 rfl)) Via.refl e8 (Fld.ext E1 r7) (g := (mkF m 33 #[.val (.ref x0)] [(.ref x0), (.int w6), .null, (.ref w5), (.long w4), (.long w3), (.ref w2), (.ref w1), (.ref b1), (.ref b1)])) rfl rfl (hb hby d20_33)
  refine Go.step st9 ?_
  refine Go.step (fun _ kt_ => XS.aloadN X9.here hx rfl (hb hby d20_36) rfl rfl kt_) ?_
  obtain ⟨T10, X10, e10, st10⟩ := getF X9 hx hZ hown (host := "") (Or.inl (wd hw 192 rfl)) Via.refl e9 (Fld.ext E1 r8) (g := (mkF m 37 #[.val (.ref x0)] [(.ref x0), (.int w7), (.int w6), .null, (.ref w5), (.long w4), (.long w3), (.ref w2), (.ref w1), (.ref b1), (.ref b1)])) rfl rfl (hb hby d20_37)
  refine Go.step st10 ?_
  refine Go.step (fun _ kt_ => XS.aloadN X10.here hx rfl (hb hby d20_40) rfl rfl kt_) ?_
  obtain ⟨T11, X11, e11, st11⟩ := getF X10 hx hZ hown (host := "") (Or.inl (wd hw 194 rfl)) Via.refl e10 (Fld.ext E1 r9) (g := (mkF m 41 #[.val (.ref x0)] [(.ref x0), (.int w8), (.int w7), (.int w6), .null, (.ref w5), (.long w4), (.long w3), (.ref w2), (.ref w1), (.ref b1), (.ref b1)])) rfl rfl (hb hby d20_41)
  refine Go.step st11 ?_
  refine Go.step (fun _ kt_ => XS.aloadN X11.here hx rfl (hb hby d20_44) rfl rfl kt_) ?_
  obtain ⟨T12, X12, e12, st12⟩ := getF X11 hx hZ hown (host := "") (Or.inl (wd hw 196 rfl)) Via.refl e11 (Fld.ext E1 r10) (g := (mkF m 45 #[.val (.ref x0)] [(.ref x0), (.int w9), (.int w8), (.int w7), (.int w6), .null, (.ref w5), (.long w4), (.long w3), (.ref w2), (.ref w1), (.ref b1), (.ref b1)])) rfl rfl (hb hby d20_45)
  refine Go.step st12 ?_
  refine Go.step (fun _ kt_ => XS.aloadN X12.here hx rfl (hb hby d20_48) rfl rfl kt_) ?_
  obtain ⟨T13, X13, e13, st13⟩ := getF X12 hx hZ hown (host := "") (Or.inl (wd hw 198 rfl)) Via.refl e12 (Fld.ext E1 r11) (g := (mkF m 49 #[.val (.ref x0)] [(.ref x0), .null, (.int w9), (.int w8), (.int w7), (.int w6), .null, (.ref w5), (.long w4), (.long w3), (.ref w2), (.ref w1), (.ref b1), (.ref b1)])) rfl rfl (hb hby d20_49)
  refine Go.step st13 ?_
  obtain ⟨_, _, ⟨T14, L14, k14, n14⟩, -, X14, Sq14, gq14, ⟨Lc14, hQ14, l14, y14, z14⟩, st14⟩ := X13.specialBackS hx (y := (⟨"org/matchstone/engine/NewOrder", "<init>", "(Ljava/lang/String;Lorg/matchstone/engine/Side;JJLorg/matchstone/engine/TimeInForce;Ljava/time/LocalTime;ZZZZLorg/matchstone/engine/Peg;Lorg/matchstone/engine/MinQuantity;)V"⟩ : MethodName)) rfl hown (mvT hZ (wd hw 200 rfl)) (mvT hZ (wd hw 201 rfl)) (mvT hZ (wd hw 202 rfl)) (by decide) (backOfS (W := 1) (rm_a21_0 l Z a0 hw []  b1 w1 w2 w3 w4 w5 w6 w7 w8 w9 (0 : Int64) (0 : Int64) (0 : Int32) (0 : Int32) (0 : Int32) (0 : Int32) h1 O1_ A1 F1_id g_b1 F1_side F1_quantity F1_price F1_timeInForce F1_expireTime F1_displayed F1_postOnly F1_swap F1_superAggressive F1_peg F1_minQuantity) hZ (wd hw 202 rfl) (wd hw 157 rfl) (by decide) (by decide)) (g := (mkF m 52 #[.val (.ref x0)] [.null, .null, (.int w9), (.int w8), (.int w7), (.int w6), .null, (.ref w5), (.long w4), (.long w3), (.ref w2), (.ref w1), (.ref b1), (.ref b1)])) rfl (by rw [hml]; rfl) (Steps.refl _) (a := b1) (argsL := [(.ref w1), (.ref w2), (.long w3), (.long w4), (.ref w5), .null, (.int w6), (.int w7), (.int w8), (.int w9), .null, .null]) (rest := [(.ref b1)]) (lenOf pd_LLjava_lang_String_Lorg_matchstone_engine_Side_JJLorg_matchstone_engine_TimeInForce_Ljava_time_LocalTime_ZZZZLorg_matchstone_engine_Peg_Lorg_matchstone_engine_MinQuantity_RV rfl) rfl (by show 2 * 0 + _ ≤ _; exact Nat.le_of_eq rfl) (hb hby d20_52) (fun _ _ => ⟨rfl, e13, (by decide : 1 + 6 ≤ _), (by decide : 12 + 80 ≤ _)⟩)
  dsimp only [Pt.U, Pt.locs, Pt.cells, Pt.slots] at X14 l14 y14 z14 st14 hQ14 Sq14 gq14
  subst y14 z14
  obtain ⟨X14, S14, hZ14, hown14⟩ := rebS S0 ((congrArg Array.size e13).symm ▸ (Nat.le_trans kk0 E1.1)) X14 Sq14 gq14 hZ hown
  obtain ⟨rfl, Nq14, Kq14, p14_0, p14_1, p14_2, p14_3, p14_4, p14_5, p14_6, p14_7, p14_8, p14_9, p14_10, p14_11⟩ := hQ14
  have O14_ : Ext Z.heap T14.heap := extKeep O1_ Kq14 (allS g_b1 all0)
  have K14 := Keep.trans K1 Kq14 (allS (Or.inr sz_b1) all0)
  have N14_ : Fr Z.heap.size L14 := by rw [l14]; exact Fr.app N0 Nq14
  refine Go.trans st14 ?_
  exact Go.retAW X14 S14 (Nat.le_refl _) hx hret rfl rfl hlk (hb hby d20_55) (by decide) (by decide) ⟨b1, rfl, N14_, K14, sz_b1, (A1.keep Kq14), p14_0, p14_1, p14_2, p14_3, p14_4, p14_5, p14_6, p14_7, p14_8, p14_9, p14_10, p14_11⟩
theorem pd_LRLorg_matchstone_engine_NewOrder_ : parseMethodDescriptor "()Lorg/matchstone/engine/NewOrder;" = some ⟨[], some (.object "org/matchstone/engine/NewOrder")⟩ := by decide +kernel
theorem d18_15 : decode prog_22_method_2_code 15 = .ok (.areturn, 1) := by decide +kernel
theorem pn_18 : plainName "org/matchstone/engine/NewOrder" = true := by first | (simp [plainName, overriddenIn]; done) | decide +kernel
def Q_a18_0 (Z : State) (x0 : Addr) (x1 : Addr) (x2 : Int64) (x3 : Int64) (w1 : Addr) (h0 : Heap) (v : Option Value) (h : Heap) (L : List Loc) : Prop := ∃ (b1q3 : Addr), v = some (.ref b1q3) ∧ Fr Z.heap.size L ∧ Keep h0 h [] ∧ h0.size ≤ b1q3 ∧ Exa Z h b1q3 "org/matchstone/engine/NewOrder" ∧ fl_16 Z h b1q3 (.ref x0) ∧ fl_17 Z h b1q3 (.ref x1) ∧ fl_18 Z h b1q3 (.long x2) ∧ fl_19 Z h b1q3 (.long x3) ∧ fl_20 Z h b1q3 (.ref w1) ∧ fl_21 Z h b1q3 .null ∧ fl_22 Z h b1q3 (.int (1 : Int32)) ∧ fl_23 Z h b1q3 (.int (0 : Int32)) ∧ fl_24 Z h b1q3 (.int (0 : Int32)) ∧ fl_25 Z h b1q3 (.int (0 : Int32)) ∧ fl_26 Z h b1q3 .null ∧ fl_27 Z h b1q3 .null
set_option maxRecDepth 65536 in
set_option maxHeartbeats 40000000 in
theorem rm_a18_0 (l : Launch) (Z : State) (a0 : Array Value) (hw : HW Z a0) (ws : List Jvm.Cond) (x0 : Addr) (x1 : Addr) (x2 : Int64) (x3 : Int64) (w1 : Addr) (h0 : Heap) (O0 : Ext Z.heap h0) (r0 : Sta Z Z.heap "org/matchstone/engine/TimeInForce" "DAY" "Lorg/matchstone/engine/TimeInForce;" (.ref w1)) :
    Met ReturnedEndW l (⟨"org/matchstone/engine/NewOrder", "limit", "(Ljava/lang/String;Lorg/matchstone/engine/Side;JJ)Lorg/matchstone/engine/NewOrder;"⟩ : MethodName) prog_22_method_2_code 6 (some (.object "org/matchstone/engine/NewOrder")) ws ⟨4, 8, 104, 63⟩ Z h0 #[(.ref x0), (.ref x1), (.long x2), (.long x3)] (Q_a18_0 Z x0 x1 x2 x3 w1 h0) := by
  refine own_metW "org/matchstone/engine/NewOrder" (plainFor_of_name pn_18) rfl #[.val (.ref x0), .val (.ref x1), .val (.long x2), .second, .val (.long x3), .second] (fun _ => by first | (simp [entryFrame, mkF, argsToLocals, Value.category]; done) | rfl) ?_
  intro p e s m below meth c s₁ hx hby hlk hret hml hZ hown hnm X0 e0 S0 kk0
  have N0 := Fr.nil Z.heap.size
  have wS := own_wS hw
  obtain ⟨T1, h1, X1, e1, E1, A1, D1, U1, st1⟩ := newO X0 hx hZ hown (wd hw 159 rfl) (wd hw 160 rfl) (wd hw 161 rfl) e0 (g := (mkF m 0 #[.val (.ref x0), .val (.ref x1), .val (.long x2), .second, .val (.long x3), .second] [])) rfl (hb hby d18_0) (by decide) (by decide)
  obtain ⟨b1, hb1⟩ : ∃ z, z = h0.size := ⟨_, rfl⟩
  rw [← hb1] at A1 D1 U1 st1
  refine Go.step st1 ?_
  have g_b1 : Z.heap.size ≤ b1 := Nat.le_trans O0.1 (Nat.le_of_eq hb1.symm)
  have O1_ : Ext Z.heap h1 := extTr O0 E1
  have sz_b1 : h0.size ≤ b1 := Nat.le_trans (Keep.refl h0 []).1 (Nat.le_of_eq hb1.symm)
  have K1 := Keep.ext (Keep.refl h0 []) E1
  have F1_timeInForce : fl_4 Z h1 b1 .null := D1 (Or.inl (wd hw 170 rfl)) (ty := (.object "org/matchstone/engine/TimeInForce")) pf_Lorg_matchstone_engine_TimeInForce_
  have F1_displayed : fl_5 Z h1 b1 (.int (0 : Int32)) := D1 (Or.inl (wd hw 172 rfl)) (ty := .boolean) pf_Z
  have F1_id : fl_6 Z h1 b1 .null := D1 (Or.inr (wd hw 174 rfl)) (ty := (.object "java/lang/String")) pf_Ljava_lang_String_
  have F1_side : fl_7 Z h1 b1 .null := D1 (Or.inr (wd hw 176 rfl)) (ty := (.object "org/matchstone/engine/Side")) pf_Lorg_matchstone_engine_Side_
  have F1_quantity : fl_8 Z h1 b1 (.long (0 : Int64)) := D1 (Or.inr (wd hw 178 rfl)) (ty := .long) pf_J
  have F1_price : fl_9 Z h1 b1 (.long (0 : Int64)) := D1 (Or.inr (wd hw 180 rfl)) (ty := .long) pf_J
  have F1_expireTime : fl_10 Z h1 b1 .null := D1 (Or.inl (wd hw 189 rfl)) (ty := (.object "java/time/LocalTime")) pf_Ljava_time_LocalTime_
  have F1_postOnly : fl_11 Z h1 b1 (.int (0 : Int32)) := D1 (Or.inl (wd hw 191 rfl)) (ty := .boolean) pf_Z
  have F1_swap : fl_12 Z h1 b1 (.int (0 : Int32)) := D1 (Or.inl (wd hw 193 rfl)) (ty := .boolean) pf_Z
  have F1_superAggressive : fl_13 Z h1 b1 (.int (0 : Int32)) := D1 (Or.inl (wd hw 195 rfl)) (ty := .boolean) pf_Z
  have F1_peg : fl_14 Z h1 b1 .null := D1 (Or.inl (wd hw 197 rfl)) (ty := (.object "org/matchstone/engine/Peg")) pf_Lorg_matchstone_engine_Peg_
  have F1_minQuantity : fl_15 Z h1 b1 .null := D1 (Or.inl (wd hw 199 rfl)) (ty := (.object "org/matchstone/engine/MinQuantity")) pf_Lorg_matchstone_engine_MinQuantity_
  refine Go.step (fun _ kt_ => XS.dup X1.here hx rfl (hb hby d18_3) rfl rfl kt_) ?_
  refine Go.step (fun _ kt_ => XS.aloadN X1.here hx rfl (hb hby d18_4) rfl rfl kt_) ?_
  refine Go.step (fun _ kt_ => XS.aloadN X1.here hx rfl (hb hby d18_5) rfl rfl kt_) ?_
  refine Go.step (fun _ kt_ => XS.lloadN X1.here hx rfl (hb hby d18_6) rfl kt_) ?_
  refine Go.step (fun _ kt_ => XS.lload X1.here hx rfl (hb hby d18_7) rfl kt_) ?_
  obtain ⟨_, _, ⟨T2, L2, k2, n2⟩, -, X2, ⟨Lc2, hQ2, l2, y2, z2⟩, st2⟩ := X1.specialBack hx (y := (⟨"org/matchstone/engine/NewOrder$Draft", "<init>", "(Ljava/lang/String;Lorg/matchstone/engine/Side;JJ)V"⟩ : MethodName)) rfl hown (mvT hZ (wd hw 162 rfl)) (mvT hZ (wd hw 163 rfl)) (mvT hZ (wd hw 164 rfl)) (by decide) (backOf (W := 1) (rm_a19_0 l Z a0 hw []  b1 x0 x1 x2 x3 w1 (0 : Int32) (0 : Int64) (0 : Int64) (0 : Int32) (0 : Int32) (0 : Int32) h1 O1_ r0 A1 F1_timeInForce g_b1 F1_displayed F1_id F1_side F1_quantity F1_price F1_expireTime F1_postOnly F1_swap F1_superAggressive F1_peg F1_minQuantity) hZ (wd hw 164 rfl) (wd hw 161 rfl) (by decide) (by decide)) (g := (mkF m 9 #[.val (.ref x0), .val (.ref x1), .val (.long x2), .second, .val (.long x3), .second] [(.long x3), (.long x2), (.ref x1), (.ref x0), (.ref b1), (.ref b1)])) rfl (by rw [hml]; rfl) (Steps.refl _) (a := b1) (argsL := [(.ref x0), (.ref x1), (.long x2), (.long x3)]) (rest := [(.ref b1)]) (lenOf pd_LLjava_lang_String_Lorg_matchstone_engine_Side_JJRV rfl) rfl (by show 2 * 0 + _ ≤ _; exact Nat.le_of_eq rfl) (hb hby d18_9) (fun _ _ => ⟨rfl, e1, (by decide : 1 + 0 ≤ _), (by decide : 12 + 0 ≤ _)⟩)
  dsimp only [Pt.U, Pt.locs, Pt.cells, Pt.slots] at X2 l2 y2 z2 st2 hQ2
  subst y2 z2
  obtain ⟨rfl, Nq2, Kq2, p2_0, p2_1, p2_2, p2_3, p2_4, p2_5, p2_6, p2_7, p2_8, p2_9, p2_10, p2_11⟩ := hQ2
  have O2_ : Ext Z.heap T2.heap := extKeep O1_ Kq2 (allS g_b1 all0)
  have K2 := Keep.trans K1 Kq2 (allS (Or.inr sz_b1) all0)
  have N2_ : Fr Z.heap.size L2 := by rw [l2]; exact Fr.app N0 Nq2
  refine Go.trans st2 ?_
  obtain ⟨cq3, kq3, q3a, q3b, q3c⟩ := isOf hZ rfl (A1.keep Kq2)
  obtain ⟨_, _, ⟨T3, L3, k3, n3⟩, -, X3, Sq3, gq3, ⟨Lc3, hQ3, l3, y3, z3⟩, st3⟩ := X2.virtualBackS hx (y := (⟨"org/matchstone/engine/NewOrder$Draft", "order", "()Lorg/matchstone/engine/NewOrder;"⟩ : MethodName)) (z := (⟨"org/matchstone/engine/NewOrder$Draft", "order", "()Lorg/matchstone/engine/NewOrder;"⟩ : MethodName)) hown (mvT hZ (wd hw 181 rfl)) (mvT hZ (wd hw 182 rfl)) (notFace_of_selects (args := #[]) (mvT hZ (wd hw 184 rfl))) (mvT hZ (wd hw 184 rfl)) (mvT hZ (wd hw 183 rfl)) (by decide) (backOfS (W := 0) (rm_a20_0 l Z a0 hw []  b1 x0 x1 x2 x3 w1 (1 : Int32) (0 : Int32) (0 : Int32) (0 : Int32) T2.heap O2_ p2_2 p2_3 p2_4 p2_5 p2_0 p2_6 p2_1 p2_7 p2_8 p2_9 p2_10 p2_11) hZ (wd hw 185 rfl) (wd hw 161 rfl) (by decide) (by decide)) q3a q3c (g := (mkF m 12 #[.val (.ref x0), .val (.ref x1), .val (.long x2), .second, .val (.long x3), .second] [(.ref b1)])) rfl (by rw [hml]; rfl) (Steps.refl _) (argsL := []) (rest := []) (lenOf pd_LRLorg_matchstone_engine_NewOrder_ rfl) rfl (by show 2 * 0 + _ ≤ _; exact Nat.le_of_eq rfl) (hb hby d18_12) (fun _ _ => ⟨rfl, rfl, (by decide : 1 + 7 ≤ _), (by decide : 12 + 92 ≤ _)⟩)
  dsimp only [Pt.U, Pt.locs, Pt.cells, Pt.slots] at X3 l3 y3 z3 st3 hQ3 Sq3 gq3
  subst y3 z3
  obtain ⟨X3, S3, hZ3, hown3⟩ := rebS S0 ((Nat.le_trans (Nat.le_trans kk0 E1.1) Kq2.1)) X3 Sq3 gq3 hZ hown
  obtain ⟨b1q3, rfl, Nq3, Kq3, p3_0, p3_1, p3_2, p3_3, p3_4, p3_5, p3_6, p3_7, p3_8, p3_9, p3_10, p3_11, p3_12, p3_13⟩ := hQ3
  have O3_ : Ext Z.heap T3.heap := extKeep O2_ Kq3 all0
  have K3 := Keep.trans K2 Kq3 all0
  have N3_ : Fr Z.heap.size L3 := by rw [l3]; exact Fr.app N2_ Nq3
  have g_b1q3 : Z.heap.size ≤ b1q3 := Nat.le_trans O2_.1 p3_0
  have sz_b1q3 : h0.size ≤ b1q3 := Nat.le_trans K2.1 p3_0
  refine Go.trans st3 ?_
  exact Go.retAW X3 S3 (Nat.le_refl _) hx hret rfl rfl hlk (hb hby d18_15) (by decide) (by decide) ⟨b1q3, rfl, N3_, K3, sz_b1q3, p3_1, p3_2, p3_3, p3_4, p3_5, p3_6, p3_7, p3_8, p3_9, p3_10, p3_11, p3_12, p3_13⟩
theorem pd_LLjava_lang_String_Lorg_matchstone_engine_Side_JJRLorg_matchstone_engine_NewOrder_ : parseMethodDescriptor "(Ljava/lang/String;Lorg/matchstone/engine/Side;JJ)Lorg/matchstone/engine/NewOrder;" = some ⟨[(.object "java/lang/String"), (.object "org/matchstone/engine/Side"), .long, .long], some (.object "org/matchstone/engine/NewOrder")⟩ := by decide +kernel
theorem d24_0 : decode prog_22_method_5_code 0 = .ok (.new 62, 3) := by decide +kernel
theorem d24_3 : decode prog_22_method_5_code 3 = .ok (.dup, 1) := by decide +kernel
theorem d24_4 : decode prog_22_method_5_code 4 = .ok (.aload_n 0, 1) := by decide +kernel
theorem d24_5 : decode prog_22_method_5_code 5 = .ok (.invokespecial 71, 3) := by decide +kernel
theorem d25_0 : decode prog_23_method_2_code 0 = .ok (.aload_n 0, 1) := by decide +kernel
theorem d25_1 : decode prog_23_method_2_code 1 = .ok (.aload_n 1, 1) := by decide +kernel
theorem d25_2 : decode prog_23_method_2_code 2 = .ok (.getfield 37, 3) := by decide +kernel
theorem d25_5 : decode prog_23_method_2_code 5 = .ok (.aload_n 1, 1) := by decide +kernel
theorem d25_6 : decode prog_23_method_2_code 6 = .ok (.getfield 40, 3) := by decide +kernel
theorem d25_9 : decode prog_23_method_2_code 9 = .ok (.aload_n 1, 1) := by decide +kernel
theorem d25_10 : decode prog_23_method_2_code 10 = .ok (.getfield 41, 3) := by decide +kernel
theorem d25_13 : decode prog_23_method_2_code 13 = .ok (.aload_n 1, 1) := by decide +kernel
theorem d25_14 : decode prog_23_method_2_code 14 = .ok (.getfield 42, 3) := by decide +kernel
theorem d25_17 : decode prog_23_method_2_code 17 = .ok (.invokespecial 43, 3) := by decide +kernel
theorem d25_20 : decode prog_23_method_2_code 20 = .ok (.aload_n 0, 1) := by decide +kernel
theorem d25_21 : decode prog_23_method_2_code 21 = .ok (.aload_n 1, 1) := by decide +kernel
theorem d25_22 : decode prog_23_method_2_code 22 = .ok (.getfield 46, 3) := by decide +kernel
theorem d25_25 : decode prog_23_method_2_code 25 = .ok (.putfield 13, 3) := by decide +kernel
theorem d25_28 : decode prog_23_method_2_code 28 = .ok (.aload_n 0, 1) := by decide +kernel
theorem d25_29 : decode prog_23_method_2_code 29 = .ok (.aload_n 1, 1) := by decide +kernel
theorem d25_30 : decode prog_23_method_2_code 30 = .ok (.getfield 47, 3) := by decide +kernel
theorem d25_33 : decode prog_23_method_2_code 33 = .ok (.putfield 51, 3) := by decide +kernel
theorem d25_36 : decode prog_23_method_2_code 36 = .ok (.aload_n 0, 1) := by decide +kernel
theorem d25_37 : decode prog_23_method_2_code 37 = .ok (.aload_n 1, 1) := by decide +kernel
theorem d25_38 : decode prog_23_method_2_code 38 = .ok (.getfield 52, 3) := by decide +kernel
theorem d25_41 : decode prog_23_method_2_code 41 = .ok (.putfield 18, 3) := by decide +kernel
theorem d25_44 : decode prog_23_method_2_code 44 = .ok (.aload_n 0, 1) := by decide +kernel
theorem d25_45 : decode prog_23_method_2_code 45 = .ok (.aload_n 1, 1) := by decide +kernel
theorem d25_46 : decode prog_23_method_2_code 46 = .ok (.getfield 53, 3) := by decide +kernel
theorem d25_49 : decode prog_23_method_2_code 49 = .ok (.putfield 56, 3) := by decide +kernel
theorem d25_52 : decode prog_23_method_2_code 52 = .ok (.aload_n 0, 1) := by decide +kernel
theorem d25_53 : decode prog_23_method_2_code 53 = .ok (.aload_n 1, 1) := by decide +kernel
theorem d25_54 : decode prog_23_method_2_code 54 = .ok (.getfield 57, 3) := by decide +kernel
theorem d25_57 : decode prog_23_method_2_code 57 = .ok (.putfield 60, 3) := by decide +kernel
theorem d25_60 : decode prog_23_method_2_code 60 = .ok (.aload_n 0, 1) := by decide +kernel
theorem d25_61 : decode prog_23_method_2_code 61 = .ok (.aload_n 1, 1) := by decide +kernel
theorem d25_62 : decode prog_23_method_2_code 62 = .ok (.getfield 61, 3) := by decide +kernel
theorem d25_65 : decode prog_23_method_2_code 65 = .ok (.putfield 64, 3) := by decide +kernel
theorem d25_68 : decode prog_23_method_2_code 68 = .ok (.aload_n 0, 1) := by decide +kernel
theorem d25_69 : decode prog_23_method_2_code 69 = .ok (.aload_n 1, 1) := by decide +kernel
theorem d25_70 : decode prog_23_method_2_code 70 = .ok (.getfield 65, 3) := by decide +kernel
theorem d25_73 : decode prog_23_method_2_code 73 = .ok (.putfield 69, 3) := by decide +kernel
theorem d25_76 : decode prog_23_method_2_code 76 = .ok (.aload_n 0, 1) := by decide +kernel
theorem d25_77 : decode prog_23_method_2_code 77 = .ok (.aload_n 1, 1) := by decide +kernel
theorem d25_78 : decode prog_23_method_2_code 78 = .ok (.getfield 70, 3) := by decide +kernel
theorem d25_81 : decode prog_23_method_2_code 81 = .ok (.putfield 74, 3) := by decide +kernel
theorem d25_84 : decode prog_23_method_2_code 84 = .ok (.return_, 1) := by decide +kernel
theorem pn_25 : plainName "org/matchstone/engine/NewOrder$Draft" = true := by first | (simp [plainName, overriddenIn]; done) | decide +kernel
def Q_a25_0 (Z : State) (x0 : Addr) (w1 : Addr) (w2 : Addr) (w3 : Int64) (w4 : Int64) (w5 : Addr) (w12 : Int32) (w13 : Int32) (w14 : Int32) (w15 : Int32) (h0 : Heap) (v : Option Value) (h : Heap) (L : List Loc) : Prop := v = none ∧ Fr Z.heap.size L ∧ Keep h0 h [x0] ∧ fl_4 Z h x0 (.ref w5) ∧ fl_5 Z h x0 (.int ((w12 &&& 1))) ∧ fl_6 Z h x0 (.ref w1) ∧ fl_7 Z h x0 (.ref w2) ∧ fl_8 Z h x0 (.long w3) ∧ fl_9 Z h x0 (.long w4) ∧ fl_10 Z h x0 .null ∧ fl_11 Z h x0 (.int ((w13 &&& 1))) ∧ fl_12 Z h x0 (.int ((w14 &&& 1))) ∧ fl_13 Z h x0 (.int ((w15 &&& 1))) ∧ fl_14 Z h x0 .null ∧ fl_15 Z h x0 .null
set_option maxRecDepth 65536 in
set_option maxHeartbeats 40000000 in
theorem rm_a25_0 (l : Launch) (Z : State) (a0 : Array Value) (hw : HW Z a0) (ws : List Jvm.Cond) (x0 : Addr) (x1 : Addr) (w1 : Addr) (w2 : Addr) (w3 : Int64) (w4 : Int64) (w5 : Addr) (w6 : Int32) (w7 : Int64) (w8 : Int64) (w9 : Int32) (w10 : Int32) (w11 : Int32) (w12 : Int32) (w13 : Int32) (w14 : Int32) (w15 : Int32) (h0 : Heap) (O0 : Ext Z.heap h0) (r0 : fl_16 Z h0 x1 (.ref w1)) (r1 : fl_17 Z h0 x1 (.ref w2)) (r2 : fl_18 Z h0 x1 (.long w3)) (r3 : fl_19 Z h0 x1 (.long w4)) (r4 : Sta Z Z.heap "org/matchstone/engine/TimeInForce" "DAY" "Lorg/matchstone/engine/TimeInForce;" (.ref w5)) (r5 : Exa Z h0 x0 "org/matchstone/engine/NewOrder$Draft") (r6 : fl_4 Z h0 x0 .null) (r7 : Z.heap.size ≤ x0) (r8 : fl_5 Z h0 x0 (.int w6)) (r9 : fl_6 Z h0 x0 .null) (r10 : fl_7 Z h0 x0 .null) (r11 : fl_8 Z h0 x0 (.long w7)) (r12 : fl_9 Z h0 x0 (.long w8)) (r13 : fl_10 Z h0 x0 .null) (r14 : fl_11 Z h0 x0 (.int w9)) (r15 : fl_12 Z h0 x0 (.int w10)) (r16 : fl_13 Z h0 x0 (.int w11)) (r17 : fl_14 Z h0 x0 .null) (r18 : fl_15 Z h0 x0 .null) (r19 : fl_20 Z h0 x1 (.ref w5)) (r20 : x1 ≠ x0) (r21 : fl_21 Z h0 x1 .null) (r22 : fl_22 Z h0 x1 (.int w12)) (r23 : fl_23 Z h0 x1 (.int w13)) (r24 : fl_24 Z h0 x1 (.int w14)) (r25 : fl_25 Z h0 x1 (.int w15)) (r26 : fl_26 Z h0 x1 .null) (r27 : fl_27 Z h0 x1 .null) :
    Met FrameEnd l (⟨"org/matchstone/engine/NewOrder$Draft", "<init>", "(Lorg/matchstone/engine/NewOrder;)V"⟩ : MethodName) prog_23_method_2_code 2 none ws ⟨2, 0, 0, 30⟩ Z h0 #[(.ref x0), (.ref x1)] (Q_a25_0 Z x0 w1 w2 w3 w4 w5 w12 w13 w14 w15 h0) := by
  refine own_met "org/matchstone/engine/NewOrder$Draft" (plainFor_of_name pn_25) rfl #[.val (.ref x0), .val (.ref x1)] (fun _ => by first | (simp [entryFrame, mkF, argsToLocals, Value.category]; done) | rfl) ?_
  intro p e s m below meth c s₁ hx hby hlk hret hml hZ hown hnm X0 e0
  have N0 := Fr.nil Z.heap.size
  refine Go.step (fun _ kt_ => XS.aloadN X0.here hx rfl (hb hby d25_0) rfl rfl kt_) ?_
  refine Go.step (fun _ kt_ => XS.aloadN X0.here hx rfl (hb hby d25_1) rfl rfl kt_) ?_
  obtain ⟨T1, X1, e1, st1⟩ := getF X0 hx hZ hown (Or.inr (wd hw 248 rfl)) Via.refl e0 r0 (g := (mkF m 2 #[.val (.ref x0), .val (.ref x1)] [(.ref x1), (.ref x0)])) rfl rfl (hb hby d25_2)
  refine Go.step st1 ?_
  refine Go.step (fun _ kt_ => XS.aloadN X1.here hx rfl (hb hby d25_5) rfl rfl kt_) ?_
  obtain ⟨T2, X2, e2, st2⟩ := getF X1 hx hZ hown (Or.inr (wd hw 249 rfl)) Via.refl e1 r1 (g := (mkF m 6 #[.val (.ref x0), .val (.ref x1)] [(.ref x1), (.ref w1), (.ref x0)])) rfl rfl (hb hby d25_6)
  refine Go.step st2 ?_
  refine Go.step (fun _ kt_ => XS.aloadN X2.here hx rfl (hb hby d25_9) rfl rfl kt_) ?_
  obtain ⟨T3, X3, e3, st3⟩ := getF X2 hx hZ hown (Or.inr (wd hw 250 rfl)) Via.refl e2 r2 (g := (mkF m 10 #[.val (.ref x0), .val (.ref x1)] [(.ref x1), (.ref w2), (.ref w1), (.ref x0)])) rfl rfl (hb hby d25_10)
  refine Go.step st3 ?_
  refine Go.step (fun _ kt_ => XS.aloadN X3.here hx rfl (hb hby d25_13) rfl rfl kt_) ?_
  obtain ⟨T4, X4, e4, st4⟩ := getF X3 hx hZ hown (Or.inr (wd hw 251 rfl)) Via.refl e3 r3 (g := (mkF m 14 #[.val (.ref x0), .val (.ref x1)] [(.ref x1), (.long w3), (.ref w2), (.ref w1), (.ref x0)])) rfl rfl (hb hby d25_14)
  refine Go.step st4 ?_
  obtain ⟨_, _, ⟨T5, L5, k5, n5⟩, -, X5, ⟨Lc5, hQ5, l5, y5, z5⟩, st5⟩ := X4.specialBack hx (y := (⟨"org/matchstone/engine/NewOrder$Draft", "<init>", "(Ljava/lang/String;Lorg/matchstone/engine/Side;JJ)V"⟩ : MethodName)) rfl hown (mvT hZ (wd hw 252 rfl)) (mvT hZ (wd hw 163 rfl)) (mvT hZ (wd hw 164 rfl)) (by decide) (backOf (W := 0) (rm_a19_0 l Z a0 hw []  x0 w1 w2 w3 w4 w5 w6 w7 w8 w9 w10 w11 h0 O0 r4 r5 r6 r7 r8 r9 r10 r11 r12 r13 r14 r15 r16 r17 r18) hZ (wd hw 164 rfl) (wd hw 161 rfl) (by decide) (by decide)) (g := (mkF m 17 #[.val (.ref x0), .val (.ref x1)] [(.long w4), (.long w3), (.ref w2), (.ref w1), (.ref x0)])) rfl (by rw [hml]; rfl) (Steps.refl _) (a := x0) (argsL := [(.ref w1), (.ref w2), (.long w3), (.long w4)]) (rest := []) (lenOf pd_LLjava_lang_String_Lorg_matchstone_engine_Side_JJRV rfl) rfl (by show 2 * 0 + _ ≤ _; exact Nat.le_of_eq rfl) (hb hby d25_17) (fun _ _ => ⟨rfl, e4, (by decide : 0 + 0 ≤ _), (by decide : 0 + 0 ≤ _)⟩)
  dsimp only [Pt.U, Pt.locs, Pt.cells, Pt.slots] at X5 l5 y5 z5 st5 hQ5
  subst y5 z5
  obtain ⟨rfl, Nq5, Kq5, p5_0, p5_1, p5_2, p5_3, p5_4, p5_5, p5_6, p5_7, p5_8, p5_9, p5_10, p5_11⟩ := hQ5
  have O5_ : Ext Z.heap T5.heap := extKeep O0 Kq5 (allS r7 all0)
  have K5 := Keep.trans (Keep.refl h0 [x0]) Kq5 (allS (Or.inl (List.mem_of_getElem? (i := 0) rfl)) all0)
  have N5_ : Fr Z.heap.size L5 := by rw [l5]; exact Fr.app N0 Nq5
  refine Go.trans st5 ?_
  refine Go.step (fun _ kt_ => XS.aloadN X5.here hx rfl (hb hby d25_20) rfl rfl kt_) ?_
  refine Go.step (fun _ kt_ => XS.aloadN X5.here hx rfl (hb hby d25_21) rfl rfl kt_) ?_
  obtain ⟨T6, X6, e6, st6⟩ := getF X5 hx hZ hown (Or.inr (wd hw 253 rfl)) Via.refl rfl (r19.keep Kq5 (ninS r20 nin0)) (g := (mkF m 22 #[.val (.ref x0), .val (.ref x1)] [(.ref x1), (.ref x0)])) rfl rfl (hb hby d25_22)
  refine Go.step st6 ?_
  obtain ⟨T7, h7, X7, e7, W7, st7⟩ := putF X6 hx hZ hown (host := "") (Or.inl (wd hw 169 rfl)) Via.refl e6 p5_0 (r5.keep Kq5) (Or.inl (wd hw 170 rfl)) (wd hw 160 rfl) (ty := (.object "org/matchstone/engine/TimeInForce")) pf_Lorg_matchstone_engine_TimeInForce_ rfl rfl (g := (mkF m 25 #[.val (.ref x0), .val (.ref x1)] [(.ref w5), (.ref x0)])) rfl rfl (hb hby d25_25)
  refine Go.step st7 ?_
  have N7_ := Fr.snoc X7 N5_ r7
  have O7_ : Ext Z.heap h7 := extWr O5_ W7 r7
  have K7 := Keep.wr K5 W7 (Or.inl (List.mem_of_getElem? (i := 0) rfl))
  have F7 := Fld.same W7 p5_0
  refine Go.step (fun _ kt_ => XS.aloadN X7.here hx rfl (hb hby d25_28) rfl rfl kt_) ?_
  refine Go.step (fun _ kt_ => XS.aloadN X7.here hx rfl (hb hby d25_29) rfl rfl kt_) ?_
  have f8 := (Fld.other W7 (r21.keep Kq5 (ninS r20 nin0)) (Or.inl r20))
  obtain ⟨T9, X9, e9, st9⟩ := getF X7 hx hZ hown (Or.inr (wd hw 254 rfl)) Via.refl e7 f8 (g := (mkF m 30 #[.val (.ref x0), .val (.ref x1)] [(.ref x1), (.ref x0)])) rfl rfl (hb hby d25_30)
  refine Go.step st9 ?_
  obtain ⟨T10, h10, X10, e10, W10, st10⟩ := putF X9 hx hZ hown (host := "") (Or.inl (wd hw 188 rfl)) Via.refl e9 (Fld.other W7 p5_6 (Or.inr (sn_35 hw))) (Exa.wr W7 (r5.keep Kq5)) (Or.inl (wd hw 189 rfl)) (wd hw 160 rfl) (ty := (.object "java/time/LocalTime")) pf_Ljava_time_LocalTime_ rfl rfl (g := (mkF m 33 #[.val (.ref x0), .val (.ref x1)] [.null, (.ref x0)])) rfl rfl (hb hby d25_33)
  refine Go.step st10 ?_
  have N10_ := Fr.snoc X10 N7_ r7
  have O10_ : Ext Z.heap h10 := extWr O7_ W10 r7
  have K10 := Keep.wr K7 W10 (Or.inl (List.mem_of_getElem? (i := 0) rfl))
  have F10 := Fld.same W10 (Fld.other W7 p5_6 (Or.inr (sn_35 hw)))
  refine Go.step (fun _ kt_ => XS.aloadN X10.here hx rfl (hb hby d25_36) rfl rfl kt_) ?_
  refine Go.step (fun _ kt_ => XS.aloadN X10.here hx rfl (hb hby d25_37) rfl rfl kt_) ?_
  have f11 := (Fld.other W10 (Fld.other W7 (r22.keep Kq5 (ninS r20 nin0)) (Or.inl r20)) (Or.inl r20))
  obtain ⟨T12, X12, e12, st12⟩ := getF X10 hx hZ hown (Or.inr (wd hw 255 rfl)) Via.refl e10 f11 (g := (mkF m 38 #[.val (.ref x0), .val (.ref x1)] [(.ref x1), (.ref x0)])) rfl rfl (hb hby d25_38)
  refine Go.step st12 ?_
  have f13 := (Fld.other W10 (Fld.other W7 p5_1 (Or.inr (sn_20 hw))) (Or.inr (Ne.symm (sn_36 hw))))
  obtain ⟨T14, h14, X14, e14, W14, st14⟩ := putFN X12 hx hZ hown (wd hw 171 rfl) Via.refl e12 f13 (Exa.wr W10 (Exa.wr W7 (r5.keep Kq5))) (Or.inl (wd hw 172 rfl)) (wd hw 160 rfl) (ty := .boolean) (v' := (.int ((w12 &&& 1)))) pf_Z rfl (fits_nar_bool _) (g := (mkF m 41 #[.val (.ref x0), .val (.ref x1)] [(.int w12), (.ref x0)])) rfl rfl (hb hby d25_41)
  refine Go.step st14 ?_
  have N14_ := Fr.snoc X14 N10_ r7
  have O14_ : Ext Z.heap h14 := extWr O10_ W14 r7
  have K14 := Keep.wr K10 W14 (Or.inl (List.mem_of_getElem? (i := 0) rfl))
  have F14 := Fld.same W14 f13
  refine Go.step (fun _ kt_ => XS.aloadN X14.here hx rfl (hb hby d25_44) rfl rfl kt_) ?_
  refine Go.step (fun _ kt_ => XS.aloadN X14.here hx rfl (hb hby d25_45) rfl rfl kt_) ?_
  have f15 := (Fld.other W14 (Fld.other W10 (Fld.other W7 (r23.keep Kq5 (ninS r20 nin0)) (Or.inl r20)) (Or.inl r20)) (Or.inl r20))
  obtain ⟨T16, X16, e16, st16⟩ := getF X14 hx hZ hown (Or.inr (wd hw 256 rfl)) Via.refl e14 f15 (g := (mkF m 46 #[.val (.ref x0), .val (.ref x1)] [(.ref x1), (.ref x0)])) rfl rfl (hb hby d25_46)
  refine Go.step st16 ?_
  have f17 := (Exa.wr W14 (Exa.wr W10 (Exa.wr W7 (r5.keep Kq5))))
  have f18 := (Fld.other W14 (Fld.other W10 (Fld.other W7 p5_7 (Or.inr (sn_41 hw))) (Or.inr (sn_137 hw))) (Or.inr (sn_42 hw)))
  obtain ⟨T19, h19, X19, e19, W19, st19⟩ := putFN X16 hx hZ hown (wd hw 190 rfl) Via.refl e16 f18 f17 (Or.inl (wd hw 191 rfl)) (wd hw 160 rfl) (ty := .boolean) (v' := (.int ((w13 &&& 1)))) pf_Z rfl (fits_nar_bool _) (g := (mkF m 49 #[.val (.ref x0), .val (.ref x1)] [(.int w13), (.ref x0)])) rfl rfl (hb hby d25_49)
  refine Go.step st19 ?_
  have N19_ := Fr.snoc X19 N14_ r7
  have O19_ : Ext Z.heap h19 := extWr O14_ W19 r7
  have K19 := Keep.wr K14 W19 (Or.inl (List.mem_of_getElem? (i := 0) rfl))
  have F19 := Fld.same W19 f18
  refine Go.step (fun _ kt_ => XS.aloadN X19.here hx rfl (hb hby d25_52) rfl rfl kt_) ?_
  refine Go.step (fun _ kt_ => XS.aloadN X19.here hx rfl (hb hby d25_53) rfl rfl kt_) ?_
  have f20 := (Fld.other W14 (Fld.other W10 (Fld.other W7 (r24.keep Kq5 (ninS r20 nin0)) (Or.inl r20)) (Or.inl r20)) (Or.inl r20))
  obtain ⟨T21, X21, e21, st21⟩ := getF X19 hx hZ hown (Or.inr (wd hw 257 rfl)) Via.refl e19 (Fld.other W19 f20 (Or.inl r20)) (g := (mkF m 54 #[.val (.ref x0), .val (.ref x1)] [(.ref x1), (.ref x0)])) rfl rfl (hb hby d25_54)
  refine Go.step st21 ?_
  have f22 := (Fld.other W19 (Fld.other W14 (Fld.other W10 (Fld.other W7 p5_8 (Or.inr (sn_47 hw))) (Or.inr (sn_138 hw))) (Or.inr (sn_48 hw))) (Or.inr (sn_139 hw)))
  obtain ⟨T23, h23, X23, e23, W23, st23⟩ := putFN X21 hx hZ hown (wd hw 192 rfl) Via.refl e21 f22 (Exa.wr W19 f17) (Or.inl (wd hw 193 rfl)) (wd hw 160 rfl) (ty := .boolean) (v' := (.int ((w14 &&& 1)))) pf_Z rfl (fits_nar_bool _) (g := (mkF m 57 #[.val (.ref x0), .val (.ref x1)] [(.int w14), (.ref x0)])) rfl rfl (hb hby d25_57)
  refine Go.step st23 ?_
  have N23_ := Fr.snoc X23 N19_ r7
  have O23_ : Ext Z.heap h23 := extWr O19_ W23 r7
  have K23 := Keep.wr K19 W23 (Or.inl (List.mem_of_getElem? (i := 0) rfl))
  have F23 := Fld.same W23 f22
  refine Go.step (fun _ kt_ => XS.aloadN X23.here hx rfl (hb hby d25_60) rfl rfl kt_) ?_
  refine Go.step (fun _ kt_ => XS.aloadN X23.here hx rfl (hb hby d25_61) rfl rfl kt_) ?_
  have f24 := (Fld.other W14 (Fld.other W10 (Fld.other W7 (r25.keep Kq5 (ninS r20 nin0)) (Or.inl r20)) (Or.inl r20)) (Or.inl r20))
  have f25 := (Fld.other W23 (Fld.other W19 f24 (Or.inl r20)) (Or.inl r20))
  obtain ⟨T26, X26, e26, st26⟩ := getF X23 hx hZ hown (Or.inr (wd hw 258 rfl)) Via.refl e23 f25 (g := (mkF m 62 #[.val (.ref x0), .val (.ref x1)] [(.ref x1), (.ref x0)])) rfl rfl (hb hby d25_62)
  refine Go.step st26 ?_
  have f27 := (Fld.other W19 (Fld.other W14 (Fld.other W10 (Fld.other W7 p5_9 (Or.inr (sn_53 hw))) (Or.inr (sn_140 hw))) (Or.inr (sn_54 hw))) (Or.inr (sn_141 hw)))
  obtain ⟨T28, h28, X28, e28, W28, st28⟩ := putFN X26 hx hZ hown (wd hw 194 rfl) Via.refl e26 (Fld.other W23 f27 (Or.inr (sn_142 hw))) (Exa.wr W23 (Exa.wr W19 f17)) (Or.inl (wd hw 195 rfl)) (wd hw 160 rfl) (ty := .boolean) (v' := (.int ((w15 &&& 1)))) pf_Z rfl (fits_nar_bool _) (g := (mkF m 65 #[.val (.ref x0), .val (.ref x1)] [(.int w15), (.ref x0)])) rfl rfl (hb hby d25_65)
  refine Go.step st28 ?_
  have N28_ := Fr.snoc X28 N23_ r7
  have O28_ : Ext Z.heap h28 := extWr O23_ W28 r7
  have K28 := Keep.wr K23 W28 (Or.inl (List.mem_of_getElem? (i := 0) rfl))
  have F28 := Fld.same W28 (Fld.other W23 f27 (Or.inr (sn_142 hw)))
  refine Go.step (fun _ kt_ => XS.aloadN X28.here hx rfl (hb hby d25_68) rfl rfl kt_) ?_
  refine Go.step (fun _ kt_ => XS.aloadN X28.here hx rfl (hb hby d25_69) rfl rfl kt_) ?_
  have f29 := (Fld.other W14 (Fld.other W10 (Fld.other W7 (r26.keep Kq5 (ninS r20 nin0)) (Or.inl r20)) (Or.inl r20)) (Or.inl r20))
  have f30 := (Fld.other W28 (Fld.other W23 (Fld.other W19 f29 (Or.inl r20)) (Or.inl r20)) (Or.inl r20))
  obtain ⟨T31, X31, e31, st31⟩ := getF X28 hx hZ hown (Or.inr (wd hw 259 rfl)) Via.refl e28 f30 (g := (mkF m 70 #[.val (.ref x0), .val (.ref x1)] [(.ref x1), (.ref x0)])) rfl rfl (hb hby d25_70)
  refine Go.step st31 ?_
  have f32 := (Exa.wr W28 (Exa.wr W23 (Exa.wr W19 f17)))
  have f33 := (Fld.other W19 (Fld.other W14 (Fld.other W10 (Fld.other W7 p5_10 (Or.inr (sn_59 hw))) (Or.inr (sn_143 hw))) (Or.inr (sn_60 hw))) (Or.inr (sn_144 hw)))
  have f34 := (Fld.other W28 (Fld.other W23 f33 (Or.inr (sn_145 hw))) (Or.inr (sn_146 hw)))
  obtain ⟨T35, h35, X35, e35, W35, st35⟩ := putF X31 hx hZ hown (host := "") (Or.inl (wd hw 196 rfl)) Via.refl e31 f34 f32 (Or.inl (wd hw 197 rfl)) (wd hw 160 rfl) (ty := (.object "org/matchstone/engine/Peg")) pf_Lorg_matchstone_engine_Peg_ rfl rfl (g := (mkF m 73 #[.val (.ref x0), .val (.ref x1)] [.null, (.ref x0)])) rfl rfl (hb hby d25_73)
  refine Go.step st35 ?_
  have N35_ := Fr.snoc X35 N28_ r7
  have O35_ : Ext Z.heap h35 := extWr O28_ W35 r7
  have K35 := Keep.wr K28 W35 (Or.inl (List.mem_of_getElem? (i := 0) rfl))
  have F35 := Fld.same W35 f34
  refine Go.step (fun _ kt_ => XS.aloadN X35.here hx rfl (hb hby d25_76) rfl rfl kt_) ?_
  refine Go.step (fun _ kt_ => XS.aloadN X35.here hx rfl (hb hby d25_77) rfl rfl kt_) ?_
  have f36 := (Fld.other W14 (Fld.other W10 (Fld.other W7 (r27.keep Kq5 (ninS r20 nin0)) (Or.inl r20)) (Or.inl r20)) (Or.inl r20))
  have f37 := (Fld.other W35 (Fld.other W28 (Fld.other W23 (Fld.other W19 f36 (Or.inl r20)) (Or.inl r20)) (Or.inl r20)) (Or.inl r20))
  obtain ⟨T38, X38, e38, st38⟩ := getF X35 hx hZ hown (Or.inr (wd hw 260 rfl)) Via.refl e35 f37 (g := (mkF m 78 #[.val (.ref x0), .val (.ref x1)] [(.ref x1), (.ref x0)])) rfl rfl (hb hby d25_78)
  refine Go.step st38 ?_
  have f39 := (Fld.other W19 (Fld.other W14 (Fld.other W10 (Fld.other W7 p5_11 (Or.inr (sn_65 hw))) (Or.inr (sn_147 hw))) (Or.inr (sn_66 hw))) (Or.inr (sn_148 hw)))
  have f40 := (Fld.other W35 (Fld.other W28 (Fld.other W23 f39 (Or.inr (sn_149 hw))) (Or.inr (sn_150 hw))) (Or.inr (sn_151 hw)))
  obtain ⟨T41, h41, X41, e41, W41, st41⟩ := putF X38 hx hZ hown (host := "") (Or.inl (wd hw 198 rfl)) Via.refl e38 f40 (Exa.wr W35 f32) (Or.inl (wd hw 199 rfl)) (wd hw 160 rfl) (ty := (.object "org/matchstone/engine/MinQuantity")) pf_Lorg_matchstone_engine_MinQuantity_ rfl rfl (g := (mkF m 81 #[.val (.ref x0), .val (.ref x1)] [.null, (.ref x0)])) rfl rfl (hb hby d25_81)
  refine Go.step st41 ?_
  have N41_ := Fr.snoc X41 N35_ r7
  have O41_ : Ext Z.heap h41 := extWr O35_ W41 r7
  have K41 := Keep.wr K35 W41 (Or.inl (List.mem_of_getElem? (i := 0) rfl))
  have F41 := Fld.same W41 f40
  have f42 := (Fld.other W23 (Fld.other W19 (Fld.other W14 (Fld.other W10 F7 (Or.inr (Ne.symm (sn_35 hw)))) (Or.inr (Ne.symm (sn_20 hw)))) (Or.inr (Ne.symm (sn_41 hw)))) (Or.inr (Ne.symm (sn_47 hw))))
  have f43 := (Fld.other W41 (Fld.other W35 (Fld.other W28 f42 (Or.inr (Ne.symm (sn_53 hw)))) (Or.inr (Ne.symm (sn_59 hw)))) (Or.inr (Ne.symm (sn_65 hw))))
  have f44 := (Fld.other W35 (Fld.other W28 (Fld.other W23 (Fld.other W19 F14 (Or.inr (Ne.symm (sn_42 hw)))) (Or.inr (Ne.symm (sn_48 hw)))) (Or.inr (Ne.symm (sn_54 hw)))) (Or.inr (Ne.symm (sn_60 hw))))
  have f45 := (Fld.other W41 f44 (Or.inr (Ne.symm (sn_66 hw))))
  have f46 := (Fld.other W19 (Fld.other W14 (Fld.other W10 (Fld.other W7 p5_2 (Or.inr (sn_21 hw))) (Or.inr (Ne.symm (sn_37 hw)))) (Or.inr (sn_22 hw))) (Or.inr (Ne.symm (sn_43 hw))))
  have f47 := (Fld.other W41 (Fld.other W35 (Fld.other W28 (Fld.other W23 f46 (Or.inr (Ne.symm (sn_49 hw)))) (Or.inr (Ne.symm (sn_55 hw)))) (Or.inr (Ne.symm (sn_61 hw)))) (Or.inr (Ne.symm (sn_67 hw))))
  have f48 := (Fld.other W19 (Fld.other W14 (Fld.other W10 (Fld.other W7 p5_3 (Or.inr (sn_23 hw))) (Or.inr (Ne.symm (sn_38 hw)))) (Or.inr (sn_24 hw))) (Or.inr (Ne.symm (sn_44 hw))))
  have f49 := (Fld.other W41 (Fld.other W35 (Fld.other W28 (Fld.other W23 f48 (Or.inr (Ne.symm (sn_50 hw)))) (Or.inr (Ne.symm (sn_56 hw)))) (Or.inr (Ne.symm (sn_62 hw)))) (Or.inr (Ne.symm (sn_68 hw))))
  have f50 := (Fld.other W19 (Fld.other W14 (Fld.other W10 (Fld.other W7 p5_4 (Or.inr (sn_26 hw))) (Or.inr (Ne.symm (sn_39 hw)))) (Or.inr (sn_27 hw))) (Or.inr (Ne.symm (sn_45 hw))))
  have f51 := (Fld.other W41 (Fld.other W35 (Fld.other W28 (Fld.other W23 f50 (Or.inr (Ne.symm (sn_51 hw)))) (Or.inr (Ne.symm (sn_57 hw)))) (Or.inr (Ne.symm (sn_63 hw)))) (Or.inr (Ne.symm (sn_69 hw))))
  have f52 := (Fld.other W19 (Fld.other W14 (Fld.other W10 (Fld.other W7 p5_5 (Or.inr (sn_30 hw))) (Or.inr (Ne.symm (sn_40 hw)))) (Or.inr (sn_31 hw))) (Or.inr (Ne.symm (sn_46 hw))))
  have f53 := (Fld.other W41 (Fld.other W35 (Fld.other W28 (Fld.other W23 f52 (Or.inr (Ne.symm (sn_52 hw)))) (Or.inr (Ne.symm (sn_58 hw)))) (Or.inr (Ne.symm (sn_64 hw)))) (Or.inr (Ne.symm (sn_70 hw))))
  have f54 := (Fld.other W28 (Fld.other W23 (Fld.other W19 (Fld.other W14 F10 (Or.inr (sn_36 hw))) (Or.inr (Ne.symm (sn_137 hw)))) (Or.inr (Ne.symm (sn_138 hw)))) (Or.inr (Ne.symm (sn_140 hw))))
  have f55 := (Fld.other W41 (Fld.other W35 f54 (Or.inr (Ne.symm (sn_143 hw)))) (Or.inr (Ne.symm (sn_147 hw))))
  have f56 := (Fld.other W41 (Fld.other W35 (Fld.other W28 (Fld.other W23 F19 (Or.inr (Ne.symm (sn_139 hw)))) (Or.inr (Ne.symm (sn_141 hw)))) (Or.inr (Ne.symm (sn_144 hw)))) (Or.inr (Ne.symm (sn_148 hw))))
  have f57 := (Fld.other W41 (Fld.other W35 (Fld.other W28 F23 (Or.inr (Ne.symm (sn_142 hw)))) (Or.inr (Ne.symm (sn_145 hw)))) (Or.inr (Ne.symm (sn_149 hw))))
  have f58 := (Fld.other W41 (Fld.other W35 F28 (Or.inr (Ne.symm (sn_146 hw)))) (Or.inr (Ne.symm (sn_150 hw))))
  have f59 := (Fld.other W41 F35 (Or.inr (Ne.symm (sn_151 hw))))
  exact Go.retV X41 hx hret hlk (hb hby d25_84) (by decide) (by decide) (by show Q_a25_0 ..; rw [e41]; exact ⟨rfl, N41_, K41, f43, f45, f47, f49, f51, f53, f55, f56, f57, f58, f59, F41⟩)
theorem pd_LLorg_matchstone_engine_NewOrder_RV : parseMethodDescriptor "(Lorg/matchstone/engine/NewOrder;)V" = some ⟨[(.object "org/matchstone/engine/NewOrder")], none⟩ := by decide +kernel
theorem d24_8 : decode prog_22_method_5_code 8 = .ok (.astore_n 2, 1) := by decide +kernel
theorem d24_9 : decode prog_22_method_5_code 9 = .ok (.aload_n 2, 1) := by decide +kernel
theorem d24_10 : decode prog_22_method_5_code 10 = .ok (.iload_n 1, 1) := by decide +kernel
theorem d24_11 : decode prog_22_method_5_code 11 = .ok (.putfield 76, 3) := by decide +kernel
theorem d24_14 : decode prog_22_method_5_code 14 = .ok (.aload_n 2, 1) := by decide +kernel
theorem d24_15 : decode prog_22_method_5_code 15 = .ok (.invokevirtual 67, 3) := by decide +kernel
theorem d24_18 : decode prog_22_method_5_code 18 = .ok (.areturn, 1) := by decide +kernel
theorem pn_24 : plainName "org/matchstone/engine/NewOrder" = true := by first | (simp [plainName, overriddenIn]; done) | decide +kernel
def Q_a24_0 (Z : State) (w1 : Addr) (w2 : Addr) (w3 : Int64) (w4 : Addr) (h0 : Heap) (v : Option Value) (h : Heap) (L : List Loc) : Prop := ∃ (b1q5 : Addr), v = some (.ref b1q5) ∧ Fr Z.heap.size L ∧ Keep h0 h [] ∧ h0.size ≤ b1q5 ∧ Exa Z h b1q5 "org/matchstone/engine/NewOrder" ∧ fl_16 Z h b1q5 (.ref w1) ∧ fl_17 Z h b1q5 (.ref w2) ∧ fl_18 Z h b1q5 (.long w3) ∧ fl_19 Z h b1q5 (.long (100 : Int64)) ∧ fl_20 Z h b1q5 (.ref w4) ∧ fl_21 Z h b1q5 .null ∧ fl_22 Z h b1q5 (.int (0 : Int32)) ∧ fl_23 Z h b1q5 (.int (0 : Int32)) ∧ fl_24 Z h b1q5 (.int (0 : Int32)) ∧ fl_25 Z h b1q5 (.int (0 : Int32)) ∧ fl_26 Z h b1q5 .null ∧ fl_27 Z h b1q5 .null
set_option maxRecDepth 65536 in
set_option maxHeartbeats 40000000 in
theorem rm_a24_0 (l : Launch) (Z : State) (a0 : Array Value) (hw : HW Z a0) (ws : List Jvm.Cond) (x0 : Addr) (w1 : Addr) (w2 : Addr) (w3 : Int64) (w4 : Addr) (h0 : Heap) (O0 : Ext Z.heap h0) (r0 : fl_16 Z h0 x0 (.ref w1)) (r1 : fl_17 Z h0 x0 (.ref w2)) (r2 : fl_18 Z h0 x0 (.long w3)) (r3 : fl_19 Z h0 x0 (.long (100 : Int64))) (r4 : Sta Z Z.heap "org/matchstone/engine/TimeInForce" "DAY" "Lorg/matchstone/engine/TimeInForce;" (.ref w4)) (r5 : fl_20 Z h0 x0 (.ref w4)) (r6 : fl_21 Z h0 x0 .null) (r7 : fl_22 Z h0 x0 (.int (1 : Int32))) (r8 : fl_23 Z h0 x0 (.int (0 : Int32))) (r9 : fl_24 Z h0 x0 (.int (0 : Int32))) (r10 : fl_25 Z h0 x0 (.int (0 : Int32))) (r11 : fl_26 Z h0 x0 .null) (r12 : fl_27 Z h0 x0 .null) :
    Met ReturnedEndW l (⟨"org/matchstone/engine/NewOrder", "withDisplayed", "(Z)Lorg/matchstone/engine/NewOrder;"⟩ : MethodName) prog_22_method_5_code 3 (some (.object "org/matchstone/engine/NewOrder")) ws ⟨4, 8, 104, 63⟩ Z h0 #[(.ref x0), (.int (0 : Int32))] (Q_a24_0 Z w1 w2 w3 w4 h0) := by
  refine own_metW "org/matchstone/engine/NewOrder" (plainFor_of_name pn_24) rfl #[.val (.ref x0), .val (.int (0 : Int32)), .unset] (fun _ => by first | (simp [entryFrame, mkF, argsToLocals, Value.category]; done) | rfl) ?_
  intro p e s m below meth c s₁ hx hby hlk hret hml hZ hown hnm X0 e0 S0 kk0
  have N0 := Fr.nil Z.heap.size
  have wS := own_wS hw
  obtain ⟨T1, h1, X1, e1, E1, A1, D1, U1, st1⟩ := newO X0 hx hZ hown (wd hw 159 rfl) (wd hw 160 rfl) (wd hw 161 rfl) e0 (g := (mkF m 0 #[.val (.ref x0), .val (.int (0 : Int32)), .unset] [])) rfl (hb hby d24_0) (by decide) (by decide)
  obtain ⟨b1, hb1⟩ : ∃ z, z = h0.size := ⟨_, rfl⟩
  rw [← hb1] at A1 D1 U1 st1
  refine Go.step st1 ?_
  have g_b1 : Z.heap.size ≤ b1 := Nat.le_trans O0.1 (Nat.le_of_eq hb1.symm)
  have O1_ : Ext Z.heap h1 := extTr O0 E1
  have sz_b1 : h0.size ≤ b1 := Nat.le_trans (Keep.refl h0 []).1 (Nat.le_of_eq hb1.symm)
  have K1 := Keep.ext (Keep.refl h0 []) E1
  have F1_timeInForce : fl_4 Z h1 b1 .null := D1 (Or.inl (wd hw 170 rfl)) (ty := (.object "org/matchstone/engine/TimeInForce")) pf_Lorg_matchstone_engine_TimeInForce_
  have F1_displayed : fl_5 Z h1 b1 (.int (0 : Int32)) := D1 (Or.inl (wd hw 172 rfl)) (ty := .boolean) pf_Z
  have F1_id : fl_6 Z h1 b1 .null := D1 (Or.inr (wd hw 174 rfl)) (ty := (.object "java/lang/String")) pf_Ljava_lang_String_
  have F1_side : fl_7 Z h1 b1 .null := D1 (Or.inr (wd hw 176 rfl)) (ty := (.object "org/matchstone/engine/Side")) pf_Lorg_matchstone_engine_Side_
  have F1_quantity : fl_8 Z h1 b1 (.long (0 : Int64)) := D1 (Or.inr (wd hw 178 rfl)) (ty := .long) pf_J
  have F1_price : fl_9 Z h1 b1 (.long (0 : Int64)) := D1 (Or.inr (wd hw 180 rfl)) (ty := .long) pf_J
  have F1_expireTime : fl_10 Z h1 b1 .null := D1 (Or.inl (wd hw 189 rfl)) (ty := (.object "java/time/LocalTime")) pf_Ljava_time_LocalTime_
  have F1_postOnly : fl_11 Z h1 b1 (.int (0 : Int32)) := D1 (Or.inl (wd hw 191 rfl)) (ty := .boolean) pf_Z
  have F1_swap : fl_12 Z h1 b1 (.int (0 : Int32)) := D1 (Or.inl (wd hw 193 rfl)) (ty := .boolean) pf_Z
  have F1_superAggressive : fl_13 Z h1 b1 (.int (0 : Int32)) := D1 (Or.inl (wd hw 195 rfl)) (ty := .boolean) pf_Z
  have F1_peg : fl_14 Z h1 b1 .null := D1 (Or.inl (wd hw 197 rfl)) (ty := (.object "org/matchstone/engine/Peg")) pf_Lorg_matchstone_engine_Peg_
  have F1_minQuantity : fl_15 Z h1 b1 .null := D1 (Or.inl (wd hw 199 rfl)) (ty := (.object "org/matchstone/engine/MinQuantity")) pf_Lorg_matchstone_engine_MinQuantity_
  refine Go.step (fun _ kt_ => XS.dup X1.here hx rfl (hb hby d24_3) rfl rfl kt_) ?_
  refine Go.step (fun _ kt_ => XS.aloadN X1.here hx rfl (hb hby d24_4) rfl rfl kt_) ?_
  obtain ⟨_, _, ⟨T2, L2, k2, n2⟩, -, X2, ⟨Lc2, hQ2, l2, y2, z2⟩, st2⟩ := X1.specialBack hx (y := (⟨"org/matchstone/engine/NewOrder$Draft", "<init>", "(Lorg/matchstone/engine/NewOrder;)V"⟩ : MethodName)) rfl hown (mvT hZ (wd hw 245 rfl)) (mvT hZ (wd hw 246 rfl)) (mvT hZ (wd hw 247 rfl)) (by decide) (backOf (W := 1) (rm_a25_0 l Z a0 hw []  b1 x0 w1 w2 w3 (100 : Int64) w4 (0 : Int32) (0 : Int64) (0 : Int64) (0 : Int32) (0 : Int32) (0 : Int32) (1 : Int32) (0 : Int32) (0 : Int32) (0 : Int32) h1 O1_ (Fld.ext E1 r0) (Fld.ext E1 r1) (Fld.ext E1 r2) (Fld.ext E1 r3) r4 A1 F1_timeInForce g_b1 F1_displayed F1_id F1_side F1_quantity F1_price F1_expireTime F1_postOnly F1_swap F1_superAggressive F1_peg F1_minQuantity (Fld.ext E1 r5) (Nat.ne_of_lt (Nat.lt_of_lt_of_le r0.lt (Nat.le_of_eq hb1.symm))) (Fld.ext E1 r6) (Fld.ext E1 r7) (Fld.ext E1 r8) (Fld.ext E1 r9) (Fld.ext E1 r10) (Fld.ext E1 r11) (Fld.ext E1 r12)) hZ (wd hw 247 rfl) (wd hw 161 rfl) (by decide) (by decide)) (g := (mkF m 5 #[.val (.ref x0), .val (.int (0 : Int32)), .unset] [(.ref x0), (.ref b1), (.ref b1)])) rfl (by rw [hml]; rfl) (Steps.refl _) (a := b1) (argsL := [(.ref x0)]) (rest := [(.ref b1)]) (lenOf pd_LLorg_matchstone_engine_NewOrder_RV rfl) rfl (by show 2 * 0 + _ ≤ _; exact Nat.le_of_eq rfl) (hb hby d24_5) (fun _ _ => ⟨rfl, e1, (by decide : 1 + 0 ≤ _), (by decide : 12 + 0 ≤ _)⟩)
  dsimp only [Pt.U, Pt.locs, Pt.cells, Pt.slots] at X2 l2 y2 z2 st2 hQ2
  subst y2 z2
  obtain ⟨rfl, Nq2, Kq2, p2_0, p2_1, p2_2, p2_3, p2_4, p2_5, p2_6, p2_7, p2_8, p2_9, p2_10, p2_11⟩ := hQ2
  have O2_ : Ext Z.heap T2.heap := extKeep O1_ Kq2 (allS g_b1 all0)
  have K2 := Keep.trans K1 Kq2 (allS (Or.inr sz_b1) all0)
  have N2_ : Fr Z.heap.size L2 := by rw [l2]; exact Fr.app N0 Nq2
  refine Go.trans st2 ?_
  refine Go.step (fun _ kt_ => XS.astoreN X2.here hx rfl (hb hby d24_8) rfl rfl (l' := #[.val (.ref x0), .val (.int (0 : Int32)), .val (.ref b1)]) rfl kt_) ?_
  refine Go.step (fun _ kt_ => XS.aloadN X2.here hx rfl (hb hby d24_9) rfl rfl kt_) ?_
  refine Go.step (fun _ kt_ => XS.iloadN X2.here hx rfl (hb hby d24_10) rfl kt_) ?_
  obtain ⟨T3, h3, X3, e3, W3, st3⟩ := putRdy X2 hx hZ hown (wd hw 261 rfl) rfl p2_1 (A1.keep Kq2) (wd hw 172 rfl) (wd hw 160 rfl) (ty := .boolean) pf_Z rfl rfl (g := (mkF m 11 #[.val (.ref x0), .val (.int (0 : Int32)), .val (.ref b1)] [(.int (0 : Int32)), (.ref b1)])) rfl rfl (hb hby d24_11)
  refine Go.step st3 ?_
  have N3_ := Fr.snoc X3 N2_ g_b1
  have O3_ : Ext Z.heap h3 := extWr O2_ W3 g_b1
  have K3 := Keep.wr K2 W3 (Or.inr sz_b1)
  have F3 := Fld.same W3 p2_1
  refine Go.step (fun _ kt_ => XS.aloadN X3.here hx rfl (hb hby d24_14) rfl rfl kt_) ?_
  have f4 := (Fld.other W3 p2_0 (Or.inr (Ne.symm (sn_20 hw))))
  obtain ⟨cq5, kq5, q5a, q5b, q5c⟩ := isOf hZ e3 (Exa.wr W3 (A1.keep Kq2))
  obtain ⟨_, _, ⟨T5, L5, k5, n5⟩, -, X5, Sq5, gq5, ⟨Lc5, hQ5, l5, y5, z5⟩, st5⟩ := X3.virtualBackS hx (y := (⟨"org/matchstone/engine/NewOrder$Draft", "order", "()Lorg/matchstone/engine/NewOrder;"⟩ : MethodName)) (z := (⟨"org/matchstone/engine/NewOrder$Draft", "order", "()Lorg/matchstone/engine/NewOrder;"⟩ : MethodName)) hown (mvT hZ (wd hw 181 rfl)) (mvT hZ (wd hw 182 rfl)) (notFace_of_selects (args := #[]) (mvT hZ (wd hw 184 rfl))) (mvT hZ (wd hw 184 rfl)) (mvT hZ (wd hw 183 rfl)) (by decide) (backOfS (W := 0) (rm_a20_0 l Z a0 hw []  b1 w1 w2 w3 (100 : Int64) w4 (0 : Int32) (0 : Int32) (0 : Int32) (0 : Int32) h3 O3_ (Fld.other W3 p2_2 (Or.inr (sn_22 hw))) (Fld.other W3 p2_3 (Or.inr (sn_24 hw))) (Fld.other W3 p2_4 (Or.inr (sn_27 hw))) (Fld.other W3 p2_5 (Or.inr (sn_31 hw))) f4 (Fld.other W3 p2_6 (Or.inr (sn_36 hw))) F3 (Fld.other W3 p2_7 (Or.inr (sn_42 hw))) (Fld.other W3 p2_8 (Or.inr (sn_48 hw))) (Fld.other W3 p2_9 (Or.inr (sn_54 hw))) (Fld.other W3 p2_10 (Or.inr (sn_60 hw))) (Fld.other W3 p2_11 (Or.inr (sn_66 hw)))) hZ (wd hw 185 rfl) (wd hw 161 rfl) (by decide) (by decide)) q5a q5c (g := (mkF m 15 #[.val (.ref x0), .val (.int (0 : Int32)), .val (.ref b1)] [(.ref b1)])) rfl (by rw [hml]; rfl) (Steps.refl _) (argsL := []) (rest := []) (lenOf pd_LRLorg_matchstone_engine_NewOrder_ rfl) rfl (by show 2 * 0 + _ ≤ _; exact Nat.le_of_eq rfl) (hb hby d24_15) (fun _ _ => ⟨rfl, e3, (by decide : 1 + 7 ≤ _), (by decide : 12 + 92 ≤ _)⟩)
  dsimp only [Pt.U, Pt.locs, Pt.cells, Pt.slots] at X5 l5 y5 z5 st5 hQ5 Sq5 gq5
  subst y5 z5
  obtain ⟨X5, S5, hZ5, hown5⟩ := rebS S0 ((congrArg Array.size e3).symm ▸ (Nat.le_trans (Nat.le_trans (Nat.le_trans kk0 E1.1) Kq2.1) (Keep.of_wr W3).1)) X5 Sq5 gq5 hZ hown
  obtain ⟨b1q5, rfl, Nq5, Kq5, p5_0, p5_1, p5_2, p5_3, p5_4, p5_5, p5_6, p5_7, p5_8, p5_9, p5_10, p5_11, p5_12, p5_13⟩ := hQ5
  have O5_ : Ext Z.heap T5.heap := extKeep O3_ Kq5 all0
  have K5 := Keep.trans K3 Kq5 all0
  have N5_ : Fr Z.heap.size L5 := by rw [l5]; exact Fr.app N3_ Nq5
  have g_b1q5 : Z.heap.size ≤ b1q5 := Nat.le_trans O3_.1 p5_0
  have sz_b1q5 : h0.size ≤ b1q5 := Nat.le_trans K3.1 p5_0
  refine Go.trans st5 ?_
  exact Go.retAW X5 S5 (Nat.le_refl _) hx hret rfl rfl hlk (hb hby d24_18) (by decide) (by decide) ⟨b1q5, rfl, N5_, K5, sz_b1q5, p5_1, p5_2, p5_3, p5_4, p5_5, p5_6, p5_7, p5_8, p5_9, p5_10, p5_11, p5_12, p5_13⟩
theorem pd_LZRLorg_matchstone_engine_NewOrder_ : parseMethodDescriptor "(Z)Lorg/matchstone/engine/NewOrder;" = some ⟨[.boolean], some (.object "org/matchstone/engine/NewOrder")⟩ := by decide +kernel
theorem d26_0 : decode prog_7_method_1_code 0 = .ok (.aload_n 0, 1) := by decide +kernel
theorem d26_1 : decode prog_7_method_1_code 1 = .ok (.invokespecial 1, 3) := by decide +kernel
theorem d26_4 : decode prog_7_method_1_code 4 = .ok (.aload_n 0, 1) := by decide +kernel
theorem d26_5 : decode prog_7_method_1_code 5 = .ok (.aload_n 1, 1) := by decide +kernel
theorem d26_6 : decode prog_7_method_1_code 6 = .ok (.invokevirtual 7, 3) := by decide +kernel
theorem d27_0 : decode prog_22_method_14_code 0 = .ok (.aload_n 0, 1) := by decide +kernel
theorem d27_1 : decode prog_22_method_14_code 1 = .ok (.getfield 19, 3) := by decide +kernel
theorem d27_4 : decode prog_22_method_14_code 4 = .ok (.areturn, 1) := by decide +kernel
theorem pn_27 : plainName "org/matchstone/engine/NewOrder" = true := by first | (simp [plainName, overriddenIn]; done) | decide +kernel
def Q_a27_0 (Z : State) (w1 : Addr) (h0 : Heap) (v : Option Value) (h : Heap) (L : List Loc) : Prop := v = some (.ref w1) ∧ Fr Z.heap.size L ∧ h = h0
set_option maxRecDepth 65536 in
set_option maxHeartbeats 40000000 in
theorem rm_a27_0 (l : Launch) (Z : State) (a0 : Array Value) (hw : HW Z a0) (ws : List Jvm.Cond) (x0 : Addr) (w1 : Addr) (h0 : Heap) (O0 : Ext Z.heap h0) (r0 : fl_16 Z h0 x0 (.ref w1)) :
    Met FrameEnd l (⟨"org/matchstone/engine/NewOrder", "id", "()Ljava/lang/String;"⟩ : MethodName) prog_22_method_14_code 1 (some (.object "java/lang/String")) ws ⟨0, 0, 0, 0⟩ Z h0 #[(.ref x0)] (Q_a27_0 Z w1 h0) := by
  refine own_met "org/matchstone/engine/NewOrder" (plainFor_of_name pn_27) rfl #[.val (.ref x0)] (fun _ => by first | (simp [entryFrame, mkF, argsToLocals, Value.category]; done) | rfl) ?_
  intro p e s m below meth c s₁ hx hby hlk hret hml hZ hown hnm X0 e0
  have N0 := Fr.nil Z.heap.size
  refine Go.step (fun _ kt_ => XS.aloadN X0.here hx rfl (hb hby d27_0) rfl rfl kt_) ?_
  obtain ⟨T1, X1, e1, st1⟩ := getF X0 hx hZ hown (host := "") (Or.inl (wd hw 216 rfl)) Via.refl e0 r0 (g := (mkF m 1 #[.val (.ref x0)] [(.ref x0)])) rfl rfl (hb hby d27_1)
  refine Go.step st1 ?_
  exact Go.retA X1 hx hret rfl rfl hlk (hb hby d27_4) (by decide) (by decide) (by show _ ∧ _ ∧ _; rw [e1]; exact ⟨rfl, N0, rfl⟩)
theorem pd_LRLjava_lang_String_ : parseMethodDescriptor "()Ljava/lang/String;" = some ⟨[], some (.object "java/lang/String")⟩ := by decide +kernel
theorem d26_9 : decode prog_7_method_1_code 9 = .ok (.putfield 13, 3) := by decide +kernel
theorem d26_12 : decode prog_7_method_1_code 12 = .ok (.aload_n 0, 1) := by decide +kernel
theorem d26_13 : decode prog_7_method_1_code 13 = .ok (.aload_n 1, 1) := by decide +kernel
theorem d26_14 : decode prog_7_method_1_code 14 = .ok (.invokevirtual 18, 3) := by decide +kernel
theorem d28_0 : decode prog_22_method_15_code 0 = .ok (.aload_n 0, 1) := by decide +kernel
theorem d28_1 : decode prog_22_method_15_code 1 = .ok (.getfield 24, 3) := by decide +kernel
theorem d28_4 : decode prog_22_method_15_code 4 = .ok (.areturn, 1) := by decide +kernel
theorem pn_28 : plainName "org/matchstone/engine/NewOrder" = true := by first | (simp [plainName, overriddenIn]; done) | decide +kernel
def Q_a28_0 (Z : State) (w1 : Addr) (h0 : Heap) (v : Option Value) (h : Heap) (L : List Loc) : Prop := v = some (.ref w1) ∧ Fr Z.heap.size L ∧ h = h0
set_option maxRecDepth 65536 in
set_option maxHeartbeats 40000000 in
theorem rm_a28_0 (l : Launch) (Z : State) (a0 : Array Value) (hw : HW Z a0) (ws : List Jvm.Cond) (x0 : Addr) (w1 : Addr) (h0 : Heap) (O0 : Ext Z.heap h0) (r0 : fl_17 Z h0 x0 (.ref w1)) :
    Met FrameEnd l (⟨"org/matchstone/engine/NewOrder", "side", "()Lorg/matchstone/engine/Side;"⟩ : MethodName) prog_22_method_15_code 1 (some (.object "org/matchstone/engine/Side")) ws ⟨0, 0, 0, 0⟩ Z h0 #[(.ref x0)] (Q_a28_0 Z w1 h0) := by
  refine own_met "org/matchstone/engine/NewOrder" (plainFor_of_name pn_28) rfl #[.val (.ref x0)] (fun _ => by first | (simp [entryFrame, mkF, argsToLocals, Value.category]; done) | rfl) ?_
  intro p e s m below meth c s₁ hx hby hlk hret hml hZ hown hnm X0 e0
  have N0 := Fr.nil Z.heap.size
  refine Go.step (fun _ kt_ => XS.aloadN X0.here hx rfl (hb hby d28_0) rfl rfl kt_) ?_
  obtain ⟨T1, X1, e1, st1⟩ := getF X0 hx hZ hown (host := "") (Or.inl (wd hw 218 rfl)) Via.refl e0 r0 (g := (mkF m 1 #[.val (.ref x0)] [(.ref x0)])) rfl rfl (hb hby d28_1)
  refine Go.step st1 ?_
  exact Go.retA X1 hx hret rfl rfl hlk (hb hby d28_4) (by decide) (by decide) (by show _ ∧ _ ∧ _; rw [e1]; exact ⟨rfl, N0, rfl⟩)
theorem pd_LRLorg_matchstone_engine_Side_ : parseMethodDescriptor "()Lorg/matchstone/engine/Side;" = some ⟨[], some (.object "org/matchstone/engine/Side")⟩ := by decide +kernel
theorem d26_17 : decode prog_7_method_1_code 17 = .ok (.putfield 22, 3) := by decide +kernel
theorem d26_20 : decode prog_7_method_1_code 20 = .ok (.aload_n 0, 1) := by decide +kernel
theorem d26_21 : decode prog_7_method_1_code 21 = .ok (.lload_n 2, 1) := by decide +kernel
theorem d26_22 : decode prog_7_method_1_code 22 = .ok (.putfield 25, 3) := by decide +kernel
theorem d26_25 : decode prog_7_method_1_code 25 = .ok (.aload_n 0, 1) := by decide +kernel
theorem d26_26 : decode prog_7_method_1_code 26 = .ok (.aload_n 1, 1) := by decide +kernel
theorem d26_27 : decode prog_7_method_1_code 27 = .ok (.invokevirtual 29, 3) := by decide +kernel
theorem d29_0 : decode prog_22_method_17_code 0 = .ok (.aload_n 0, 1) := by decide +kernel
theorem d29_1 : decode prog_22_method_17_code 1 = .ok (.getfield 31, 3) := by decide +kernel
theorem d29_4 : decode prog_22_method_17_code 4 = .ok (.lreturn, 1) := by decide +kernel
theorem pn_29 : plainName "org/matchstone/engine/NewOrder" = true := by first | (simp [plainName, overriddenIn]; done) | decide +kernel
def Q_a29_0 (Z : State) (w1 : Int64) (h0 : Heap) (v : Option Value) (h : Heap) (L : List Loc) : Prop := v = some (.long w1) ∧ Fr Z.heap.size L ∧ h = h0
set_option maxRecDepth 65536 in
set_option maxHeartbeats 40000000 in
theorem rm_a29_0 (l : Launch) (Z : State) (a0 : Array Value) (hw : HW Z a0) (ws : List Jvm.Cond) (x0 : Addr) (w1 : Int64) (h0 : Heap) (O0 : Ext Z.heap h0) (r0 : fl_19 Z h0 x0 (.long w1)) :
    Met FrameEnd l (⟨"org/matchstone/engine/NewOrder", "price", "()J"⟩ : MethodName) prog_22_method_17_code 1 (some .long) ws ⟨0, 0, 0, 0⟩ Z h0 #[(.ref x0)] (Q_a29_0 Z w1 h0) := by
  refine own_met "org/matchstone/engine/NewOrder" (plainFor_of_name pn_29) rfl #[.val (.ref x0)] (fun _ => by first | (simp [entryFrame, mkF, argsToLocals, Value.category]; done) | rfl) ?_
  intro p e s m below meth c s₁ hx hby hlk hret hml hZ hown hnm X0 e0
  have N0 := Fr.nil Z.heap.size
  refine Go.step (fun _ kt_ => XS.aloadN X0.here hx rfl (hb hby d29_0) rfl rfl kt_) ?_
  obtain ⟨T1, X1, e1, st1⟩ := getF X0 hx hZ hown (host := "") (Or.inl (wd hw 222 rfl)) Via.refl e0 r0 (g := (mkF m 1 #[.val (.ref x0)] [(.ref x0)])) rfl rfl (hb hby d29_1)
  refine Go.step st1 ?_
  exact Go.retJ X1 hx hret hlk (hb hby d29_4) (by decide) (by decide) (by show _ ∧ _ ∧ _; rw [e1]; exact ⟨rfl, N0, rfl⟩)
theorem pd_LRJ : parseMethodDescriptor "()J" = some ⟨[], some .long⟩ := by decide +kernel
theorem d26_30 : decode prog_7_method_1_code 30 = .ok (.putfield 32, 3) := by decide +kernel
theorem d26_33 : decode prog_7_method_1_code 33 = .ok (.aload_n 0, 1) := by decide +kernel
theorem d26_34 : decode prog_7_method_1_code 34 = .ok (.aload_n 1, 1) := by decide +kernel
theorem d26_35 : decode prog_7_method_1_code 35 = .ok (.invokevirtual 35, 3) := by decide +kernel
theorem d30_0 : decode prog_22_method_24_code 0 = .ok (.aload_n 0, 1) := by decide +kernel
theorem d30_1 : decode prog_22_method_24_code 1 = .ok (.getfield 54, 3) := by decide +kernel
theorem d30_4 : decode prog_22_method_24_code 4 = .ok (.areturn, 1) := by decide +kernel
theorem pn_30 : plainName "org/matchstone/engine/NewOrder" = true := by first | (simp [plainName, overriddenIn]; done) | decide +kernel
def Q_a30_0 (Z : State)  (h0 : Heap) (v : Option Value) (h : Heap) (L : List Loc) : Prop := v = some .null ∧ Fr Z.heap.size L ∧ h = h0
set_option maxRecDepth 65536 in
set_option maxHeartbeats 40000000 in
theorem rm_a30_0 (l : Launch) (Z : State) (a0 : Array Value) (hw : HW Z a0) (ws : List Jvm.Cond) (x0 : Addr) (h0 : Heap) (O0 : Ext Z.heap h0) (r0 : fl_26 Z h0 x0 .null) :
    Met FrameEnd l (⟨"org/matchstone/engine/NewOrder", "peg", "()Lorg/matchstone/engine/Peg;"⟩ : MethodName) prog_22_method_24_code 1 (some (.object "org/matchstone/engine/Peg")) ws ⟨0, 0, 0, 0⟩ Z h0 #[(.ref x0)] (Q_a30_0 Z  h0) := by
  refine own_met "org/matchstone/engine/NewOrder" (plainFor_of_name pn_30) rfl #[.val (.ref x0)] (fun _ => by first | (simp [entryFrame, mkF, argsToLocals, Value.category]; done) | rfl) ?_
  intro p e s m below meth c s₁ hx hby hlk hret hml hZ hown hnm X0 e0
  have N0 := Fr.nil Z.heap.size
  refine Go.step (fun _ kt_ => XS.aloadN X0.here hx rfl (hb hby d30_0) rfl rfl kt_) ?_
  obtain ⟨T1, X1, e1, st1⟩ := getF X0 hx hZ hown (host := "") (Or.inl (wd hw 236 rfl)) Via.refl e0 r0 (g := (mkF m 1 #[.val (.ref x0)] [(.ref x0)])) rfl rfl (hb hby d30_1)
  refine Go.step st1 ?_
  exact Go.retA X1 hx hret rfl rfl hlk (hb hby d30_4) (by decide) (by decide) (by show _ ∧ _ ∧ _; rw [e1]; exact ⟨rfl, N0, rfl⟩)
theorem pd_LRLorg_matchstone_engine_Peg_ : parseMethodDescriptor "()Lorg/matchstone/engine/Peg;" = some ⟨[], some (.object "org/matchstone/engine/Peg")⟩ := by decide +kernel
theorem d26_38 : decode prog_7_method_1_code 38 = .ok (.putfield 39, 3) := by decide +kernel
theorem d26_41 : decode prog_7_method_1_code 41 = .ok (.aload_n 0, 1) := by decide +kernel
theorem d26_42 : decode prog_7_method_1_code 42 = .ok (.aload_n 1, 1) := by decide +kernel
theorem d26_43 : decode prog_7_method_1_code 43 = .ok (.invokevirtual 42, 3) := by decide +kernel
theorem d31_0 : decode prog_22_method_20_code 0 = .ok (.aload_n 0, 1) := by decide +kernel
theorem d31_1 : decode prog_22_method_20_code 1 = .ok (.getfield 41, 3) := by decide +kernel
theorem d31_4 : decode prog_22_method_20_code 4 = .ok (.ireturn, 1) := by decide +kernel
theorem pn_31 : plainName "org/matchstone/engine/NewOrder" = true := by first | (simp [plainName, overriddenIn]; done) | decide +kernel
def Q_a31_0 (Z : State) (w1 : Int32) (h0 : Heap) (v : Option Value) (h : Heap) (L : List Loc) : Prop := v = some (.int (w1 &&& (1 : Int32))) ∧ Fr Z.heap.size L ∧ h = h0
set_option maxRecDepth 65536 in
set_option maxHeartbeats 40000000 in
theorem rm_a31_0 (l : Launch) (Z : State) (a0 : Array Value) (hw : HW Z a0) (ws : List Jvm.Cond) (x0 : Addr) (w1 : Int32) (h0 : Heap) (O0 : Ext Z.heap h0) (r0 : fl_22 Z h0 x0 (.int w1)) :
    Met FrameEnd l (⟨"org/matchstone/engine/NewOrder", "displayed", "()Z"⟩ : MethodName) prog_22_method_20_code 1 (some .boolean) ws ⟨0, 0, 0, 0⟩ Z h0 #[(.ref x0)] (Q_a31_0 Z w1 h0) := by
  refine own_met "org/matchstone/engine/NewOrder" (plainFor_of_name pn_31) rfl #[.val (.ref x0)] (fun _ => by first | (simp [entryFrame, mkF, argsToLocals, Value.category]; done) | rfl) ?_
  intro p e s m below meth c s₁ hx hby hlk hret hml hZ hown hnm X0 e0
  have N0 := Fr.nil Z.heap.size
  refine Go.step (fun _ kt_ => XS.aloadN X0.here hx rfl (hb hby d31_0) rfl rfl kt_) ?_
  obtain ⟨T1, X1, e1, st1⟩ := getF X0 hx hZ hown (host := "") (Or.inl (wd hw 228 rfl)) Via.refl e0 r0 (g := (mkF m 1 #[.val (.ref x0)] [(.ref x0)])) rfl rfl (hb hby d31_1)
  refine Go.step st1 ?_
  exact Go.retN X1 hx (t := .boolean) hret (by simp) hlk (hb hby d31_4) (by decide) (by decide) (by show _ ∧ _ ∧ _; rw [e1]; exact ⟨rfl, N0, rfl⟩)
theorem pd_LRZ : parseMethodDescriptor "()Z" = some ⟨[], some .boolean⟩ := by decide +kernel
theorem d26_46 : decode prog_7_method_1_code 46 = .ok (.putfield 46, 3) := by decide +kernel
theorem d26_49 : decode prog_7_method_1_code 49 = .ok (.aload_n 0, 1) := by decide +kernel
theorem d26_50 : decode prog_7_method_1_code 50 = .ok (.aload_n 1, 1) := by decide +kernel
theorem d26_51 : decode prog_7_method_1_code 51 = .ok (.invokevirtual 49, 3) := by decide +kernel
theorem d32_0 : decode prog_22_method_21_code 0 = .ok (.aload_n 0, 1) := by decide +kernel
theorem d32_1 : decode prog_22_method_21_code 1 = .ok (.getfield 45, 3) := by decide +kernel
theorem d32_4 : decode prog_22_method_21_code 4 = .ok (.ireturn, 1) := by decide +kernel
theorem pn_32 : plainName "org/matchstone/engine/NewOrder" = true := by first | (simp [plainName, overriddenIn]; done) | decide +kernel
def Q_a32_0 (Z : State) (w1 : Int32) (h0 : Heap) (v : Option Value) (h : Heap) (L : List Loc) : Prop := v = some (.int (w1 &&& (1 : Int32))) ∧ Fr Z.heap.size L ∧ h = h0
set_option maxRecDepth 65536 in
set_option maxHeartbeats 40000000 in
theorem rm_a32_0 (l : Launch) (Z : State) (a0 : Array Value) (hw : HW Z a0) (ws : List Jvm.Cond) (x0 : Addr) (w1 : Int32) (h0 : Heap) (O0 : Ext Z.heap h0) (r0 : fl_23 Z h0 x0 (.int w1)) :
    Met FrameEnd l (⟨"org/matchstone/engine/NewOrder", "postOnly", "()Z"⟩ : MethodName) prog_22_method_21_code 1 (some .boolean) ws ⟨0, 0, 0, 0⟩ Z h0 #[(.ref x0)] (Q_a32_0 Z w1 h0) := by
  refine own_met "org/matchstone/engine/NewOrder" (plainFor_of_name pn_32) rfl #[.val (.ref x0)] (fun _ => by first | (simp [entryFrame, mkF, argsToLocals, Value.category]; done) | rfl) ?_
  intro p e s m below meth c s₁ hx hby hlk hret hml hZ hown hnm X0 e0
  have N0 := Fr.nil Z.heap.size
  refine Go.step (fun _ kt_ => XS.aloadN X0.here hx rfl (hb hby d32_0) rfl rfl kt_) ?_
  obtain ⟨T1, X1, e1, st1⟩ := getF X0 hx hZ hown (host := "") (Or.inl (wd hw 230 rfl)) Via.refl e0 r0 (g := (mkF m 1 #[.val (.ref x0)] [(.ref x0)])) rfl rfl (hb hby d32_1)
  refine Go.step st1 ?_
  exact Go.retN X1 hx (t := .boolean) hret (by simp) hlk (hb hby d32_4) (by decide) (by decide) (by show _ ∧ _ ∧ _; rw [e1]; exact ⟨rfl, N0, rfl⟩)
theorem d26_54 : decode prog_7_method_1_code 54 = .ok (.putfield 52, 3) := by decide +kernel
theorem d26_57 : decode prog_7_method_1_code 57 = .ok (.aload_n 0, 1) := by decide +kernel
theorem d26_58 : decode prog_7_method_1_code 58 = .ok (.aload_n 1, 1) := by decide +kernel
theorem d26_59 : decode prog_7_method_1_code 59 = .ok (.invokevirtual 54, 3) := by decide +kernel
theorem d33_0 : decode prog_22_method_22_code 0 = .ok (.aload_n 0, 1) := by decide +kernel
theorem d33_1 : decode prog_22_method_22_code 1 = .ok (.getfield 48, 3) := by decide +kernel
theorem d33_4 : decode prog_22_method_22_code 4 = .ok (.ireturn, 1) := by decide +kernel
theorem pn_33 : plainName "org/matchstone/engine/NewOrder" = true := by first | (simp [plainName, overriddenIn]; done) | decide +kernel
def Q_a33_0 (Z : State) (w1 : Int32) (h0 : Heap) (v : Option Value) (h : Heap) (L : List Loc) : Prop := v = some (.int (w1 &&& (1 : Int32))) ∧ Fr Z.heap.size L ∧ h = h0
set_option maxRecDepth 65536 in
set_option maxHeartbeats 40000000 in
theorem rm_a33_0 (l : Launch) (Z : State) (a0 : Array Value) (hw : HW Z a0) (ws : List Jvm.Cond) (x0 : Addr) (w1 : Int32) (h0 : Heap) (O0 : Ext Z.heap h0) (r0 : fl_24 Z h0 x0 (.int w1)) :
    Met FrameEnd l (⟨"org/matchstone/engine/NewOrder", "swap", "()Z"⟩ : MethodName) prog_22_method_22_code 1 (some .boolean) ws ⟨0, 0, 0, 0⟩ Z h0 #[(.ref x0)] (Q_a33_0 Z w1 h0) := by
  refine own_met "org/matchstone/engine/NewOrder" (plainFor_of_name pn_33) rfl #[.val (.ref x0)] (fun _ => by first | (simp [entryFrame, mkF, argsToLocals, Value.category]; done) | rfl) ?_
  intro p e s m below meth c s₁ hx hby hlk hret hml hZ hown hnm X0 e0
  have N0 := Fr.nil Z.heap.size
  refine Go.step (fun _ kt_ => XS.aloadN X0.here hx rfl (hb hby d33_0) rfl rfl kt_) ?_
  obtain ⟨T1, X1, e1, st1⟩ := getF X0 hx hZ hown (host := "") (Or.inl (wd hw 232 rfl)) Via.refl e0 r0 (g := (mkF m 1 #[.val (.ref x0)] [(.ref x0)])) rfl rfl (hb hby d33_1)
  refine Go.step st1 ?_
  exact Go.retN X1 hx (t := .boolean) hret (by simp) hlk (hb hby d33_4) (by decide) (by decide) (by show _ ∧ _ ∧ _; rw [e1]; exact ⟨rfl, N0, rfl⟩)
theorem d26_62 : decode prog_7_method_1_code 62 = .ok (.putfield 57, 3) := by decide +kernel
theorem d26_65 : decode prog_7_method_1_code 65 = .ok (.aload_n 0, 1) := by decide +kernel
theorem d26_66 : decode prog_7_method_1_code 66 = .ok (.aload_n 1, 1) := by decide +kernel
theorem d26_67 : decode prog_7_method_1_code 67 = .ok (.invokevirtual 59, 3) := by decide +kernel
theorem d34_0 : decode prog_22_method_23_code 0 = .ok (.aload_n 0, 1) := by decide +kernel
theorem d34_1 : decode prog_22_method_23_code 1 = .ok (.getfield 51, 3) := by decide +kernel
theorem d34_4 : decode prog_22_method_23_code 4 = .ok (.ireturn, 1) := by decide +kernel
theorem pn_34 : plainName "org/matchstone/engine/NewOrder" = true := by first | (simp [plainName, overriddenIn]; done) | decide +kernel
def Q_a34_0 (Z : State) (w1 : Int32) (h0 : Heap) (v : Option Value) (h : Heap) (L : List Loc) : Prop := v = some (.int (w1 &&& (1 : Int32))) ∧ Fr Z.heap.size L ∧ h = h0
set_option maxRecDepth 65536 in
set_option maxHeartbeats 40000000 in
theorem rm_a34_0 (l : Launch) (Z : State) (a0 : Array Value) (hw : HW Z a0) (ws : List Jvm.Cond) (x0 : Addr) (w1 : Int32) (h0 : Heap) (O0 : Ext Z.heap h0) (r0 : fl_25 Z h0 x0 (.int w1)) :
    Met FrameEnd l (⟨"org/matchstone/engine/NewOrder", "superAggressive", "()Z"⟩ : MethodName) prog_22_method_23_code 1 (some .boolean) ws ⟨0, 0, 0, 0⟩ Z h0 #[(.ref x0)] (Q_a34_0 Z w1 h0) := by
  refine own_met "org/matchstone/engine/NewOrder" (plainFor_of_name pn_34) rfl #[.val (.ref x0)] (fun _ => by first | (simp [entryFrame, mkF, argsToLocals, Value.category]; done) | rfl) ?_
  intro p e s m below meth c s₁ hx hby hlk hret hml hZ hown hnm X0 e0
  have N0 := Fr.nil Z.heap.size
  refine Go.step (fun _ kt_ => XS.aloadN X0.here hx rfl (hb hby d34_0) rfl rfl kt_) ?_
  obtain ⟨T1, X1, e1, st1⟩ := getF X0 hx hZ hown (host := "") (Or.inl (wd hw 234 rfl)) Via.refl e0 r0 (g := (mkF m 1 #[.val (.ref x0)] [(.ref x0)])) rfl rfl (hb hby d34_1)
  refine Go.step st1 ?_
  exact Go.retN X1 hx (t := .boolean) hret (by simp) hlk (hb hby d34_4) (by decide) (by decide) (by show _ ∧ _ ∧ _; rw [e1]; exact ⟨rfl, N0, rfl⟩)
theorem d26_70 : decode prog_7_method_1_code 70 = .ok (.putfield 62, 3) := by decide +kernel
theorem d26_73 : decode prog_7_method_1_code 73 = .ok (.aload_n 0, 1) := by decide +kernel
theorem d26_74 : decode prog_7_method_1_code 74 = .ok (.aload_n 1, 1) := by decide +kernel
theorem d26_75 : decode prog_7_method_1_code 75 = .ok (.invokevirtual 64, 3) := by decide +kernel
theorem d35_0 : decode prog_22_method_18_code 0 = .ok (.aload_n 0, 1) := by decide +kernel
theorem d35_1 : decode prog_22_method_18_code 1 = .ok (.getfield 34, 3) := by decide +kernel
theorem d35_4 : decode prog_22_method_18_code 4 = .ok (.areturn, 1) := by decide +kernel
theorem pn_35 : plainName "org/matchstone/engine/NewOrder" = true := by first | (simp [plainName, overriddenIn]; done) | decide +kernel
def Q_a35_0 (Z : State) (w1 : Addr) (h0 : Heap) (v : Option Value) (h : Heap) (L : List Loc) : Prop := v = some (.ref w1) ∧ Fr Z.heap.size L ∧ h = h0
set_option maxRecDepth 65536 in
set_option maxHeartbeats 40000000 in
theorem rm_a35_0 (l : Launch) (Z : State) (a0 : Array Value) (hw : HW Z a0) (ws : List Jvm.Cond) (x0 : Addr) (w1 : Addr) (h0 : Heap) (O0 : Ext Z.heap h0) (r0 : fl_20 Z h0 x0 (.ref w1)) :
    Met FrameEnd l (⟨"org/matchstone/engine/NewOrder", "timeInForce", "()Lorg/matchstone/engine/TimeInForce;"⟩ : MethodName) prog_22_method_18_code 1 (some (.object "org/matchstone/engine/TimeInForce")) ws ⟨0, 0, 0, 0⟩ Z h0 #[(.ref x0)] (Q_a35_0 Z w1 h0) := by
  refine own_met "org/matchstone/engine/NewOrder" (plainFor_of_name pn_35) rfl #[.val (.ref x0)] (fun _ => by first | (simp [entryFrame, mkF, argsToLocals, Value.category]; done) | rfl) ?_
  intro p e s m below meth c s₁ hx hby hlk hret hml hZ hown hnm X0 e0
  have N0 := Fr.nil Z.heap.size
  refine Go.step (fun _ kt_ => XS.aloadN X0.here hx rfl (hb hby d35_0) rfl rfl kt_) ?_
  obtain ⟨T1, X1, e1, st1⟩ := getF X0 hx hZ hown (host := "") (Or.inl (wd hw 224 rfl)) Via.refl e0 r0 (g := (mkF m 1 #[.val (.ref x0)] [(.ref x0)])) rfl rfl (hb hby d35_1)
  refine Go.step st1 ?_
  exact Go.retA X1 hx hret rfl rfl hlk (hb hby d35_4) (by decide) (by decide) (by show _ ∧ _ ∧ _; rw [e1]; exact ⟨rfl, N0, rfl⟩)
theorem pd_LRLorg_matchstone_engine_TimeInForce_ : parseMethodDescriptor "()Lorg/matchstone/engine/TimeInForce;" = some ⟨[], some (.object "org/matchstone/engine/TimeInForce")⟩ := by decide +kernel
theorem d26_78 : decode prog_7_method_1_code 78 = .ok (.getstatic 68, 3) := by decide +kernel
theorem d26_81 : decode prog_7_method_1_code 81 = .ok (.if_acmp .ne 7, 3) := by decide +kernel
theorem d26_88 : decode prog_7_method_1_code 88 = .ok (.iconst 0, 1) := by decide +kernel
theorem d26_89 : decode prog_7_method_1_code 89 = .ok (.putfield 74, 3) := by decide +kernel
theorem d26_92 : decode prog_7_method_1_code 92 = .ok (.aload_n 0, 1) := by decide +kernel
theorem d26_93 : decode prog_7_method_1_code 93 = .ok (.aload 4, 2) := by decide +kernel
theorem d26_95 : decode prog_7_method_1_code 95 = .ok (.putfield 77, 3) := by decide +kernel
theorem d26_98 : decode prog_7_method_1_code 98 = .ok (.aload_n 0, 1) := by decide +kernel
theorem d26_99 : decode prog_7_method_1_code 99 = .ok (.aload 5, 2) := by decide +kernel
theorem d26_101 : decode prog_7_method_1_code 101 = .ok (.putfield 81, 3) := by decide +kernel
theorem d26_104 : decode prog_7_method_1_code 104 = .ok (.aload_n 0, 1) := by decide +kernel
theorem d26_105 : decode prog_7_method_1_code 105 = .ok (.lload 6, 2) := by decide +kernel
theorem d26_107 : decode prog_7_method_1_code 107 = .ok (.putfield 84, 3) := by decide +kernel
theorem d26_110 : decode prog_7_method_1_code 110 = .ok (.aload_n 0, 1) := by decide +kernel
theorem d26_111 : decode prog_7_method_1_code 111 = .ok (.lload 6, 2) := by decide +kernel
theorem d26_113 : decode prog_7_method_1_code 113 = .ok (.putfield 87, 3) := by decide +kernel
theorem d26_116 : decode prog_7_method_1_code 116 = .ok (.aload_n 1, 1) := by decide +kernel
theorem d26_117 : decode prog_7_method_1_code 117 = .ok (.invokevirtual 90, 3) := by decide +kernel
theorem d36_0 : decode prog_22_method_25_code 0 = .ok (.aload_n 0, 1) := by decide +kernel
theorem d36_1 : decode prog_22_method_25_code 1 = .ok (.getfield 58, 3) := by decide +kernel
theorem d36_4 : decode prog_22_method_25_code 4 = .ok (.areturn, 1) := by decide +kernel
theorem pn_36 : plainName "org/matchstone/engine/NewOrder" = true := by first | (simp [plainName, overriddenIn]; done) | decide +kernel
def Q_a36_0 (Z : State)  (h0 : Heap) (v : Option Value) (h : Heap) (L : List Loc) : Prop := v = some .null ∧ Fr Z.heap.size L ∧ h = h0
set_option maxRecDepth 65536 in
set_option maxHeartbeats 40000000 in
theorem rm_a36_0 (l : Launch) (Z : State) (a0 : Array Value) (hw : HW Z a0) (ws : List Jvm.Cond) (x0 : Addr) (h0 : Heap) (O0 : Ext Z.heap h0) (r0 : fl_27 Z h0 x0 .null) :
    Met FrameEnd l (⟨"org/matchstone/engine/NewOrder", "minQuantity", "()Lorg/matchstone/engine/MinQuantity;"⟩ : MethodName) prog_22_method_25_code 1 (some (.object "org/matchstone/engine/MinQuantity")) ws ⟨0, 0, 0, 0⟩ Z h0 #[(.ref x0)] (Q_a36_0 Z  h0) := by
  refine own_met "org/matchstone/engine/NewOrder" (plainFor_of_name pn_36) rfl #[.val (.ref x0)] (fun _ => by first | (simp [entryFrame, mkF, argsToLocals, Value.category]; done) | rfl) ?_
  intro p e s m below meth c s₁ hx hby hlk hret hml hZ hown hnm X0 e0
  have N0 := Fr.nil Z.heap.size
  refine Go.step (fun _ kt_ => XS.aloadN X0.here hx rfl (hb hby d36_0) rfl rfl kt_) ?_
  obtain ⟨T1, X1, e1, st1⟩ := getF X0 hx hZ hown (host := "") (Or.inl (wd hw 238 rfl)) Via.refl e0 r0 (g := (mkF m 1 #[.val (.ref x0)] [(.ref x0)])) rfl rfl (hb hby d36_1)
  refine Go.step st1 ?_
  exact Go.retA X1 hx hret rfl rfl hlk (hb hby d36_4) (by decide) (by decide) (by show _ ∧ _ ∧ _; rw [e1]; exact ⟨rfl, N0, rfl⟩)
theorem pd_LRLorg_matchstone_engine_MinQuantity_ : parseMethodDescriptor "()Lorg/matchstone/engine/MinQuantity;" = some ⟨[], some (.object "org/matchstone/engine/MinQuantity")⟩ := by decide +kernel
theorem d26_120 : decode prog_7_method_1_code 120 = .ok (.astore 8, 2) := by decide +kernel
theorem d26_122 : decode prog_7_method_1_code 122 = .ok (.aload_n 0, 1) := by decide +kernel
theorem d26_123 : decode prog_7_method_1_code 123 = .ok (.aload 8, 2) := by decide +kernel
theorem d26_125 : decode prog_7_method_1_code 125 = .ok (.ifnonnull 7, 3) := by decide +kernel
theorem d26_128 : decode prog_7_method_1_code 128 = .ok (.lconst 0, 1) := by decide +kernel
theorem d26_129 : decode prog_7_method_1_code 129 = .ok (.goto 8, 3) := by decide +kernel
theorem d26_137 : decode prog_7_method_1_code 137 = .ok (.putfield 99, 3) := by decide +kernel
theorem d26_140 : decode prog_7_method_1_code 140 = .ok (.aload_n 0, 1) := by decide +kernel
theorem d26_141 : decode prog_7_method_1_code 141 = .ok (.aload 8, 2) := by decide +kernel
theorem d26_143 : decode prog_7_method_1_code 143 = .ok (.ifnull 15, 3) := by decide +kernel
theorem d26_158 : decode prog_7_method_1_code 158 = .ok (.iconst 0, 1) := by decide +kernel
theorem d26_159 : decode prog_7_method_1_code 159 = .ok (.putfield 104, 3) := by decide +kernel
theorem d26_162 : decode prog_7_method_1_code 162 = .ok (.aload_n 0, 1) := by decide +kernel
theorem d26_163 : decode prog_7_method_1_code 163 = .ok (.aload_n 1, 1) := by decide +kernel
theorem d26_164 : decode prog_7_method_1_code 164 = .ok (.invokevirtual 107, 3) := by decide +kernel
theorem d37_0 : decode prog_22_method_16_code 0 = .ok (.aload_n 0, 1) := by decide +kernel
theorem d37_1 : decode prog_22_method_16_code 1 = .ok (.getfield 27, 3) := by decide +kernel
theorem d37_4 : decode prog_22_method_16_code 4 = .ok (.lreturn, 1) := by decide +kernel
theorem pn_37 : plainName "org/matchstone/engine/NewOrder" = true := by first | (simp [plainName, overriddenIn]; done) | decide +kernel
def Q_a37_0 (Z : State) (w1 : Int64) (h0 : Heap) (v : Option Value) (h : Heap) (L : List Loc) : Prop := v = some (.long w1) ∧ Fr Z.heap.size L ∧ h = h0
set_option maxRecDepth 65536 in
set_option maxHeartbeats 40000000 in
theorem rm_a37_0 (l : Launch) (Z : State) (a0 : Array Value) (hw : HW Z a0) (ws : List Jvm.Cond) (x0 : Addr) (w1 : Int64) (h0 : Heap) (O0 : Ext Z.heap h0) (r0 : fl_18 Z h0 x0 (.long w1)) :
    Met FrameEnd l (⟨"org/matchstone/engine/NewOrder", "quantity", "()J"⟩ : MethodName) prog_22_method_16_code 1 (some .long) ws ⟨0, 0, 0, 0⟩ Z h0 #[(.ref x0)] (Q_a37_0 Z w1 h0) := by
  refine own_met "org/matchstone/engine/NewOrder" (plainFor_of_name pn_37) rfl #[.val (.ref x0)] (fun _ => by first | (simp [entryFrame, mkF, argsToLocals, Value.category]; done) | rfl) ?_
  intro p e s m below meth c s₁ hx hby hlk hret hml hZ hown hnm X0 e0
  have N0 := Fr.nil Z.heap.size
  refine Go.step (fun _ kt_ => XS.aloadN X0.here hx rfl (hb hby d37_0) rfl rfl kt_) ?_
  obtain ⟨T1, X1, e1, st1⟩ := getF X0 hx hZ hown (host := "") (Or.inl (wd hw 220 rfl)) Via.refl e0 r0 (g := (mkF m 1 #[.val (.ref x0)] [(.ref x0)])) rfl rfl (hb hby d37_1)
  refine Go.step st1 ?_
  exact Go.retJ X1 hx hret hlk (hb hby d37_4) (by decide) (by decide) (by show _ ∧ _ ∧ _; rw [e1]; exact ⟨rfl, N0, rfl⟩)
theorem d26_167 : decode prog_7_method_1_code 167 = .ok (.putfield 108, 3) := by decide +kernel
theorem d26_170 : decode prog_7_method_1_code 170 = .ok (.return_, 1) := by decide +kernel
theorem pn_26 : plainName "org/matchstone/engine/BookSide$Order" = true := by first | (simp [plainName, overriddenIn]; done) | decide +kernel
def Q_a26_0 (Z : State) (x0 : Addr) (x2 : Int64) (x5 : Int64) (w6 : Int32) (w21 : Int64) (h0 : Heap) (v : Option Value) (h : Heap) (L : List Loc) : Prop := v = none ∧ Fr Z.heap.size L ∧ Keep h0 h [x0] ∧ fl_28 Z h x0 (.int (((w6 &&& (1 : Int32)) &&& 1))) ∧ fl_29 Z h x0 (.long (0 : Int64)) ∧ fl_30 Z h x0 .null ∧ fl_31 Z h x0 (.long w21) ∧ fl_32 Z h x0 .null ∧ fl_33 Z h x0 (.long x2) ∧ fl_34 Z h x0 (.long x5)
set_option maxRecDepth 65536 in
set_option maxHeartbeats 40000000 in
theorem rm_a26_0 (l : Launch) (Z : State) (a0 : Array Value) (hw : HW Z a0) (ws : List Jvm.Cond) (x0 : Addr) (x1 : Addr) (x2 : Int64) (x5 : Int64) (w1 : Addr) (w2 : Addr) (w3 : Int64) (w4 : Int64) (w5 : Int64) (w6 : Int32) (w7 : Int32) (w8 : Int32) (w9 : Int32) (w10 : Int32) (w11 : Int32) (w12 : Int32) (w13 : Int32) (w14 : Addr) (w15 : Addr) (w16 : Int32) (w17 : Int64) (w18 : Int64) (w19 : Int64) (w20 : Int32) (w21 : Int64) (w22 : Int64) (h0 : Heap) (O0 : Ext Z.heap h0) (r0 : Exa Z h0 x1 "org/matchstone/engine/NewOrder") (r1 : fl_16 Z h0 x1 (.ref w1)) (r2 : Exa Z h0 x0 "org/matchstone/engine/BookSide$Order") (r3 : fl_35 Z h0 x0 .null) (r4 : Z.heap.size ≤ x0) (r5 : fl_17 Z h0 x1 (.ref w2)) (r6 : x1 ≠ x0) (r7 : fl_36 Z h0 x0 .null) (r8 : fl_33 Z h0 x0 (.long w3)) (r9 : fl_19 Z h0 x1 (.long w4)) (r10 : fl_37 Z h0 x0 (.long w5)) (r11 : fl_26 Z h0 x1 .null) (r12 : fl_38 Z h0 x0 .null) (r13 : fl_22 Z h0 x1 (.int w6)) (r14 : fl_28 Z h0 x0 (.int w7)) (r15 : fl_23 Z h0 x1 (.int w8)) (r16 : fl_39 Z h0 x0 (.int w9)) (r17 : fl_24 Z h0 x1 (.int w10)) (r18 : fl_40 Z h0 x0 (.int w11)) (r19 : fl_25 Z h0 x1 (.int w12)) (r20 : fl_41 Z h0 x0 (.int w13)) (r21 : fl_20 Z h0 x1 (.ref w14)) (r22 : Sta Z Z.heap "org/matchstone/engine/TimeInForce" "IOC" "Lorg/matchstone/engine/TimeInForce;" (.ref w15)) (r23 : w14 ≠ w15) (r24 : fl_42 Z h0 x0 (.int w16)) (r25 : fl_43 Z h0 x0 .null) (r26 : fl_44 Z h0 x0 .null) (r27 : fl_34 Z h0 x0 (.long w17)) (r28 : fl_45 Z h0 x0 (.long w18)) (r29 : fl_27 Z h0 x1 .null) (r30 : fl_29 Z h0 x0 (.long w19)) (r31 : fl_46 Z h0 x0 (.int w20)) (r32 : fl_18 Z h0 x1 (.long w21)) (r33 : fl_31 Z h0 x0 (.long w22)) (r34 : fl_30 Z h0 x0 .null) (r35 : fl_32 Z h0 x0 .null) :
    Met FrameEnd l (⟨"org/matchstone/engine/BookSide$Order", "<init>", "(Lorg/matchstone/engine/NewOrder;JLjava/time/LocalTime;Ljava/time/LocalTime;J)V"⟩ : MethodName) prog_7_method_1_code 9 none ws ⟨1, 0, 0, 13⟩ Z h0 #[(.ref x0), (.ref x1), (.long x2), .null, .null, (.long x5)] (Q_a26_0 Z x0 x2 x5 w6 w21 h0) := by
  refine own_met "org/matchstone/engine/BookSide$Order" (plainFor_of_name pn_26) rfl #[.val (.ref x0), .val (.ref x1), .val (.long x2), .second, .val .null, .val .null, .val (.long x5), .second, .unset] (fun _ => by first | (simp [entryFrame, mkF, argsToLocals, Value.category]; done) | rfl) ?_
  intro p e s m below meth c s₁ hx hby hlk hret hml hZ hown hnm X0 e0
  have N0 := Fr.nil Z.heap.size
  refine Go.step (fun _ kt_ => XS.aloadN X0.here hx rfl (hb hby d26_0) rfl rfl kt_) ?_
  obtain ⟨T1, X1, e1, st1⟩ := initO X0 hx hZ hown (wd hw 269 rfl) (wd hw 11 rfl) (wd hw 12 rfl) e0 (g := (mkF m 1 #[.val (.ref x0), .val (.ref x1), .val (.long x2), .second, .val .null, .val .null, .val (.long x5), .second, .unset] [(.ref x0)])) rfl (by rw [hml]; rfl) rfl (hb hby d26_1) (by decide) (W := 0) (by show 2 * 0 + _ ≤ _; exact Nat.le_of_eq rfl) (by decide)
  refine Go.step st1 ?_
  refine Go.step (fun _ kt_ => XS.aloadN X1.here hx rfl (hb hby d26_4) rfl rfl kt_) ?_
  refine Go.step (fun _ kt_ => XS.aloadN X1.here hx rfl (hb hby d26_5) rfl rfl kt_) ?_
  obtain ⟨cq2, kq2, q2a, q2b, q2c⟩ := isOf hZ e1 r0
  obtain ⟨_, _, ⟨T2, L2, k2, n2⟩, -, X2, ⟨Lc2, hQ2, l2, y2, z2⟩, st2⟩ := X1.virtualBack hx (y := (⟨"org/matchstone/engine/NewOrder", "id", "()Ljava/lang/String;"⟩ : MethodName)) (z := (⟨"org/matchstone/engine/NewOrder", "id", "()Ljava/lang/String;"⟩ : MethodName)) hown (mvT hZ (wd hw 270 rfl)) (mvT hZ (wd hw 271 rfl)) (notFace_of_selects (args := #[]) (mvT hZ (wd hw 273 rfl))) (mvT hZ (wd hw 273 rfl)) (mvT hZ (wd hw 272 rfl)) (by decide) (backOf (W := 1) (rm_a27_0 l Z a0 hw []  x1 w1 h0 O0 r1) hZ (wd hw 274 rfl) (wd hw 157 rfl) (by decide) (by decide)) q2a q2c (g := (mkF m 6 #[.val (.ref x0), .val (.ref x1), .val (.long x2), .second, .val .null, .val .null, .val (.long x5), .second, .unset] [(.ref x1), (.ref x0)])) rfl (by rw [hml]; rfl) (Steps.refl _) (argsL := []) (rest := [(.ref x0)]) (lenOf pd_LRLjava_lang_String_ rfl) rfl (by show 2 * 0 + _ ≤ _; exact Nat.le_of_eq rfl) (hb hby d26_6) (fun _ _ => ⟨rfl, e1, (by decide : 0 + 0 ≤ _), (by decide : 0 + 0 ≤ _)⟩)
  dsimp only [Pt.U, Pt.locs, Pt.cells, Pt.slots] at X2 l2 y2 z2 st2 hQ2
  subst y2 z2
  obtain ⟨rfl, Nq2, e2⟩ := hQ2
  have N2_ : Fr Z.heap.size L2 := by rw [l2]; exact Fr.app N0 Nq2
  refine Go.trans st2 ?_
  obtain ⟨T3, h3, X3, e3, W3, st3⟩ := putF X2 hx hZ hown (host := "") (Or.inl (wd hw 275 rfl)) Via.refl e2 r3 r2 (Or.inr ⟨(wd hw 276 rfl), rfl, hnm⟩) (wd hw 263 rfl) (ty := (.object "java/lang/String")) pf_Ljava_lang_String_ rfl rfl (g := (mkF m 9 #[.val (.ref x0), .val (.ref x1), .val (.long x2), .second, .val .null, .val .null, .val (.long x5), .second, .unset] [(.ref w1), (.ref x0)])) rfl rfl (hb hby d26_9)
  refine Go.step st3 ?_
  have N3_ := Fr.snoc X3 N2_ r4
  have O3_ : Ext Z.heap h3 := extWr O0 W3 r4
  have K3 := Keep.wr (Keep.refl h0 [x0]) W3 (Or.inl (List.mem_of_getElem? (i := 0) rfl))
  have F3 := Fld.same W3 r3
  refine Go.step (fun _ kt_ => XS.aloadN X3.here hx rfl (hb hby d26_12) rfl rfl kt_) ?_
  refine Go.step (fun _ kt_ => XS.aloadN X3.here hx rfl (hb hby d26_13) rfl rfl kt_) ?_
  obtain ⟨cq4, kq4, q4a, q4b, q4c⟩ := isOf hZ e3 (Exa.wr W3 r0)
  obtain ⟨_, _, ⟨T4, L4, k4, n4⟩, -, X4, ⟨Lc4, hQ4, l4, y4, z4⟩, st4⟩ := X3.virtualBack hx (y := (⟨"org/matchstone/engine/NewOrder", "side", "()Lorg/matchstone/engine/Side;"⟩ : MethodName)) (z := (⟨"org/matchstone/engine/NewOrder", "side", "()Lorg/matchstone/engine/Side;"⟩ : MethodName)) hown (mvT hZ (wd hw 277 rfl)) (mvT hZ (wd hw 278 rfl)) (notFace_of_selects (args := #[]) (mvT hZ (wd hw 280 rfl))) (mvT hZ (wd hw 280 rfl)) (mvT hZ (wd hw 279 rfl)) (by decide) (backOf (W := 1) (rm_a28_0 l Z a0 hw []  x1 w2 h3 O3_ (Fld.other W3 r5 (Or.inl r6))) hZ (wd hw 281 rfl) (wd hw 157 rfl) (by decide) (by decide)) q4a q4c (g := (mkF m 14 #[.val (.ref x0), .val (.ref x1), .val (.long x2), .second, .val .null, .val .null, .val (.long x5), .second, .unset] [(.ref x1), (.ref x0)])) rfl (by rw [hml]; rfl) (Steps.refl _) (argsL := []) (rest := [(.ref x0)]) (lenOf pd_LRLorg_matchstone_engine_Side_ rfl) rfl (by show 2 * 0 + _ ≤ _; exact Nat.le_of_eq rfl) (hb hby d26_14) (fun _ _ => ⟨rfl, e3, (by decide : 0 + 0 ≤ _), (by decide : 0 + 0 ≤ _)⟩)
  dsimp only [Pt.U, Pt.locs, Pt.cells, Pt.slots] at X4 l4 y4 z4 st4 hQ4
  subst y4 z4
  obtain ⟨rfl, Nq4, e4⟩ := hQ4
  have N4_ : Fr Z.heap.size L4 := by rw [l4]; exact Fr.app N3_ Nq4
  refine Go.trans st4 ?_
  obtain ⟨T5, h5, X5, e5, W5, st5⟩ := putF X4 hx hZ hown (host := "") (Or.inl (wd hw 282 rfl)) Via.refl e4 (Fld.other W3 r7 (Or.inr (sn_152 hw))) (Exa.wr W3 r2) (Or.inr ⟨(wd hw 283 rfl), rfl, hnm⟩) (wd hw 263 rfl) (ty := (.object "org/matchstone/engine/Side")) pf_Lorg_matchstone_engine_Side_ rfl rfl (g := (mkF m 17 #[.val (.ref x0), .val (.ref x1), .val (.long x2), .second, .val .null, .val .null, .val (.long x5), .second, .unset] [(.ref w2), (.ref x0)])) rfl rfl (hb hby d26_17)
  refine Go.step st5 ?_
  have N5_ := Fr.snoc X5 N4_ r4
  have O5_ : Ext Z.heap h5 := extWr O3_ W5 r4
  have K5 := Keep.wr K3 W5 (Or.inl (List.mem_of_getElem? (i := 0) rfl))
  have F5 := Fld.same W5 (Fld.other W3 r7 (Or.inr (sn_152 hw)))
  refine Go.step (fun _ kt_ => XS.aloadN X5.here hx rfl (hb hby d26_20) rfl rfl kt_) ?_
  refine Go.step (fun _ kt_ => XS.lloadN X5.here hx rfl (hb hby d26_21) rfl kt_) ?_
  have f6 := (Fld.other W5 (Fld.other W3 r8 (Or.inr (sn_153 hw))) (Or.inr (sn_154 hw)))
  obtain ⟨T7, h7, X7, e7, W7, st7⟩ := putF X5 hx hZ hown (host := "") (Or.inl (wd hw 284 rfl)) Via.refl e5 f6 (Exa.wr W5 (Exa.wr W3 r2)) (Or.inl (wd hw 285 rfl)) (wd hw 263 rfl) (ty := .long) pf_J rfl rfl (g := (mkF m 22 #[.val (.ref x0), .val (.ref x1), .val (.long x2), .second, .val .null, .val .null, .val (.long x5), .second, .unset] [(.long x2), (.ref x0)])) rfl rfl (hb hby d26_22)
  refine Go.step st7 ?_
  have N7_ := Fr.snoc X7 N5_ r4
  have O7_ : Ext Z.heap h7 := extWr O5_ W7 r4
  have K7 := Keep.wr K5 W7 (Or.inl (List.mem_of_getElem? (i := 0) rfl))
  have F7 := Fld.same W7 f6
  refine Go.step (fun _ kt_ => XS.aloadN X7.here hx rfl (hb hby d26_25) rfl rfl kt_) ?_
  refine Go.step (fun _ kt_ => XS.aloadN X7.here hx rfl (hb hby d26_26) rfl rfl kt_) ?_
  have f8 := (Fld.other W7 (Fld.other W5 (Fld.other W3 r9 (Or.inl r6)) (Or.inl r6)) (Or.inl r6))
  obtain ⟨cq9, kq9, q9a, q9b, q9c⟩ := isOf hZ e7 (Exa.wr W7 (Exa.wr W5 (Exa.wr W3 r0)))
  obtain ⟨_, _, ⟨T9, L9, k9, n9⟩, -, X9, ⟨Lc9, hQ9, l9, y9, z9⟩, st9⟩ := X7.virtualBack hx (y := (⟨"org/matchstone/engine/NewOrder", "price", "()J"⟩ : MethodName)) (z := (⟨"org/matchstone/engine/NewOrder", "price", "()J"⟩ : MethodName)) hown (mvT hZ (wd hw 286 rfl)) (mvT hZ (wd hw 287 rfl)) (notFace_of_selects (args := #[]) (mvT hZ (wd hw 289 rfl))) (mvT hZ (wd hw 289 rfl)) (mvT hZ (wd hw 288 rfl)) (by decide) (backOf (W := 1) (rm_a29_0 l Z a0 hw []  x1 w4 h7 O7_ f8) hZ (wd hw 290 rfl) (wd hw 157 rfl) (by decide) (by decide)) q9a q9c (g := (mkF m 27 #[.val (.ref x0), .val (.ref x1), .val (.long x2), .second, .val .null, .val .null, .val (.long x5), .second, .unset] [(.ref x1), (.ref x0)])) rfl (by rw [hml]; rfl) (Steps.refl _) (argsL := []) (rest := [(.ref x0)]) (lenOf pd_LRJ rfl) rfl (by show 2 * 0 + _ ≤ _; exact Nat.le_of_eq rfl) (hb hby d26_27) (fun _ _ => ⟨rfl, e7, (by decide : 0 + 0 ≤ _), (by decide : 0 + 0 ≤ _)⟩)
  dsimp only [Pt.U, Pt.locs, Pt.cells, Pt.slots] at X9 l9 y9 z9 st9 hQ9
  subst y9 z9
  obtain ⟨rfl, Nq9, e9⟩ := hQ9
  have N9_ : Fr Z.heap.size L9 := by rw [l9]; exact Fr.app N7_ Nq9
  refine Go.trans st9 ?_
  have f10 := (Fld.other W7 (Fld.other W5 (Fld.other W3 r10 (Or.inr (sn_155 hw))) (Or.inr (sn_156 hw))) (Or.inr (sn_157 hw)))
  obtain ⟨T11, h11, X11, e11, W11, st11⟩ := putF X9 hx hZ hown (host := "") (Or.inl (wd hw 291 rfl)) Via.refl e9 f10 (Exa.wr W7 (Exa.wr W5 (Exa.wr W3 r2))) (Or.inr ⟨(wd hw 292 rfl), rfl, hnm⟩) (wd hw 263 rfl) (ty := .long) pf_J rfl rfl (g := (mkF m 30 #[.val (.ref x0), .val (.ref x1), .val (.long x2), .second, .val .null, .val .null, .val (.long x5), .second, .unset] [(.long w4), (.ref x0)])) rfl rfl (hb hby d26_30)
  refine Go.step st11 ?_
  have N11_ := Fr.snoc X11 N9_ r4
  have O11_ : Ext Z.heap h11 := extWr O7_ W11 r4
  have K11 := Keep.wr K7 W11 (Or.inl (List.mem_of_getElem? (i := 0) rfl))
  have F11 := Fld.same W11 f10
  refine Go.step (fun _ kt_ => XS.aloadN X11.here hx rfl (hb hby d26_33) rfl rfl kt_) ?_
  refine Go.step (fun _ kt_ => XS.aloadN X11.here hx rfl (hb hby d26_34) rfl rfl kt_) ?_
  have f12 := (Exa.wr W11 (Exa.wr W7 (Exa.wr W5 (Exa.wr W3 r0))))
  have f13 := (Fld.other W11 (Fld.other W7 (Fld.other W5 (Fld.other W3 r11 (Or.inl r6)) (Or.inl r6)) (Or.inl r6)) (Or.inl r6))
  obtain ⟨cq14, kq14, q14a, q14b, q14c⟩ := isOf hZ e11 f12
  obtain ⟨_, _, ⟨T14, L14, k14, n14⟩, -, X14, ⟨Lc14, hQ14, l14, y14, z14⟩, st14⟩ := X11.virtualBack hx (y := (⟨"org/matchstone/engine/NewOrder", "peg", "()Lorg/matchstone/engine/Peg;"⟩ : MethodName)) (z := (⟨"org/matchstone/engine/NewOrder", "peg", "()Lorg/matchstone/engine/Peg;"⟩ : MethodName)) hown (mvT hZ (wd hw 293 rfl)) (mvT hZ (wd hw 294 rfl)) (notFace_of_selects (args := #[]) (mvT hZ (wd hw 296 rfl))) (mvT hZ (wd hw 296 rfl)) (mvT hZ (wd hw 295 rfl)) (by decide) (backOf (W := 1) (rm_a30_0 l Z a0 hw []  x1 h11 O11_ f13) hZ (wd hw 297 rfl) (wd hw 157 rfl) (by decide) (by decide)) q14a q14c (g := (mkF m 35 #[.val (.ref x0), .val (.ref x1), .val (.long x2), .second, .val .null, .val .null, .val (.long x5), .second, .unset] [(.ref x1), (.ref x0)])) rfl (by rw [hml]; rfl) (Steps.refl _) (argsL := []) (rest := [(.ref x0)]) (lenOf pd_LRLorg_matchstone_engine_Peg_ rfl) rfl (by show 2 * 0 + _ ≤ _; exact Nat.le_of_eq rfl) (hb hby d26_35) (fun _ _ => ⟨rfl, e11, (by decide : 0 + 0 ≤ _), (by decide : 0 + 0 ≤ _)⟩)
  dsimp only [Pt.U, Pt.locs, Pt.cells, Pt.slots] at X14 l14 y14 z14 st14 hQ14
  subst y14 z14
  obtain ⟨rfl, Nq14, e14⟩ := hQ14
  have N14_ : Fr Z.heap.size L14 := by rw [l14]; exact Fr.app N11_ Nq14
  refine Go.trans st14 ?_
  have f15 := (Exa.wr W11 (Exa.wr W7 (Exa.wr W5 (Exa.wr W3 r2))))
  have f16 := (Fld.other W11 (Fld.other W7 (Fld.other W5 (Fld.other W3 r12 (Or.inr (sn_158 hw))) (Or.inr (sn_159 hw))) (Or.inr (sn_160 hw))) (Or.inr (sn_161 hw)))
  obtain ⟨T17, h17, X17, e17, W17, st17⟩ := putF X14 hx hZ hown (host := "") (Or.inl (wd hw 298 rfl)) Via.refl e14 f16 f15 (Or.inr ⟨(wd hw 299 rfl), rfl, hnm⟩) (wd hw 263 rfl) (ty := (.object "org/matchstone/engine/Peg")) pf_Lorg_matchstone_engine_Peg_ rfl rfl (g := (mkF m 38 #[.val (.ref x0), .val (.ref x1), .val (.long x2), .second, .val .null, .val .null, .val (.long x5), .second, .unset] [.null, (.ref x0)])) rfl rfl (hb hby d26_38)
  refine Go.step st17 ?_
  have N17_ := Fr.snoc X17 N14_ r4
  have O17_ : Ext Z.heap h17 := extWr O11_ W17 r4
  have K17 := Keep.wr K11 W17 (Or.inl (List.mem_of_getElem? (i := 0) rfl))
  have F17 := Fld.same W17 f16
  refine Go.step (fun _ kt_ => XS.aloadN X17.here hx rfl (hb hby d26_41) rfl rfl kt_) ?_
  refine Go.step (fun _ kt_ => XS.aloadN X17.here hx rfl (hb hby d26_42) rfl rfl kt_) ?_
  have f18 := (Fld.other W11 (Fld.other W7 (Fld.other W5 (Fld.other W3 r13 (Or.inl r6)) (Or.inl r6)) (Or.inl r6)) (Or.inl r6))
  obtain ⟨cq19, kq19, q19a, q19b, q19c⟩ := isOf hZ e17 (Exa.wr W17 f12)
  obtain ⟨_, _, ⟨T19, L19, k19, n19⟩, -, X19, ⟨Lc19, hQ19, l19, y19, z19⟩, st19⟩ := X17.virtualBack hx (y := (⟨"org/matchstone/engine/NewOrder", "displayed", "()Z"⟩ : MethodName)) (z := (⟨"org/matchstone/engine/NewOrder", "displayed", "()Z"⟩ : MethodName)) hown (mvT hZ (wd hw 300 rfl)) (mvT hZ (wd hw 301 rfl)) (notFace_of_selects (args := #[]) (mvT hZ (wd hw 303 rfl))) (mvT hZ (wd hw 303 rfl)) (mvT hZ (wd hw 302 rfl)) (by decide) (backOf (W := 1) (rm_a31_0 l Z a0 hw []  x1 w6 h17 O17_ (Fld.other W17 f18 (Or.inl r6))) hZ (wd hw 304 rfl) (wd hw 157 rfl) (by decide) (by decide)) q19a q19c (g := (mkF m 43 #[.val (.ref x0), .val (.ref x1), .val (.long x2), .second, .val .null, .val .null, .val (.long x5), .second, .unset] [(.ref x1), (.ref x0)])) rfl (by rw [hml]; rfl) (Steps.refl _) (argsL := []) (rest := [(.ref x0)]) (lenOf pd_LRZ rfl) rfl (by show 2 * 0 + _ ≤ _; exact Nat.le_of_eq rfl) (hb hby d26_43) (fun _ _ => ⟨rfl, e17, (by decide : 0 + 0 ≤ _), (by decide : 0 + 0 ≤ _)⟩)
  dsimp only [Pt.U, Pt.locs, Pt.cells, Pt.slots] at X19 l19 y19 z19 st19 hQ19
  subst y19 z19
  obtain ⟨rfl, Nq19, e19⟩ := hQ19
  have N19_ : Fr Z.heap.size L19 := by rw [l19]; exact Fr.app N17_ Nq19
  refine Go.trans st19 ?_
  have f20 := (Fld.other W11 (Fld.other W7 (Fld.other W5 (Fld.other W3 r14 (Or.inr (sn_162 hw))) (Or.inr (sn_163 hw))) (Or.inr (sn_164 hw))) (Or.inr (sn_165 hw)))
  obtain ⟨T21, h21, X21, e21, W21, st21⟩ := putFN X19 hx hZ hown (wd hw 305 rfl) Via.refl e19 (Fld.other W17 f20 (Or.inr (sn_166 hw))) (Exa.wr W17 f15) (Or.inr ⟨(wd hw 306 rfl), rfl, hnm⟩) (wd hw 263 rfl) (ty := .boolean) (v' := (.int (((w6 &&& (1 : Int32)) &&& 1)))) pf_Z rfl (fits_nar_bool _) (g := (mkF m 46 #[.val (.ref x0), .val (.ref x1), .val (.long x2), .second, .val .null, .val .null, .val (.long x5), .second, .unset] [(.int (w6 &&& (1 : Int32))), (.ref x0)])) rfl rfl (hb hby d26_46)
  refine Go.step st21 ?_
  have N21_ := Fr.snoc X21 N19_ r4
  have O21_ : Ext Z.heap h21 := extWr O17_ W21 r4
  have K21 := Keep.wr K17 W21 (Or.inl (List.mem_of_getElem? (i := 0) rfl))
  have F21 := Fld.same W21 (Fld.other W17 f20 (Or.inr (sn_166 hw)))
  refine Go.step (fun _ kt_ => XS.aloadN X21.here hx rfl (hb hby d26_49) rfl rfl kt_) ?_
  refine Go.step (fun _ kt_ => XS.aloadN X21.here hx rfl (hb hby d26_50) rfl rfl kt_) ?_
  have f22 := (Fld.other W11 (Fld.other W7 (Fld.other W5 (Fld.other W3 r15 (Or.inl r6)) (Or.inl r6)) (Or.inl r6)) (Or.inl r6))
  have f23 := (Fld.other W21 (Fld.other W17 f22 (Or.inl r6)) (Or.inl r6))
  obtain ⟨cq24, kq24, q24a, q24b, q24c⟩ := isOf hZ e21 (Exa.wr W21 (Exa.wr W17 f12))
  obtain ⟨_, _, ⟨T24, L24, k24, n24⟩, -, X24, ⟨Lc24, hQ24, l24, y24, z24⟩, st24⟩ := X21.virtualBack hx (y := (⟨"org/matchstone/engine/NewOrder", "postOnly", "()Z"⟩ : MethodName)) (z := (⟨"org/matchstone/engine/NewOrder", "postOnly", "()Z"⟩ : MethodName)) hown (mvT hZ (wd hw 307 rfl)) (mvT hZ (wd hw 308 rfl)) (notFace_of_selects (args := #[]) (mvT hZ (wd hw 310 rfl))) (mvT hZ (wd hw 310 rfl)) (mvT hZ (wd hw 309 rfl)) (by decide) (backOf (W := 1) (rm_a32_0 l Z a0 hw []  x1 w8 h21 O21_ f23) hZ (wd hw 311 rfl) (wd hw 157 rfl) (by decide) (by decide)) q24a q24c (g := (mkF m 51 #[.val (.ref x0), .val (.ref x1), .val (.long x2), .second, .val .null, .val .null, .val (.long x5), .second, .unset] [(.ref x1), (.ref x0)])) rfl (by rw [hml]; rfl) (Steps.refl _) (argsL := []) (rest := [(.ref x0)]) (lenOf pd_LRZ rfl) rfl (by show 2 * 0 + _ ≤ _; exact Nat.le_of_eq rfl) (hb hby d26_51) (fun _ _ => ⟨rfl, e21, (by decide : 0 + 0 ≤ _), (by decide : 0 + 0 ≤ _)⟩)
  dsimp only [Pt.U, Pt.locs, Pt.cells, Pt.slots] at X24 l24 y24 z24 st24 hQ24
  subst y24 z24
  obtain ⟨rfl, Nq24, e24⟩ := hQ24
  have N24_ : Fr Z.heap.size L24 := by rw [l24]; exact Fr.app N21_ Nq24
  refine Go.trans st24 ?_
  have f25 := (Fld.other W11 (Fld.other W7 (Fld.other W5 (Fld.other W3 r16 (Or.inr (sn_167 hw))) (Or.inr (sn_168 hw))) (Or.inr (sn_169 hw))) (Or.inr (sn_170 hw)))
  have f26 := (Fld.other W21 (Fld.other W17 f25 (Or.inr (sn_171 hw))) (Or.inr (sn_172 hw)))
  obtain ⟨T27, h27, X27, e27, W27, st27⟩ := putFN X24 hx hZ hown (wd hw 312 rfl) Via.refl e24 f26 (Exa.wr W21 (Exa.wr W17 f15)) (Or.inr ⟨(wd hw 313 rfl), rfl, hnm⟩) (wd hw 263 rfl) (ty := .boolean) (v' := (.int (((w8 &&& (1 : Int32)) &&& 1)))) pf_Z rfl (fits_nar_bool _) (g := (mkF m 54 #[.val (.ref x0), .val (.ref x1), .val (.long x2), .second, .val .null, .val .null, .val (.long x5), .second, .unset] [(.int (w8 &&& (1 : Int32))), (.ref x0)])) rfl rfl (hb hby d26_54)
  refine Go.step st27 ?_
  have N27_ := Fr.snoc X27 N24_ r4
  have O27_ : Ext Z.heap h27 := extWr O21_ W27 r4
  have K27 := Keep.wr K21 W27 (Or.inl (List.mem_of_getElem? (i := 0) rfl))
  have F27 := Fld.same W27 f26
  refine Go.step (fun _ kt_ => XS.aloadN X27.here hx rfl (hb hby d26_57) rfl rfl kt_) ?_
  refine Go.step (fun _ kt_ => XS.aloadN X27.here hx rfl (hb hby d26_58) rfl rfl kt_) ?_
  have f28 := (Exa.wr W27 (Exa.wr W21 (Exa.wr W17 f12)))
  have f29 := (Fld.other W11 (Fld.other W7 (Fld.other W5 (Fld.other W3 r17 (Or.inl r6)) (Or.inl r6)) (Or.inl r6)) (Or.inl r6))
  have f30 := (Fld.other W27 (Fld.other W21 (Fld.other W17 f29 (Or.inl r6)) (Or.inl r6)) (Or.inl r6))
  obtain ⟨cq31, kq31, q31a, q31b, q31c⟩ := isOf hZ e27 f28
  obtain ⟨_, _, ⟨T31, L31, k31, n31⟩, -, X31, ⟨Lc31, hQ31, l31, y31, z31⟩, st31⟩ := X27.virtualBack hx (y := (⟨"org/matchstone/engine/NewOrder", "swap", "()Z"⟩ : MethodName)) (z := (⟨"org/matchstone/engine/NewOrder", "swap", "()Z"⟩ : MethodName)) hown (mvT hZ (wd hw 314 rfl)) (mvT hZ (wd hw 315 rfl)) (notFace_of_selects (args := #[]) (mvT hZ (wd hw 317 rfl))) (mvT hZ (wd hw 317 rfl)) (mvT hZ (wd hw 316 rfl)) (by decide) (backOf (W := 1) (rm_a33_0 l Z a0 hw []  x1 w10 h27 O27_ f30) hZ (wd hw 318 rfl) (wd hw 157 rfl) (by decide) (by decide)) q31a q31c (g := (mkF m 59 #[.val (.ref x0), .val (.ref x1), .val (.long x2), .second, .val .null, .val .null, .val (.long x5), .second, .unset] [(.ref x1), (.ref x0)])) rfl (by rw [hml]; rfl) (Steps.refl _) (argsL := []) (rest := [(.ref x0)]) (lenOf pd_LRZ rfl) rfl (by show 2 * 0 + _ ≤ _; exact Nat.le_of_eq rfl) (hb hby d26_59) (fun _ _ => ⟨rfl, e27, (by decide : 0 + 0 ≤ _), (by decide : 0 + 0 ≤ _)⟩)
  dsimp only [Pt.U, Pt.locs, Pt.cells, Pt.slots] at X31 l31 y31 z31 st31 hQ31
  subst y31 z31
  obtain ⟨rfl, Nq31, e31⟩ := hQ31
  have N31_ : Fr Z.heap.size L31 := by rw [l31]; exact Fr.app N27_ Nq31
  refine Go.trans st31 ?_
  have f32 := (Exa.wr W27 (Exa.wr W21 (Exa.wr W17 f15)))
  have f33 := (Fld.other W11 (Fld.other W7 (Fld.other W5 (Fld.other W3 r18 (Or.inr (sn_173 hw))) (Or.inr (sn_174 hw))) (Or.inr (sn_175 hw))) (Or.inr (sn_176 hw)))
  have f34 := (Fld.other W27 (Fld.other W21 (Fld.other W17 f33 (Or.inr (sn_177 hw))) (Or.inr (sn_178 hw))) (Or.inr (sn_179 hw)))
  obtain ⟨T35, h35, X35, e35, W35, st35⟩ := putFN X31 hx hZ hown (wd hw 319 rfl) Via.refl e31 f34 f32 (Or.inr ⟨(wd hw 320 rfl), rfl, hnm⟩) (wd hw 263 rfl) (ty := .boolean) (v' := (.int (((w10 &&& (1 : Int32)) &&& 1)))) pf_Z rfl (fits_nar_bool _) (g := (mkF m 62 #[.val (.ref x0), .val (.ref x1), .val (.long x2), .second, .val .null, .val .null, .val (.long x5), .second, .unset] [(.int (w10 &&& (1 : Int32))), (.ref x0)])) rfl rfl (hb hby d26_62)
  refine Go.step st35 ?_
  have N35_ := Fr.snoc X35 N31_ r4
  have O35_ : Ext Z.heap h35 := extWr O27_ W35 r4
  have K35 := Keep.wr K27 W35 (Or.inl (List.mem_of_getElem? (i := 0) rfl))
  have F35 := Fld.same W35 f34
  refine Go.step (fun _ kt_ => XS.aloadN X35.here hx rfl (hb hby d26_65) rfl rfl kt_) ?_
  refine Go.step (fun _ kt_ => XS.aloadN X35.here hx rfl (hb hby d26_66) rfl rfl kt_) ?_
  have f36 := (Fld.other W11 (Fld.other W7 (Fld.other W5 (Fld.other W3 r19 (Or.inl r6)) (Or.inl r6)) (Or.inl r6)) (Or.inl r6))
  have f37 := (Fld.other W35 (Fld.other W27 (Fld.other W21 (Fld.other W17 f36 (Or.inl r6)) (Or.inl r6)) (Or.inl r6)) (Or.inl r6))
  obtain ⟨cq38, kq38, q38a, q38b, q38c⟩ := isOf hZ e35 (Exa.wr W35 f28)
  obtain ⟨_, _, ⟨T38, L38, k38, n38⟩, -, X38, ⟨Lc38, hQ38, l38, y38, z38⟩, st38⟩ := X35.virtualBack hx (y := (⟨"org/matchstone/engine/NewOrder", "superAggressive", "()Z"⟩ : MethodName)) (z := (⟨"org/matchstone/engine/NewOrder", "superAggressive", "()Z"⟩ : MethodName)) hown (mvT hZ (wd hw 321 rfl)) (mvT hZ (wd hw 322 rfl)) (notFace_of_selects (args := #[]) (mvT hZ (wd hw 324 rfl))) (mvT hZ (wd hw 324 rfl)) (mvT hZ (wd hw 323 rfl)) (by decide) (backOf (W := 1) (rm_a34_0 l Z a0 hw []  x1 w12 h35 O35_ f37) hZ (wd hw 325 rfl) (wd hw 157 rfl) (by decide) (by decide)) q38a q38c (g := (mkF m 67 #[.val (.ref x0), .val (.ref x1), .val (.long x2), .second, .val .null, .val .null, .val (.long x5), .second, .unset] [(.ref x1), (.ref x0)])) rfl (by rw [hml]; rfl) (Steps.refl _) (argsL := []) (rest := [(.ref x0)]) (lenOf pd_LRZ rfl) rfl (by show 2 * 0 + _ ≤ _; exact Nat.le_of_eq rfl) (hb hby d26_67) (fun _ _ => ⟨rfl, e35, (by decide : 0 + 0 ≤ _), (by decide : 0 + 0 ≤ _)⟩)
  dsimp only [Pt.U, Pt.locs, Pt.cells, Pt.slots] at X38 l38 y38 z38 st38 hQ38
  subst y38 z38
  obtain ⟨rfl, Nq38, e38⟩ := hQ38
  have N38_ : Fr Z.heap.size L38 := by rw [l38]; exact Fr.app N35_ Nq38
  refine Go.trans st38 ?_
  have f39 := (Fld.other W11 (Fld.other W7 (Fld.other W5 (Fld.other W3 r20 (Or.inr (sn_180 hw))) (Or.inr (sn_181 hw))) (Or.inr (sn_182 hw))) (Or.inr (sn_183 hw)))
  have f40 := (Fld.other W35 (Fld.other W27 (Fld.other W21 (Fld.other W17 f39 (Or.inr (sn_184 hw))) (Or.inr (sn_185 hw))) (Or.inr (sn_186 hw))) (Or.inr (sn_187 hw)))
  obtain ⟨T41, h41, X41, e41, W41, st41⟩ := putFN X38 hx hZ hown (wd hw 326 rfl) Via.refl e38 f40 (Exa.wr W35 f32) (Or.inr ⟨(wd hw 327 rfl), rfl, hnm⟩) (wd hw 263 rfl) (ty := .boolean) (v' := (.int (((w12 &&& (1 : Int32)) &&& 1)))) pf_Z rfl (fits_nar_bool _) (g := (mkF m 70 #[.val (.ref x0), .val (.ref x1), .val (.long x2), .second, .val .null, .val .null, .val (.long x5), .second, .unset] [(.int (w12 &&& (1 : Int32))), (.ref x0)])) rfl rfl (hb hby d26_70)
  refine Go.step st41 ?_
  have N41_ := Fr.snoc X41 N38_ r4
  have O41_ : Ext Z.heap h41 := extWr O35_ W41 r4
  have K41 := Keep.wr K35 W41 (Or.inl (List.mem_of_getElem? (i := 0) rfl))
  have F41 := Fld.same W41 f40
  refine Go.step (fun _ kt_ => XS.aloadN X41.here hx rfl (hb hby d26_73) rfl rfl kt_) ?_
  refine Go.step (fun _ kt_ => XS.aloadN X41.here hx rfl (hb hby d26_74) rfl rfl kt_) ?_
  have f42 := (Fld.other W11 (Fld.other W7 (Fld.other W5 (Fld.other W3 r21 (Or.inl r6)) (Or.inl r6)) (Or.inl r6)) (Or.inl r6))
  have f43 := (Fld.other W35 (Fld.other W27 (Fld.other W21 (Fld.other W17 f42 (Or.inl r6)) (Or.inl r6)) (Or.inl r6)) (Or.inl r6))
  obtain ⟨cq44, kq44, q44a, q44b, q44c⟩ := isOf hZ e41 (Exa.wr W41 (Exa.wr W35 f28))
  obtain ⟨_, _, ⟨T44, L44, k44, n44⟩, -, X44, ⟨Lc44, hQ44, l44, y44, z44⟩, st44⟩ := X41.virtualBack hx (y := (⟨"org/matchstone/engine/NewOrder", "timeInForce", "()Lorg/matchstone/engine/TimeInForce;"⟩ : MethodName)) (z := (⟨"org/matchstone/engine/NewOrder", "timeInForce", "()Lorg/matchstone/engine/TimeInForce;"⟩ : MethodName)) hown (mvT hZ (wd hw 328 rfl)) (mvT hZ (wd hw 329 rfl)) (notFace_of_selects (args := #[]) (mvT hZ (wd hw 331 rfl))) (mvT hZ (wd hw 331 rfl)) (mvT hZ (wd hw 330 rfl)) (by decide) (backOf (W := 1) (rm_a35_0 l Z a0 hw []  x1 w14 h41 O41_ (Fld.other W41 f43 (Or.inl r6))) hZ (wd hw 332 rfl) (wd hw 157 rfl) (by decide) (by decide)) q44a q44c (g := (mkF m 75 #[.val (.ref x0), .val (.ref x1), .val (.long x2), .second, .val .null, .val .null, .val (.long x5), .second, .unset] [(.ref x1), (.ref x0)])) rfl (by rw [hml]; rfl) (Steps.refl _) (argsL := []) (rest := [(.ref x0)]) (lenOf pd_LRLorg_matchstone_engine_TimeInForce_ rfl) rfl (by show 2 * 0 + _ ≤ _; exact Nat.le_of_eq rfl) (hb hby d26_75) (fun _ _ => ⟨rfl, e41, (by decide : 0 + 0 ≤ _), (by decide : 0 + 0 ≤ _)⟩)
  dsimp only [Pt.U, Pt.locs, Pt.cells, Pt.slots] at X44 l44 y44 z44 st44 hQ44
  subst y44 z44
  obtain ⟨rfl, Nq44, e44⟩ := hQ44
  have N44_ : Fr Z.heap.size L44 := by rw [l44]; exact Fr.app N41_ Nq44
  refine Go.trans st44 ?_
  obtain ⟨T45, X45, e45, st45⟩ := getS2 X44 hx hZ hown (host := "") (Or.inl (wd hw 333 rfl)) Via.refl e44 (Sta.ext O41_ r22) (g := (mkF m 78 #[.val (.ref x0), .val (.ref x1), .val (.long x2), .second, .val .null, .val .null, .val (.long x5), .second, .unset] [(.ref w14), (.ref x0)])) rfl (hb hby d26_78)
  refine Go.step st45 ?_
  refine Go.step (fun _ kt_ => Jvm.RoadKit.acmp (g := (mkF m 81 #[.val (.ref x0), .val (.ref x1), .val (.long x2), .second, .val .null, .val .null, .val (.long x5), .second, .unset] [(.ref w15), (.ref w14), (.ref x0)])) X45 hx rfl rfl rfl (pc0 := 81) (pc' := 88) (same := false) rfl (hb hby d26_81) rfl (decide_eq_false fun q => r23 (Value.ref.inj q)) (by decide) (by decide) kt_) ?_
  show Go _ _ _ _ _ _ _ _ T45 (mkF m 88 #[.val (.ref x0), .val (.ref x1), .val (.long x2), .second, .val .null, .val .null, .val (.long x5), .second, .unset] [(.ref x0)])
  refine Go.step (fun _ kt_ => XS.iconst X45.here hx rfl (hb hby d26_88)  kt_) ?_
  have f46 := (Fld.other W11 (Fld.other W7 (Fld.other W5 (Fld.other W3 r24 (Or.inr (sn_188 hw))) (Or.inr (sn_189 hw))) (Or.inr (sn_190 hw))) (Or.inr (sn_191 hw)))
  have f47 := (Fld.other W35 (Fld.other W27 (Fld.other W21 (Fld.other W17 f46 (Or.inr (sn_192 hw))) (Or.inr (sn_193 hw))) (Or.inr (sn_194 hw))) (Or.inr (sn_195 hw)))
  obtain ⟨T48, h48, X48, e48, W48, st48⟩ := putFN X45 hx hZ hown (wd hw 335 rfl) Via.refl e45 (Fld.other W41 f47 (Or.inr (sn_196 hw))) (Exa.wr W41 (Exa.wr W35 f32)) (Or.inr ⟨(wd hw 336 rfl), rfl, hnm⟩) (wd hw 263 rfl) (ty := .boolean) (v' := (.int (0 : Int32))) pf_Z rfl rfl (g := (mkF m 89 #[.val (.ref x0), .val (.ref x1), .val (.long x2), .second, .val .null, .val .null, .val (.long x5), .second, .unset] [(.int (0 : Int32)), (.ref x0)])) rfl rfl (hb hby d26_89)
  refine Go.step st48 ?_
  have N48_ := Fr.snoc X48 N44_ r4
  have O48_ : Ext Z.heap h48 := extWr O41_ W48 r4
  have K48 := Keep.wr K41 W48 (Or.inl (List.mem_of_getElem? (i := 0) rfl))
  have F48 := Fld.same W48 (Fld.other W41 f47 (Or.inr (sn_196 hw)))
  refine Go.step (fun _ kt_ => XS.aloadN X48.here hx rfl (hb hby d26_92) rfl rfl kt_) ?_
  refine Go.step (fun _ kt_ => XS.aload X48.here hx rfl (hb hby d26_93) rfl rfl kt_) ?_
  have f49 := (Exa.wr W48 (Exa.wr W41 (Exa.wr W35 f32)))
  have f50 := (Fld.other W11 (Fld.other W7 (Fld.other W5 (Fld.other W3 r25 (Or.inr (sn_197 hw))) (Or.inr (sn_198 hw))) (Or.inr (sn_199 hw))) (Or.inr (sn_200 hw)))
  have f51 := (Fld.other W35 (Fld.other W27 (Fld.other W21 (Fld.other W17 f50 (Or.inr (sn_201 hw))) (Or.inr (sn_202 hw))) (Or.inr (sn_203 hw))) (Or.inr (sn_204 hw)))
  have f52 := (Fld.other W48 (Fld.other W41 f51 (Or.inr (sn_205 hw))) (Or.inr (sn_206 hw)))
  obtain ⟨T53, h53, X53, e53, W53, st53⟩ := putF X48 hx hZ hown (host := "") (Or.inl (wd hw 337 rfl)) Via.refl e48 f52 f49 (Or.inr ⟨(wd hw 338 rfl), rfl, hnm⟩) (wd hw 263 rfl) (ty := (.object "java/time/LocalTime")) pf_Ljava_time_LocalTime_ rfl rfl (g := (mkF m 95 #[.val (.ref x0), .val (.ref x1), .val (.long x2), .second, .val .null, .val .null, .val (.long x5), .second, .unset] [.null, (.ref x0)])) rfl rfl (hb hby d26_95)
  refine Go.step st53 ?_
  have N53_ := Fr.snoc X53 N48_ r4
  have O53_ : Ext Z.heap h53 := extWr O48_ W53 r4
  have K53 := Keep.wr K48 W53 (Or.inl (List.mem_of_getElem? (i := 0) rfl))
  have F53 := Fld.same W53 f52
  refine Go.step (fun _ kt_ => XS.aloadN X53.here hx rfl (hb hby d26_98) rfl rfl kt_) ?_
  refine Go.step (fun _ kt_ => XS.aload X53.here hx rfl (hb hby d26_99) rfl rfl kt_) ?_
  have f54 := (Fld.other W11 (Fld.other W7 (Fld.other W5 (Fld.other W3 r26 (Or.inr (sn_207 hw))) (Or.inr (sn_208 hw))) (Or.inr (sn_209 hw))) (Or.inr (sn_210 hw)))
  have f55 := (Fld.other W35 (Fld.other W27 (Fld.other W21 (Fld.other W17 f54 (Or.inr (sn_211 hw))) (Or.inr (sn_212 hw))) (Or.inr (sn_213 hw))) (Or.inr (sn_214 hw)))
  have f56 := (Fld.other W53 (Fld.other W48 (Fld.other W41 f55 (Or.inr (sn_215 hw))) (Or.inr (sn_216 hw))) (Or.inr (sn_217 hw)))
  obtain ⟨T57, h57, X57, e57, W57, st57⟩ := putF X53 hx hZ hown (host := "") (Or.inl (wd hw 339 rfl)) Via.refl e53 f56 (Exa.wr W53 f49) (Or.inr ⟨(wd hw 340 rfl), rfl, hnm⟩) (wd hw 263 rfl) (ty := (.object "java/time/LocalTime")) pf_Ljava_time_LocalTime_ rfl rfl (g := (mkF m 101 #[.val (.ref x0), .val (.ref x1), .val (.long x2), .second, .val .null, .val .null, .val (.long x5), .second, .unset] [.null, (.ref x0)])) rfl rfl (hb hby d26_101)
  refine Go.step st57 ?_
  have N57_ := Fr.snoc X57 N53_ r4
  have O57_ : Ext Z.heap h57 := extWr O53_ W57 r4
  have K57 := Keep.wr K53 W57 (Or.inl (List.mem_of_getElem? (i := 0) rfl))
  have F57 := Fld.same W57 f56
  refine Go.step (fun _ kt_ => XS.aloadN X57.here hx rfl (hb hby d26_104) rfl rfl kt_) ?_
  refine Go.step (fun _ kt_ => XS.lload X57.here hx rfl (hb hby d26_105) rfl kt_) ?_
  have f58 := (Fld.other W11 (Fld.other W7 (Fld.other W5 (Fld.other W3 r27 (Or.inr (sn_218 hw))) (Or.inr (sn_219 hw))) (Or.inr (sn_220 hw))) (Or.inr (sn_221 hw)))
  have f59 := (Fld.other W35 (Fld.other W27 (Fld.other W21 (Fld.other W17 f58 (Or.inr (sn_222 hw))) (Or.inr (sn_223 hw))) (Or.inr (sn_224 hw))) (Or.inr (sn_225 hw)))
  have f60 := (Fld.other W57 (Fld.other W53 (Fld.other W48 (Fld.other W41 f59 (Or.inr (sn_226 hw))) (Or.inr (sn_227 hw))) (Or.inr (sn_228 hw))) (Or.inr (sn_229 hw)))
  obtain ⟨T61, h61, X61, e61, W61, st61⟩ := putF X57 hx hZ hown (host := "") (Or.inl (wd hw 341 rfl)) Via.refl e57 f60 (Exa.wr W57 (Exa.wr W53 f49)) (Or.inl (wd hw 342 rfl)) (wd hw 263 rfl) (ty := .long) pf_J rfl rfl (g := (mkF m 107 #[.val (.ref x0), .val (.ref x1), .val (.long x2), .second, .val .null, .val .null, .val (.long x5), .second, .unset] [(.long x5), (.ref x0)])) rfl rfl (hb hby d26_107)
  refine Go.step st61 ?_
  have N61_ := Fr.snoc X61 N57_ r4
  have O61_ : Ext Z.heap h61 := extWr O57_ W61 r4
  have K61 := Keep.wr K57 W61 (Or.inl (List.mem_of_getElem? (i := 0) rfl))
  have F61 := Fld.same W61 f60
  refine Go.step (fun _ kt_ => XS.aloadN X61.here hx rfl (hb hby d26_110) rfl rfl kt_) ?_
  refine Go.step (fun _ kt_ => XS.lload X61.here hx rfl (hb hby d26_111) rfl kt_) ?_
  have f62 := (Exa.wr W61 (Exa.wr W57 (Exa.wr W53 f49)))
  have f63 := (Fld.other W11 (Fld.other W7 (Fld.other W5 (Fld.other W3 r28 (Or.inr (sn_230 hw))) (Or.inr (sn_231 hw))) (Or.inr (sn_232 hw))) (Or.inr (sn_233 hw)))
  have f64 := (Fld.other W35 (Fld.other W27 (Fld.other W21 (Fld.other W17 f63 (Or.inr (sn_234 hw))) (Or.inr (sn_235 hw))) (Or.inr (sn_236 hw))) (Or.inr (sn_237 hw)))
  have f65 := (Fld.other W57 (Fld.other W53 (Fld.other W48 (Fld.other W41 f64 (Or.inr (sn_238 hw))) (Or.inr (sn_239 hw))) (Or.inr (sn_240 hw))) (Or.inr (sn_241 hw)))
  obtain ⟨T66, h66, X66, e66, W66, st66⟩ := putF X61 hx hZ hown (host := "") (Or.inl (wd hw 343 rfl)) Via.refl e61 (Fld.other W61 f65 (Or.inr (sn_242 hw))) f62 (Or.inr ⟨(wd hw 344 rfl), rfl, hnm⟩) (wd hw 263 rfl) (ty := .long) pf_J rfl rfl (g := (mkF m 113 #[.val (.ref x0), .val (.ref x1), .val (.long x2), .second, .val .null, .val .null, .val (.long x5), .second, .unset] [(.long x5), (.ref x0)])) rfl rfl (hb hby d26_113)
  refine Go.step st66 ?_
  have N66_ := Fr.snoc X66 N61_ r4
  have O66_ : Ext Z.heap h66 := extWr O61_ W66 r4
  have K66 := Keep.wr K61 W66 (Or.inl (List.mem_of_getElem? (i := 0) rfl))
  have F66 := Fld.same W66 (Fld.other W61 f65 (Or.inr (sn_242 hw)))
  refine Go.step (fun _ kt_ => XS.aloadN X66.here hx rfl (hb hby d26_116) rfl rfl kt_) ?_
  have f67 := (Exa.wr W53 (Exa.wr W48 (Exa.wr W41 (Exa.wr W35 f28))))
  have f68 := (Exa.wr W66 (Exa.wr W61 (Exa.wr W57 f67)))
  have f69 := (Fld.other W11 (Fld.other W7 (Fld.other W5 (Fld.other W3 r29 (Or.inl r6)) (Or.inl r6)) (Or.inl r6)) (Or.inl r6))
  have f70 := (Fld.other W35 (Fld.other W27 (Fld.other W21 (Fld.other W17 f69 (Or.inl r6)) (Or.inl r6)) (Or.inl r6)) (Or.inl r6))
  have f71 := (Fld.other W57 (Fld.other W53 (Fld.other W48 (Fld.other W41 f70 (Or.inl r6)) (Or.inl r6)) (Or.inl r6)) (Or.inl r6))
  have f72 := (Fld.other W66 (Fld.other W61 f71 (Or.inl r6)) (Or.inl r6))
  obtain ⟨cq73, kq73, q73a, q73b, q73c⟩ := isOf hZ e66 f68
  obtain ⟨_, _, ⟨T73, L73, k73, n73⟩, -, X73, ⟨Lc73, hQ73, l73, y73, z73⟩, st73⟩ := X66.virtualBack hx (y := (⟨"org/matchstone/engine/NewOrder", "minQuantity", "()Lorg/matchstone/engine/MinQuantity;"⟩ : MethodName)) (z := (⟨"org/matchstone/engine/NewOrder", "minQuantity", "()Lorg/matchstone/engine/MinQuantity;"⟩ : MethodName)) hown (mvT hZ (wd hw 345 rfl)) (mvT hZ (wd hw 346 rfl)) (notFace_of_selects (args := #[]) (mvT hZ (wd hw 348 rfl))) (mvT hZ (wd hw 348 rfl)) (mvT hZ (wd hw 347 rfl)) (by decide) (backOf (W := 0) (rm_a36_0 l Z a0 hw []  x1 h66 O66_ f72) hZ (wd hw 349 rfl) (wd hw 157 rfl) (by decide) (by decide)) q73a q73c (g := (mkF m 117 #[.val (.ref x0), .val (.ref x1), .val (.long x2), .second, .val .null, .val .null, .val (.long x5), .second, .unset] [(.ref x1)])) rfl (by rw [hml]; rfl) (Steps.refl _) (argsL := []) (rest := []) (lenOf pd_LRLorg_matchstone_engine_MinQuantity_ rfl) rfl (by show 2 * 0 + _ ≤ _; exact Nat.le_of_eq rfl) (hb hby d26_117) (fun _ _ => ⟨rfl, e66, (by decide : 0 + 0 ≤ _), (by decide : 0 + 0 ≤ _)⟩)
  dsimp only [Pt.U, Pt.locs, Pt.cells, Pt.slots] at X73 l73 y73 z73 st73 hQ73
  subst y73 z73
  obtain ⟨rfl, Nq73, e73⟩ := hQ73
  have N73_ : Fr Z.heap.size L73 := by rw [l73]; exact Fr.app N66_ Nq73
  refine Go.trans st73 ?_
  refine Go.step (fun _ kt_ => XS.astore X73.here hx rfl (hb hby d26_120) rfl rfl (l' := #[.val (.ref x0), .val (.ref x1), .val (.long x2), .second, .val .null, .val .null, .val (.long x5), .second, .val .null]) rfl kt_) ?_
  refine Go.step (fun _ kt_ => XS.aloadN X73.here hx rfl (hb hby d26_122) rfl rfl kt_) ?_
  refine Go.step (fun _ kt_ => XS.aload X73.here hx rfl (hb hby d26_123) rfl rfl kt_) ?_
  refine Go.step (fun _ kt_ => XS.ifnonnullNo X73.here hx rfl (hb hby d26_125) rfl kt_) ?_
  refine Go.step (fun _ kt_ => XS.lconst X73.here hx rfl (hb hby d26_128)  kt_) ?_
  refine Go.step (fun _ kt_ => XS.goto X73.here hx rfl (pc0 := 129) (pc' := 137) rfl (hb hby d26_129) (by decide) (by decide) kt_) ?_
  have f74 := (Fld.other W11 (Fld.other W7 (Fld.other W5 (Fld.other W3 r30 (Or.inr (sn_243 hw))) (Or.inr (sn_244 hw))) (Or.inr (sn_245 hw))) (Or.inr (sn_246 hw)))
  have f75 := (Fld.other W35 (Fld.other W27 (Fld.other W21 (Fld.other W17 f74 (Or.inr (sn_247 hw))) (Or.inr (sn_248 hw))) (Or.inr (sn_249 hw))) (Or.inr (sn_250 hw)))
  have f76 := (Fld.other W57 (Fld.other W53 (Fld.other W48 (Fld.other W41 f75 (Or.inr (sn_251 hw))) (Or.inr (sn_252 hw))) (Or.inr (sn_253 hw))) (Or.inr (sn_254 hw)))
  have f77 := (Fld.other W66 (Fld.other W61 f76 (Or.inr (sn_255 hw))) (Or.inr (sn_256 hw)))
  obtain ⟨T78, h78, X78, e78, W78, st78⟩ := putF X73 hx hZ hown (host := "") (Or.inl (wd hw 350 rfl)) Via.refl e73 f77 (Exa.wr W66 f62) (Or.inr ⟨(wd hw 351 rfl), rfl, hnm⟩) (wd hw 263 rfl) (ty := .long) pf_J rfl rfl (g := (mkF m 137 #[.val (.ref x0), .val (.ref x1), .val (.long x2), .second, .val .null, .val .null, .val (.long x5), .second, .val .null] [(.long (0 : Int64)), (.ref x0)])) rfl rfl (hb hby d26_137)
  refine Go.step st78 ?_
  have N78_ := Fr.snoc X78 N73_ r4
  have O78_ : Ext Z.heap h78 := extWr O66_ W78 r4
  have K78 := Keep.wr K66 W78 (Or.inl (List.mem_of_getElem? (i := 0) rfl))
  have F78 := Fld.same W78 f77
  refine Go.step (fun _ kt_ => XS.aloadN X78.here hx rfl (hb hby d26_140) rfl rfl kt_) ?_
  refine Go.step (fun _ kt_ => XS.aload X78.here hx rfl (hb hby d26_141) rfl rfl kt_) ?_
  refine Go.step (fun _ kt_ => XS.ifnullYes X78.here hx rfl (pc0 := 143) (pc' := 158) rfl (hb hby d26_143) rfl (by decide) (by decide) kt_) ?_
  refine Go.step (fun _ kt_ => XS.iconst X78.here hx rfl (hb hby d26_158)  kt_) ?_
  have f79 := (Fld.other W11 (Fld.other W7 (Fld.other W5 (Fld.other W3 r31 (Or.inr (sn_257 hw))) (Or.inr (sn_258 hw))) (Or.inr (sn_259 hw))) (Or.inr (sn_260 hw)))
  have f80 := (Fld.other W35 (Fld.other W27 (Fld.other W21 (Fld.other W17 f79 (Or.inr (sn_261 hw))) (Or.inr (sn_262 hw))) (Or.inr (sn_263 hw))) (Or.inr (sn_264 hw)))
  have f81 := (Fld.other W57 (Fld.other W53 (Fld.other W48 (Fld.other W41 f80 (Or.inr (sn_265 hw))) (Or.inr (sn_266 hw))) (Or.inr (sn_267 hw))) (Or.inr (sn_268 hw)))
  have f82 := (Fld.other W78 (Fld.other W66 (Fld.other W61 f81 (Or.inr (sn_269 hw))) (Or.inr (sn_270 hw))) (Or.inr (sn_271 hw)))
  obtain ⟨T83, h83, X83, e83, W83, st83⟩ := putFN X78 hx hZ hown (wd hw 352 rfl) Via.refl e78 f82 (Exa.wr W78 (Exa.wr W66 f62)) (Or.inr ⟨(wd hw 353 rfl), rfl, hnm⟩) (wd hw 263 rfl) (ty := .boolean) (v' := (.int (0 : Int32))) pf_Z rfl rfl (g := (mkF m 159 #[.val (.ref x0), .val (.ref x1), .val (.long x2), .second, .val .null, .val .null, .val (.long x5), .second, .val .null] [(.int (0 : Int32)), (.ref x0)])) rfl rfl (hb hby d26_159)
  refine Go.step st83 ?_
  have N83_ := Fr.snoc X83 N78_ r4
  have O83_ : Ext Z.heap h83 := extWr O78_ W83 r4
  have K83 := Keep.wr K78 W83 (Or.inl (List.mem_of_getElem? (i := 0) rfl))
  have F83 := Fld.same W83 f82
  refine Go.step (fun _ kt_ => XS.aloadN X83.here hx rfl (hb hby d26_162) rfl rfl kt_) ?_
  refine Go.step (fun _ kt_ => XS.aloadN X83.here hx rfl (hb hby d26_163) rfl rfl kt_) ?_
  have f84 := (Fld.other W11 (Fld.other W7 (Fld.other W5 (Fld.other W3 r32 (Or.inl r6)) (Or.inl r6)) (Or.inl r6)) (Or.inl r6))
  have f85 := (Fld.other W35 (Fld.other W27 (Fld.other W21 (Fld.other W17 f84 (Or.inl r6)) (Or.inl r6)) (Or.inl r6)) (Or.inl r6))
  have f86 := (Fld.other W57 (Fld.other W53 (Fld.other W48 (Fld.other W41 f85 (Or.inl r6)) (Or.inl r6)) (Or.inl r6)) (Or.inl r6))
  have f87 := (Fld.other W83 (Fld.other W78 (Fld.other W66 (Fld.other W61 f86 (Or.inl r6)) (Or.inl r6)) (Or.inl r6)) (Or.inl r6))
  obtain ⟨cq88, kq88, q88a, q88b, q88c⟩ := isOf hZ e83 (Exa.wr W83 (Exa.wr W78 f68))
  obtain ⟨_, _, ⟨T88, L88, k88, n88⟩, -, X88, ⟨Lc88, hQ88, l88, y88, z88⟩, st88⟩ := X83.virtualBack hx (y := (⟨"org/matchstone/engine/NewOrder", "quantity", "()J"⟩ : MethodName)) (z := (⟨"org/matchstone/engine/NewOrder", "quantity", "()J"⟩ : MethodName)) hown (mvT hZ (wd hw 354 rfl)) (mvT hZ (wd hw 355 rfl)) (notFace_of_selects (args := #[]) (mvT hZ (wd hw 357 rfl))) (mvT hZ (wd hw 357 rfl)) (mvT hZ (wd hw 356 rfl)) (by decide) (backOf (W := 1) (rm_a37_0 l Z a0 hw []  x1 w21 h83 O83_ f87) hZ (wd hw 358 rfl) (wd hw 157 rfl) (by decide) (by decide)) q88a q88c (g := (mkF m 164 #[.val (.ref x0), .val (.ref x1), .val (.long x2), .second, .val .null, .val .null, .val (.long x5), .second, .val .null] [(.ref x1), (.ref x0)])) rfl (by rw [hml]; rfl) (Steps.refl _) (argsL := []) (rest := [(.ref x0)]) (lenOf pd_LRJ rfl) rfl (by show 2 * 0 + _ ≤ _; exact Nat.le_of_eq rfl) (hb hby d26_164) (fun _ _ => ⟨rfl, e83, (by decide : 0 + 0 ≤ _), (by decide : 0 + 0 ≤ _)⟩)
  dsimp only [Pt.U, Pt.locs, Pt.cells, Pt.slots] at X88 l88 y88 z88 st88 hQ88
  subst y88 z88
  obtain ⟨rfl, Nq88, e88⟩ := hQ88
  have N88_ : Fr Z.heap.size L88 := by rw [l88]; exact Fr.app N83_ Nq88
  refine Go.trans st88 ?_
  have f89 := (Exa.wr W83 (Exa.wr W78 (Exa.wr W66 f62)))
  have f90 := (Fld.other W11 (Fld.other W7 (Fld.other W5 (Fld.other W3 r33 (Or.inr (sn_272 hw))) (Or.inr (sn_273 hw))) (Or.inr (sn_274 hw))) (Or.inr (sn_275 hw)))
  have f91 := (Fld.other W35 (Fld.other W27 (Fld.other W21 (Fld.other W17 f90 (Or.inr (sn_276 hw))) (Or.inr (sn_277 hw))) (Or.inr (sn_278 hw))) (Or.inr (sn_279 hw)))
  have f92 := (Fld.other W57 (Fld.other W53 (Fld.other W48 (Fld.other W41 f91 (Or.inr (sn_280 hw))) (Or.inr (sn_281 hw))) (Or.inr (sn_282 hw))) (Or.inr (sn_283 hw)))
  have f93 := (Fld.other W83 (Fld.other W78 (Fld.other W66 (Fld.other W61 f92 (Or.inr (sn_284 hw))) (Or.inr (sn_285 hw))) (Or.inr (sn_286 hw))) (Or.inr (sn_287 hw)))
  obtain ⟨T94, h94, X94, e94, W94, st94⟩ := putF X88 hx hZ hown (host := "") (Or.inl (wd hw 359 rfl)) Via.refl e88 f93 f89 (Or.inl (wd hw 360 rfl)) (wd hw 263 rfl) (ty := .long) pf_J rfl rfl (g := (mkF m 167 #[.val (.ref x0), .val (.ref x1), .val (.long x2), .second, .val .null, .val .null, .val (.long x5), .second, .val .null] [(.long w21), (.ref x0)])) rfl rfl (hb hby d26_167)
  refine Go.step st94 ?_
  have N94_ := Fr.snoc X94 N88_ r4
  have O94_ : Ext Z.heap h94 := extWr O83_ W94 r4
  have K94 := Keep.wr K83 W94 (Or.inl (List.mem_of_getElem? (i := 0) rfl))
  have F94 := Fld.same W94 f93
  have f95 := (Fld.other W48 (Fld.other W41 (Fld.other W35 (Fld.other W27 F21 (Or.inr (Ne.symm (sn_172 hw)))) (Or.inr (Ne.symm (sn_178 hw)))) (Or.inr (Ne.symm (sn_185 hw)))) (Or.inr (Ne.symm (sn_193 hw))))
  have f96 := (Fld.other W66 (Fld.other W61 (Fld.other W57 (Fld.other W53 f95 (Or.inr (Ne.symm (sn_202 hw)))) (Or.inr (Ne.symm (sn_212 hw)))) (Or.inr (Ne.symm (sn_223 hw)))) (Or.inr (Ne.symm (sn_235 hw))))
  have f97 := (Fld.other W94 (Fld.other W83 (Fld.other W78 f96 (Or.inr (Ne.symm (sn_248 hw)))) (Or.inr (Ne.symm (sn_262 hw)))) (Or.inr (Ne.symm (sn_277 hw))))
  have f98 := (Fld.other W94 (Fld.other W83 F78 (Or.inr (Ne.symm (sn_271 hw)))) (Or.inr (Ne.symm (sn_286 hw))))
  have f99 := (Fld.other W11 (Fld.other W7 (Fld.other W5 (Fld.other W3 r34 (Or.inr (sn_288 hw))) (Or.inr (sn_289 hw))) (Or.inr (sn_290 hw))) (Or.inr (sn_291 hw)))
  have f100 := (Fld.other W35 (Fld.other W27 (Fld.other W21 (Fld.other W17 f99 (Or.inr (sn_292 hw))) (Or.inr (sn_293 hw))) (Or.inr (sn_294 hw))) (Or.inr (sn_295 hw)))
  have f101 := (Fld.other W57 (Fld.other W53 (Fld.other W48 (Fld.other W41 f100 (Or.inr (sn_296 hw))) (Or.inr (sn_297 hw))) (Or.inr (sn_298 hw))) (Or.inr (sn_299 hw)))
  have f102 := (Fld.other W83 (Fld.other W78 (Fld.other W66 (Fld.other W61 f101 (Or.inr (sn_300 hw))) (Or.inr (sn_301 hw))) (Or.inr (sn_302 hw))) (Or.inr (sn_303 hw)))
  have f103 := (Fld.other W94 f102 (Or.inr (sn_304 hw)))
  have f104 := (Fld.other W11 (Fld.other W7 (Fld.other W5 (Fld.other W3 r35 (Or.inr (sn_305 hw))) (Or.inr (sn_306 hw))) (Or.inr (sn_307 hw))) (Or.inr (sn_308 hw)))
  have f105 := (Fld.other W35 (Fld.other W27 (Fld.other W21 (Fld.other W17 f104 (Or.inr (sn_309 hw))) (Or.inr (sn_310 hw))) (Or.inr (sn_311 hw))) (Or.inr (sn_312 hw)))
  have f106 := (Fld.other W57 (Fld.other W53 (Fld.other W48 (Fld.other W41 f105 (Or.inr (sn_313 hw))) (Or.inr (sn_314 hw))) (Or.inr (sn_315 hw))) (Or.inr (sn_316 hw)))
  have f107 := (Fld.other W83 (Fld.other W78 (Fld.other W66 (Fld.other W61 f106 (Or.inr (sn_317 hw))) (Or.inr (sn_318 hw))) (Or.inr (sn_319 hw))) (Or.inr (sn_320 hw)))
  have f108 := (Fld.other W94 f107 (Or.inr (sn_321 hw)))
  have f109 := (Fld.other W27 (Fld.other W21 (Fld.other W17 (Fld.other W11 F7 (Or.inr (Ne.symm (sn_157 hw)))) (Or.inr (Ne.symm (sn_160 hw)))) (Or.inr (Ne.symm (sn_164 hw)))) (Or.inr (Ne.symm (sn_169 hw))))
  have f110 := (Fld.other W53 (Fld.other W48 (Fld.other W41 (Fld.other W35 f109 (Or.inr (Ne.symm (sn_175 hw)))) (Or.inr (Ne.symm (sn_182 hw)))) (Or.inr (Ne.symm (sn_190 hw)))) (Or.inr (Ne.symm (sn_199 hw))))
  have f111 := (Fld.other W78 (Fld.other W66 (Fld.other W61 (Fld.other W57 f110 (Or.inr (Ne.symm (sn_209 hw)))) (Or.inr (Ne.symm (sn_220 hw)))) (Or.inr (Ne.symm (sn_232 hw)))) (Or.inr (Ne.symm (sn_245 hw))))
  have f112 := (Fld.other W94 (Fld.other W83 f111 (Or.inr (Ne.symm (sn_259 hw)))) (Or.inr (Ne.symm (sn_274 hw))))
  have f113 := (Fld.other W94 (Fld.other W83 (Fld.other W78 (Fld.other W66 F61 (Or.inr (Ne.symm (sn_242 hw)))) (Or.inr (Ne.symm (sn_255 hw)))) (Or.inr (Ne.symm (sn_269 hw)))) (Or.inr (Ne.symm (sn_284 hw))))
  exact Go.retV X94 hx hret hlk (hb hby d26_170) (by decide) (by decide) (by show Q_a26_0 ..; rw [e94]; exact ⟨rfl, N94_, K94, f97, f98, f103, F94, f108, f112, f113⟩)
theorem pd_LLorg_matchstone_engine_NewOrder_JLjava_time_LocalTime_Ljava_time_LocalTime_JRV : parseMethodDescriptor "(Lorg/matchstone/engine/NewOrder;JLjava/time/LocalTime;Ljava/time/LocalTime;J)V" = some ⟨[(.object "org/matchstone/engine/NewOrder"), .long, (.object "java/time/LocalTime"), (.object "java/time/LocalTime"), .long], none⟩ := by decide +kernel
def Q_a24_1 (Z : State) (w1 : Addr) (w2 : Addr) (w3 : Addr) (h0 : Heap) (v : Option Value) (h : Heap) (L : List Loc) : Prop := ∃ (b1q5 : Addr), v = some (.ref b1q5) ∧ Fr Z.heap.size L ∧ Keep h0 h [] ∧ h0.size ≤ b1q5 ∧ Exa Z h b1q5 "org/matchstone/engine/NewOrder" ∧ fl_16 Z h b1q5 (.ref w1) ∧ fl_17 Z h b1q5 (.ref w2) ∧ fl_18 Z h b1q5 (.long (1 : Int64)) ∧ fl_19 Z h b1q5 (.long (100 : Int64)) ∧ fl_20 Z h b1q5 (.ref w3) ∧ fl_21 Z h b1q5 .null ∧ fl_22 Z h b1q5 (.int (1 : Int32)) ∧ fl_23 Z h b1q5 (.int (0 : Int32)) ∧ fl_24 Z h b1q5 (.int (0 : Int32)) ∧ fl_25 Z h b1q5 (.int (0 : Int32)) ∧ fl_26 Z h b1q5 .null ∧ fl_27 Z h b1q5 .null
set_option maxRecDepth 65536 in
set_option maxHeartbeats 40000000 in
theorem rm_a24_1 (l : Launch) (Z : State) (a0 : Array Value) (hw : HW Z a0) (ws : List Jvm.Cond) (x0 : Addr) (w1 : Addr) (w2 : Addr) (w3 : Addr) (h0 : Heap) (O0 : Ext Z.heap h0) (r0 : fl_16 Z h0 x0 (.ref w1)) (r1 : fl_17 Z h0 x0 (.ref w2)) (r2 : fl_18 Z h0 x0 (.long (1 : Int64))) (r3 : fl_19 Z h0 x0 (.long (100 : Int64))) (r4 : Sta Z Z.heap "org/matchstone/engine/TimeInForce" "DAY" "Lorg/matchstone/engine/TimeInForce;" (.ref w3)) (r5 : fl_20 Z h0 x0 (.ref w3)) (r6 : fl_21 Z h0 x0 .null) (r7 : fl_22 Z h0 x0 (.int (1 : Int32))) (r8 : fl_23 Z h0 x0 (.int (0 : Int32))) (r9 : fl_24 Z h0 x0 (.int (0 : Int32))) (r10 : fl_25 Z h0 x0 (.int (0 : Int32))) (r11 : fl_26 Z h0 x0 .null) (r12 : fl_27 Z h0 x0 .null) :
    Met ReturnedEndW l (⟨"org/matchstone/engine/NewOrder", "withDisplayed", "(Z)Lorg/matchstone/engine/NewOrder;"⟩ : MethodName) prog_22_method_5_code 3 (some (.object "org/matchstone/engine/NewOrder")) ws ⟨4, 8, 104, 63⟩ Z h0 #[(.ref x0), (.int (1 : Int32))] (Q_a24_1 Z w1 w2 w3 h0) := by
  refine own_metW "org/matchstone/engine/NewOrder" (plainFor_of_name pn_24) rfl #[.val (.ref x0), .val (.int (1 : Int32)), .unset] (fun _ => by first | (simp [entryFrame, mkF, argsToLocals, Value.category]; done) | rfl) ?_
  intro p e s m below meth c s₁ hx hby hlk hret hml hZ hown hnm X0 e0 S0 kk0
  have N0 := Fr.nil Z.heap.size
  have wS := own_wS hw
  obtain ⟨T1, h1, X1, e1, E1, A1, D1, U1, st1⟩ := newO X0 hx hZ hown (wd hw 159 rfl) (wd hw 160 rfl) (wd hw 161 rfl) e0 (g := (mkF m 0 #[.val (.ref x0), .val (.int (1 : Int32)), .unset] [])) rfl (hb hby d24_0) (by decide) (by decide)
  obtain ⟨b1, hb1⟩ : ∃ z, z = h0.size := ⟨_, rfl⟩
  rw [← hb1] at A1 D1 U1 st1
  refine Go.step st1 ?_
  have g_b1 : Z.heap.size ≤ b1 := Nat.le_trans O0.1 (Nat.le_of_eq hb1.symm)
  have O1_ : Ext Z.heap h1 := extTr O0 E1
  have sz_b1 : h0.size ≤ b1 := Nat.le_trans (Keep.refl h0 []).1 (Nat.le_of_eq hb1.symm)
  have K1 := Keep.ext (Keep.refl h0 []) E1
  have F1_timeInForce : fl_4 Z h1 b1 .null := D1 (Or.inl (wd hw 170 rfl)) (ty := (.object "org/matchstone/engine/TimeInForce")) pf_Lorg_matchstone_engine_TimeInForce_
  have F1_displayed : fl_5 Z h1 b1 (.int (0 : Int32)) := D1 (Or.inl (wd hw 172 rfl)) (ty := .boolean) pf_Z
  have F1_id : fl_6 Z h1 b1 .null := D1 (Or.inr (wd hw 174 rfl)) (ty := (.object "java/lang/String")) pf_Ljava_lang_String_
  have F1_side : fl_7 Z h1 b1 .null := D1 (Or.inr (wd hw 176 rfl)) (ty := (.object "org/matchstone/engine/Side")) pf_Lorg_matchstone_engine_Side_
  have F1_quantity : fl_8 Z h1 b1 (.long (0 : Int64)) := D1 (Or.inr (wd hw 178 rfl)) (ty := .long) pf_J
  have F1_price : fl_9 Z h1 b1 (.long (0 : Int64)) := D1 (Or.inr (wd hw 180 rfl)) (ty := .long) pf_J
  have F1_expireTime : fl_10 Z h1 b1 .null := D1 (Or.inl (wd hw 189 rfl)) (ty := (.object "java/time/LocalTime")) pf_Ljava_time_LocalTime_
  have F1_postOnly : fl_11 Z h1 b1 (.int (0 : Int32)) := D1 (Or.inl (wd hw 191 rfl)) (ty := .boolean) pf_Z
  have F1_swap : fl_12 Z h1 b1 (.int (0 : Int32)) := D1 (Or.inl (wd hw 193 rfl)) (ty := .boolean) pf_Z
  have F1_superAggressive : fl_13 Z h1 b1 (.int (0 : Int32)) := D1 (Or.inl (wd hw 195 rfl)) (ty := .boolean) pf_Z
  have F1_peg : fl_14 Z h1 b1 .null := D1 (Or.inl (wd hw 197 rfl)) (ty := (.object "org/matchstone/engine/Peg")) pf_Lorg_matchstone_engine_Peg_
  have F1_minQuantity : fl_15 Z h1 b1 .null := D1 (Or.inl (wd hw 199 rfl)) (ty := (.object "org/matchstone/engine/MinQuantity")) pf_Lorg_matchstone_engine_MinQuantity_
  refine Go.step (fun _ kt_ => XS.dup X1.here hx rfl (hb hby d24_3) rfl rfl kt_) ?_
  refine Go.step (fun _ kt_ => XS.aloadN X1.here hx rfl (hb hby d24_4) rfl rfl kt_) ?_
  obtain ⟨_, _, ⟨T2, L2, k2, n2⟩, -, X2, ⟨Lc2, hQ2, l2, y2, z2⟩, st2⟩ := X1.specialBack hx (y := (⟨"org/matchstone/engine/NewOrder$Draft", "<init>", "(Lorg/matchstone/engine/NewOrder;)V"⟩ : MethodName)) rfl hown (mvT hZ (wd hw 245 rfl)) (mvT hZ (wd hw 246 rfl)) (mvT hZ (wd hw 247 rfl)) (by decide) (backOf (W := 1) (rm_a25_0 l Z a0 hw []  b1 x0 w1 w2 (1 : Int64) (100 : Int64) w3 (0 : Int32) (0 : Int64) (0 : Int64) (0 : Int32) (0 : Int32) (0 : Int32) (1 : Int32) (0 : Int32) (0 : Int32) (0 : Int32) h1 O1_ (Fld.ext E1 r0) (Fld.ext E1 r1) (Fld.ext E1 r2) (Fld.ext E1 r3) r4 A1 F1_timeInForce g_b1 F1_displayed F1_id F1_side F1_quantity F1_price F1_expireTime F1_postOnly F1_swap F1_superAggressive F1_peg F1_minQuantity (Fld.ext E1 r5) (Nat.ne_of_lt (Nat.lt_of_lt_of_le r0.lt (Nat.le_of_eq hb1.symm))) (Fld.ext E1 r6) (Fld.ext E1 r7) (Fld.ext E1 r8) (Fld.ext E1 r9) (Fld.ext E1 r10) (Fld.ext E1 r11) (Fld.ext E1 r12)) hZ (wd hw 247 rfl) (wd hw 161 rfl) (by decide) (by decide)) (g := (mkF m 5 #[.val (.ref x0), .val (.int (1 : Int32)), .unset] [(.ref x0), (.ref b1), (.ref b1)])) rfl (by rw [hml]; rfl) (Steps.refl _) (a := b1) (argsL := [(.ref x0)]) (rest := [(.ref b1)]) (lenOf pd_LLorg_matchstone_engine_NewOrder_RV rfl) rfl (by show 2 * 0 + _ ≤ _; exact Nat.le_of_eq rfl) (hb hby d24_5) (fun _ _ => ⟨rfl, e1, (by decide : 1 + 0 ≤ _), (by decide : 12 + 0 ≤ _)⟩)
  dsimp only [Pt.U, Pt.locs, Pt.cells, Pt.slots] at X2 l2 y2 z2 st2 hQ2
  subst y2 z2
  obtain ⟨rfl, Nq2, Kq2, p2_0, p2_1, p2_2, p2_3, p2_4, p2_5, p2_6, p2_7, p2_8, p2_9, p2_10, p2_11⟩ := hQ2
  have O2_ : Ext Z.heap T2.heap := extKeep O1_ Kq2 (allS g_b1 all0)
  have K2 := Keep.trans K1 Kq2 (allS (Or.inr sz_b1) all0)
  have N2_ : Fr Z.heap.size L2 := by rw [l2]; exact Fr.app N0 Nq2
  refine Go.trans st2 ?_
  refine Go.step (fun _ kt_ => XS.astoreN X2.here hx rfl (hb hby d24_8) rfl rfl (l' := #[.val (.ref x0), .val (.int (1 : Int32)), .val (.ref b1)]) rfl kt_) ?_
  refine Go.step (fun _ kt_ => XS.aloadN X2.here hx rfl (hb hby d24_9) rfl rfl kt_) ?_
  refine Go.step (fun _ kt_ => XS.iloadN X2.here hx rfl (hb hby d24_10) rfl kt_) ?_
  obtain ⟨T3, h3, X3, e3, W3, st3⟩ := putRdy X2 hx hZ hown (wd hw 261 rfl) rfl p2_1 (A1.keep Kq2) (wd hw 172 rfl) (wd hw 160 rfl) (ty := .boolean) pf_Z rfl rfl (g := (mkF m 11 #[.val (.ref x0), .val (.int (1 : Int32)), .val (.ref b1)] [(.int (1 : Int32)), (.ref b1)])) rfl rfl (hb hby d24_11)
  refine Go.step st3 ?_
  have N3_ := Fr.snoc X3 N2_ g_b1
  have O3_ : Ext Z.heap h3 := extWr O2_ W3 g_b1
  have K3 := Keep.wr K2 W3 (Or.inr sz_b1)
  have F3 := Fld.same W3 p2_1
  refine Go.step (fun _ kt_ => XS.aloadN X3.here hx rfl (hb hby d24_14) rfl rfl kt_) ?_
  have f4 := (Fld.other W3 p2_0 (Or.inr (Ne.symm (sn_20 hw))))
  obtain ⟨cq5, kq5, q5a, q5b, q5c⟩ := isOf hZ e3 (Exa.wr W3 (A1.keep Kq2))
  obtain ⟨_, _, ⟨T5, L5, k5, n5⟩, -, X5, Sq5, gq5, ⟨Lc5, hQ5, l5, y5, z5⟩, st5⟩ := X3.virtualBackS hx (y := (⟨"org/matchstone/engine/NewOrder$Draft", "order", "()Lorg/matchstone/engine/NewOrder;"⟩ : MethodName)) (z := (⟨"org/matchstone/engine/NewOrder$Draft", "order", "()Lorg/matchstone/engine/NewOrder;"⟩ : MethodName)) hown (mvT hZ (wd hw 181 rfl)) (mvT hZ (wd hw 182 rfl)) (notFace_of_selects (args := #[]) (mvT hZ (wd hw 184 rfl))) (mvT hZ (wd hw 184 rfl)) (mvT hZ (wd hw 183 rfl)) (by decide) (backOfS (W := 0) (rm_a20_0 l Z a0 hw []  b1 w1 w2 (1 : Int64) (100 : Int64) w3 (1 : Int32) (0 : Int32) (0 : Int32) (0 : Int32) h3 O3_ (Fld.other W3 p2_2 (Or.inr (sn_22 hw))) (Fld.other W3 p2_3 (Or.inr (sn_24 hw))) (Fld.other W3 p2_4 (Or.inr (sn_27 hw))) (Fld.other W3 p2_5 (Or.inr (sn_31 hw))) f4 (Fld.other W3 p2_6 (Or.inr (sn_36 hw))) F3 (Fld.other W3 p2_7 (Or.inr (sn_42 hw))) (Fld.other W3 p2_8 (Or.inr (sn_48 hw))) (Fld.other W3 p2_9 (Or.inr (sn_54 hw))) (Fld.other W3 p2_10 (Or.inr (sn_60 hw))) (Fld.other W3 p2_11 (Or.inr (sn_66 hw)))) hZ (wd hw 185 rfl) (wd hw 161 rfl) (by decide) (by decide)) q5a q5c (g := (mkF m 15 #[.val (.ref x0), .val (.int (1 : Int32)), .val (.ref b1)] [(.ref b1)])) rfl (by rw [hml]; rfl) (Steps.refl _) (argsL := []) (rest := []) (lenOf pd_LRLorg_matchstone_engine_NewOrder_ rfl) rfl (by show 2 * 0 + _ ≤ _; exact Nat.le_of_eq rfl) (hb hby d24_15) (fun _ _ => ⟨rfl, e3, (by decide : 1 + 7 ≤ _), (by decide : 12 + 92 ≤ _)⟩)
  dsimp only [Pt.U, Pt.locs, Pt.cells, Pt.slots] at X5 l5 y5 z5 st5 hQ5 Sq5 gq5
  subst y5 z5
  obtain ⟨X5, S5, hZ5, hown5⟩ := rebS S0 ((congrArg Array.size e3).symm ▸ (Nat.le_trans (Nat.le_trans (Nat.le_trans kk0 E1.1) Kq2.1) (Keep.of_wr W3).1)) X5 Sq5 gq5 hZ hown
  obtain ⟨b1q5, rfl, Nq5, Kq5, p5_0, p5_1, p5_2, p5_3, p5_4, p5_5, p5_6, p5_7, p5_8, p5_9, p5_10, p5_11, p5_12, p5_13⟩ := hQ5
  have O5_ : Ext Z.heap T5.heap := extKeep O3_ Kq5 all0
  have K5 := Keep.trans K3 Kq5 all0
  have N5_ : Fr Z.heap.size L5 := by rw [l5]; exact Fr.app N3_ Nq5
  have g_b1q5 : Z.heap.size ≤ b1q5 := Nat.le_trans O3_.1 p5_0
  have sz_b1q5 : h0.size ≤ b1q5 := Nat.le_trans K3.1 p5_0
  refine Go.trans st5 ?_
  exact Go.retAW X5 S5 (Nat.le_refl _) hx hret rfl rfl hlk (hb hby d24_18) (by decide) (by decide) ⟨b1q5, rfl, N5_, K5, sz_b1q5, p5_1, p5_2, p5_3, p5_4, p5_5, p5_6, p5_7, p5_8, p5_9, p5_10, p5_11, p5_12, p5_13⟩
theorem d38_0 : decode prog_11_method_5_code 0 = .ok (.aload_n 0, 1) := by decide +kernel
theorem d38_1 : decode prog_11_method_5_code 1 = .ok (.aload_n 1, 1) := by decide +kernel
theorem d38_2 : decode prog_11_method_5_code 2 = .ok (.getfield 46, 3) := by decide +kernel
theorem d38_5 : decode prog_11_method_5_code 5 = .ok (.ifCond .eq 13, 3) := by decide +kernel
theorem d38_8 : decode prog_11_method_5_code 8 = .ok (.aload_n 1, 1) := by decide +kernel
theorem d38_9 : decode prog_11_method_5_code 9 = .ok (.getfield 48, 3) := by decide +kernel
theorem d38_12 : decode prog_11_method_5_code 12 = .ok (.invokestatic 51, 3) := by decide +kernel
theorem d48_0 : decode prog_8_method_2_code 0 = .ok (.new 8, 3) := by decide +kernel
theorem d48_3 : decode prog_8_method_2_code 3 = .ok (.dup, 1) := by decide +kernel
theorem d48_4 : decode prog_8_method_2_code 4 = .ok (.lload_n 0, 1) := by decide +kernel
theorem d48_5 : decode prog_8_method_2_code 5 = .ok (.ldc2_w 18, 3) := by decide +kernel
theorem d48_8 : decode prog_8_method_2_code 8 = .ok (.invokespecial 20, 3) := by decide +kernel
theorem d40_0 : decode prog_8_method_1_code 0 = .ok (.aload_n 0, 1) := by decide +kernel
theorem d40_1 : decode prog_8_method_1_code 1 = .ok (.invokespecial 1, 3) := by decide +kernel
theorem d40_4 : decode prog_8_method_1_code 4 = .ok (.aload_n 0, 1) := by decide +kernel
theorem d40_5 : decode prog_8_method_1_code 5 = .ok (.lload_n 1, 1) := by decide +kernel
theorem d40_6 : decode prog_8_method_1_code 6 = .ok (.putfield 7, 3) := by decide +kernel
theorem d40_9 : decode prog_8_method_1_code 9 = .ok (.aload_n 0, 1) := by decide +kernel
theorem d40_10 : decode prog_8_method_1_code 10 = .ok (.lload_n 3, 1) := by decide +kernel
theorem d40_11 : decode prog_8_method_1_code 11 = .ok (.putfield 13, 3) := by decide +kernel
theorem d40_14 : decode prog_8_method_1_code 14 = .ok (.return_, 1) := by decide +kernel
theorem pn_40 : plainName "org/matchstone/engine/BookSide$Place" = true := by first | (simp [plainName, overriddenIn]; done) | decide +kernel
def Q_a40_0 (Z : State) (x0 : Addr) (h0 : Heap) (v : Option Value) (h : Heap) (L : List Loc) : Prop := v = none ∧ Fr Z.heap.size L ∧ Keep h0 h [x0]
set_option maxRecDepth 65536 in
set_option maxHeartbeats 40000000 in
theorem rm_a40_0 (l : Launch) (Z : State) (a0 : Array Value) (hw : HW Z a0) (ws : List Jvm.Cond) (x0 : Addr) (x1 : Int64) (x2 : Int64) (w1 : Int64) (w2 : Int64) (h0 : Heap) (O0 : Ext Z.heap h0) (r0 : Exa Z h0 x0 "org/matchstone/engine/BookSide$Place") (r1 : Fld Z h0 x0 "org/matchstone/engine/BookSide$Place" "price" "J" (.long w1)) (r2 : Z.heap.size ≤ x0) (r3 : Fld Z h0 x0 "org/matchstone/engine/BookSide$Place" "priority" "J" (.long w2)) :
    Met FrameEnd l (⟨"org/matchstone/engine/BookSide$Place", "<init>", "(JJ)V"⟩ : MethodName) prog_8_method_1_code 5 none ws ⟨2, 0, 0, 24⟩ Z h0 #[(.ref x0), (.long x1), (.long x2)] (Q_a40_0 Z x0 h0) := by
  refine own_met "org/matchstone/engine/BookSide$Place" (plainFor_of_name pn_40) rfl #[.val (.ref x0), .val (.long x1), .second, .val (.long x2), .second] (fun _ => by first | (simp [entryFrame, mkF, argsToLocals, Value.category]; done) | rfl) ?_
  intro p e s m below meth c s₁ hx hby hlk hret hml hZ hown hnm X0 e0
  have N0 := Fr.nil Z.heap.size
  refine Go.step (fun _ kt_ => XS.aloadN X0.here hx rfl (hb hby d40_0) rfl rfl kt_) ?_
  obtain ⟨_, _, ⟨T1, L1, k1, n1⟩, -, X1, ⟨Lc1, hQ1, l1, y1, z1⟩, st1⟩ := X0.specialBack hx (y := (⟨"java/lang/Record", "<init>", "()V"⟩ : MethodName)) rfl hown (mvT hZ (wd hw 379 rfl)) (mvT hZ (wd hw 204 rfl)) (mvT hZ (wd hw 207 rfl)) (by decide) (backOf (W := 0) (rm_a22_0 l Z a0 hw []  x0 h0 O0 ) hZ (wd hw 207 rfl) (wd hw 206 rfl) (by decide) (by decide)) (g := (mkF m 1 #[.val (.ref x0), .val (.long x1), .second, .val (.long x2), .second] [(.ref x0)])) rfl (by rw [hml]; rfl) (Steps.refl _) (a := x0) (argsL := []) (rest := []) (lenOf pd_LRV rfl) rfl (by show 2 * 0 + _ ≤ _; exact Nat.le_of_eq rfl) (hb hby d40_1) (fun _ _ => ⟨rfl, e0, (by decide : 0 + 0 ≤ _), (by decide : 0 + 0 ≤ _)⟩)
  dsimp only [Pt.U, Pt.locs, Pt.cells, Pt.slots] at X1 l1 y1 z1 st1 hQ1
  subst y1 z1
  obtain ⟨rfl, Nq1, e1⟩ := hQ1
  have N1_ : Fr Z.heap.size L1 := by rw [l1]; exact Fr.app N0 Nq1
  refine Go.trans st1 ?_
  refine Go.step (fun _ kt_ => XS.aloadN X1.here hx rfl (hb hby d40_4) rfl rfl kt_) ?_
  refine Go.step (fun _ kt_ => XS.lloadN X1.here hx rfl (hb hby d40_5) rfl kt_) ?_
  obtain ⟨T2, h2, X2, e2, W2, st2⟩ := putF X1 hx hZ hown (host := "") (Or.inl (wd hw 380 rfl)) Via.refl e1 r1 r0 (Or.inr ⟨(wd hw 381 rfl), rfl, hnm⟩) (wd hw 373 rfl) (ty := .long) pf_J rfl rfl (g := (mkF m 6 #[.val (.ref x0), .val (.long x1), .second, .val (.long x2), .second] [(.long x1), (.ref x0)])) rfl rfl (hb hby d40_6)
  refine Go.step st2 ?_
  have N2_ := Fr.snoc X2 N1_ r2
  have O2_ : Ext Z.heap h2 := extWr O0 W2 r2
  have K2 := Keep.wr (Keep.refl h0 [x0]) W2 (Or.inl (List.mem_of_getElem? (i := 0) rfl))
  have F2 := Fld.same W2 r1
  refine Go.step (fun _ kt_ => XS.aloadN X2.here hx rfl (hb hby d40_9) rfl rfl kt_) ?_
  refine Go.step (fun _ kt_ => XS.lloadN X2.here hx rfl (hb hby d40_10) rfl kt_) ?_
  obtain ⟨T3, h3, X3, e3, W3, st3⟩ := putF X2 hx hZ hown (host := "") (Or.inl (wd hw 382 rfl)) Via.refl e2 (Fld.other W2 r3 (Or.inr (sn_322 hw))) (Exa.wr W2 r0) (Or.inr ⟨(wd hw 383 rfl), rfl, hnm⟩) (wd hw 373 rfl) (ty := .long) pf_J rfl rfl (g := (mkF m 11 #[.val (.ref x0), .val (.long x1), .second, .val (.long x2), .second] [(.long x2), (.ref x0)])) rfl rfl (hb hby d40_11)
  refine Go.step st3 ?_
  have N3_ := Fr.snoc X3 N2_ r2
  have O3_ : Ext Z.heap h3 := extWr O2_ W3 r2
  have K3 := Keep.wr K2 W3 (Or.inl (List.mem_of_getElem? (i := 0) rfl))
  have F3 := Fld.same W3 (Fld.other W2 r3 (Or.inr (sn_322 hw)))
  exact Go.retV X3 hx hret hlk (hb hby d40_14) (by decide) (by decide) (by show Q_a40_0 ..; rw [e3]; exact ⟨rfl, N3_, K3⟩)
theorem pd_LJJRV : parseMethodDescriptor "(JJ)V" = some ⟨[.long, .long], none⟩ := by decide +kernel
theorem d48_11 : decode prog_8_method_2_code 11 = .ok (.areturn, 1) := by decide +kernel
theorem pn_48 : plainName "org/matchstone/engine/BookSide$Place" = true := by first | (simp [plainName, overriddenIn]; done) | decide +kernel
def Q_a48_0 (Z : State)  (h0 : Heap) (v : Option Value) (h : Heap) (L : List Loc) : Prop := ∃ (b1 : Addr), v = some (.ref b1) ∧ Fr Z.heap.size L ∧ Keep h0 h [] ∧ h0.size ≤ b1 ∧ Exa Z h b1 "org/matchstone/engine/BookSide$Place"
set_option maxRecDepth 65536 in
set_option maxHeartbeats 40000000 in
theorem rm_a48_0 (l : Launch) (Z : State) (a0 : Array Value) (hw : HW Z a0) (ws : List Jvm.Cond) (x0 : Int64) (h0 : Heap) (O0 : Ext Z.heap h0) :
    Met FrameEnd l (⟨"org/matchstone/engine/BookSide$Place", "at", "(J)Lorg/matchstone/engine/BookSide$Place;"⟩ : MethodName) prog_8_method_2_code 2 (some (.object "org/matchstone/engine/BookSide$Place")) ws ⟨3, 1, 2, 41⟩ Z h0 #[(.long x0)] (Q_a48_0 Z  h0) := by
  refine own_met "org/matchstone/engine/BookSide$Place" (plainFor_of_name pn_48) rfl #[.val (.long x0), .second] (fun _ => by first | (simp [entryFrame, mkF, argsToLocals, Value.category]; done) | rfl) ?_
  intro p e s m below meth c s₁ hx hby hlk hret hml hZ hown hnm X0 e0
  have N0 := Fr.nil Z.heap.size
  obtain ⟨T1, h1, X1, e1, E1, A1, D1, U1, st1⟩ := newO X0 hx hZ hown (wd hw 372 rfl) (wd hw 373 rfl) (wd hw 370 rfl) e0 (g := (mkF m 0 #[.val (.long x0), .second] [])) rfl (hb hby d48_0) (by decide) (by decide)
  obtain ⟨b1, hb1⟩ : ∃ z, z = h0.size := ⟨_, rfl⟩
  rw [← hb1] at A1 D1 U1 st1
  refine Go.step st1 ?_
  have g_b1 : Z.heap.size ≤ b1 := Nat.le_trans O0.1 (Nat.le_of_eq hb1.symm)
  have O1_ : Ext Z.heap h1 := extTr O0 E1
  have sz_b1 : h0.size ≤ b1 := Nat.le_trans (Keep.refl h0 []).1 (Nat.le_of_eq hb1.symm)
  have K1 := Keep.ext (Keep.refl h0 []) E1
  have F1_price : Fld Z h1 b1 "org/matchstone/engine/BookSide$Place" "price" "J" (.long (0 : Int64)) := D1 (Or.inr (wd hw 381 rfl)) (ty := .long) pf_J
  have F1_priority : Fld Z h1 b1 "org/matchstone/engine/BookSide$Place" "priority" "J" (.long (0 : Int64)) := D1 (Or.inr (wd hw 383 rfl)) (ty := .long) pf_J
  refine Go.step (fun _ kt_ => XS.dup X1.here hx rfl (hb hby d48_3) rfl rfl kt_) ?_
  refine Go.step (fun _ kt_ => XS.lloadN X1.here hx rfl (hb hby d48_4) rfl kt_) ?_
  refine Go.step (X1.ldc2Long hx hown (mvT hZ (wd hw 438 rfl)) (g := (mkF m 5 #[.val (.long x0), .second] [(.long x0), (.ref b1), (.ref b1)])) rfl (hb hby d48_5)) ?_
  obtain ⟨_, _, ⟨T2, L2, k2, n2⟩, -, X2, ⟨Lc2, hQ2, l2, y2, z2⟩, st2⟩ := X1.specialBack hx (y := (⟨"org/matchstone/engine/BookSide$Place", "<init>", "(JJ)V"⟩ : MethodName)) rfl hown (mvT hZ (wd hw 376 rfl)) (mvT hZ (wd hw 377 rfl)) (mvT hZ (wd hw 378 rfl)) (by decide) (backOf (W := 1) (rm_a40_0 l Z a0 hw []  b1 x0 (-9223372036854775808 : Int64) (0 : Int64) (0 : Int64) h1 O1_ A1 F1_price g_b1 F1_priority) hZ (wd hw 378 rfl) (wd hw 370 rfl) (by decide) (by decide)) (g := (mkF m 8 #[.val (.long x0), .second] [(.long (-9223372036854775808 : Int64)), (.long x0), (.ref b1), (.ref b1)])) rfl (by rw [hml]; rfl) (Steps.refl _) (a := b1) (argsL := [(.long x0), (.long (-9223372036854775808 : Int64))]) (rest := [(.ref b1)]) (lenOf pd_LJJRV rfl) rfl (by show 2 * 0 + _ ≤ _; exact Nat.le_of_eq rfl) (hb hby d48_8) (fun _ _ => ⟨rfl, e1, (by decide : 1 + 0 ≤ _), (by decide : 2 + 0 ≤ _)⟩)
  dsimp only [Pt.U, Pt.locs, Pt.cells, Pt.slots] at X2 l2 y2 z2 st2 hQ2
  subst y2 z2
  obtain ⟨rfl, Nq2, Kq2⟩ := hQ2
  have O2_ : Ext Z.heap T2.heap := extKeep O1_ Kq2 (allS g_b1 all0)
  have K2 := Keep.trans K1 Kq2 (allS (Or.inr sz_b1) all0)
  have N2_ : Fr Z.heap.size L2 := by rw [l2]; exact Fr.app N0 Nq2
  refine Go.trans st2 ?_
  exact Go.retA X2 hx hret rfl rfl hlk (hb hby d48_11) (by decide) (by decide) ⟨b1, rfl, N2_, K2, sz_b1, (A1.keep Kq2)⟩
theorem pd_LJRLorg_matchstone_engine_BookSideSPlace_ : parseMethodDescriptor "(J)Lorg/matchstone/engine/BookSide$Place;" = some ⟨[.long], some (.object "org/matchstone/engine/BookSide$Place")⟩ := by decide +kernel
theorem d38_15 : decode prog_11_method_5_code 15 = .ok (.goto 7, 3) := by decide +kernel
theorem d38_22 : decode prog_11_method_5_code 22 = .ok (.putfield 13, 3) := by decide +kernel
theorem d38_25 : decode prog_11_method_5_code 25 = .ok (.aload_n 0, 1) := by decide +kernel
theorem d38_26 : decode prog_11_method_5_code 26 = .ok (.aload_n 1, 1) := by decide +kernel
theorem d38_27 : decode prog_11_method_5_code 27 = .ok (.getfield 46, 3) := by decide +kernel
theorem d38_30 : decode prog_11_method_5_code 30 = .ok (.ifCond .eq 7, 3) := by decide +kernel
theorem d38_33 : decode prog_11_method_5_code 33 = .ok (.aconst_null, 1) := by decide +kernel
theorem d38_34 : decode prog_11_method_5_code 34 = .ok (.goto 4, 3) := by decide +kernel
theorem d38_38 : decode prog_11_method_5_code 38 = .ok (.putfield 31, 3) := by decide +kernel
theorem d38_41 : decode prog_11_method_5_code 41 = .ok (.aload_n 1, 1) := by decide +kernel
theorem d38_42 : decode prog_11_method_5_code 42 = .ok (.aload_n 0, 1) := by decide +kernel
theorem d38_43 : decode prog_11_method_5_code 43 = .ok (.getfield 21, 3) := by decide +kernel
theorem d38_46 : decode prog_11_method_5_code 46 = .ok (.if_acmp .ne 8, 3) := by decide +kernel
theorem d38_54 : decode prog_11_method_5_code 54 = .ok (.return_, 1) := by decide +kernel
theorem pn_38 : plainName "org/matchstone/engine/BookSide$Walk" = true := by first | (simp [plainName, overriddenIn]; done) | decide +kernel
def Q_a38_0 (Z : State) (x0 : Addr) (w3 : Int32) (h0 : Heap) (v : Option Value) (h : Heap) (L : List Loc) : Prop := ∃ (b1q3 : Addr), v = none ∧ Fr Z.heap.size L ∧ Keep h0 h [x0] ∧ fl_0 Z h x0 (.ref b1q3) ∧ fl_1 Z h x0 .null ∧ fl_2 Z h x0 .null ∧ fl_3 Z h x0 (.int w3) ∧ h0.size ≤ b1q3 ∧ Exa Z h b1q3 "org/matchstone/engine/BookSide$Place"
set_option maxRecDepth 65536 in
set_option maxHeartbeats 40000000 in
theorem rm_a38_0 (l : Launch) (Z : State) (a0 : Array Value) (hw : HW Z a0) (ws : List Jvm.Cond) (x0 : Addr) (x1 : Addr) (w1 : Int32) (w2 : Int64) (w3 : Int32) (h0 : Heap) (O0 : Ext Z.heap h0) (r0 : fl_28 Z h0 x1 (.int w1)) (r1 : ¬ (w1 = (0 : Int32))) (r2 : fl_33 Z h0 x1 (.long w2)) (r3 : Exa Z h0 x0 "org/matchstone/engine/BookSide$Walk") (r4 : fl_0 Z h0 x0 .null) (r5 : Z.heap.size ≤ x0) (r6 : x1 ≠ x0) (r7 : fl_1 Z h0 x0 .null) (r8 : fl_2 Z h0 x0 .null) (r9 : fl_3 Z h0 x0 (.int w3)) :
    Met FrameEnd l (⟨"org/matchstone/engine/BookSide$Walk", "step", "(Lorg/matchstone/engine/BookSide$Order;)V"⟩ : MethodName) prog_11_method_5_code 2 none ws ⟨4, 1, 2, 55⟩ Z h0 #[(.ref x0), (.ref x1)] (Q_a38_0 Z x0 w3 h0) := by
  refine own_met "org/matchstone/engine/BookSide$Walk" (plainFor_of_name pn_38) rfl #[.val (.ref x0), .val (.ref x1)] (fun _ => by first | (simp [entryFrame, mkF, argsToLocals, Value.category]; done) | rfl) ?_
  intro p e s m below meth c s₁ hx hby hlk hret hml hZ hown hnm X0 e0
  have N0 := Fr.nil Z.heap.size
  refine Go.step (fun _ kt_ => XS.aloadN X0.here hx rfl (hb hby d38_0) rfl rfl kt_) ?_
  refine Go.step (fun _ kt_ => XS.aloadN X0.here hx rfl (hb hby d38_1) rfl rfl kt_) ?_
  obtain ⟨T1, X1, e1, st1⟩ := getF X0 hx hZ hown (host := "") (Or.inl (wd hw 367 rfl)) Via.refl e0 r0 (g := (mkF m 2 #[.val (.ref x0), .val (.ref x1)] [(.ref x1), (.ref x0)])) rfl rfl (hb hby d38_2)
  refine Go.step st1 ?_
  refine Go.step (fun _ kt_ => XS.ifNo X1.here hx rfl (hb hby d38_5) rfl ((if0 _ _).trans (feq r1).1) kt_) ?_
  refine Go.step (fun _ kt_ => XS.aloadN X1.here hx rfl (hb hby d38_8) rfl rfl kt_) ?_
  obtain ⟨T2, X2, e2, st2⟩ := getF X1 hx hZ hown (host := "") (Or.inl (wd hw 434 rfl)) Via.refl e1 r2 (g := (mkF m 9 #[.val (.ref x0), .val (.ref x1)] [(.ref x1), (.ref x0)])) rfl rfl (hb hby d38_9)
  refine Go.step st2 ?_
  obtain ⟨_, _, ⟨T3, L3, k3, n3⟩, -, X3, ⟨Lc3, hQ3, l3, y3, z3⟩, st3⟩ := Jvm.LawKit.callS X2 hx (y := (⟨"org/matchstone/engine/BookSide$Place", "at", "(J)Lorg/matchstone/engine/BookSide$Place;"⟩ : MethodName)) hown (mvT hZ (wd hw 435 rfl)) (mvT hZ (wd hw 436 rfl)) (mvT hZ (wd hw 370 rfl)) (mvT hZ (wd hw 437 rfl)) (by decide) (backOf (W := 1) (rm_a48_0 l Z a0 hw []  w2 h0 O0 ) hZ (wd hw 437 rfl) (wd hw 370 rfl) (by decide) (by decide)) (g := (mkF m 12 #[.val (.ref x0), .val (.ref x1)] [(.long w2), (.ref x0)])) rfl (by rw [hml]; rfl) (argsL := [(.long w2)]) (rest := [(.ref x0)]) (lenOf pd_LJRLorg_matchstone_engine_BookSideSPlace_ rfl) rfl (by show 2 * 0 + _ ≤ _; exact Nat.le_of_eq rfl) (hb hby d38_12) (fun _ _ => ⟨rfl, e2, (by decide : 0 + 1 ≤ _), (by decide : 0 + 2 ≤ _)⟩)
  dsimp only [Pt.U, Pt.locs, Pt.cells, Pt.slots] at X3 l3 y3 z3 st3 hQ3
  subst y3 z3
  obtain ⟨b1q3, rfl, Nq3, Kq3, p3_0, p3_1⟩ := hQ3
  have O3_ : Ext Z.heap T3.heap := extKeep O0 Kq3 all0
  have K3 := Keep.trans (Keep.refl h0 [x0]) Kq3 all0
  have N3_ : Fr Z.heap.size L3 := by rw [l3]; exact Fr.app N0 Nq3
  have g_b1q3 : Z.heap.size ≤ b1q3 := Nat.le_trans O0.1 p3_0
  have sz_b1q3 : h0.size ≤ b1q3 := Nat.le_trans (Keep.refl h0 [x0]).1 p3_0
  refine Go.step st3 ?_
  refine Go.step (fun _ kt_ => XS.goto X3.here hx rfl (pc0 := 15) (pc' := 22) rfl (hb hby d38_15) (by decide) (by decide) kt_) ?_
  obtain ⟨T4, h4, X4, e4, W4, st4⟩ := putF X3 hx hZ hown (host := "") (Or.inl (wd hw 384 rfl)) Via.refl rfl (r4.keep Kq3 nin0) (r3.keep Kq3) (Or.inl (wd hw 385 rfl)) (wd hw 138 rfl) (ty := (.object "org/matchstone/engine/BookSide$Place")) pf_Lorg_matchstone_engine_BookSideSPlace_ rfl rfl (g := (mkF m 22 #[.val (.ref x0), .val (.ref x1)] [(.ref b1q3), (.ref x0)])) rfl rfl (hb hby d38_22)
  refine Go.step st4 ?_
  have N4_ := Fr.snoc X4 N3_ r5
  have O4_ : Ext Z.heap h4 := extWr O3_ W4 r5
  have K4 := Keep.wr K3 W4 (Or.inl (List.mem_of_getElem? (i := 0) rfl))
  have F4 := Fld.same W4 (r4.keep Kq3 nin0)
  refine Go.step (fun _ kt_ => XS.aloadN X4.here hx rfl (hb hby d38_25) rfl rfl kt_) ?_
  refine Go.step (fun _ kt_ => XS.aloadN X4.here hx rfl (hb hby d38_26) rfl rfl kt_) ?_
  have f5 := (Fld.other W4 (r0.keep Kq3 nin0) (Or.inl r6))
  obtain ⟨T6, X6, e6, st6⟩ := getF X4 hx hZ hown (host := "") (Or.inl (wd hw 367 rfl)) Via.refl e4 f5 (g := (mkF m 27 #[.val (.ref x0), .val (.ref x1)] [(.ref x1), (.ref x0)])) rfl rfl (hb hby d38_27)
  refine Go.step st6 ?_
  refine Go.step (fun _ kt_ => XS.ifNo X6.here hx rfl (hb hby d38_30) rfl ((if0 _ _).trans (feq r1).1) kt_) ?_
  refine Go.step (fun _ kt_ => XS.aconstNull X6.here hx rfl (hb hby d38_33)  kt_) ?_
  refine Go.step (fun _ kt_ => XS.goto X6.here hx rfl (pc0 := 34) (pc' := 38) rfl (hb hby d38_34) (by decide) (by decide) kt_) ?_
  have f7 := (Fld.other W4 (r7.keep Kq3 nin0) (Or.inr (sn_323 hw)))
  obtain ⟨T8, h8, X8, e8, W8, st8⟩ := putF X6 hx hZ hown (host := "") (Or.inl (wd hw 386 rfl)) Via.refl e6 f7 (Exa.wr W4 (r3.keep Kq3)) (Or.inl (wd hw 387 rfl)) (wd hw 138 rfl) (ty := (.object "org/matchstone/engine/BookSide$Order")) pf_Lorg_matchstone_engine_BookSideSOrder_ rfl rfl (g := (mkF m 38 #[.val (.ref x0), .val (.ref x1)] [.null, (.ref x0)])) rfl rfl (hb hby d38_38)
  refine Go.step st8 ?_
  have N8_ := Fr.snoc X8 N4_ r5
  have O8_ : Ext Z.heap h8 := extWr O4_ W8 r5
  have K8 := Keep.wr K4 W8 (Or.inl (List.mem_of_getElem? (i := 0) rfl))
  have F8 := Fld.same W8 f7
  refine Go.step (fun _ kt_ => XS.aloadN X8.here hx rfl (hb hby d38_41) rfl rfl kt_) ?_
  refine Go.step (fun _ kt_ => XS.aloadN X8.here hx rfl (hb hby d38_42) rfl rfl kt_) ?_
  have f9 := (Fld.other W8 (Fld.other W4 (r8.keep Kq3 nin0) (Or.inr (sn_324 hw))) (Or.inr (sn_325 hw)))
  obtain ⟨T10, X10, e10, st10⟩ := getF X8 hx hZ hown (host := "") (Or.inl (wd hw 388 rfl)) Via.refl e8 f9 (g := (mkF m 43 #[.val (.ref x0), .val (.ref x1)] [(.ref x0), (.ref x1)])) rfl rfl (hb hby d38_43)
  refine Go.step st10 ?_
  refine Go.step (fun _ kt_ => Jvm.RoadKit.acmp (g := (mkF m 46 #[.val (.ref x0), .val (.ref x1)] [.null, (.ref x1)])) X10 hx rfl rfl rfl (pc0 := 46) (pc' := 54) (same := false) rfl (hb hby d38_46) rfl (decide_eq_false nofun) (by decide) (by decide) kt_) ?_
  show Go _ _ _ _ _ _ _ _ T10 (mkF m 54 #[.val (.ref x0), .val (.ref x1)] [])
  have f11 := (Fld.other W8 F4 (Or.inr (Ne.symm (sn_323 hw))))
  have f12 := (Fld.other W8 (Fld.other W4 (r9.keep Kq3 nin0) (Or.inr (sn_326 hw))) (Or.inr (sn_327 hw)))
  exact Go.retV X10 hx hret hlk (hb hby d38_54) (by decide) (by decide) (by show Q_a38_0 ..; rw [e10]; exact ⟨b1q3, rfl, N8_, K8, f11, F8, f9, f12, sz_b1q3, (Exa.wr W8 (Exa.wr W4 p3_1))⟩)
theorem pd_LLorg_matchstone_engine_BookSideSOrder_RV : parseMethodDescriptor "(Lorg/matchstone/engine/BookSide$Order;)V" = some ⟨[(.object "org/matchstone/engine/BookSide$Order")], none⟩ := by decide +kernel
theorem d41_0 : decode prog_11_method_4_code 0 = .ok (.aload_n 0, 1) := by decide +kernel
theorem d41_1 : decode prog_11_method_4_code 1 = .ok (.getfield 31, 3) := by decide +kernel
theorem d41_4 : decode prog_11_method_4_code 4 = .ok (.ifnonnull 7, 3) := by decide +kernel
theorem d41_7 : decode prog_11_method_4_code 7 = .ok (.aconst_null, 1) := by decide +kernel
theorem d41_8 : decode prog_11_method_4_code 8 = .ok (.goto 10, 3) := by decide +kernel
theorem d41_18 : decode prog_11_method_4_code 18 = .ok (.astore_n 3, 1) := by decide +kernel
theorem d41_19 : decode prog_11_method_4_code 19 = .ok (.aload_n 3, 1) := by decide +kernel
theorem d41_20 : decode prog_11_method_4_code 20 = .ok (.ifnull 25, 3) := by decide +kernel
theorem d41_45 : decode prog_11_method_4_code 45 = .ok (.aconst_null, 1) := by decide +kernel
theorem d41_46 : decode prog_11_method_4_code 46 = .ok (.areturn, 1) := by decide +kernel
theorem pn_41 : plainName "org/matchstone/engine/BookSide$Walk" = true := by first | (simp [plainName, overriddenIn]; done) | decide +kernel
def Q_a41_0 (Z : State)  (h0 : Heap) (v : Option Value) (h : Heap) (L : List Loc) : Prop := v = some .null ∧ Fr Z.heap.size L ∧ h = h0
set_option maxRecDepth 65536 in
set_option maxHeartbeats 40000000 in
theorem rm_a41_0 (l : Launch) (Z : State) (a0 : Array Value) (hw : HW Z a0) (ws : List Jvm.Cond) (x0 : Addr) (x1 : Int64) (h0 : Heap) (O0 : Ext Z.heap h0) (r0 : fl_1 Z h0 x0 .null) :
    Met FrameEnd l (⟨"org/matchstone/engine/BookSide$Walk", "nextBehind", "(J)Lorg/matchstone/engine/BookSide$Order;"⟩ : MethodName) prog_11_method_4_code 4 (some (.object "org/matchstone/engine/BookSide$Order")) ws ⟨0, 0, 0, 0⟩ Z h0 #[(.ref x0), (.long x1)] (Q_a41_0 Z  h0) := by
  refine own_met "org/matchstone/engine/BookSide$Walk" (plainFor_of_name pn_41) rfl #[.val (.ref x0), .val (.long x1), .second, .unset] (fun _ => by first | (simp [entryFrame, mkF, argsToLocals, Value.category]; done) | rfl) ?_
  intro p e s m below meth c s₁ hx hby hlk hret hml hZ hown hnm X0 e0
  have N0 := Fr.nil Z.heap.size
  refine Go.step (fun _ kt_ => XS.aloadN X0.here hx rfl (hb hby d41_0) rfl rfl kt_) ?_
  obtain ⟨T1, X1, e1, st1⟩ := getF X0 hx hZ hown (host := "") (Or.inl (wd hw 386 rfl)) Via.refl e0 r0 (g := (mkF m 1 #[.val (.ref x0), .val (.long x1), .second, .unset] [(.ref x0)])) rfl rfl (hb hby d41_1)
  refine Go.step st1 ?_
  refine Go.step (fun _ kt_ => XS.ifnonnullNo X1.here hx rfl (hb hby d41_4) rfl kt_) ?_
  refine Go.step (fun _ kt_ => XS.aconstNull X1.here hx rfl (hb hby d41_7)  kt_) ?_
  refine Go.step (fun _ kt_ => XS.goto X1.here hx rfl (pc0 := 8) (pc' := 18) rfl (hb hby d41_8) (by decide) (by decide) kt_) ?_
  refine Go.step (fun _ kt_ => XS.astoreN X1.here hx rfl (hb hby d41_18) rfl rfl (l' := #[.val (.ref x0), .val (.long x1), .second, .val .null]) rfl kt_) ?_
  refine Go.step (fun _ kt_ => XS.aloadN X1.here hx rfl (hb hby d41_19) rfl rfl kt_) ?_
  refine Go.step (fun _ kt_ => XS.ifnullYes X1.here hx rfl (pc0 := 20) (pc' := 45) rfl (hb hby d41_20) rfl (by decide) (by decide) kt_) ?_
  refine Go.step (fun _ kt_ => XS.aconstNull X1.here hx rfl (hb hby d41_45)  kt_) ?_
  exact Go.retA X1 hx hret rfl rfl hlk (hb hby d41_46) (by decide) (by decide) (by show _ ∧ _ ∧ _; rw [e1]; exact ⟨rfl, N0, rfl⟩)
theorem pd_LJRLorg_matchstone_engine_BookSideSOrder_ : parseMethodDescriptor "(J)Lorg/matchstone/engine/BookSide$Order;" = some ⟨[.long], some (.object "org/matchstone/engine/BookSide$Order")⟩ := by decide +kernel
theorem d38_18 : decode prog_11_method_5_code 18 = .ok (.aload_n 1, 1) := by decide +kernel
theorem d38_19 : decode prog_11_method_5_code 19 = .ok (.invokestatic 57, 3) := by decide +kernel
theorem d39_0 : decode prog_8_method_4_code 0 = .ok (.new 8, 3) := by decide +kernel
theorem d39_3 : decode prog_8_method_4_code 3 = .ok (.dup, 1) := by decide +kernel
theorem d39_4 : decode prog_8_method_4_code 4 = .ok (.aload_n 0, 1) := by decide +kernel
theorem d39_5 : decode prog_8_method_4_code 5 = .ok (.getfield 25, 3) := by decide +kernel
theorem d39_8 : decode prog_8_method_4_code 8 = .ok (.aload_n 0, 1) := by decide +kernel
theorem d39_9 : decode prog_8_method_4_code 9 = .ok (.getfield 28, 3) := by decide +kernel
theorem d39_12 : decode prog_8_method_4_code 12 = .ok (.invokespecial 20, 3) := by decide +kernel
theorem d39_15 : decode prog_8_method_4_code 15 = .ok (.areturn, 1) := by decide +kernel
theorem pn_39 : plainName "org/matchstone/engine/BookSide$Place" = true := by first | (simp [plainName, overriddenIn]; done) | decide +kernel
def Q_a39_0 (Z : State)  (h0 : Heap) (v : Option Value) (h : Heap) (L : List Loc) : Prop := ∃ (b1 : Addr), v = some (.ref b1) ∧ Fr Z.heap.size L ∧ Keep h0 h [] ∧ h0.size ≤ b1 ∧ Exa Z h b1 "org/matchstone/engine/BookSide$Place"
set_option maxRecDepth 65536 in
set_option maxHeartbeats 40000000 in
theorem rm_a39_0 (l : Launch) (Z : State) (a0 : Array Value) (hw : HW Z a0) (ws : List Jvm.Cond) (x0 : Addr) (w1 : Int64) (w2 : Int64) (h0 : Heap) (O0 : Ext Z.heap h0) (r0 : fl_33 Z h0 x0 (.long w1)) (r1 : fl_34 Z h0 x0 (.long w2)) :
    Met FrameEnd l (⟨"org/matchstone/engine/BookSide$Place", "behind", "(Lorg/matchstone/engine/BookSide$Order;)Lorg/matchstone/engine/BookSide$Place;"⟩ : MethodName) prog_8_method_4_code 1 (some (.object "org/matchstone/engine/BookSide$Place")) ws ⟨3, 1, 2, 41⟩ Z h0 #[(.ref x0)] (Q_a39_0 Z  h0) := by
  refine own_met "org/matchstone/engine/BookSide$Place" (plainFor_of_name pn_39) rfl #[.val (.ref x0)] (fun _ => by first | (simp [entryFrame, mkF, argsToLocals, Value.category]; done) | rfl) ?_
  intro p e s m below meth c s₁ hx hby hlk hret hml hZ hown hnm X0 e0
  have N0 := Fr.nil Z.heap.size
  obtain ⟨T1, h1, X1, e1, E1, A1, D1, U1, st1⟩ := newO X0 hx hZ hown (wd hw 372 rfl) (wd hw 373 rfl) (wd hw 370 rfl) e0 (g := (mkF m 0 #[.val (.ref x0)] [])) rfl (hb hby d39_0) (by decide) (by decide)
  obtain ⟨b1, hb1⟩ : ∃ z, z = h0.size := ⟨_, rfl⟩
  rw [← hb1] at A1 D1 U1 st1
  refine Go.step st1 ?_
  have g_b1 : Z.heap.size ≤ b1 := Nat.le_trans O0.1 (Nat.le_of_eq hb1.symm)
  have O1_ : Ext Z.heap h1 := extTr O0 E1
  have sz_b1 : h0.size ≤ b1 := Nat.le_trans (Keep.refl h0 []).1 (Nat.le_of_eq hb1.symm)
  have K1 := Keep.ext (Keep.refl h0 []) E1
  have F1_price : Fld Z h1 b1 "org/matchstone/engine/BookSide$Place" "price" "J" (.long (0 : Int64)) := D1 (Or.inr (wd hw 381 rfl)) (ty := .long) pf_J
  have F1_priority : Fld Z h1 b1 "org/matchstone/engine/BookSide$Place" "priority" "J" (.long (0 : Int64)) := D1 (Or.inr (wd hw 383 rfl)) (ty := .long) pf_J
  refine Go.step (fun _ kt_ => XS.dup X1.here hx rfl (hb hby d39_3) rfl rfl kt_) ?_
  refine Go.step (fun _ kt_ => XS.aloadN X1.here hx rfl (hb hby d39_4) rfl rfl kt_) ?_
  obtain ⟨T2, X2, e2, st2⟩ := getF X1 hx hZ hown (host := "") (Or.inl (wd hw 374 rfl)) Via.refl e1 (Fld.ext E1 r0) (g := (mkF m 5 #[.val (.ref x0)] [(.ref x0), (.ref b1), (.ref b1)])) rfl rfl (hb hby d39_5)
  refine Go.step st2 ?_
  refine Go.step (fun _ kt_ => XS.aloadN X2.here hx rfl (hb hby d39_8) rfl rfl kt_) ?_
  obtain ⟨T3, X3, e3, st3⟩ := getF X2 hx hZ hown (host := "") (Or.inl (wd hw 375 rfl)) Via.refl e2 (Fld.ext E1 r1) (g := (mkF m 9 #[.val (.ref x0)] [(.ref x0), (.long w1), (.ref b1), (.ref b1)])) rfl rfl (hb hby d39_9)
  refine Go.step st3 ?_
  obtain ⟨_, _, ⟨T4, L4, k4, n4⟩, -, X4, ⟨Lc4, hQ4, l4, y4, z4⟩, st4⟩ := X3.specialBack hx (y := (⟨"org/matchstone/engine/BookSide$Place", "<init>", "(JJ)V"⟩ : MethodName)) rfl hown (mvT hZ (wd hw 376 rfl)) (mvT hZ (wd hw 377 rfl)) (mvT hZ (wd hw 378 rfl)) (by decide) (backOf (W := 1) (rm_a40_0 l Z a0 hw []  b1 w1 w2 (0 : Int64) (0 : Int64) h1 O1_ A1 F1_price g_b1 F1_priority) hZ (wd hw 378 rfl) (wd hw 370 rfl) (by decide) (by decide)) (g := (mkF m 12 #[.val (.ref x0)] [(.long w2), (.long w1), (.ref b1), (.ref b1)])) rfl (by rw [hml]; rfl) (Steps.refl _) (a := b1) (argsL := [(.long w1), (.long w2)]) (rest := [(.ref b1)]) (lenOf pd_LJJRV rfl) rfl (by show 2 * 0 + _ ≤ _; exact Nat.le_of_eq rfl) (hb hby d39_12) (fun _ _ => ⟨rfl, e3, (by decide : 1 + 0 ≤ _), (by decide : 2 + 0 ≤ _)⟩)
  dsimp only [Pt.U, Pt.locs, Pt.cells, Pt.slots] at X4 l4 y4 z4 st4 hQ4
  subst y4 z4
  obtain ⟨rfl, Nq4, Kq4⟩ := hQ4
  have O4_ : Ext Z.heap T4.heap := extKeep O1_ Kq4 (allS g_b1 all0)
  have K4 := Keep.trans K1 Kq4 (allS (Or.inr sz_b1) all0)
  have N4_ : Fr Z.heap.size L4 := by rw [l4]; exact Fr.app N0 Nq4
  refine Go.trans st4 ?_
  exact Go.retA X4 hx hret rfl rfl hlk (hb hby d39_15) (by decide) (by decide) ⟨b1, rfl, N4_, K4, sz_b1, (A1.keep Kq4)⟩
theorem pd_LLorg_matchstone_engine_BookSideSOrder_RLorg_matchstone_engine_BookSideSPlace_ : parseMethodDescriptor "(Lorg/matchstone/engine/BookSide$Order;)Lorg/matchstone/engine/BookSide$Place;" = some ⟨[(.object "org/matchstone/engine/BookSide$Order")], some (.object "org/matchstone/engine/BookSide$Place")⟩ := by decide +kernel
theorem d38_37 : decode prog_11_method_5_code 37 = .ok (.aload_n 1, 1) := by decide +kernel
def Q_a38_1 (Z : State) (x0 : Addr) (x1 : Addr) (w4 : Int32) (h0 : Heap) (v : Option Value) (h : Heap) (L : List Loc) : Prop := ∃ (b1q2 : Addr), v = none ∧ Fr Z.heap.size L ∧ Keep h0 h [x0] ∧ fl_0 Z h x0 (.ref b1q2) ∧ fl_1 Z h x0 (.ref x1) ∧ fl_2 Z h x0 .null ∧ fl_3 Z h x0 (.int w4) ∧ h0.size ≤ b1q2 ∧ Exa Z h b1q2 "org/matchstone/engine/BookSide$Place"
set_option maxRecDepth 65536 in
set_option maxHeartbeats 40000000 in
theorem rm_a38_1 (l : Launch) (Z : State) (a0 : Array Value) (hw : HW Z a0) (ws : List Jvm.Cond) (x0 : Addr) (x1 : Addr) (w1 : Int32) (w2 : Int64) (w3 : Int64) (w4 : Int32) (h0 : Heap) (O0 : Ext Z.heap h0) (r0 : fl_28 Z h0 x1 (.int w1)) (r1 : w1 = (0 : Int32)) (r2 : fl_33 Z h0 x1 (.long w2)) (r3 : fl_34 Z h0 x1 (.long w3)) (r4 : Exa Z h0 x0 "org/matchstone/engine/BookSide$Walk") (r5 : fl_0 Z h0 x0 .null) (r6 : Z.heap.size ≤ x0) (r7 : x1 ≠ x0) (r8 : fl_1 Z h0 x0 .null) (r9 : fl_2 Z h0 x0 .null) (r10 : fl_3 Z h0 x0 (.int w4)) :
    Met FrameEnd l (⟨"org/matchstone/engine/BookSide$Walk", "step", "(Lorg/matchstone/engine/BookSide$Order;)V"⟩ : MethodName) prog_11_method_5_code 2 none ws ⟨4, 1, 2, 54⟩ Z h0 #[(.ref x0), (.ref x1)] (Q_a38_1 Z x0 x1 w4 h0) := by
  refine own_met "org/matchstone/engine/BookSide$Walk" (plainFor_of_name pn_38) rfl #[.val (.ref x0), .val (.ref x1)] (fun _ => by first | (simp [entryFrame, mkF, argsToLocals, Value.category]; done) | rfl) ?_
  intro p e s m below meth c s₁ hx hby hlk hret hml hZ hown hnm X0 e0
  have N0 := Fr.nil Z.heap.size
  refine Go.step (fun _ kt_ => XS.aloadN X0.here hx rfl (hb hby d38_0) rfl rfl kt_) ?_
  refine Go.step (fun _ kt_ => XS.aloadN X0.here hx rfl (hb hby d38_1) rfl rfl kt_) ?_
  obtain ⟨T1, X1, e1, st1⟩ := getF X0 hx hZ hown (host := "") (Or.inl (wd hw 367 rfl)) Via.refl e0 r0 (g := (mkF m 2 #[.val (.ref x0), .val (.ref x1)] [(.ref x1), (.ref x0)])) rfl rfl (hb hby d38_2)
  refine Go.step st1 ?_
  refine Go.step (fun _ kt_ => XS.ifYes X1.here hx rfl (pc0 := 5) (pc' := 18) rfl (hb hby d38_5) rfl ((if0 _ _).trans (teq r1).1) (by decide) (by decide) kt_) ?_
  refine Go.step (fun _ kt_ => XS.aloadN X1.here hx rfl (hb hby d38_18) rfl rfl kt_) ?_
  obtain ⟨_, _, ⟨T2, L2, k2, n2⟩, -, X2, ⟨Lc2, hQ2, l2, y2, z2⟩, st2⟩ := Jvm.LawKit.callS X1 hx (y := (⟨"org/matchstone/engine/BookSide$Place", "behind", "(Lorg/matchstone/engine/BookSide$Order;)Lorg/matchstone/engine/BookSide$Place;"⟩ : MethodName)) hown (mvT hZ (wd hw 368 rfl)) (mvT hZ (wd hw 369 rfl)) (mvT hZ (wd hw 370 rfl)) (mvT hZ (wd hw 371 rfl)) (by decide) (backOf (W := 1) (rm_a39_0 l Z a0 hw []  x1 w2 w3 h0 O0 r2 r3) hZ (wd hw 371 rfl) (wd hw 370 rfl) (by decide) (by decide)) (g := (mkF m 19 #[.val (.ref x0), .val (.ref x1)] [(.ref x1), (.ref x0)])) rfl (by rw [hml]; rfl) (argsL := [(.ref x1)]) (rest := [(.ref x0)]) (lenOf pd_LLorg_matchstone_engine_BookSideSOrder_RLorg_matchstone_engine_BookSideSPlace_ rfl) rfl (by show 2 * 0 + _ ≤ _; exact Nat.le_of_eq rfl) (hb hby d38_19) (fun _ _ => ⟨rfl, e1, (by decide : 0 + 1 ≤ _), (by decide : 0 + 2 ≤ _)⟩)
  dsimp only [Pt.U, Pt.locs, Pt.cells, Pt.slots] at X2 l2 y2 z2 st2 hQ2
  subst y2 z2
  obtain ⟨b1q2, rfl, Nq2, Kq2, p2_0, p2_1⟩ := hQ2
  have O2_ : Ext Z.heap T2.heap := extKeep O0 Kq2 all0
  have K2 := Keep.trans (Keep.refl h0 [x0]) Kq2 all0
  have N2_ : Fr Z.heap.size L2 := by rw [l2]; exact Fr.app N0 Nq2
  have g_b1q2 : Z.heap.size ≤ b1q2 := Nat.le_trans O0.1 p2_0
  have sz_b1q2 : h0.size ≤ b1q2 := Nat.le_trans (Keep.refl h0 [x0]).1 p2_0
  refine Go.step st2 ?_
  obtain ⟨T3, h3, X3, e3, W3, st3⟩ := putF X2 hx hZ hown (host := "") (Or.inl (wd hw 384 rfl)) Via.refl rfl (r5.keep Kq2 nin0) (r4.keep Kq2) (Or.inl (wd hw 385 rfl)) (wd hw 138 rfl) (ty := (.object "org/matchstone/engine/BookSide$Place")) pf_Lorg_matchstone_engine_BookSideSPlace_ rfl rfl (g := (mkF m 22 #[.val (.ref x0), .val (.ref x1)] [(.ref b1q2), (.ref x0)])) rfl rfl (hb hby d38_22)
  refine Go.step st3 ?_
  have N3_ := Fr.snoc X3 N2_ r6
  have O3_ : Ext Z.heap h3 := extWr O2_ W3 r6
  have K3 := Keep.wr K2 W3 (Or.inl (List.mem_of_getElem? (i := 0) rfl))
  have F3 := Fld.same W3 (r5.keep Kq2 nin0)
  refine Go.step (fun _ kt_ => XS.aloadN X3.here hx rfl (hb hby d38_25) rfl rfl kt_) ?_
  refine Go.step (fun _ kt_ => XS.aloadN X3.here hx rfl (hb hby d38_26) rfl rfl kt_) ?_
  have f4 := (Fld.other W3 (r0.keep Kq2 nin0) (Or.inl r7))
  obtain ⟨T5, X5, e5, st5⟩ := getF X3 hx hZ hown (host := "") (Or.inl (wd hw 367 rfl)) Via.refl e3 f4 (g := (mkF m 27 #[.val (.ref x0), .val (.ref x1)] [(.ref x1), (.ref x0)])) rfl rfl (hb hby d38_27)
  refine Go.step st5 ?_
  refine Go.step (fun _ kt_ => XS.ifYes X5.here hx rfl (pc0 := 30) (pc' := 37) rfl (hb hby d38_30) rfl ((if0 _ _).trans (teq r1).1) (by decide) (by decide) kt_) ?_
  refine Go.step (fun _ kt_ => XS.aloadN X5.here hx rfl (hb hby d38_37) rfl rfl kt_) ?_
  have f6 := (Fld.other W3 (r8.keep Kq2 nin0) (Or.inr (sn_323 hw)))
  obtain ⟨T7, h7, X7, e7, W7, st7⟩ := putF X5 hx hZ hown (host := "") (Or.inl (wd hw 386 rfl)) Via.refl e5 f6 (Exa.wr W3 (r4.keep Kq2)) (Or.inl (wd hw 387 rfl)) (wd hw 138 rfl) (ty := (.object "org/matchstone/engine/BookSide$Order")) pf_Lorg_matchstone_engine_BookSideSOrder_ rfl rfl (g := (mkF m 38 #[.val (.ref x0), .val (.ref x1)] [(.ref x1), (.ref x0)])) rfl rfl (hb hby d38_38)
  refine Go.step st7 ?_
  have N7_ := Fr.snoc X7 N3_ r6
  have O7_ : Ext Z.heap h7 := extWr O3_ W7 r6
  have K7 := Keep.wr K3 W7 (Or.inl (List.mem_of_getElem? (i := 0) rfl))
  have F7 := Fld.same W7 f6
  refine Go.step (fun _ kt_ => XS.aloadN X7.here hx rfl (hb hby d38_41) rfl rfl kt_) ?_
  refine Go.step (fun _ kt_ => XS.aloadN X7.here hx rfl (hb hby d38_42) rfl rfl kt_) ?_
  have f8 := (Fld.other W7 (Fld.other W3 (r9.keep Kq2 nin0) (Or.inr (sn_324 hw))) (Or.inr (sn_325 hw)))
  obtain ⟨T9, X9, e9, st9⟩ := getF X7 hx hZ hown (host := "") (Or.inl (wd hw 388 rfl)) Via.refl e7 f8 (g := (mkF m 43 #[.val (.ref x0), .val (.ref x1)] [(.ref x0), (.ref x1)])) rfl rfl (hb hby d38_43)
  refine Go.step st9 ?_
  refine Go.step (fun _ kt_ => Jvm.RoadKit.acmp (g := (mkF m 46 #[.val (.ref x0), .val (.ref x1)] [.null, (.ref x1)])) X9 hx rfl rfl rfl (pc0 := 46) (pc' := 54) (same := false) rfl (hb hby d38_46) rfl (decide_eq_false nofun) (by decide) (by decide) kt_) ?_
  show Go _ _ _ _ _ _ _ _ T9 (mkF m 54 #[.val (.ref x0), .val (.ref x1)] [])
  have f10 := (Fld.other W7 F3 (Or.inr (Ne.symm (sn_323 hw))))
  have f11 := (Fld.other W7 (Fld.other W3 (r10.keep Kq2 nin0) (Or.inr (sn_326 hw))) (Or.inr (sn_327 hw)))
  exact Go.retV X9 hx hret hlk (hb hby d38_54) (by decide) (by decide) (by show Q_a38_1 ..; rw [e9]; exact ⟨b1q2, rfl, N7_, K7, f10, F7, f8, f11, sz_b1q2, (Exa.wr W7 (Exa.wr W3 p2_1))⟩)
theorem d41_11 : decode prog_11_method_4_code 11 = .ok (.aload_n 0, 1) := by decide +kernel
theorem d41_12 : decode prog_11_method_4_code 12 = .ok (.getfield 31, 3) := by decide +kernel
theorem d41_15 : decode prog_11_method_4_code 15 = .ok (.getfield 34, 3) := by decide +kernel
def Q_a41_1 (Z : State)  (h0 : Heap) (v : Option Value) (h : Heap) (L : List Loc) : Prop := v = some .null ∧ Fr Z.heap.size L ∧ h = h0
set_option maxRecDepth 65536 in
set_option maxHeartbeats 40000000 in
theorem rm_a41_1 (l : Launch) (Z : State) (a0 : Array Value) (hw : HW Z a0) (ws : List Jvm.Cond) (x0 : Addr) (x1 : Int64) (w1 : Addr) (h0 : Heap) (O0 : Ext Z.heap h0) (r0 : fl_1 Z h0 x0 (.ref w1)) (r1 : fl_30 Z h0 w1 .null) :
    Met FrameEnd l (⟨"org/matchstone/engine/BookSide$Walk", "nextBehind", "(J)Lorg/matchstone/engine/BookSide$Order;"⟩ : MethodName) prog_11_method_4_code 4 (some (.object "org/matchstone/engine/BookSide$Order")) ws ⟨0, 0, 0, 0⟩ Z h0 #[(.ref x0), (.long x1)] (Q_a41_1 Z  h0) := by
  refine own_met "org/matchstone/engine/BookSide$Walk" (plainFor_of_name pn_41) rfl #[.val (.ref x0), .val (.long x1), .second, .unset] (fun _ => by first | (simp [entryFrame, mkF, argsToLocals, Value.category]; done) | rfl) ?_
  intro p e s m below meth c s₁ hx hby hlk hret hml hZ hown hnm X0 e0
  have N0 := Fr.nil Z.heap.size
  refine Go.step (fun _ kt_ => XS.aloadN X0.here hx rfl (hb hby d41_0) rfl rfl kt_) ?_
  obtain ⟨T1, X1, e1, st1⟩ := getF X0 hx hZ hown (host := "") (Or.inl (wd hw 386 rfl)) Via.refl e0 r0 (g := (mkF m 1 #[.val (.ref x0), .val (.long x1), .second, .unset] [(.ref x0)])) rfl rfl (hb hby d41_1)
  refine Go.step st1 ?_
  refine Go.step (fun _ kt_ => XS.ifnonnullYes X1.here hx rfl (pc0 := 4) (pc' := 11) rfl (hb hby d41_4) rfl (by decide) (by decide) kt_) ?_
  refine Go.step (fun _ kt_ => XS.aloadN X1.here hx rfl (hb hby d41_11) rfl rfl kt_) ?_
  obtain ⟨T2, X2, e2, st2⟩ := getF X1 hx hZ hown (host := "") (Or.inl (wd hw 386 rfl)) Via.refl e1 r0 (g := (mkF m 12 #[.val (.ref x0), .val (.long x1), .second, .unset] [(.ref x0)])) rfl rfl (hb hby d41_12)
  refine Go.step st2 ?_
  obtain ⟨T3, X3, e3, st3⟩ := getF X2 hx hZ hown (host := "") (Or.inl (wd hw 395 rfl)) Via.refl e2 r1 (g := (mkF m 15 #[.val (.ref x0), .val (.long x1), .second, .unset] [(.ref w1)])) rfl rfl (hb hby d41_15)
  refine Go.step st3 ?_
  refine Go.step (fun _ kt_ => XS.astoreN X3.here hx rfl (hb hby d41_18) rfl rfl (l' := #[.val (.ref x0), .val (.long x1), .second, .val .null]) rfl kt_) ?_
  refine Go.step (fun _ kt_ => XS.aloadN X3.here hx rfl (hb hby d41_19) rfl rfl kt_) ?_
  refine Go.step (fun _ kt_ => XS.ifnullYes X3.here hx rfl (pc0 := 20) (pc' := 45) rfl (hb hby d41_20) rfl (by decide) (by decide) kt_) ?_
  refine Go.step (fun _ kt_ => XS.aconstNull X3.here hx rfl (hb hby d41_45)  kt_) ?_
  exact Go.retA X3 hx hret rfl rfl hlk (hb hby d41_46) (by decide) (by decide) (by show _ ∧ _ ∧ _; rw [e3]; exact ⟨rfl, N0, rfl⟩)
theorem d41_23 : decode prog_11_method_4_code 23 = .ok (.aload_n 3, 1) := by decide +kernel
theorem d41_24 : decode prog_11_method_4_code 24 = .ok (.getfield 39, 3) := by decide +kernel
theorem d41_27 : decode prog_11_method_4_code 27 = .ok (.lconst 0, 1) := by decide +kernel
theorem d41_28 : decode prog_11_method_4_code 28 = .ok (.lcmp, 1) := by decide +kernel
theorem d41_29 : decode prog_11_method_4_code 29 = .ok (.ifCond .ne 16, 3) := by decide +kernel
theorem d41_32 : decode prog_11_method_4_code 32 = .ok (.aload_n 3, 1) := by decide +kernel
theorem d41_33 : decode prog_11_method_4_code 33 = .ok (.getfield 43, 3) := by decide +kernel
theorem d41_36 : decode prog_11_method_4_code 36 = .ok (.lload_n 1, 1) := by decide +kernel
theorem d41_37 : decode prog_11_method_4_code 37 = .ok (.lcmp, 1) := by decide +kernel
theorem d41_38 : decode prog_11_method_4_code 38 = .ok (.ifCond .lt 7, 3) := by decide +kernel
def Q_a41_2 (Z : State)  (h0 : Heap) (v : Option Value) (h : Heap) (L : List Loc) : Prop := v = some .null ∧ Fr Z.heap.size L ∧ h = h0
set_option maxRecDepth 65536 in
set_option maxHeartbeats 40000000 in
theorem rm_a41_2 (l : Launch) (Z : State) (a0 : Array Value) (hw : HW Z a0) (ws : List Jvm.Cond) (x0 : Addr) (x1 : Int64) (w1 : Addr) (w2 : Addr) (w3 : Int64) (w4 : Int64) (h0 : Heap) (O0 : Ext Z.heap h0) (r0 : fl_1 Z h0 x0 (.ref w1)) (r1 : fl_30 Z h0 w1 (.ref w2)) (r2 : fl_29 Z h0 w2 (.long w3)) (r3 : (lcmpW w3 (0 : Int64)) = (0 : Int32)) (r4 : fl_31 Z h0 w2 (.long w4)) (r5 : (lcmpW w4 x1) < (0 : Int32)) :
    Met FrameEnd l (⟨"org/matchstone/engine/BookSide$Walk", "nextBehind", "(J)Lorg/matchstone/engine/BookSide$Order;"⟩ : MethodName) prog_11_method_4_code 4 (some (.object "org/matchstone/engine/BookSide$Order")) ws ⟨0, 0, 0, 0⟩ Z h0 #[(.ref x0), (.long x1)] (Q_a41_2 Z  h0) := by
  refine own_met "org/matchstone/engine/BookSide$Walk" (plainFor_of_name pn_41) rfl #[.val (.ref x0), .val (.long x1), .second, .unset] (fun _ => by first | (simp [entryFrame, mkF, argsToLocals, Value.category]; done) | rfl) ?_
  intro p e s m below meth c s₁ hx hby hlk hret hml hZ hown hnm X0 e0
  have N0 := Fr.nil Z.heap.size
  refine Go.step (fun _ kt_ => XS.aloadN X0.here hx rfl (hb hby d41_0) rfl rfl kt_) ?_
  obtain ⟨T1, X1, e1, st1⟩ := getF X0 hx hZ hown (host := "") (Or.inl (wd hw 386 rfl)) Via.refl e0 r0 (g := (mkF m 1 #[.val (.ref x0), .val (.long x1), .second, .unset] [(.ref x0)])) rfl rfl (hb hby d41_1)
  refine Go.step st1 ?_
  refine Go.step (fun _ kt_ => XS.ifnonnullYes X1.here hx rfl (pc0 := 4) (pc' := 11) rfl (hb hby d41_4) rfl (by decide) (by decide) kt_) ?_
  refine Go.step (fun _ kt_ => XS.aloadN X1.here hx rfl (hb hby d41_11) rfl rfl kt_) ?_
  obtain ⟨T2, X2, e2, st2⟩ := getF X1 hx hZ hown (host := "") (Or.inl (wd hw 386 rfl)) Via.refl e1 r0 (g := (mkF m 12 #[.val (.ref x0), .val (.long x1), .second, .unset] [(.ref x0)])) rfl rfl (hb hby d41_12)
  refine Go.step st2 ?_
  obtain ⟨T3, X3, e3, st3⟩ := getF X2 hx hZ hown (host := "") (Or.inl (wd hw 395 rfl)) Via.refl e2 r1 (g := (mkF m 15 #[.val (.ref x0), .val (.long x1), .second, .unset] [(.ref w1)])) rfl rfl (hb hby d41_15)
  refine Go.step st3 ?_
  refine Go.step (fun _ kt_ => XS.astoreN X3.here hx rfl (hb hby d41_18) rfl rfl (l' := #[.val (.ref x0), .val (.long x1), .second, .val (.ref w2)]) rfl kt_) ?_
  refine Go.step (fun _ kt_ => XS.aloadN X3.here hx rfl (hb hby d41_19) rfl rfl kt_) ?_
  refine Go.step (fun _ kt_ => XS.ifnullNo X3.here hx rfl (hb hby d41_20) rfl kt_) ?_
  refine Go.step (fun _ kt_ => XS.aloadN X3.here hx rfl (hb hby d41_23) rfl rfl kt_) ?_
  obtain ⟨T4, X4, e4, st4⟩ := getF X3 hx hZ hown (host := "") (Or.inl (wd hw 430 rfl)) Via.refl e3 r2 (g := (mkF m 24 #[.val (.ref x0), .val (.long x1), .second, .val (.ref w2)] [(.ref w2)])) rfl rfl (hb hby d41_24)
  refine Go.step st4 ?_
  refine Go.step (fun _ kt_ => XS.lconst X4.here hx rfl (hb hby d41_27)  kt_) ?_
  refine Go.step (fun _ kt_ => XS.lcmp X4.here hx rfl (hb hby d41_28) rfl kt_) ?_
  refine Go.step (fun _ kt_ => XS.ifNo X4.here hx rfl (hb hby d41_29) rfl ((if0 _ _).trans (teq r3).2) kt_) ?_
  refine Go.step (fun _ kt_ => XS.aloadN X4.here hx rfl (hb hby d41_32) rfl rfl kt_) ?_
  obtain ⟨T5, X5, e5, st5⟩ := getF X4 hx hZ hown (host := "") (Or.inl (wd hw 439 rfl)) Via.refl e4 r4 (g := (mkF m 33 #[.val (.ref x0), .val (.long x1), .second, .val (.ref w2)] [(.ref w2)])) rfl rfl (hb hby d41_33)
  refine Go.step st5 ?_
  refine Go.step (fun _ kt_ => XS.lloadN X5.here hx rfl (hb hby d41_36) rfl kt_) ?_
  refine Go.step (fun _ kt_ => XS.lcmp X5.here hx rfl (hb hby d41_37) rfl kt_) ?_
  refine Go.step (fun _ kt_ => XS.ifYes X5.here hx rfl (pc0 := 38) (pc' := 45) rfl (hb hby d41_38) rfl ((if0 _ _).trans (tlt r5).1) (by decide) (by decide) kt_) ?_
  refine Go.step (fun _ kt_ => XS.aconstNull X5.here hx rfl (hb hby d41_45)  kt_) ?_
  exact Go.retA X5 hx hret rfl rfl hlk (hb hby d41_46) (by decide) (by decide) (by show _ ∧ _ ∧ _; rw [e5]; exact ⟨rfl, N0, rfl⟩)
theorem d41_41 : decode prog_11_method_4_code 41 = .ok (.aload_n 3, 1) := by decide +kernel
theorem d41_42 : decode prog_11_method_4_code 42 = .ok (.goto 4, 3) := by decide +kernel
def Q_a41_3 (Z : State) (w2 : Addr) (h0 : Heap) (v : Option Value) (h : Heap) (L : List Loc) : Prop := v = some (.ref w2) ∧ Fr Z.heap.size L ∧ h = h0
set_option maxRecDepth 65536 in
set_option maxHeartbeats 40000000 in
theorem rm_a41_3 (l : Launch) (Z : State) (a0 : Array Value) (hw : HW Z a0) (ws : List Jvm.Cond) (x0 : Addr) (x1 : Int64) (w1 : Addr) (w2 : Addr) (w3 : Int64) (w4 : Int64) (h0 : Heap) (O0 : Ext Z.heap h0) (r0 : fl_1 Z h0 x0 (.ref w1)) (r1 : fl_30 Z h0 w1 (.ref w2)) (r2 : fl_29 Z h0 w2 (.long w3)) (r3 : (lcmpW w3 (0 : Int64)) = (0 : Int32)) (r4 : fl_31 Z h0 w2 (.long w4)) (r5 : ¬ ((lcmpW w4 x1) < (0 : Int32))) :
    Met FrameEnd l (⟨"org/matchstone/engine/BookSide$Walk", "nextBehind", "(J)Lorg/matchstone/engine/BookSide$Order;"⟩ : MethodName) prog_11_method_4_code 4 (some (.object "org/matchstone/engine/BookSide$Order")) ws ⟨0, 0, 0, 0⟩ Z h0 #[(.ref x0), (.long x1)] (Q_a41_3 Z w2 h0) := by
  refine own_met "org/matchstone/engine/BookSide$Walk" (plainFor_of_name pn_41) rfl #[.val (.ref x0), .val (.long x1), .second, .unset] (fun _ => by first | (simp [entryFrame, mkF, argsToLocals, Value.category]; done) | rfl) ?_
  intro p e s m below meth c s₁ hx hby hlk hret hml hZ hown hnm X0 e0
  have N0 := Fr.nil Z.heap.size
  refine Go.step (fun _ kt_ => XS.aloadN X0.here hx rfl (hb hby d41_0) rfl rfl kt_) ?_
  obtain ⟨T1, X1, e1, st1⟩ := getF X0 hx hZ hown (host := "") (Or.inl (wd hw 386 rfl)) Via.refl e0 r0 (g := (mkF m 1 #[.val (.ref x0), .val (.long x1), .second, .unset] [(.ref x0)])) rfl rfl (hb hby d41_1)
  refine Go.step st1 ?_
  refine Go.step (fun _ kt_ => XS.ifnonnullYes X1.here hx rfl (pc0 := 4) (pc' := 11) rfl (hb hby d41_4) rfl (by decide) (by decide) kt_) ?_
  refine Go.step (fun _ kt_ => XS.aloadN X1.here hx rfl (hb hby d41_11) rfl rfl kt_) ?_
  obtain ⟨T2, X2, e2, st2⟩ := getF X1 hx hZ hown (host := "") (Or.inl (wd hw 386 rfl)) Via.refl e1 r0 (g := (mkF m 12 #[.val (.ref x0), .val (.long x1), .second, .unset] [(.ref x0)])) rfl rfl (hb hby d41_12)
  refine Go.step st2 ?_
  obtain ⟨T3, X3, e3, st3⟩ := getF X2 hx hZ hown (host := "") (Or.inl (wd hw 395 rfl)) Via.refl e2 r1 (g := (mkF m 15 #[.val (.ref x0), .val (.long x1), .second, .unset] [(.ref w1)])) rfl rfl (hb hby d41_15)
  refine Go.step st3 ?_
  refine Go.step (fun _ kt_ => XS.astoreN X3.here hx rfl (hb hby d41_18) rfl rfl (l' := #[.val (.ref x0), .val (.long x1), .second, .val (.ref w2)]) rfl kt_) ?_
  refine Go.step (fun _ kt_ => XS.aloadN X3.here hx rfl (hb hby d41_19) rfl rfl kt_) ?_
  refine Go.step (fun _ kt_ => XS.ifnullNo X3.here hx rfl (hb hby d41_20) rfl kt_) ?_
  refine Go.step (fun _ kt_ => XS.aloadN X3.here hx rfl (hb hby d41_23) rfl rfl kt_) ?_
  obtain ⟨T4, X4, e4, st4⟩ := getF X3 hx hZ hown (host := "") (Or.inl (wd hw 430 rfl)) Via.refl e3 r2 (g := (mkF m 24 #[.val (.ref x0), .val (.long x1), .second, .val (.ref w2)] [(.ref w2)])) rfl rfl (hb hby d41_24)
  refine Go.step st4 ?_
  refine Go.step (fun _ kt_ => XS.lconst X4.here hx rfl (hb hby d41_27)  kt_) ?_
  refine Go.step (fun _ kt_ => XS.lcmp X4.here hx rfl (hb hby d41_28) rfl kt_) ?_
  refine Go.step (fun _ kt_ => XS.ifNo X4.here hx rfl (hb hby d41_29) rfl ((if0 _ _).trans (teq r3).2) kt_) ?_
  refine Go.step (fun _ kt_ => XS.aloadN X4.here hx rfl (hb hby d41_32) rfl rfl kt_) ?_
  obtain ⟨T5, X5, e5, st5⟩ := getF X4 hx hZ hown (host := "") (Or.inl (wd hw 439 rfl)) Via.refl e4 r4 (g := (mkF m 33 #[.val (.ref x0), .val (.long x1), .second, .val (.ref w2)] [(.ref w2)])) rfl rfl (hb hby d41_33)
  refine Go.step st5 ?_
  refine Go.step (fun _ kt_ => XS.lloadN X5.here hx rfl (hb hby d41_36) rfl kt_) ?_
  refine Go.step (fun _ kt_ => XS.lcmp X5.here hx rfl (hb hby d41_37) rfl kt_) ?_
  refine Go.step (fun _ kt_ => XS.ifNo X5.here hx rfl (hb hby d41_38) rfl ((if0 _ _).trans (flt r5).1) kt_) ?_
  refine Go.step (fun _ kt_ => XS.aloadN X5.here hx rfl (hb hby d41_41) rfl rfl kt_) ?_
  refine Go.step (fun _ kt_ => XS.goto X5.here hx rfl (pc0 := 42) (pc' := 46) rfl (hb hby d41_42) (by decide) (by decide) kt_) ?_
  exact Go.retA X5 hx hret rfl rfl hlk (hb hby d41_46) (by decide) (by decide) (by show _ ∧ _ ∧ _; rw [e5]; exact ⟨rfl, N0, rfl⟩)
theorem d42_0 : decode prog_18_method_2_code 0 = .ok (.new 8, 3) := by decide +kernel
theorem d42_3 : decode prog_18_method_2_code 3 = .ok (.dup, 1) := by decide +kernel
theorem d42_4 : decode prog_18_method_2_code 4 = .ok (.lload_n 0, 1) := by decide +kernel
theorem d42_5 : decode prog_18_method_2_code 5 = .ok (.iconst 0, 1) := by decide +kernel
theorem d42_6 : decode prog_18_method_2_code 6 = .ok (.invokespecial 17, 3) := by decide +kernel
theorem d43_0 : decode prog_18_method_1_code 0 = .ok (.aload_n 0, 1) := by decide +kernel
theorem d43_1 : decode prog_18_method_1_code 1 = .ok (.invokespecial 1, 3) := by decide +kernel
theorem d43_4 : decode prog_18_method_1_code 4 = .ok (.aload_n 0, 1) := by decide +kernel
theorem d43_5 : decode prog_18_method_1_code 5 = .ok (.lload_n 1, 1) := by decide +kernel
theorem d43_6 : decode prog_18_method_1_code 6 = .ok (.putfield 7, 3) := by decide +kernel
theorem d43_9 : decode prog_18_method_1_code 9 = .ok (.aload_n 0, 1) := by decide +kernel
theorem d43_10 : decode prog_18_method_1_code 10 = .ok (.iload_n 3, 1) := by decide +kernel
theorem d43_11 : decode prog_18_method_1_code 11 = .ok (.putfield 13, 3) := by decide +kernel
theorem d43_14 : decode prog_18_method_1_code 14 = .ok (.return_, 1) := by decide +kernel
theorem pn_43 : plainName "org/matchstone/engine/MinQuantity" = true := by first | (simp [plainName, overriddenIn]; done) | decide +kernel
def Q_a43_0 (Z : State) (x0 : Addr) (x1 : Int64) (x2 : Int32) (h0 : Heap) (v : Option Value) (h : Heap) (L : List Loc) : Prop := v = none ∧ Fr Z.heap.size L ∧ Keep h0 h [x0] ∧ fl_47 Z h x0 (.long x1) ∧ fl_48 Z h x0 (.int ((x2 &&& 1)))
set_option maxRecDepth 65536 in
set_option maxHeartbeats 40000000 in
theorem rm_a43_0 (l : Launch) (Z : State) (a0 : Array Value) (hw : HW Z a0) (ws : List Jvm.Cond) (x0 : Addr) (x1 : Int64) (x2 : Int32) (w1 : Int64) (w2 : Int32) (h0 : Heap) (O0 : Ext Z.heap h0) (r0 : Exa Z h0 x0 "org/matchstone/engine/MinQuantity") (r1 : fl_47 Z h0 x0 (.long w1)) (r2 : Z.heap.size ≤ x0) (r3 : fl_48 Z h0 x0 (.int w2)) :
    Met FrameEnd l (⟨"org/matchstone/engine/MinQuantity", "<init>", "(JZ)V"⟩ : MethodName) prog_18_method_1_code 4 none ws ⟨2, 0, 0, 24⟩ Z h0 #[(.ref x0), (.long x1), (.int x2)] (Q_a43_0 Z x0 x1 x2 h0) := by
  refine own_met "org/matchstone/engine/MinQuantity" (plainFor_of_name pn_43) rfl #[.val (.ref x0), .val (.long x1), .second, .val (.int x2)] (fun _ => by first | (simp [entryFrame, mkF, argsToLocals, Value.category]; done) | rfl) ?_
  intro p e s m below meth c s₁ hx hby hlk hret hml hZ hown hnm X0 e0
  have N0 := Fr.nil Z.heap.size
  refine Go.step (fun _ kt_ => XS.aloadN X0.here hx rfl (hb hby d43_0) rfl rfl kt_) ?_
  obtain ⟨_, _, ⟨T1, L1, k1, n1⟩, -, X1, ⟨Lc1, hQ1, l1, y1, z1⟩, st1⟩ := X0.specialBack hx (y := (⟨"java/lang/Record", "<init>", "()V"⟩ : MethodName)) rfl hown (mvT hZ (wd hw 409 rfl)) (mvT hZ (wd hw 204 rfl)) (mvT hZ (wd hw 207 rfl)) (by decide) (backOf (W := 0) (rm_a22_0 l Z a0 hw []  x0 h0 O0 ) hZ (wd hw 207 rfl) (wd hw 206 rfl) (by decide) (by decide)) (g := (mkF m 1 #[.val (.ref x0), .val (.long x1), .second, .val (.int x2)] [(.ref x0)])) rfl (by rw [hml]; rfl) (Steps.refl _) (a := x0) (argsL := []) (rest := []) (lenOf pd_LRV rfl) rfl (by show 2 * 0 + _ ≤ _; exact Nat.le_of_eq rfl) (hb hby d43_1) (fun _ _ => ⟨rfl, e0, (by decide : 0 + 0 ≤ _), (by decide : 0 + 0 ≤ _)⟩)
  dsimp only [Pt.U, Pt.locs, Pt.cells, Pt.slots] at X1 l1 y1 z1 st1 hQ1
  subst y1 z1
  obtain ⟨rfl, Nq1, e1⟩ := hQ1
  have N1_ : Fr Z.heap.size L1 := by rw [l1]; exact Fr.app N0 Nq1
  refine Go.trans st1 ?_
  refine Go.step (fun _ kt_ => XS.aloadN X1.here hx rfl (hb hby d43_4) rfl rfl kt_) ?_
  refine Go.step (fun _ kt_ => XS.lloadN X1.here hx rfl (hb hby d43_5) rfl kt_) ?_
  obtain ⟨T2, h2, X2, e2, W2, st2⟩ := putF X1 hx hZ hown (host := "") (Or.inl (wd hw 410 rfl)) Via.refl e1 r1 r0 (Or.inr ⟨(wd hw 411 rfl), rfl, hnm⟩) (wd hw 405 rfl) (ty := .long) pf_J rfl rfl (g := (mkF m 6 #[.val (.ref x0), .val (.long x1), .second, .val (.int x2)] [(.long x1), (.ref x0)])) rfl rfl (hb hby d43_6)
  refine Go.step st2 ?_
  have N2_ := Fr.snoc X2 N1_ r2
  have O2_ : Ext Z.heap h2 := extWr O0 W2 r2
  have K2 := Keep.wr (Keep.refl h0 [x0]) W2 (Or.inl (List.mem_of_getElem? (i := 0) rfl))
  have F2 := Fld.same W2 r1
  refine Go.step (fun _ kt_ => XS.aloadN X2.here hx rfl (hb hby d43_9) rfl rfl kt_) ?_
  refine Go.step (fun _ kt_ => XS.iloadN X2.here hx rfl (hb hby d43_10) rfl kt_) ?_
  obtain ⟨T3, h3, X3, e3, W3, st3⟩ := putFN X2 hx hZ hown (wd hw 412 rfl) Via.refl e2 (Fld.other W2 r3 (Or.inr (sn_328 hw))) (Exa.wr W2 r0) (Or.inr ⟨(wd hw 413 rfl), rfl, hnm⟩) (wd hw 405 rfl) (ty := .boolean) (v' := (.int ((x2 &&& 1)))) pf_Z rfl (fits_nar_bool _) (g := (mkF m 11 #[.val (.ref x0), .val (.long x1), .second, .val (.int x2)] [(.int x2), (.ref x0)])) rfl rfl (hb hby d43_11)
  refine Go.step st3 ?_
  have N3_ := Fr.snoc X3 N2_ r2
  have O3_ : Ext Z.heap h3 := extWr O2_ W3 r2
  have K3 := Keep.wr K2 W3 (Or.inl (List.mem_of_getElem? (i := 0) rfl))
  have F3 := Fld.same W3 (Fld.other W2 r3 (Or.inr (sn_328 hw)))
  have f4 := (Fld.other W3 F2 (Or.inr (Ne.symm (sn_328 hw))))
  exact Go.retV X3 hx hret hlk (hb hby d43_14) (by decide) (by decide) (by show Q_a43_0 ..; rw [e3]; exact ⟨rfl, N3_, K3, f4, F3⟩)
theorem pd_LJZRV : parseMethodDescriptor "(JZ)V" = some ⟨[.long, .boolean], none⟩ := by decide +kernel
theorem d42_9 : decode prog_18_method_2_code 9 = .ok (.areturn, 1) := by decide +kernel
theorem pn_42 : plainName "org/matchstone/engine/MinQuantity" = true := by first | (simp [plainName, overriddenIn]; done) | decide +kernel
def Q_a42_0 (Z : State) (x0 : Int64) (h0 : Heap) (v : Option Value) (h : Heap) (L : List Loc) : Prop := ∃ (b1 : Addr), v = some (.ref b1) ∧ Fr Z.heap.size L ∧ Keep h0 h [] ∧ h0.size ≤ b1 ∧ Exa Z h b1 "org/matchstone/engine/MinQuantity" ∧ fl_47 Z h b1 (.long x0) ∧ fl_48 Z h b1 (.int (0 : Int32))
set_option maxRecDepth 65536 in
set_option maxHeartbeats 40000000 in
theorem rm_a42_0 (l : Launch) (Z : State) (a0 : Array Value) (hw : HW Z a0) (ws : List Jvm.Cond) (x0 : Int64) (h0 : Heap) (O0 : Ext Z.heap h0) :
    Met FrameEnd l (⟨"org/matchstone/engine/MinQuantity", "aggregated", "(J)Lorg/matchstone/engine/MinQuantity;"⟩ : MethodName) prog_18_method_2_code 2 (some (.object "org/matchstone/engine/MinQuantity")) ws ⟨3, 1, 2, 40⟩ Z h0 #[(.long x0)] (Q_a42_0 Z x0 h0) := by
  refine own_met "org/matchstone/engine/MinQuantity" (plainFor_of_name pn_42) rfl #[.val (.long x0), .second] (fun _ => by first | (simp [entryFrame, mkF, argsToLocals, Value.category]; done) | rfl) ?_
  intro p e s m below meth c s₁ hx hby hlk hret hml hZ hown hnm X0 e0
  have N0 := Fr.nil Z.heap.size
  obtain ⟨T1, h1, X1, e1, E1, A1, D1, U1, st1⟩ := newO X0 hx hZ hown (wd hw 404 rfl) (wd hw 405 rfl) (wd hw 402 rfl) e0 (g := (mkF m 0 #[.val (.long x0), .second] [])) rfl (hb hby d42_0) (by decide) (by decide)
  obtain ⟨b1, hb1⟩ : ∃ z, z = h0.size := ⟨_, rfl⟩
  rw [← hb1] at A1 D1 U1 st1
  refine Go.step st1 ?_
  have g_b1 : Z.heap.size ≤ b1 := Nat.le_trans O0.1 (Nat.le_of_eq hb1.symm)
  have O1_ : Ext Z.heap h1 := extTr O0 E1
  have sz_b1 : h0.size ≤ b1 := Nat.le_trans (Keep.refl h0 []).1 (Nat.le_of_eq hb1.symm)
  have K1 := Keep.ext (Keep.refl h0 []) E1
  have F1_quantity : fl_47 Z h1 b1 (.long (0 : Int64)) := D1 (Or.inr (wd hw 411 rfl)) (ty := .long) pf_J
  have F1_singleOrder : fl_48 Z h1 b1 (.int (0 : Int32)) := D1 (Or.inr (wd hw 413 rfl)) (ty := .boolean) pf_Z
  refine Go.step (fun _ kt_ => XS.dup X1.here hx rfl (hb hby d42_3) rfl rfl kt_) ?_
  refine Go.step (fun _ kt_ => XS.lloadN X1.here hx rfl (hb hby d42_4) rfl kt_) ?_
  refine Go.step (fun _ kt_ => XS.iconst X1.here hx rfl (hb hby d42_5)  kt_) ?_
  obtain ⟨_, _, ⟨T2, L2, k2, n2⟩, -, X2, ⟨Lc2, hQ2, l2, y2, z2⟩, st2⟩ := X1.specialBack hx (y := (⟨"org/matchstone/engine/MinQuantity", "<init>", "(JZ)V"⟩ : MethodName)) rfl hown (mvT hZ (wd hw 406 rfl)) (mvT hZ (wd hw 407 rfl)) (mvT hZ (wd hw 408 rfl)) (by decide) (backOf (W := 1) (rm_a43_0 l Z a0 hw []  b1 x0 (0 : Int32) (0 : Int64) (0 : Int32) h1 O1_ A1 F1_quantity g_b1 F1_singleOrder) hZ (wd hw 408 rfl) (wd hw 402 rfl) (by decide) (by decide)) (g := (mkF m 6 #[.val (.long x0), .second] [(.int (0 : Int32)), (.long x0), (.ref b1), (.ref b1)])) rfl (by rw [hml]; rfl) (Steps.refl _) (a := b1) (argsL := [(.long x0), (.int (0 : Int32))]) (rest := [(.ref b1)]) (lenOf pd_LJZRV rfl) rfl (by show 2 * 0 + _ ≤ _; exact Nat.le_of_eq rfl) (hb hby d42_6) (fun _ _ => ⟨rfl, e1, (by decide : 1 + 0 ≤ _), (by decide : 2 + 0 ≤ _)⟩)
  dsimp only [Pt.U, Pt.locs, Pt.cells, Pt.slots] at X2 l2 y2 z2 st2 hQ2
  subst y2 z2
  obtain ⟨rfl, Nq2, Kq2, p2_0, p2_1⟩ := hQ2
  have O2_ : Ext Z.heap T2.heap := extKeep O1_ Kq2 (allS g_b1 all0)
  have K2 := Keep.trans K1 Kq2 (allS (Or.inr sz_b1) all0)
  have N2_ : Fr Z.heap.size L2 := by rw [l2]; exact Fr.app N0 Nq2
  refine Go.trans st2 ?_
  exact Go.retA X2 hx hret rfl rfl hlk (hb hby d42_9) (by decide) (by decide) ⟨b1, rfl, N2_, K2, sz_b1, (A1.keep Kq2), p2_0, p2_1⟩
theorem pd_LJRLorg_matchstone_engine_MinQuantity_ : parseMethodDescriptor "(J)Lorg/matchstone/engine/MinQuantity;" = some ⟨[.long], some (.object "org/matchstone/engine/MinQuantity")⟩ := by decide +kernel
theorem d44_0 : decode prog_22_method_10_code 0 = .ok (.new 62, 3) := by decide +kernel
theorem d44_3 : decode prog_22_method_10_code 3 = .ok (.dup, 1) := by decide +kernel
theorem d44_4 : decode prog_22_method_10_code 4 = .ok (.aload_n 0, 1) := by decide +kernel
theorem d44_5 : decode prog_22_method_10_code 5 = .ok (.invokespecial 71, 3) := by decide +kernel
theorem d44_8 : decode prog_22_method_10_code 8 = .ok (.astore_n 2, 1) := by decide +kernel
theorem d44_9 : decode prog_22_method_10_code 9 = .ok (.aload_n 2, 1) := by decide +kernel
theorem d44_10 : decode prog_22_method_10_code 10 = .ok (.aload_n 1, 1) := by decide +kernel
theorem d44_11 : decode prog_22_method_10_code 11 = .ok (.putfield 81, 3) := by decide +kernel
theorem d44_14 : decode prog_22_method_10_code 14 = .ok (.aload_n 2, 1) := by decide +kernel
theorem d44_15 : decode prog_22_method_10_code 15 = .ok (.invokevirtual 67, 3) := by decide +kernel
def Q_a21_1 (Z : State) (x0 : Addr) (x1 : Addr) (x2 : Addr) (x3 : Int64) (x4 : Int64) (x5 : Addr) (x7 : Int32) (x8 : Int32) (x9 : Int32) (x10 : Int32) (x12 : Addr) (h0 : Heap) (v : Option Value) (h : Heap) (L : List Loc) : Prop := v = none ∧ Fr Z.heap.size L ∧ Keep h0 h [x0] ∧ fl_16 Z h x0 (.ref x1) ∧ fl_17 Z h x0 (.ref x2) ∧ fl_18 Z h x0 (.long x3) ∧ fl_19 Z h x0 (.long x4) ∧ fl_20 Z h x0 (.ref x5) ∧ fl_21 Z h x0 .null ∧ fl_22 Z h x0 (.int ((x7 &&& 1))) ∧ fl_23 Z h x0 (.int ((x8 &&& 1))) ∧ fl_24 Z h x0 (.int ((x9 &&& 1))) ∧ fl_25 Z h x0 (.int ((x10 &&& 1))) ∧ fl_26 Z h x0 .null ∧ fl_27 Z h x0 (.ref x12)
set_option maxRecDepth 65536 in
set_option maxHeartbeats 40000000 in
theorem rm_a21_1 (l : Launch) (Z : State) (a0 : Array Value) (hw : HW Z a0) (ws : List Jvm.Cond) (x0 : Addr) (x1 : Addr) (x2 : Addr) (x3 : Int64) (x4 : Int64) (x5 : Addr) (x7 : Int32) (x8 : Int32) (x9 : Int32) (x10 : Int32) (x12 : Addr) (w1 : Int64) (w2 : Int64) (w3 : Int32) (w4 : Int32) (w5 : Int32) (w6 : Int32) (h0 : Heap) (O0 : Ext Z.heap h0) (r0 : Exa Z h0 x0 "org/matchstone/engine/NewOrder") (r1 : fl_16 Z h0 x0 .null) (r2 : Z.heap.size ≤ x0) (r3 : fl_17 Z h0 x0 .null) (r4 : fl_18 Z h0 x0 (.long w1)) (r5 : fl_19 Z h0 x0 (.long w2)) (r6 : fl_20 Z h0 x0 .null) (r7 : fl_21 Z h0 x0 .null) (r8 : fl_22 Z h0 x0 (.int w3)) (r9 : fl_23 Z h0 x0 (.int w4)) (r10 : fl_24 Z h0 x0 (.int w5)) (r11 : fl_25 Z h0 x0 (.int w6)) (r12 : fl_26 Z h0 x0 .null) (r13 : fl_27 Z h0 x0 .null) :
    Met ReturnedEndW l (⟨"org/matchstone/engine/NewOrder", "<init>", "(Ljava/lang/String;Lorg/matchstone/engine/Side;JJLorg/matchstone/engine/TimeInForce;Ljava/time/LocalTime;ZZZZLorg/matchstone/engine/Peg;Lorg/matchstone/engine/MinQuantity;)V"⟩ : MethodName) prog_22_method_1_code 15 none ws ⟨2, 6, 80, 24⟩ Z h0 #[(.ref x0), (.ref x1), (.ref x2), (.long x3), (.long x4), (.ref x5), .null, (.int x7), (.int x8), (.int x9), (.int x10), .null, (.ref x12)] (Q_a21_1 Z x0 x1 x2 x3 x4 x5 x7 x8 x9 x10 x12 h0) := by
  refine own_metW "org/matchstone/engine/NewOrder" (plainFor_of_name pn_21) rfl #[.val (.ref x0), .val (.ref x1), .val (.ref x2), .val (.long x3), .second, .val (.long x4), .second, .val (.ref x5), .val .null, .val (.int x7), .val (.int x8), .val (.int x9), .val (.int x10), .val .null, .val (.ref x12)] (fun _ => by first | (simp [entryFrame, mkF, argsToLocals, Value.category]; done) | rfl) ?_
  intro p e s m below meth c s₁ hx hby hlk hret hml hZ hown hnm X0 e0 S0 kk0
  have N0 := Fr.nil Z.heap.size
  have wS := own_wS hw
  refine Go.step (fun _ kt_ => XS.aloadN X0.here hx rfl (hb hby d21_0) rfl rfl kt_) ?_
  obtain ⟨_, _, ⟨T1, L1, k1, n1⟩, -, X1, ⟨Lc1, hQ1, l1, y1, z1⟩, st1⟩ := X0.specialBack hx (y := (⟨"java/lang/Record", "<init>", "()V"⟩ : MethodName)) rfl hown (mvT hZ (wd hw 203 rfl)) (mvT hZ (wd hw 204 rfl)) (mvT hZ (wd hw 207 rfl)) (by decide) (backOf (W := 0) (rm_a22_0 l Z a0 hw []  x0 h0 O0 ) hZ (wd hw 207 rfl) (wd hw 206 rfl) (by decide) (by decide)) (g := (mkF m 1 #[.val (.ref x0), .val (.ref x1), .val (.ref x2), .val (.long x3), .second, .val (.long x4), .second, .val (.ref x5), .val .null, .val (.int x7), .val (.int x8), .val (.int x9), .val (.int x10), .val .null, .val (.ref x12)] [(.ref x0)])) rfl (by rw [hml]; rfl) (Steps.refl _) (a := x0) (argsL := []) (rest := []) (lenOf pd_LRV rfl) rfl (by show 2 * 0 + _ ≤ _; exact Nat.le_of_eq rfl) (hb hby d21_1) (fun _ _ => ⟨rfl, e0, (by decide : 0 + 0 ≤ _), (by decide : 0 + 0 ≤ _)⟩)
  dsimp only [Pt.U, Pt.locs, Pt.cells, Pt.slots] at X1 l1 y1 z1 st1 hQ1
  subst y1 z1
  obtain ⟨rfl, Nq1, e1⟩ := hQ1
  have N1_ : Fr Z.heap.size L1 := by rw [l1]; exact Fr.app N0 Nq1
  refine Go.trans st1 ?_
  refine Go.step (fun _ kt_ => XS.aloadN X1.here hx rfl (hb hby d21_4) rfl rfl kt_) ?_
  obtain ⟨a2, T2, h2, k2, X2, e2, E2, S2, kq2, hZ2, hown2, st2⟩ := ldcS X1 hx hZ hown (wd hw 209 rfl) wS e1 S0 kk0 (g := (mkF m 5 #[.val (.ref x0), .val (.ref x1), .val (.ref x2), .val (.long x3), .second, .val (.long x4), .second, .val (.ref x5), .val .null, .val (.int x7), .val (.int x8), .val (.int x9), .val (.int x10), .val .null, .val (.ref x12)] [(.ref x1)])) rfl (hb hby d21_5) (n := 8) (by decide) (by decide) (by decide) (by decide)
  have O2_ : Ext Z.heap h2 := extTr O0 E2
  have K2 := Keep.ext (Keep.refl h0 [x0]) E2
  refine Go.step st2 ?_
  obtain ⟨_, _, ⟨T3, L3, k3, n3⟩, -, X3, ⟨Lc3, hQ3, l3, y3, z3⟩, st3⟩ := Jvm.LawKit.callS X2 hx (y := (⟨"java/util/Objects", "requireNonNull", "(Ljava/lang/Object;Ljava/lang/String;)Ljava/lang/Object;"⟩ : MethodName)) hown2 (mvT hZ2 (wd hw 210 rfl)) (mvT hZ2 (wd hw 211 rfl)) (mvT hZ2 (wd hw 212 rfl)) (mvT hZ2 (wd hw 213 rfl)) (by decide) (backOf (W := 0) (rm_a23_0 l Z a0 hw []  x1 a2 h2 O2_ ) hZ2 (wd hw 213 rfl) (wd hw 212 rfl) (by decide) (by decide)) (g := (mkF m 7 #[.val (.ref x0), .val (.ref x1), .val (.ref x2), .val (.long x3), .second, .val (.long x4), .second, .val (.ref x5), .val .null, .val (.int x7), .val (.int x8), .val (.int x9), .val (.int x10), .val .null, .val (.ref x12)] [(.ref a2), (.ref x1)])) rfl (by rw [hml]; rfl) (argsL := [(.ref x1), (.ref a2)]) (rest := []) (lenOf pd_LLjava_lang_Object_Ljava_lang_String_RLjava_lang_Object_ rfl) rfl (by show 2 * 0 + _ ≤ _; exact Nat.le_of_eq rfl) (hb hby d21_7) (fun _ _ => ⟨rfl, e2, (by decide : 2 + 0 ≤ _), (by decide : 12 + 0 ≤ _)⟩)
  dsimp only [Pt.U, Pt.locs, Pt.cells, Pt.slots] at X3 l3 y3 z3 st3 hQ3
  subst y3 z3
  obtain ⟨rfl, Nq3, e3⟩ := hQ3
  have N3_ : Fr Z.heap.size L3 := by rw [l3]; exact Fr.app N1_ Nq3
  refine Go.step st3 ?_
  refine Go.step (fun _ kt_ => XS.pop X3.here hx rfl (hb hby d21_10) rfl rfl kt_) ?_
  refine Go.step (fun _ kt_ => XS.aloadN X3.here hx rfl (hb hby d21_11) rfl rfl kt_) ?_
  obtain ⟨a4, T4, h4, k4, X4, e4, E4, S4, kq4, hZ4, hown4, st4⟩ := ldcS X3 hx hZ2 hown2 (wd hw 214 rfl) wS e3 S2 kq2 (g := (mkF m 12 #[.val (.ref x0), .val (.ref x1), .val (.ref x2), .val (.long x3), .second, .val (.long x4), .second, .val (.ref x5), .val .null, .val (.int x7), .val (.int x8), .val (.int x9), .val (.int x10), .val .null, .val (.ref x12)] [(.ref x2)])) rfl (hb hby d21_12) (n := 16) (by decide) (by decide) (by decide) (by decide)
  have O4_ : Ext Z.heap h4 := extTr O2_ E4
  have K4 := Keep.ext K2 E4
  refine Go.step st4 ?_
  obtain ⟨_, _, ⟨T5, L5, k5, n5⟩, -, X5, ⟨Lc5, hQ5, l5, y5, z5⟩, st5⟩ := Jvm.LawKit.callS X4 hx (y := (⟨"java/util/Objects", "requireNonNull", "(Ljava/lang/Object;Ljava/lang/String;)Ljava/lang/Object;"⟩ : MethodName)) hown4 (mvT hZ4 (wd hw 210 rfl)) (mvT hZ4 (wd hw 211 rfl)) (mvT hZ4 (wd hw 212 rfl)) (mvT hZ4 (wd hw 213 rfl)) (by decide) (backOf (W := 0) (rm_a23_0 l Z a0 hw []  x2 a4 h4 O4_ ) hZ4 (wd hw 213 rfl) (wd hw 212 rfl) (by decide) (by decide)) (g := (mkF m 14 #[.val (.ref x0), .val (.ref x1), .val (.ref x2), .val (.long x3), .second, .val (.long x4), .second, .val (.ref x5), .val .null, .val (.int x7), .val (.int x8), .val (.int x9), .val (.int x10), .val .null, .val (.ref x12)] [(.ref a4), (.ref x2)])) rfl (by rw [hml]; rfl) (argsL := [(.ref x2), (.ref a4)]) (rest := []) (lenOf pd_LLjava_lang_Object_Ljava_lang_String_RLjava_lang_Object_ rfl) rfl (by show 2 * 0 + _ ≤ _; exact Nat.le_of_eq rfl) (hb hby d21_14) (fun _ _ => ⟨rfl, e4, (by decide : 4 + 0 ≤ _), (by decide : 32 + 0 ≤ _)⟩)
  dsimp only [Pt.U, Pt.locs, Pt.cells, Pt.slots] at X5 l5 y5 z5 st5 hQ5
  subst y5 z5
  obtain ⟨rfl, Nq5, e5⟩ := hQ5
  have N5_ : Fr Z.heap.size L5 := by rw [l5]; exact Fr.app N3_ Nq5
  refine Go.step st5 ?_
  refine Go.step (fun _ kt_ => XS.pop X5.here hx rfl (hb hby d21_17) rfl rfl kt_) ?_
  refine Go.step (fun _ kt_ => XS.aload X5.here hx rfl (hb hby d21_18) rfl rfl kt_) ?_
  obtain ⟨a6, T6, h6, k6, X6, e6, E6, S6, kq6, hZ6, hown6, st6⟩ := ldcS X5 hx hZ4 hown4 (wd hw 215 rfl) wS e5 S4 kq4 (g := (mkF m 20 #[.val (.ref x0), .val (.ref x1), .val (.ref x2), .val (.long x3), .second, .val (.long x4), .second, .val (.ref x5), .val .null, .val (.int x7), .val (.int x8), .val (.int x9), .val (.int x10), .val .null, .val (.ref x12)] [(.ref x5)])) rfl (hb hby d21_20) (n := 44) (by decide) (by decide) (by decide) (by decide)
  have O6_ : Ext Z.heap h6 := extTr O4_ E6
  have K6 := Keep.ext K4 E6
  refine Go.step st6 ?_
  obtain ⟨_, _, ⟨T7, L7, k7, n7⟩, -, X7, ⟨Lc7, hQ7, l7, y7, z7⟩, st7⟩ := Jvm.LawKit.callS X6 hx (y := (⟨"java/util/Objects", "requireNonNull", "(Ljava/lang/Object;Ljava/lang/String;)Ljava/lang/Object;"⟩ : MethodName)) hown6 (mvT hZ6 (wd hw 210 rfl)) (mvT hZ6 (wd hw 211 rfl)) (mvT hZ6 (wd hw 212 rfl)) (mvT hZ6 (wd hw 213 rfl)) (by decide) (backOf (W := 0) (rm_a23_0 l Z a0 hw []  x5 a6 h6 O6_ ) hZ6 (wd hw 213 rfl) (wd hw 212 rfl) (by decide) (by decide)) (g := (mkF m 22 #[.val (.ref x0), .val (.ref x1), .val (.ref x2), .val (.long x3), .second, .val (.long x4), .second, .val (.ref x5), .val .null, .val (.int x7), .val (.int x8), .val (.int x9), .val (.int x10), .val .null, .val (.ref x12)] [(.ref a6), (.ref x5)])) rfl (by rw [hml]; rfl) (argsL := [(.ref x5), (.ref a6)]) (rest := []) (lenOf pd_LLjava_lang_Object_Ljava_lang_String_RLjava_lang_Object_ rfl) rfl (by show 2 * 0 + _ ≤ _; exact Nat.le_of_eq rfl) (hb hby d21_22) (fun _ _ => ⟨rfl, e6, (by decide : 6 + 0 ≤ _), (by decide : 80 + 0 ≤ _)⟩)
  dsimp only [Pt.U, Pt.locs, Pt.cells, Pt.slots] at X7 l7 y7 z7 st7 hQ7
  subst y7 z7
  obtain ⟨rfl, Nq7, e7⟩ := hQ7
  have N7_ : Fr Z.heap.size L7 := by rw [l7]; exact Fr.app N5_ Nq7
  refine Go.step st7 ?_
  refine Go.step (fun _ kt_ => XS.pop X7.here hx rfl (hb hby d21_25) rfl rfl kt_) ?_
  refine Go.step (fun _ kt_ => XS.aloadN X7.here hx rfl (hb hby d21_26) rfl rfl kt_) ?_
  refine Go.step (fun _ kt_ => XS.aloadN X7.here hx rfl (hb hby d21_27) rfl rfl kt_) ?_
  have f8 := (Exa.ext E6 (Exa.ext E4 (Exa.ext E2 r0)))
  have f9 := (Fld.ext E6 (Fld.ext E4 (Fld.ext E2 r1)))
  obtain ⟨T10, h10, X10, e10, W10, st10⟩ := putF X7 hx hZ6 hown6 (host := "") (Or.inl (wd hw 216 rfl)) Via.refl e7 f9 f8 (Or.inr ⟨(wd hw 217 rfl), rfl, hnm⟩) (wd hw 187 rfl) (ty := (.object "java/lang/String")) pf_Ljava_lang_String_ rfl rfl (g := (mkF m 28 #[.val (.ref x0), .val (.ref x1), .val (.ref x2), .val (.long x3), .second, .val (.long x4), .second, .val (.ref x5), .val .null, .val (.int x7), .val (.int x8), .val (.int x9), .val (.int x10), .val .null, .val (.ref x12)] [(.ref x1), (.ref x0)])) rfl rfl (hb hby d21_28)
  refine Go.step st10 ?_
  have N10_ := Fr.snoc X10 N7_ r2
  have O10_ : Ext Z.heap h10 := extWr O6_ W10 r2
  have K10 := Keep.wr K6 W10 (Or.inl (List.mem_of_getElem? (i := 0) rfl))
  have F10 := Fld.same W10 f9
  refine Go.step (fun _ kt_ => XS.aloadN X10.here hx rfl (hb hby d21_31) rfl rfl kt_) ?_
  refine Go.step (fun _ kt_ => XS.aloadN X10.here hx rfl (hb hby d21_32) rfl rfl kt_) ?_
  have f11 := (Fld.other W10 (Fld.ext E6 (Fld.ext E4 (Fld.ext E2 r3))) (Or.inr (sn_71 hw)))
  obtain ⟨T12, h12, X12, e12, W12, st12⟩ := putF X10 hx hZ6 hown6 (host := "") (Or.inl (wd hw 218 rfl)) Via.refl e10 f11 (Exa.wr W10 f8) (Or.inr ⟨(wd hw 219 rfl), rfl, hnm⟩) (wd hw 187 rfl) (ty := (.object "org/matchstone/engine/Side")) pf_Lorg_matchstone_engine_Side_ rfl rfl (g := (mkF m 33 #[.val (.ref x0), .val (.ref x1), .val (.ref x2), .val (.long x3), .second, .val (.long x4), .second, .val (.ref x5), .val .null, .val (.int x7), .val (.int x8), .val (.int x9), .val (.int x10), .val .null, .val (.ref x12)] [(.ref x2), (.ref x0)])) rfl rfl (hb hby d21_33)
  refine Go.step st12 ?_
  have N12_ := Fr.snoc X12 N10_ r2
  have O12_ : Ext Z.heap h12 := extWr O10_ W12 r2
  have K12 := Keep.wr K10 W12 (Or.inl (List.mem_of_getElem? (i := 0) rfl))
  have F12 := Fld.same W12 f11
  refine Go.step (fun _ kt_ => XS.aloadN X12.here hx rfl (hb hby d21_36) rfl rfl kt_) ?_
  refine Go.step (fun _ kt_ => XS.lloadN X12.here hx rfl (hb hby d21_37) rfl kt_) ?_
  have f13 := (Fld.other W10 (Fld.ext E6 (Fld.ext E4 (Fld.ext E2 r4))) (Or.inr (sn_72 hw)))
  obtain ⟨T14, h14, X14, e14, W14, st14⟩ := putF X12 hx hZ6 hown6 (host := "") (Or.inl (wd hw 220 rfl)) Via.refl e12 (Fld.other W12 f13 (Or.inr (sn_73 hw))) (Exa.wr W12 (Exa.wr W10 f8)) (Or.inr ⟨(wd hw 221 rfl), rfl, hnm⟩) (wd hw 187 rfl) (ty := .long) pf_J rfl rfl (g := (mkF m 38 #[.val (.ref x0), .val (.ref x1), .val (.ref x2), .val (.long x3), .second, .val (.long x4), .second, .val (.ref x5), .val .null, .val (.int x7), .val (.int x8), .val (.int x9), .val (.int x10), .val .null, .val (.ref x12)] [(.long x3), (.ref x0)])) rfl rfl (hb hby d21_38)
  refine Go.step st14 ?_
  have N14_ := Fr.snoc X14 N12_ r2
  have O14_ : Ext Z.heap h14 := extWr O12_ W14 r2
  have K14 := Keep.wr K12 W14 (Or.inl (List.mem_of_getElem? (i := 0) rfl))
  have F14 := Fld.same W14 (Fld.other W12 f13 (Or.inr (sn_73 hw)))
  refine Go.step (fun _ kt_ => XS.aloadN X14.here hx rfl (hb hby d21_41) rfl rfl kt_) ?_
  refine Go.step (fun _ kt_ => XS.lload X14.here hx rfl (hb hby d21_42) rfl kt_) ?_
  have f15 := (Exa.wr W14 (Exa.wr W12 (Exa.wr W10 f8)))
  have f16 := (Fld.other W10 (Fld.ext E6 (Fld.ext E4 (Fld.ext E2 r5))) (Or.inr (sn_74 hw)))
  have f17 := (Fld.other W14 (Fld.other W12 f16 (Or.inr (sn_75 hw))) (Or.inr (sn_76 hw)))
  obtain ⟨T18, h18, X18, e18, W18, st18⟩ := putF X14 hx hZ6 hown6 (host := "") (Or.inl (wd hw 222 rfl)) Via.refl e14 f17 f15 (Or.inr ⟨(wd hw 223 rfl), rfl, hnm⟩) (wd hw 187 rfl) (ty := .long) pf_J rfl rfl (g := (mkF m 44 #[.val (.ref x0), .val (.ref x1), .val (.ref x2), .val (.long x3), .second, .val (.long x4), .second, .val (.ref x5), .val .null, .val (.int x7), .val (.int x8), .val (.int x9), .val (.int x10), .val .null, .val (.ref x12)] [(.long x4), (.ref x0)])) rfl rfl (hb hby d21_44)
  refine Go.step st18 ?_
  have N18_ := Fr.snoc X18 N14_ r2
  have O18_ : Ext Z.heap h18 := extWr O14_ W18 r2
  have K18 := Keep.wr K14 W18 (Or.inl (List.mem_of_getElem? (i := 0) rfl))
  have F18 := Fld.same W18 f17
  refine Go.step (fun _ kt_ => XS.aloadN X18.here hx rfl (hb hby d21_47) rfl rfl kt_) ?_
  refine Go.step (fun _ kt_ => XS.aload X18.here hx rfl (hb hby d21_48) rfl rfl kt_) ?_
  have f19 := (Fld.other W10 (Fld.ext E6 (Fld.ext E4 (Fld.ext E2 r6))) (Or.inr (sn_77 hw)))
  have f20 := (Fld.other W18 (Fld.other W14 (Fld.other W12 f19 (Or.inr (sn_78 hw))) (Or.inr (sn_79 hw))) (Or.inr (sn_80 hw)))
  obtain ⟨T21, h21, X21, e21, W21, st21⟩ := putF X18 hx hZ6 hown6 (host := "") (Or.inl (wd hw 224 rfl)) Via.refl e18 f20 (Exa.wr W18 f15) (Or.inr ⟨(wd hw 225 rfl), rfl, hnm⟩) (wd hw 187 rfl) (ty := (.object "org/matchstone/engine/TimeInForce")) pf_Lorg_matchstone_engine_TimeInForce_ rfl rfl (g := (mkF m 50 #[.val (.ref x0), .val (.ref x1), .val (.ref x2), .val (.long x3), .second, .val (.long x4), .second, .val (.ref x5), .val .null, .val (.int x7), .val (.int x8), .val (.int x9), .val (.int x10), .val .null, .val (.ref x12)] [(.ref x5), (.ref x0)])) rfl rfl (hb hby d21_50)
  refine Go.step st21 ?_
  have N21_ := Fr.snoc X21 N18_ r2
  have O21_ : Ext Z.heap h21 := extWr O18_ W21 r2
  have K21 := Keep.wr K18 W21 (Or.inl (List.mem_of_getElem? (i := 0) rfl))
  have F21 := Fld.same W21 f20
  refine Go.step (fun _ kt_ => XS.aloadN X21.here hx rfl (hb hby d21_53) rfl rfl kt_) ?_
  refine Go.step (fun _ kt_ => XS.aload X21.here hx rfl (hb hby d21_54) rfl rfl kt_) ?_
  have f22 := (Fld.other W10 (Fld.ext E6 (Fld.ext E4 (Fld.ext E2 r7))) (Or.inr (sn_81 hw)))
  have f23 := (Fld.other W21 (Fld.other W18 (Fld.other W14 (Fld.other W12 f22 (Or.inr (sn_82 hw))) (Or.inr (sn_83 hw))) (Or.inr (sn_84 hw))) (Or.inr (sn_85 hw)))
  obtain ⟨T24, h24, X24, e24, W24, st24⟩ := putF X21 hx hZ6 hown6 (host := "") (Or.inl (wd hw 226 rfl)) Via.refl e21 f23 (Exa.wr W21 (Exa.wr W18 f15)) (Or.inr ⟨(wd hw 227 rfl), rfl, hnm⟩) (wd hw 187 rfl) (ty := (.object "java/time/LocalTime")) pf_Ljava_time_LocalTime_ rfl rfl (g := (mkF m 56 #[.val (.ref x0), .val (.ref x1), .val (.ref x2), .val (.long x3), .second, .val (.long x4), .second, .val (.ref x5), .val .null, .val (.int x7), .val (.int x8), .val (.int x9), .val (.int x10), .val .null, .val (.ref x12)] [.null, (.ref x0)])) rfl rfl (hb hby d21_56)
  refine Go.step st24 ?_
  have N24_ := Fr.snoc X24 N21_ r2
  have O24_ : Ext Z.heap h24 := extWr O21_ W24 r2
  have K24 := Keep.wr K21 W24 (Or.inl (List.mem_of_getElem? (i := 0) rfl))
  have F24 := Fld.same W24 f23
  refine Go.step (fun _ kt_ => XS.aloadN X24.here hx rfl (hb hby d21_59) rfl rfl kt_) ?_
  refine Go.step (fun _ kt_ => XS.iload X24.here hx rfl (hb hby d21_60) rfl kt_) ?_
  have f25 := (Exa.wr W24 (Exa.wr W21 (Exa.wr W18 f15)))
  have f26 := (Fld.other W10 (Fld.ext E6 (Fld.ext E4 (Fld.ext E2 r8))) (Or.inr (sn_86 hw)))
  have f27 := (Fld.other W21 (Fld.other W18 (Fld.other W14 (Fld.other W12 f26 (Or.inr (sn_87 hw))) (Or.inr (sn_88 hw))) (Or.inr (sn_89 hw))) (Or.inr (sn_90 hw)))
  obtain ⟨T28, h28, X28, e28, W28, st28⟩ := putFN X24 hx hZ6 hown6 (wd hw 228 rfl) Via.refl e24 (Fld.other W24 f27 (Or.inr (sn_91 hw))) f25 (Or.inr ⟨(wd hw 229 rfl), rfl, hnm⟩) (wd hw 187 rfl) (ty := .boolean) (v' := (.int ((x7 &&& 1)))) pf_Z rfl (fits_nar_bool _) (g := (mkF m 62 #[.val (.ref x0), .val (.ref x1), .val (.ref x2), .val (.long x3), .second, .val (.long x4), .second, .val (.ref x5), .val .null, .val (.int x7), .val (.int x8), .val (.int x9), .val (.int x10), .val .null, .val (.ref x12)] [(.int x7), (.ref x0)])) rfl rfl (hb hby d21_62)
  refine Go.step st28 ?_
  have N28_ := Fr.snoc X28 N24_ r2
  have O28_ : Ext Z.heap h28 := extWr O24_ W28 r2
  have K28 := Keep.wr K24 W28 (Or.inl (List.mem_of_getElem? (i := 0) rfl))
  have F28 := Fld.same W28 (Fld.other W24 f27 (Or.inr (sn_91 hw)))
  refine Go.step (fun _ kt_ => XS.aloadN X28.here hx rfl (hb hby d21_65) rfl rfl kt_) ?_
  refine Go.step (fun _ kt_ => XS.iload X28.here hx rfl (hb hby d21_66) rfl kt_) ?_
  have f29 := (Fld.other W10 (Fld.ext E6 (Fld.ext E4 (Fld.ext E2 r9))) (Or.inr (sn_92 hw)))
  have f30 := (Fld.other W21 (Fld.other W18 (Fld.other W14 (Fld.other W12 f29 (Or.inr (sn_93 hw))) (Or.inr (sn_94 hw))) (Or.inr (sn_95 hw))) (Or.inr (sn_96 hw)))
  have f31 := (Fld.other W28 (Fld.other W24 f30 (Or.inr (sn_97 hw))) (Or.inr (sn_98 hw)))
  obtain ⟨T32, h32, X32, e32, W32, st32⟩ := putFN X28 hx hZ6 hown6 (wd hw 230 rfl) Via.refl e28 f31 (Exa.wr W28 f25) (Or.inr ⟨(wd hw 231 rfl), rfl, hnm⟩) (wd hw 187 rfl) (ty := .boolean) (v' := (.int ((x8 &&& 1)))) pf_Z rfl (fits_nar_bool _) (g := (mkF m 68 #[.val (.ref x0), .val (.ref x1), .val (.ref x2), .val (.long x3), .second, .val (.long x4), .second, .val (.ref x5), .val .null, .val (.int x7), .val (.int x8), .val (.int x9), .val (.int x10), .val .null, .val (.ref x12)] [(.int x8), (.ref x0)])) rfl rfl (hb hby d21_68)
  refine Go.step st32 ?_
  have N32_ := Fr.snoc X32 N28_ r2
  have O32_ : Ext Z.heap h32 := extWr O28_ W32 r2
  have K32 := Keep.wr K28 W32 (Or.inl (List.mem_of_getElem? (i := 0) rfl))
  have F32 := Fld.same W32 f31
  refine Go.step (fun _ kt_ => XS.aloadN X32.here hx rfl (hb hby d21_71) rfl rfl kt_) ?_
  refine Go.step (fun _ kt_ => XS.iload X32.here hx rfl (hb hby d21_72) rfl kt_) ?_
  have f33 := (Fld.other W10 (Fld.ext E6 (Fld.ext E4 (Fld.ext E2 r10))) (Or.inr (sn_99 hw)))
  have f34 := (Fld.other W21 (Fld.other W18 (Fld.other W14 (Fld.other W12 f33 (Or.inr (sn_100 hw))) (Or.inr (sn_101 hw))) (Or.inr (sn_102 hw))) (Or.inr (sn_103 hw)))
  have f35 := (Fld.other W32 (Fld.other W28 (Fld.other W24 f34 (Or.inr (sn_104 hw))) (Or.inr (sn_105 hw))) (Or.inr (sn_106 hw)))
  obtain ⟨T36, h36, X36, e36, W36, st36⟩ := putFN X32 hx hZ6 hown6 (wd hw 232 rfl) Via.refl e32 f35 (Exa.wr W32 (Exa.wr W28 f25)) (Or.inr ⟨(wd hw 233 rfl), rfl, hnm⟩) (wd hw 187 rfl) (ty := .boolean) (v' := (.int ((x9 &&& 1)))) pf_Z rfl (fits_nar_bool _) (g := (mkF m 74 #[.val (.ref x0), .val (.ref x1), .val (.ref x2), .val (.long x3), .second, .val (.long x4), .second, .val (.ref x5), .val .null, .val (.int x7), .val (.int x8), .val (.int x9), .val (.int x10), .val .null, .val (.ref x12)] [(.int x9), (.ref x0)])) rfl rfl (hb hby d21_74)
  refine Go.step st36 ?_
  have N36_ := Fr.snoc X36 N32_ r2
  have O36_ : Ext Z.heap h36 := extWr O32_ W36 r2
  have K36 := Keep.wr K32 W36 (Or.inl (List.mem_of_getElem? (i := 0) rfl))
  have F36 := Fld.same W36 f35
  refine Go.step (fun _ kt_ => XS.aloadN X36.here hx rfl (hb hby d21_77) rfl rfl kt_) ?_
  refine Go.step (fun _ kt_ => XS.iload X36.here hx rfl (hb hby d21_78) rfl kt_) ?_
  have f37 := (Exa.wr W36 (Exa.wr W32 (Exa.wr W28 f25)))
  have f38 := (Fld.other W10 (Fld.ext E6 (Fld.ext E4 (Fld.ext E2 r11))) (Or.inr (sn_107 hw)))
  have f39 := (Fld.other W21 (Fld.other W18 (Fld.other W14 (Fld.other W12 f38 (Or.inr (sn_108 hw))) (Or.inr (sn_109 hw))) (Or.inr (sn_110 hw))) (Or.inr (sn_111 hw)))
  have f40 := (Fld.other W36 (Fld.other W32 (Fld.other W28 (Fld.other W24 f39 (Or.inr (sn_112 hw))) (Or.inr (sn_113 hw))) (Or.inr (sn_114 hw))) (Or.inr (sn_115 hw)))
  obtain ⟨T41, h41, X41, e41, W41, st41⟩ := putFN X36 hx hZ6 hown6 (wd hw 234 rfl) Via.refl e36 f40 f37 (Or.inr ⟨(wd hw 235 rfl), rfl, hnm⟩) (wd hw 187 rfl) (ty := .boolean) (v' := (.int ((x10 &&& 1)))) pf_Z rfl (fits_nar_bool _) (g := (mkF m 80 #[.val (.ref x0), .val (.ref x1), .val (.ref x2), .val (.long x3), .second, .val (.long x4), .second, .val (.ref x5), .val .null, .val (.int x7), .val (.int x8), .val (.int x9), .val (.int x10), .val .null, .val (.ref x12)] [(.int x10), (.ref x0)])) rfl rfl (hb hby d21_80)
  refine Go.step st41 ?_
  have N41_ := Fr.snoc X41 N36_ r2
  have O41_ : Ext Z.heap h41 := extWr O36_ W41 r2
  have K41 := Keep.wr K36 W41 (Or.inl (List.mem_of_getElem? (i := 0) rfl))
  have F41 := Fld.same W41 f40
  refine Go.step (fun _ kt_ => XS.aloadN X41.here hx rfl (hb hby d21_83) rfl rfl kt_) ?_
  refine Go.step (fun _ kt_ => XS.aload X41.here hx rfl (hb hby d21_84) rfl rfl kt_) ?_
  have f42 := (Fld.other W10 (Fld.ext E6 (Fld.ext E4 (Fld.ext E2 r12))) (Or.inr (sn_116 hw)))
  have f43 := (Fld.other W21 (Fld.other W18 (Fld.other W14 (Fld.other W12 f42 (Or.inr (sn_117 hw))) (Or.inr (sn_118 hw))) (Or.inr (sn_119 hw))) (Or.inr (sn_120 hw)))
  have f44 := (Fld.other W36 (Fld.other W32 (Fld.other W28 (Fld.other W24 f43 (Or.inr (sn_121 hw))) (Or.inr (sn_122 hw))) (Or.inr (sn_123 hw))) (Or.inr (sn_124 hw)))
  obtain ⟨T45, h45, X45, e45, W45, st45⟩ := putF X41 hx hZ6 hown6 (host := "") (Or.inl (wd hw 236 rfl)) Via.refl e41 (Fld.other W41 f44 (Or.inr (sn_125 hw))) (Exa.wr W41 f37) (Or.inr ⟨(wd hw 237 rfl), rfl, hnm⟩) (wd hw 187 rfl) (ty := (.object "org/matchstone/engine/Peg")) pf_Lorg_matchstone_engine_Peg_ rfl rfl (g := (mkF m 86 #[.val (.ref x0), .val (.ref x1), .val (.ref x2), .val (.long x3), .second, .val (.long x4), .second, .val (.ref x5), .val .null, .val (.int x7), .val (.int x8), .val (.int x9), .val (.int x10), .val .null, .val (.ref x12)] [.null, (.ref x0)])) rfl rfl (hb hby d21_86)
  refine Go.step st45 ?_
  have N45_ := Fr.snoc X45 N41_ r2
  have O45_ : Ext Z.heap h45 := extWr O41_ W45 r2
  have K45 := Keep.wr K41 W45 (Or.inl (List.mem_of_getElem? (i := 0) rfl))
  have F45 := Fld.same W45 (Fld.other W41 f44 (Or.inr (sn_125 hw)))
  refine Go.step (fun _ kt_ => XS.aloadN X45.here hx rfl (hb hby d21_89) rfl rfl kt_) ?_
  refine Go.step (fun _ kt_ => XS.aload X45.here hx rfl (hb hby d21_90) rfl rfl kt_) ?_
  have f46 := (Fld.other W10 (Fld.ext E6 (Fld.ext E4 (Fld.ext E2 r13))) (Or.inr (sn_126 hw)))
  have f47 := (Fld.other W21 (Fld.other W18 (Fld.other W14 (Fld.other W12 f46 (Or.inr (sn_127 hw))) (Or.inr (sn_128 hw))) (Or.inr (sn_129 hw))) (Or.inr (sn_130 hw)))
  have f48 := (Fld.other W36 (Fld.other W32 (Fld.other W28 (Fld.other W24 f47 (Or.inr (sn_131 hw))) (Or.inr (sn_132 hw))) (Or.inr (sn_133 hw))) (Or.inr (sn_134 hw)))
  have f49 := (Fld.other W45 (Fld.other W41 f48 (Or.inr (sn_135 hw))) (Or.inr (sn_136 hw)))
  obtain ⟨T50, h50, X50, e50, W50, st50⟩ := putF X45 hx hZ6 hown6 (host := "") (Or.inl (wd hw 238 rfl)) Via.refl e45 f49 (Exa.wr W45 (Exa.wr W41 f37)) (Or.inr ⟨(wd hw 239 rfl), rfl, hnm⟩) (wd hw 187 rfl) (ty := (.object "org/matchstone/engine/MinQuantity")) pf_Lorg_matchstone_engine_MinQuantity_ rfl rfl (g := (mkF m 92 #[.val (.ref x0), .val (.ref x1), .val (.ref x2), .val (.long x3), .second, .val (.long x4), .second, .val (.ref x5), .val .null, .val (.int x7), .val (.int x8), .val (.int x9), .val (.int x10), .val .null, .val (.ref x12)] [(.ref x12), (.ref x0)])) rfl rfl (hb hby d21_92)
  refine Go.step st50 ?_
  have N50_ := Fr.snoc X50 N45_ r2
  have O50_ : Ext Z.heap h50 := extWr O45_ W50 r2
  have K50 := Keep.wr K45 W50 (Or.inl (List.mem_of_getElem? (i := 0) rfl))
  have F50 := Fld.same W50 f49
  have f51 := (Exa.wr W50 (Exa.wr W45 (Exa.wr W41 f37)))
  have f52 := (Fld.other W21 (Fld.other W18 (Fld.other W14 (Fld.other W12 F10 (Or.inr (Ne.symm (sn_71 hw)))) (Or.inr (Ne.symm (sn_72 hw)))) (Or.inr (Ne.symm (sn_74 hw)))) (Or.inr (Ne.symm (sn_77 hw))))
  have f53 := (Fld.other W36 (Fld.other W32 (Fld.other W28 (Fld.other W24 f52 (Or.inr (Ne.symm (sn_81 hw)))) (Or.inr (Ne.symm (sn_86 hw)))) (Or.inr (Ne.symm (sn_92 hw)))) (Or.inr (Ne.symm (sn_99 hw))))
  have f54 := (Fld.other W50 (Fld.other W45 (Fld.other W41 f53 (Or.inr (Ne.symm (sn_107 hw)))) (Or.inr (Ne.symm (sn_116 hw)))) (Or.inr (Ne.symm (sn_126 hw))))
  have f55 := (Fld.other W24 (Fld.other W21 (Fld.other W18 (Fld.other W14 F12 (Or.inr (Ne.symm (sn_73 hw)))) (Or.inr (Ne.symm (sn_75 hw)))) (Or.inr (Ne.symm (sn_78 hw)))) (Or.inr (Ne.symm (sn_82 hw))))
  have f56 := (Fld.other W41 (Fld.other W36 (Fld.other W32 (Fld.other W28 f55 (Or.inr (Ne.symm (sn_87 hw)))) (Or.inr (Ne.symm (sn_93 hw)))) (Or.inr (Ne.symm (sn_100 hw)))) (Or.inr (Ne.symm (sn_108 hw))))
  have f57 := (Fld.other W50 (Fld.other W45 f56 (Or.inr (Ne.symm (sn_117 hw)))) (Or.inr (Ne.symm (sn_127 hw))))
  have f58 := (Fld.other W28 (Fld.other W24 (Fld.other W21 (Fld.other W18 F14 (Or.inr (Ne.symm (sn_76 hw)))) (Or.inr (Ne.symm (sn_79 hw)))) (Or.inr (Ne.symm (sn_83 hw)))) (Or.inr (Ne.symm (sn_88 hw))))
  have f59 := (Fld.other W45 (Fld.other W41 (Fld.other W36 (Fld.other W32 f58 (Or.inr (Ne.symm (sn_94 hw)))) (Or.inr (Ne.symm (sn_101 hw)))) (Or.inr (Ne.symm (sn_109 hw)))) (Or.inr (Ne.symm (sn_118 hw))))
  have f60 := (Fld.other W50 f59 (Or.inr (Ne.symm (sn_128 hw))))
  have f61 := (Fld.other W32 (Fld.other W28 (Fld.other W24 (Fld.other W21 F18 (Or.inr (Ne.symm (sn_80 hw)))) (Or.inr (Ne.symm (sn_84 hw)))) (Or.inr (Ne.symm (sn_89 hw)))) (Or.inr (Ne.symm (sn_95 hw))))
  have f62 := (Fld.other W50 (Fld.other W45 (Fld.other W41 (Fld.other W36 f61 (Or.inr (Ne.symm (sn_102 hw)))) (Or.inr (Ne.symm (sn_110 hw)))) (Or.inr (Ne.symm (sn_119 hw)))) (Or.inr (Ne.symm (sn_129 hw))))
  have f63 := (Fld.other W36 (Fld.other W32 (Fld.other W28 (Fld.other W24 F21 (Or.inr (Ne.symm (sn_85 hw)))) (Or.inr (Ne.symm (sn_90 hw)))) (Or.inr (Ne.symm (sn_96 hw)))) (Or.inr (Ne.symm (sn_103 hw))))
  have f64 := (Fld.other W50 (Fld.other W45 (Fld.other W41 f63 (Or.inr (Ne.symm (sn_111 hw)))) (Or.inr (Ne.symm (sn_120 hw)))) (Or.inr (Ne.symm (sn_130 hw))))
  have f65 := (Fld.other W41 (Fld.other W36 (Fld.other W32 (Fld.other W28 F24 (Or.inr (Ne.symm (sn_91 hw)))) (Or.inr (Ne.symm (sn_97 hw)))) (Or.inr (Ne.symm (sn_104 hw)))) (Or.inr (Ne.symm (sn_112 hw))))
  have f66 := (Fld.other W50 (Fld.other W45 f65 (Or.inr (Ne.symm (sn_121 hw)))) (Or.inr (Ne.symm (sn_131 hw))))
  have f67 := (Fld.other W45 (Fld.other W41 (Fld.other W36 (Fld.other W32 F28 (Or.inr (Ne.symm (sn_98 hw)))) (Or.inr (Ne.symm (sn_105 hw)))) (Or.inr (Ne.symm (sn_113 hw)))) (Or.inr (Ne.symm (sn_122 hw))))
  have f68 := (Fld.other W50 f67 (Or.inr (Ne.symm (sn_132 hw))))
  have f69 := (Fld.other W50 (Fld.other W45 (Fld.other W41 (Fld.other W36 F32 (Or.inr (Ne.symm (sn_106 hw)))) (Or.inr (Ne.symm (sn_114 hw)))) (Or.inr (Ne.symm (sn_123 hw)))) (Or.inr (Ne.symm (sn_133 hw))))
  have f70 := (Fld.other W50 (Fld.other W45 (Fld.other W41 F36 (Or.inr (Ne.symm (sn_115 hw)))) (Or.inr (Ne.symm (sn_124 hw)))) (Or.inr (Ne.symm (sn_134 hw))))
  have f71 := (Fld.other W50 (Fld.other W45 F41 (Or.inr (Ne.symm (sn_125 hw)))) (Or.inr (Ne.symm (sn_135 hw))))
  have f72 := (Fld.other W50 F45 (Or.inr (Ne.symm (sn_136 hw))))
  exact Go.retVW X50 S6 (by rw [e50]; exact (Nat.le_trans (Nat.le_trans (Nat.le_trans (Nat.le_trans (Nat.le_trans (Nat.le_trans (Nat.le_trans (Nat.le_trans (Nat.le_trans (Nat.le_trans (Nat.le_trans (Nat.le_trans kq6 (Keep.of_wr W10).1) (Keep.of_wr W12).1) (Keep.of_wr W14).1) (Keep.of_wr W18).1) (Keep.of_wr W21).1) (Keep.of_wr W24).1) (Keep.of_wr W28).1) (Keep.of_wr W32).1) (Keep.of_wr W36).1) (Keep.of_wr W41).1) (Keep.of_wr W45).1) (Keep.of_wr W50).1)) hx hret hlk (hb hby d21_95) (by decide) (by decide) (by show Q_a21_1 ..; rw [e50]; exact ⟨rfl, N50_, K50, f54, f57, f60, f62, f64, f66, f68, f69, f70, f71, f72, F50⟩)
def Q_a20_1 (Z : State) (w1 : Addr) (w2 : Addr) (w3 : Int64) (w4 : Int64) (w5 : Addr) (w6 : Int32) (w7 : Int32) (w8 : Int32) (w9 : Int32) (w10 : Addr) (h0 : Heap) (v : Option Value) (h : Heap) (L : List Loc) : Prop := ∃ (b1 : Addr), v = some (.ref b1) ∧ Fr Z.heap.size L ∧ Keep h0 h [] ∧ h0.size ≤ b1 ∧ Exa Z h b1 "org/matchstone/engine/NewOrder" ∧ fl_16 Z h b1 (.ref w1) ∧ fl_17 Z h b1 (.ref w2) ∧ fl_18 Z h b1 (.long w3) ∧ fl_19 Z h b1 (.long w4) ∧ fl_20 Z h b1 (.ref w5) ∧ fl_21 Z h b1 .null ∧ fl_22 Z h b1 (.int ((w6 &&& 1))) ∧ fl_23 Z h b1 (.int ((w7 &&& 1))) ∧ fl_24 Z h b1 (.int ((w8 &&& 1))) ∧ fl_25 Z h b1 (.int ((w9 &&& 1))) ∧ fl_26 Z h b1 .null ∧ fl_27 Z h b1 (.ref w10)
set_option maxRecDepth 65536 in
set_option maxHeartbeats 40000000 in
theorem rm_a20_1 (l : Launch) (Z : State) (a0 : Array Value) (hw : HW Z a0) (ws : List Jvm.Cond) (x0 : Addr) (w1 : Addr) (w2 : Addr) (w3 : Int64) (w4 : Int64) (w5 : Addr) (w6 : Int32) (w7 : Int32) (w8 : Int32) (w9 : Int32) (w10 : Addr) (h0 : Heap) (O0 : Ext Z.heap h0) (r0 : fl_6 Z h0 x0 (.ref w1)) (r1 : fl_7 Z h0 x0 (.ref w2)) (r2 : fl_8 Z h0 x0 (.long w3)) (r3 : fl_9 Z h0 x0 (.long w4)) (r4 : fl_4 Z h0 x0 (.ref w5)) (r5 : fl_10 Z h0 x0 .null) (r6 : fl_5 Z h0 x0 (.int w6)) (r7 : fl_11 Z h0 x0 (.int w7)) (r8 : fl_12 Z h0 x0 (.int w8)) (r9 : fl_13 Z h0 x0 (.int w9)) (r10 : fl_14 Z h0 x0 .null) (r11 : fl_15 Z h0 x0 (.ref w10)) :
    Met ReturnedEndW l (⟨"org/matchstone/engine/NewOrder$Draft", "order", "()Lorg/matchstone/engine/NewOrder;"⟩ : MethodName) prog_23_method_3_code 1 (some (.object "org/matchstone/engine/NewOrder")) ws ⟨3, 7, 92, 51⟩ Z h0 #[(.ref x0)] (Q_a20_1 Z w1 w2 w3 w4 w5 w6 w7 w8 w9 w10 h0) := by
  refine own_metW "org/matchstone/engine/NewOrder$Draft" (plainFor_of_name pn_20) rfl #[.val (.ref x0)] (fun _ => by first | (simp [entryFrame, mkF, argsToLocals, Value.category]; done) | rfl) ?_
  intro p e s m below meth c s₁ hx hby hlk hret hml hZ hown hnm X0 e0 S0 kk0
  have N0 := Fr.nil Z.heap.size
  have wS := own_wS hw
  obtain ⟨T1, h1, X1, e1, E1, A1, D1, U1, st1⟩ := newO X0 hx hZ hown (wd hw 186 rfl) (wd hw 187 rfl) (wd hw 157 rfl) e0 (g := (mkF m 0 #[.val (.ref x0)] [])) rfl (hb hby d20_0) (by decide) (by decide)
  obtain ⟨b1, hb1⟩ : ∃ z, z = h0.size := ⟨_, rfl⟩
  rw [← hb1] at A1 D1 U1 st1
  refine Go.step st1 ?_
  have g_b1 : Z.heap.size ≤ b1 := Nat.le_trans O0.1 (Nat.le_of_eq hb1.symm)
  have O1_ : Ext Z.heap h1 := extTr O0 E1
  have sz_b1 : h0.size ≤ b1 := Nat.le_trans (Keep.refl h0 []).1 (Nat.le_of_eq hb1.symm)
  have K1 := Keep.ext (Keep.refl h0 []) E1
  have F1_id : fl_16 Z h1 b1 .null := D1 (Or.inr (wd hw 217 rfl)) (ty := (.object "java/lang/String")) pf_Ljava_lang_String_
  have F1_side : fl_17 Z h1 b1 .null := D1 (Or.inr (wd hw 219 rfl)) (ty := (.object "org/matchstone/engine/Side")) pf_Lorg_matchstone_engine_Side_
  have F1_quantity : fl_18 Z h1 b1 (.long (0 : Int64)) := D1 (Or.inr (wd hw 221 rfl)) (ty := .long) pf_J
  have F1_price : fl_19 Z h1 b1 (.long (0 : Int64)) := D1 (Or.inr (wd hw 223 rfl)) (ty := .long) pf_J
  have F1_timeInForce : fl_20 Z h1 b1 .null := D1 (Or.inr (wd hw 225 rfl)) (ty := (.object "org/matchstone/engine/TimeInForce")) pf_Lorg_matchstone_engine_TimeInForce_
  have F1_expireTime : fl_21 Z h1 b1 .null := D1 (Or.inr (wd hw 227 rfl)) (ty := (.object "java/time/LocalTime")) pf_Ljava_time_LocalTime_
  have F1_displayed : fl_22 Z h1 b1 (.int (0 : Int32)) := D1 (Or.inr (wd hw 229 rfl)) (ty := .boolean) pf_Z
  have F1_postOnly : fl_23 Z h1 b1 (.int (0 : Int32)) := D1 (Or.inr (wd hw 231 rfl)) (ty := .boolean) pf_Z
  have F1_swap : fl_24 Z h1 b1 (.int (0 : Int32)) := D1 (Or.inr (wd hw 233 rfl)) (ty := .boolean) pf_Z
  have F1_superAggressive : fl_25 Z h1 b1 (.int (0 : Int32)) := D1 (Or.inr (wd hw 235 rfl)) (ty := .boolean) pf_Z
  have F1_peg : fl_26 Z h1 b1 .null := D1 (Or.inr (wd hw 237 rfl)) (ty := (.object "org/matchstone/engine/Peg")) pf_Lorg_matchstone_engine_Peg_
  have F1_minQuantity : fl_27 Z h1 b1 .null := D1 (Or.inr (wd hw 239 rfl)) (ty := (.object "org/matchstone/engine/MinQuantity")) pf_Lorg_matchstone_engine_MinQuantity_
  refine Go.step (fun _ kt_ => XS.dup X1.here hx rfl (hb hby d20_3) rfl rfl kt_) ?_
  refine Go.step (fun _ kt_ => XS.aloadN X1.here hx rfl (hb hby d20_4) rfl rfl kt_) ?_
  obtain ⟨T2, X2, e2, st2⟩ := getF X1 hx hZ hown (host := "") (Or.inl (wd hw 173 rfl)) Via.refl e1 (Fld.ext E1 r0) (g := (mkF m 5 #[.val (.ref x0)] [(.ref x0), (.ref b1), (.ref b1)])) rfl rfl (hb hby d20_5)
  refine Go.step st2 ?_
  refine Go.step (fun _ kt_ => XS.aloadN X2.here hx rfl (hb hby d20_8) rfl rfl kt_) ?_
  obtain ⟨T3, X3, e3, st3⟩ := getF X2 hx hZ hown (host := "") (Or.inl (wd hw 175 rfl)) Via.refl e2 (Fld.ext E1 r1) (g := (mkF m 9 #[.val (.ref x0)] [(.ref x0), (.ref w1), (.ref b1), (.ref b1)])) rfl rfl (hb hby d20_9)
  refine Go.step st3 ?_
  refine Go.step (fun _ kt_ => XS.aloadN X3.here hx rfl (hb hby d20_12) rfl rfl kt_) ?_
  obtain ⟨T4, X4, e4, st4⟩ := getF X3 hx hZ hown (host := "") (Or.inl (wd hw 177 rfl)) Via.refl e3 (Fld.ext E1 r2) (g := (mkF m 13 #[.val (.ref x0)] [(.ref x0), (.ref w2), (.ref w1), (.ref b1), (.ref b1)])) rfl rfl (hb hby d20_13)
  refine Go.step st4 ?_
  refine Go.step (fun _ kt_ => XS.aloadN X4.here hx rfl (hb hby d20_16) rfl rfl kt_) ?_
  obtain ⟨T5, X5, e5, st5⟩ := getF X4 hx hZ hown (host := "") (Or.inl (wd hw 179 rfl)) Via.refl e4 (Fld.ext E1 r3) (g := (mkF m 17 #[.val (.ref x0)] [(.ref x0), (.long w3), (.ref w2), (.ref w1), (.ref b1), (.ref b1)])) rfl rfl (hb hby d20_17)
  refine Go.step st5 ?_
  refine Go.step (fun _ kt_ => XS.aloadN X5.here hx rfl (hb hby d20_20) rfl rfl kt_) ?_
  obtain ⟨T6, X6, e6, st6⟩ := getF X5 hx hZ hown (host := "") (Or.inl (wd hw 169 rfl)) Via.refl e5 (Fld.ext E1 r4) (g := (mkF m 21 #[.val (.ref x0)] [(.ref x0), (.long w4), (.long w3), (.ref w2), (.ref w1), (.ref b1), (.ref b1)])) rfl rfl (hb hby d20_21)
  refine Go.step st6 ?_
  refine Go.step (fun _ kt_ => XS.aloadN X6.here hx rfl (hb hby d20_24) rfl rfl kt_) ?_
  obtain ⟨T7, X7, e7, st7⟩ := getF X6 hx hZ hown (host := "") (Or.inl (wd hw 188 rfl)) Via.refl e6 (Fld.ext E1 r5) (g := (mkF m 25 #[.val (.ref x0)] [(.ref x0), (.ref w5), (.long w4), (.long w3), (.ref w2), (.ref w1), (.ref b1), (.ref b1)])) rfl rfl (hb hby d20_25)
  refine Go.step st7 ?_
  refine Go.step (fun _ kt_ => XS.aloadN X7.here hx rfl (hb hby d20_28) rfl rfl kt_) ?_
  obtain ⟨T8, X8, e8, st8⟩ := getF X7 hx hZ hown (host := "") (Or.inl (wd hw 171 rfl)) Via.refl e7 (Fld.ext E1 r6) (g := (mkF m 29 #[.val (.ref x0)] [(.ref x0), .null, (.ref w5), (.long w4), (.long w3), (.ref w2), (.ref w1), (.ref b1), (.ref b1)])) rfl rfl (hb hby d20_29)
  refine Go.step st8 ?_
  refine Go.step (fun _ kt_ => XS.aloadN X8.here hx rfl (hb hby d20_32) rfl rfl kt_) ?_
  obtain ⟨T9, X9, e9, st9⟩ := getF X8 hx hZ hown (host := "") (Or.inl (wd hw 190 rfl)) Via.refl e8 (Fld.ext E1 r7) (g := (mkF m 33 #[.val (.ref x0)] [(.ref x0), (.int w6), .null, (.ref w5), (.long w4), (.long w3), (.ref w2), (.ref w1), (.ref b1), (.ref b1)])) rfl rfl (hb hby d20_33)
  refine Go.step st9 ?_
  refine Go.step (fun _ kt_ => XS.aloadN X9.here hx rfl (hb hby d20_36) rfl rfl kt_) ?_
  obtain ⟨T10, X10, e10, st10⟩ := getF X9 hx hZ hown (host := "") (Or.inl (wd hw 192 rfl)) Via.refl e9 (Fld.ext E1 r8) (g := (mkF m 37 #[.val (.ref x0)] [(.ref x0), (.int w7), (.int w6), .null, (.ref w5), (.long w4), (.long w3), (.ref w2), (.ref w1), (.ref b1), (.ref b1)])) rfl rfl (hb hby d20_37)
  refine Go.step st10 ?_
  refine Go.step (fun _ kt_ => XS.aloadN X10.here hx rfl (hb hby d20_40) rfl rfl kt_) ?_
  obtain ⟨T11, X11, e11, st11⟩ := getF X10 hx hZ hown (host := "") (Or.inl (wd hw 194 rfl)) Via.refl e10 (Fld.ext E1 r9) (g := (mkF m 41 #[.val (.ref x0)] [(.ref x0), (.int w8), (.int w7), (.int w6), .null, (.ref w5), (.long w4), (.long w3), (.ref w2), (.ref w1), (.ref b1), (.ref b1)])) rfl rfl (hb hby d20_41)
  refine Go.step st11 ?_
  refine Go.step (fun _ kt_ => XS.aloadN X11.here hx rfl (hb hby d20_44) rfl rfl kt_) ?_
  obtain ⟨T12, X12, e12, st12⟩ := getF X11 hx hZ hown (host := "") (Or.inl (wd hw 196 rfl)) Via.refl e11 (Fld.ext E1 r10) (g := (mkF m 45 #[.val (.ref x0)] [(.ref x0), (.int w9), (.int w8), (.int w7), (.int w6), .null, (.ref w5), (.long w4), (.long w3), (.ref w2), (.ref w1), (.ref b1), (.ref b1)])) rfl rfl (hb hby d20_45)
  refine Go.step st12 ?_
  refine Go.step (fun _ kt_ => XS.aloadN X12.here hx rfl (hb hby d20_48) rfl rfl kt_) ?_
  obtain ⟨T13, X13, e13, st13⟩ := getF X12 hx hZ hown (host := "") (Or.inl (wd hw 198 rfl)) Via.refl e12 (Fld.ext E1 r11) (g := (mkF m 49 #[.val (.ref x0)] [(.ref x0), .null, (.int w9), (.int w8), (.int w7), (.int w6), .null, (.ref w5), (.long w4), (.long w3), (.ref w2), (.ref w1), (.ref b1), (.ref b1)])) rfl rfl (hb hby d20_49)
  refine Go.step st13 ?_
  obtain ⟨_, _, ⟨T14, L14, k14, n14⟩, -, X14, Sq14, gq14, ⟨Lc14, hQ14, l14, y14, z14⟩, st14⟩ := X13.specialBackS hx (y := (⟨"org/matchstone/engine/NewOrder", "<init>", "(Ljava/lang/String;Lorg/matchstone/engine/Side;JJLorg/matchstone/engine/TimeInForce;Ljava/time/LocalTime;ZZZZLorg/matchstone/engine/Peg;Lorg/matchstone/engine/MinQuantity;)V"⟩ : MethodName)) rfl hown (mvT hZ (wd hw 200 rfl)) (mvT hZ (wd hw 201 rfl)) (mvT hZ (wd hw 202 rfl)) (by decide) (backOfS (W := 1) (rm_a21_1 l Z a0 hw []  b1 w1 w2 w3 w4 w5 w6 w7 w8 w9 w10 (0 : Int64) (0 : Int64) (0 : Int32) (0 : Int32) (0 : Int32) (0 : Int32) h1 O1_ A1 F1_id g_b1 F1_side F1_quantity F1_price F1_timeInForce F1_expireTime F1_displayed F1_postOnly F1_swap F1_superAggressive F1_peg F1_minQuantity) hZ (wd hw 202 rfl) (wd hw 157 rfl) (by decide) (by decide)) (g := (mkF m 52 #[.val (.ref x0)] [(.ref w10), .null, (.int w9), (.int w8), (.int w7), (.int w6), .null, (.ref w5), (.long w4), (.long w3), (.ref w2), (.ref w1), (.ref b1), (.ref b1)])) rfl (by rw [hml]; rfl) (Steps.refl _) (a := b1) (argsL := [(.ref w1), (.ref w2), (.long w3), (.long w4), (.ref w5), .null, (.int w6), (.int w7), (.int w8), (.int w9), .null, (.ref w10)]) (rest := [(.ref b1)]) (lenOf pd_LLjava_lang_String_Lorg_matchstone_engine_Side_JJLorg_matchstone_engine_TimeInForce_Ljava_time_LocalTime_ZZZZLorg_matchstone_engine_Peg_Lorg_matchstone_engine_MinQuantity_RV rfl) rfl (by show 2 * 0 + _ ≤ _; exact Nat.le_of_eq rfl) (hb hby d20_52) (fun _ _ => ⟨rfl, e13, (by decide : 1 + 6 ≤ _), (by decide : 12 + 80 ≤ _)⟩)
  dsimp only [Pt.U, Pt.locs, Pt.cells, Pt.slots] at X14 l14 y14 z14 st14 hQ14 Sq14 gq14
  subst y14 z14
  obtain ⟨X14, S14, hZ14, hown14⟩ := rebS S0 ((congrArg Array.size e13).symm ▸ (Nat.le_trans kk0 E1.1)) X14 Sq14 gq14 hZ hown
  obtain ⟨rfl, Nq14, Kq14, p14_0, p14_1, p14_2, p14_3, p14_4, p14_5, p14_6, p14_7, p14_8, p14_9, p14_10, p14_11⟩ := hQ14
  have O14_ : Ext Z.heap T14.heap := extKeep O1_ Kq14 (allS g_b1 all0)
  have K14 := Keep.trans K1 Kq14 (allS (Or.inr sz_b1) all0)
  have N14_ : Fr Z.heap.size L14 := by rw [l14]; exact Fr.app N0 Nq14
  refine Go.trans st14 ?_
  exact Go.retAW X14 S14 (Nat.le_refl _) hx hret rfl rfl hlk (hb hby d20_55) (by decide) (by decide) ⟨b1, rfl, N14_, K14, sz_b1, (A1.keep Kq14), p14_0, p14_1, p14_2, p14_3, p14_4, p14_5, p14_6, p14_7, p14_8, p14_9, p14_10, p14_11⟩
theorem d44_18 : decode prog_22_method_10_code 18 = .ok (.areturn, 1) := by decide +kernel
theorem pn_44 : plainName "org/matchstone/engine/NewOrder" = true := by first | (simp [plainName, overriddenIn]; done) | decide +kernel
def Q_a44_0 (Z : State) (x1 : Addr) (w1 : Addr) (w2 : Addr) (w3 : Int64) (w4 : Int64) (w5 : Addr) (w6 : Int32) (w7 : Int32) (w8 : Int32) (w9 : Int32) (h0 : Heap) (v : Option Value) (h : Heap) (L : List Loc) : Prop := ∃ (b1q15 : Addr), v = some (.ref b1q15) ∧ Fr Z.heap.size L ∧ Keep h0 h [] ∧ h0.size ≤ b1q15 ∧ Exa Z h b1q15 "org/matchstone/engine/NewOrder" ∧ fl_16 Z h b1q15 (.ref w1) ∧ fl_17 Z h b1q15 (.ref w2) ∧ fl_18 Z h b1q15 (.long w3) ∧ fl_19 Z h b1q15 (.long w4) ∧ fl_20 Z h b1q15 (.ref w5) ∧ fl_21 Z h b1q15 .null ∧ fl_22 Z h b1q15 (.int ((((w6 &&& 1)) &&& 1))) ∧ fl_23 Z h b1q15 (.int ((((w7 &&& 1)) &&& 1))) ∧ fl_24 Z h b1q15 (.int ((((w8 &&& 1)) &&& 1))) ∧ fl_25 Z h b1q15 (.int ((((w9 &&& 1)) &&& 1))) ∧ fl_26 Z h b1q15 .null ∧ fl_27 Z h b1q15 (.ref x1)
set_option maxRecDepth 65536 in
set_option maxHeartbeats 40000000 in
theorem rm_a44_0 (l : Launch) (Z : State) (a0 : Array Value) (hw : HW Z a0) (ws : List Jvm.Cond) (x0 : Addr) (x1 : Addr) (w1 : Addr) (w2 : Addr) (w3 : Int64) (w4 : Int64) (w5 : Addr) (w6 : Int32) (w7 : Int32) (w8 : Int32) (w9 : Int32) (h0 : Heap) (O0 : Ext Z.heap h0) (r0 : fl_16 Z h0 x0 (.ref w1)) (r1 : fl_17 Z h0 x0 (.ref w2)) (r2 : fl_18 Z h0 x0 (.long w3)) (r3 : fl_19 Z h0 x0 (.long w4)) (r4 : Sta Z Z.heap "org/matchstone/engine/TimeInForce" "DAY" "Lorg/matchstone/engine/TimeInForce;" (.ref w5)) (r5 : fl_20 Z h0 x0 (.ref w5)) (r6 : fl_21 Z h0 x0 .null) (r7 : fl_22 Z h0 x0 (.int w6)) (r8 : fl_23 Z h0 x0 (.int w7)) (r9 : fl_24 Z h0 x0 (.int w8)) (r10 : fl_25 Z h0 x0 (.int w9)) (r11 : fl_26 Z h0 x0 .null) (r12 : fl_27 Z h0 x0 .null) :
    Met ReturnedEndW l (⟨"org/matchstone/engine/NewOrder", "withMinQuantity", "(Lorg/matchstone/engine/MinQuantity;)Lorg/matchstone/engine/NewOrder;"⟩ : MethodName) prog_22_method_10_code 3 (some (.object "org/matchstone/engine/NewOrder")) ws ⟨4, 8, 104, 63⟩ Z h0 #[(.ref x0), (.ref x1)] (Q_a44_0 Z x1 w1 w2 w3 w4 w5 w6 w7 w8 w9 h0) := by
  refine own_metW "org/matchstone/engine/NewOrder" (plainFor_of_name pn_44) rfl #[.val (.ref x0), .val (.ref x1), .unset] (fun _ => by first | (simp [entryFrame, mkF, argsToLocals, Value.category]; done) | rfl) ?_
  intro p e s m below meth c s₁ hx hby hlk hret hml hZ hown hnm X0 e0 S0 kk0
  have N0 := Fr.nil Z.heap.size
  have wS := own_wS hw
  obtain ⟨T1, h1, X1, e1, E1, A1, D1, U1, st1⟩ := newO X0 hx hZ hown (wd hw 159 rfl) (wd hw 160 rfl) (wd hw 161 rfl) e0 (g := (mkF m 0 #[.val (.ref x0), .val (.ref x1), .unset] [])) rfl (hb hby d44_0) (by decide) (by decide)
  obtain ⟨b1, hb1⟩ : ∃ z, z = h0.size := ⟨_, rfl⟩
  rw [← hb1] at A1 D1 U1 st1
  refine Go.step st1 ?_
  have g_b1 : Z.heap.size ≤ b1 := Nat.le_trans O0.1 (Nat.le_of_eq hb1.symm)
  have O1_ : Ext Z.heap h1 := extTr O0 E1
  have sz_b1 : h0.size ≤ b1 := Nat.le_trans (Keep.refl h0 []).1 (Nat.le_of_eq hb1.symm)
  have K1 := Keep.ext (Keep.refl h0 []) E1
  have F1_timeInForce : fl_4 Z h1 b1 .null := D1 (Or.inl (wd hw 170 rfl)) (ty := (.object "org/matchstone/engine/TimeInForce")) pf_Lorg_matchstone_engine_TimeInForce_
  have F1_displayed : fl_5 Z h1 b1 (.int (0 : Int32)) := D1 (Or.inl (wd hw 172 rfl)) (ty := .boolean) pf_Z
  have F1_id : fl_6 Z h1 b1 .null := D1 (Or.inr (wd hw 174 rfl)) (ty := (.object "java/lang/String")) pf_Ljava_lang_String_
  have F1_side : fl_7 Z h1 b1 .null := D1 (Or.inr (wd hw 176 rfl)) (ty := (.object "org/matchstone/engine/Side")) pf_Lorg_matchstone_engine_Side_
  have F1_quantity : fl_8 Z h1 b1 (.long (0 : Int64)) := D1 (Or.inr (wd hw 178 rfl)) (ty := .long) pf_J
  have F1_price : fl_9 Z h1 b1 (.long (0 : Int64)) := D1 (Or.inr (wd hw 180 rfl)) (ty := .long) pf_J
  have F1_expireTime : fl_10 Z h1 b1 .null := D1 (Or.inl (wd hw 189 rfl)) (ty := (.object "java/time/LocalTime")) pf_Ljava_time_LocalTime_
  have F1_postOnly : fl_11 Z h1 b1 (.int (0 : Int32)) := D1 (Or.inl (wd hw 191 rfl)) (ty := .boolean) pf_Z
  have F1_swap : fl_12 Z h1 b1 (.int (0 : Int32)) := D1 (Or.inl (wd hw 193 rfl)) (ty := .boolean) pf_Z
  have F1_superAggressive : fl_13 Z h1 b1 (.int (0 : Int32)) := D1 (Or.inl (wd hw 195 rfl)) (ty := .boolean) pf_Z
  have F1_peg : fl_14 Z h1 b1 .null := D1 (Or.inl (wd hw 197 rfl)) (ty := (.object "org/matchstone/engine/Peg")) pf_Lorg_matchstone_engine_Peg_
  have F1_minQuantity : fl_15 Z h1 b1 .null := D1 (Or.inl (wd hw 199 rfl)) (ty := (.object "org/matchstone/engine/MinQuantity")) pf_Lorg_matchstone_engine_MinQuantity_
  refine Go.step (fun _ kt_ => XS.dup X1.here hx rfl (hb hby d44_3) rfl rfl kt_) ?_
  refine Go.step (fun _ kt_ => XS.aloadN X1.here hx rfl (hb hby d44_4) rfl rfl kt_) ?_
  obtain ⟨_, _, ⟨T2, L2, k2, n2⟩, -, X2, ⟨Lc2, hQ2, l2, y2, z2⟩, st2⟩ := X1.specialBack hx (y := (⟨"org/matchstone/engine/NewOrder$Draft", "<init>", "(Lorg/matchstone/engine/NewOrder;)V"⟩ : MethodName)) rfl hown (mvT hZ (wd hw 245 rfl)) (mvT hZ (wd hw 246 rfl)) (mvT hZ (wd hw 247 rfl)) (by decide) (backOf (W := 1) (rm_a25_0 l Z a0 hw []  b1 x0 w1 w2 w3 w4 w5 (0 : Int32) (0 : Int64) (0 : Int64) (0 : Int32) (0 : Int32) (0 : Int32) w6 w7 w8 w9 h1 O1_ (Fld.ext E1 r0) (Fld.ext E1 r1) (Fld.ext E1 r2) (Fld.ext E1 r3) r4 A1 F1_timeInForce g_b1 F1_displayed F1_id F1_side F1_quantity F1_price F1_expireTime F1_postOnly F1_swap F1_superAggressive F1_peg F1_minQuantity (Fld.ext E1 r5) (Nat.ne_of_lt (Nat.lt_of_lt_of_le r0.lt (Nat.le_of_eq hb1.symm))) (Fld.ext E1 r6) (Fld.ext E1 r7) (Fld.ext E1 r8) (Fld.ext E1 r9) (Fld.ext E1 r10) (Fld.ext E1 r11) (Fld.ext E1 r12)) hZ (wd hw 247 rfl) (wd hw 161 rfl) (by decide) (by decide)) (g := (mkF m 5 #[.val (.ref x0), .val (.ref x1), .unset] [(.ref x0), (.ref b1), (.ref b1)])) rfl (by rw [hml]; rfl) (Steps.refl _) (a := b1) (argsL := [(.ref x0)]) (rest := [(.ref b1)]) (lenOf pd_LLorg_matchstone_engine_NewOrder_RV rfl) rfl (by show 2 * 0 + _ ≤ _; exact Nat.le_of_eq rfl) (hb hby d44_5) (fun _ _ => ⟨rfl, e1, (by decide : 1 + 0 ≤ _), (by decide : 12 + 0 ≤ _)⟩)
  dsimp only [Pt.U, Pt.locs, Pt.cells, Pt.slots] at X2 l2 y2 z2 st2 hQ2
  subst y2 z2
  obtain ⟨rfl, Nq2, Kq2, p2_0, p2_1, p2_2, p2_3, p2_4, p2_5, p2_6, p2_7, p2_8, p2_9, p2_10, p2_11⟩ := hQ2
  have O2_ : Ext Z.heap T2.heap := extKeep O1_ Kq2 (allS g_b1 all0)
  have K2 := Keep.trans K1 Kq2 (allS (Or.inr sz_b1) all0)
  have N2_ : Fr Z.heap.size L2 := by rw [l2]; exact Fr.app N0 Nq2
  refine Go.trans st2 ?_
  refine Go.step (fun _ kt_ => XS.astoreN X2.here hx rfl (hb hby d44_8) rfl rfl (l' := #[.val (.ref x0), .val (.ref x1), .val (.ref b1)]) rfl kt_) ?_
  refine Go.step (fun _ kt_ => XS.aloadN X2.here hx rfl (hb hby d44_9) rfl rfl kt_) ?_
  refine Go.step (fun _ kt_ => XS.aloadN X2.here hx rfl (hb hby d44_10) rfl rfl kt_) ?_
  obtain ⟨T3, h3, X3, e3, W3, st3⟩ := putRdy X2 hx hZ hown (wd hw 419 rfl) rfl p2_11 (A1.keep Kq2) (wd hw 199 rfl) (wd hw 160 rfl) (ty := (.object "org/matchstone/engine/MinQuantity")) pf_Lorg_matchstone_engine_MinQuantity_ rfl rfl (g := (mkF m 11 #[.val (.ref x0), .val (.ref x1), .val (.ref b1)] [(.ref x1), (.ref b1)])) rfl rfl (hb hby d44_11)
  refine Go.step st3 ?_
  have N3_ := Fr.snoc X3 N2_ g_b1
  have O3_ : Ext Z.heap h3 := extWr O2_ W3 g_b1
  have K3 := Keep.wr K2 W3 (Or.inr sz_b1)
  have F3 := Fld.same W3 p2_11
  refine Go.step (fun _ kt_ => XS.aloadN X3.here hx rfl (hb hby d44_14) rfl rfl kt_) ?_
  have f4 := (Fld.other W3 p2_2 (Or.inr (Ne.symm (sn_67 hw))))
  have f5 := (Fld.other W3 p2_3 (Or.inr (Ne.symm (sn_68 hw))))
  have f6 := (Fld.other W3 p2_4 (Or.inr (Ne.symm (sn_69 hw))))
  have f7 := (Fld.other W3 p2_5 (Or.inr (Ne.symm (sn_70 hw))))
  have f8 := (Fld.other W3 p2_0 (Or.inr (Ne.symm (sn_65 hw))))
  have f9 := (Fld.other W3 p2_6 (Or.inr (Ne.symm (sn_147 hw))))
  have f10 := (Fld.other W3 p2_1 (Or.inr (Ne.symm (sn_66 hw))))
  have f11 := (Fld.other W3 p2_7 (Or.inr (Ne.symm (sn_148 hw))))
  have f12 := (Fld.other W3 p2_8 (Or.inr (Ne.symm (sn_149 hw))))
  have f13 := (Fld.other W3 p2_9 (Or.inr (Ne.symm (sn_150 hw))))
  have f14 := (Fld.other W3 p2_10 (Or.inr (Ne.symm (sn_151 hw))))
  obtain ⟨cq15, kq15, q15a, q15b, q15c⟩ := isOf hZ e3 (Exa.wr W3 (A1.keep Kq2))
  obtain ⟨_, _, ⟨T15, L15, k15, n15⟩, -, X15, Sq15, gq15, ⟨Lc15, hQ15, l15, y15, z15⟩, st15⟩ := X3.virtualBackS hx (y := (⟨"org/matchstone/engine/NewOrder$Draft", "order", "()Lorg/matchstone/engine/NewOrder;"⟩ : MethodName)) (z := (⟨"org/matchstone/engine/NewOrder$Draft", "order", "()Lorg/matchstone/engine/NewOrder;"⟩ : MethodName)) hown (mvT hZ (wd hw 181 rfl)) (mvT hZ (wd hw 182 rfl)) (notFace_of_selects (args := #[]) (mvT hZ (wd hw 184 rfl))) (mvT hZ (wd hw 184 rfl)) (mvT hZ (wd hw 183 rfl)) (by decide) (backOfS (W := 0) (rm_a20_1 l Z a0 hw []  b1 w1 w2 w3 w4 w5 ((w6 &&& 1)) ((w7 &&& 1)) ((w8 &&& 1)) ((w9 &&& 1)) x1 h3 O3_ f4 f5 f6 f7 f8 f9 f10 f11 f12 f13 f14 F3) hZ (wd hw 185 rfl) (wd hw 161 rfl) (by decide) (by decide)) q15a q15c (g := (mkF m 15 #[.val (.ref x0), .val (.ref x1), .val (.ref b1)] [(.ref b1)])) rfl (by rw [hml]; rfl) (Steps.refl _) (argsL := []) (rest := []) (lenOf pd_LRLorg_matchstone_engine_NewOrder_ rfl) rfl (by show 2 * 0 + _ ≤ _; exact Nat.le_of_eq rfl) (hb hby d44_15) (fun _ _ => ⟨rfl, e3, (by decide : 1 + 7 ≤ _), (by decide : 12 + 92 ≤ _)⟩)
  dsimp only [Pt.U, Pt.locs, Pt.cells, Pt.slots] at X15 l15 y15 z15 st15 hQ15 Sq15 gq15
  subst y15 z15
  obtain ⟨X15, S15, hZ15, hown15⟩ := rebS S0 ((congrArg Array.size e3).symm ▸ (Nat.le_trans (Nat.le_trans (Nat.le_trans kk0 E1.1) Kq2.1) (Keep.of_wr W3).1)) X15 Sq15 gq15 hZ hown
  obtain ⟨b1q15, rfl, Nq15, Kq15, p15_0, p15_1, p15_2, p15_3, p15_4, p15_5, p15_6, p15_7, p15_8, p15_9, p15_10, p15_11, p15_12, p15_13⟩ := hQ15
  have O15_ : Ext Z.heap T15.heap := extKeep O3_ Kq15 all0
  have K15 := Keep.trans K3 Kq15 all0
  have N15_ : Fr Z.heap.size L15 := by rw [l15]; exact Fr.app N3_ Nq15
  have g_b1q15 : Z.heap.size ≤ b1q15 := Nat.le_trans O3_.1 p15_0
  have sz_b1q15 : h0.size ≤ b1q15 := Nat.le_trans K3.1 p15_0
  refine Go.trans st15 ?_
  exact Go.retAW X15 S15 (Nat.le_refl _) hx hret rfl rfl hlk (hb hby d44_18) (by decide) (by decide) ⟨b1q15, rfl, N15_, K15, sz_b1q15, p15_1, p15_2, p15_3, p15_4, p15_5, p15_6, p15_7, p15_8, p15_9, p15_10, p15_11, p15_12, p15_13⟩
theorem pd_LLorg_matchstone_engine_MinQuantity_RLorg_matchstone_engine_NewOrder_ : parseMethodDescriptor "(Lorg/matchstone/engine/MinQuantity;)Lorg/matchstone/engine/NewOrder;" = some ⟨[(.object "org/matchstone/engine/MinQuantity")], some (.object "org/matchstone/engine/NewOrder")⟩ := by decide +kernel
def Q_a36_1 (Z : State) (w1 : Addr) (h0 : Heap) (v : Option Value) (h : Heap) (L : List Loc) : Prop := v = some (.ref w1) ∧ Fr Z.heap.size L ∧ h = h0
set_option maxRecDepth 65536 in
set_option maxHeartbeats 40000000 in
theorem rm_a36_1 (l : Launch) (Z : State) (a0 : Array Value) (hw : HW Z a0) (ws : List Jvm.Cond) (x0 : Addr) (w1 : Addr) (h0 : Heap) (O0 : Ext Z.heap h0) (r0 : fl_27 Z h0 x0 (.ref w1)) :
    Met FrameEnd l (⟨"org/matchstone/engine/NewOrder", "minQuantity", "()Lorg/matchstone/engine/MinQuantity;"⟩ : MethodName) prog_22_method_25_code 1 (some (.object "org/matchstone/engine/MinQuantity")) ws ⟨0, 0, 0, 0⟩ Z h0 #[(.ref x0)] (Q_a36_1 Z w1 h0) := by
  refine own_met "org/matchstone/engine/NewOrder" (plainFor_of_name pn_36) rfl #[.val (.ref x0)] (fun _ => by first | (simp [entryFrame, mkF, argsToLocals, Value.category]; done) | rfl) ?_
  intro p e s m below meth c s₁ hx hby hlk hret hml hZ hown hnm X0 e0
  have N0 := Fr.nil Z.heap.size
  refine Go.step (fun _ kt_ => XS.aloadN X0.here hx rfl (hb hby d36_0) rfl rfl kt_) ?_
  obtain ⟨T1, X1, e1, st1⟩ := getF X0 hx hZ hown (host := "") (Or.inl (wd hw 238 rfl)) Via.refl e0 r0 (g := (mkF m 1 #[.val (.ref x0)] [(.ref x0)])) rfl rfl (hb hby d36_1)
  refine Go.step st1 ?_
  exact Go.retA X1 hx hret rfl rfl hlk (hb hby d36_4) (by decide) (by decide) (by show _ ∧ _ ∧ _; rw [e1]; exact ⟨rfl, N0, rfl⟩)
theorem d26_132 : decode prog_7_method_1_code 132 = .ok (.aload 8, 2) := by decide +kernel
theorem d26_134 : decode prog_7_method_1_code 134 = .ok (.invokevirtual 94, 3) := by decide +kernel
theorem d45_0 : decode prog_18_method_7_code 0 = .ok (.aload_n 0, 1) := by decide +kernel
theorem d45_1 : decode prog_18_method_7_code 1 = .ok (.getfield 7, 3) := by decide +kernel
theorem d45_4 : decode prog_18_method_7_code 4 = .ok (.lreturn, 1) := by decide +kernel
theorem pn_45 : plainName "org/matchstone/engine/MinQuantity" = true := by first | (simp [plainName, overriddenIn]; done) | decide +kernel
def Q_a45_0 (Z : State) (w1 : Int64) (h0 : Heap) (v : Option Value) (h : Heap) (L : List Loc) : Prop := v = some (.long w1) ∧ Fr Z.heap.size L ∧ h = h0
set_option maxRecDepth 65536 in
set_option maxHeartbeats 40000000 in
theorem rm_a45_0 (l : Launch) (Z : State) (a0 : Array Value) (hw : HW Z a0) (ws : List Jvm.Cond) (x0 : Addr) (w1 : Int64) (h0 : Heap) (O0 : Ext Z.heap h0) (r0 : fl_47 Z h0 x0 (.long w1)) :
    Met FrameEnd l (⟨"org/matchstone/engine/MinQuantity", "quantity", "()J"⟩ : MethodName) prog_18_method_7_code 1 (some .long) ws ⟨0, 0, 0, 0⟩ Z h0 #[(.ref x0)] (Q_a45_0 Z w1 h0) := by
  refine own_met "org/matchstone/engine/MinQuantity" (plainFor_of_name pn_45) rfl #[.val (.ref x0)] (fun _ => by first | (simp [entryFrame, mkF, argsToLocals, Value.category]; done) | rfl) ?_
  intro p e s m below meth c s₁ hx hby hlk hret hml hZ hown hnm X0 e0
  have N0 := Fr.nil Z.heap.size
  refine Go.step (fun _ kt_ => XS.aloadN X0.here hx rfl (hb hby d45_0) rfl rfl kt_) ?_
  obtain ⟨T1, X1, e1, st1⟩ := getF X0 hx hZ hown (host := "") (Or.inl (wd hw 410 rfl)) Via.refl e0 r0 (g := (mkF m 1 #[.val (.ref x0)] [(.ref x0)])) rfl rfl (hb hby d45_1)
  refine Go.step st1 ?_
  exact Go.retJ X1 hx hret hlk (hb hby d45_4) (by decide) (by decide) (by show _ ∧ _ ∧ _; rw [e1]; exact ⟨rfl, N0, rfl⟩)
theorem d26_146 : decode prog_7_method_1_code 146 = .ok (.aload 8, 2) := by decide +kernel
theorem d26_148 : decode prog_7_method_1_code 148 = .ok (.invokevirtual 101, 3) := by decide +kernel
theorem d46_0 : decode prog_18_method_8_code 0 = .ok (.aload_n 0, 1) := by decide +kernel
theorem d46_1 : decode prog_18_method_8_code 1 = .ok (.getfield 13, 3) := by decide +kernel
theorem d46_4 : decode prog_18_method_8_code 4 = .ok (.ireturn, 1) := by decide +kernel
theorem pn_46 : plainName "org/matchstone/engine/MinQuantity" = true := by first | (simp [plainName, overriddenIn]; done) | decide +kernel
def Q_a46_0 (Z : State) (w1 : Int32) (h0 : Heap) (v : Option Value) (h : Heap) (L : List Loc) : Prop := v = some (.int (w1 &&& (1 : Int32))) ∧ Fr Z.heap.size L ∧ h = h0
set_option maxRecDepth 65536 in
set_option maxHeartbeats 40000000 in
theorem rm_a46_0 (l : Launch) (Z : State) (a0 : Array Value) (hw : HW Z a0) (ws : List Jvm.Cond) (x0 : Addr) (w1 : Int32) (h0 : Heap) (O0 : Ext Z.heap h0) (r0 : fl_48 Z h0 x0 (.int w1)) :
    Met FrameEnd l (⟨"org/matchstone/engine/MinQuantity", "singleOrder", "()Z"⟩ : MethodName) prog_18_method_8_code 1 (some .boolean) ws ⟨0, 0, 0, 0⟩ Z h0 #[(.ref x0)] (Q_a46_0 Z w1 h0) := by
  refine own_met "org/matchstone/engine/MinQuantity" (plainFor_of_name pn_46) rfl #[.val (.ref x0)] (fun _ => by first | (simp [entryFrame, mkF, argsToLocals, Value.category]; done) | rfl) ?_
  intro p e s m below meth c s₁ hx hby hlk hret hml hZ hown hnm X0 e0
  have N0 := Fr.nil Z.heap.size
  refine Go.step (fun _ kt_ => XS.aloadN X0.here hx rfl (hb hby d46_0) rfl rfl kt_) ?_
  obtain ⟨T1, X1, e1, st1⟩ := getF X0 hx hZ hown (host := "") (Or.inl (wd hw 412 rfl)) Via.refl e0 r0 (g := (mkF m 1 #[.val (.ref x0)] [(.ref x0)])) rfl rfl (hb hby d46_1)
  refine Go.step st1 ?_
  exact Go.retN X1 hx (t := .boolean) hret (by simp) hlk (hb hby d46_4) (by decide) (by decide) (by show _ ∧ _ ∧ _; rw [e1]; exact ⟨rfl, N0, rfl⟩)
theorem d26_151 : decode prog_7_method_1_code 151 = .ok (.ifCond .eq 7, 3) := by decide +kernel
theorem d26_154 : decode prog_7_method_1_code 154 = .ok (.iconst 1, 1) := by decide +kernel
theorem d26_155 : decode prog_7_method_1_code 155 = .ok (.goto 4, 3) := by decide +kernel
def Q_a26_1 (Z : State) (x0 : Addr) (x2 : Int64) (x5 : Int64) (w6 : Int32) (w20 : Int64) (w24 : Int64) (h0 : Heap) (v : Option Value) (h : Heap) (L : List Loc) : Prop := v = none ∧ Fr Z.heap.size L ∧ Keep h0 h [x0] ∧ fl_28 Z h x0 (.int (((w6 &&& (1 : Int32)) &&& 1))) ∧ fl_29 Z h x0 (.long w20) ∧ fl_30 Z h x0 .null ∧ fl_31 Z h x0 (.long w24) ∧ fl_32 Z h x0 .null ∧ fl_33 Z h x0 (.long x2) ∧ fl_34 Z h x0 (.long x5)
set_option maxRecDepth 65536 in
set_option maxHeartbeats 40000000 in
theorem rm_a26_1 (l : Launch) (Z : State) (a0 : Array Value) (hw : HW Z a0) (ws : List Jvm.Cond) (x0 : Addr) (x1 : Addr) (x2 : Int64) (x5 : Int64) (w1 : Addr) (w2 : Addr) (w3 : Int64) (w4 : Int64) (w5 : Int64) (w6 : Int32) (w7 : Int32) (w8 : Int32) (w9 : Int32) (w10 : Int32) (w11 : Int32) (w12 : Int32) (w13 : Int32) (w14 : Addr) (w15 : Addr) (w16 : Int32) (w17 : Int64) (w18 : Int64) (w19 : Addr) (w20 : Int64) (w21 : Int64) (w22 : Int32) (w23 : Int32) (w24 : Int64) (w25 : Int64) (h0 : Heap) (O0 : Ext Z.heap h0) (r0 : Exa Z h0 x1 "org/matchstone/engine/NewOrder") (r1 : fl_16 Z h0 x1 (.ref w1)) (r2 : Exa Z h0 x0 "org/matchstone/engine/BookSide$Order") (r3 : fl_35 Z h0 x0 .null) (r4 : Z.heap.size ≤ x0) (r5 : fl_17 Z h0 x1 (.ref w2)) (r6 : x1 ≠ x0) (r7 : fl_36 Z h0 x0 .null) (r8 : fl_33 Z h0 x0 (.long w3)) (r9 : fl_19 Z h0 x1 (.long w4)) (r10 : fl_37 Z h0 x0 (.long w5)) (r11 : fl_26 Z h0 x1 .null) (r12 : fl_38 Z h0 x0 .null) (r13 : fl_22 Z h0 x1 (.int w6)) (r14 : fl_28 Z h0 x0 (.int w7)) (r15 : fl_23 Z h0 x1 (.int w8)) (r16 : fl_39 Z h0 x0 (.int w9)) (r17 : fl_24 Z h0 x1 (.int w10)) (r18 : fl_40 Z h0 x0 (.int w11)) (r19 : fl_25 Z h0 x1 (.int w12)) (r20 : fl_41 Z h0 x0 (.int w13)) (r21 : fl_20 Z h0 x1 (.ref w14)) (r22 : Sta Z Z.heap "org/matchstone/engine/TimeInForce" "IOC" "Lorg/matchstone/engine/TimeInForce;" (.ref w15)) (r23 : w14 ≠ w15) (r24 : fl_42 Z h0 x0 (.int w16)) (r25 : fl_43 Z h0 x0 .null) (r26 : fl_44 Z h0 x0 .null) (r27 : fl_34 Z h0 x0 (.long w17)) (r28 : fl_45 Z h0 x0 (.long w18)) (r29 : fl_27 Z h0 x1 (.ref w19)) (r30 : Exa Z h0 w19 "org/matchstone/engine/MinQuantity") (r31 : fl_47 Z h0 w19 (.long w20)) (r32 : w19 ≠ x0) (r33 : fl_29 Z h0 x0 (.long w21)) (r34 : fl_48 Z h0 w19 (.int w22)) (r35 : fl_46 Z h0 x0 (.int w23)) (r36 : fl_18 Z h0 x1 (.long w24)) (r37 : fl_31 Z h0 x0 (.long w25)) (r38 : fl_30 Z h0 x0 .null) (r39 : fl_32 Z h0 x0 .null) :
    Met FrameEnd l (⟨"org/matchstone/engine/BookSide$Order", "<init>", "(Lorg/matchstone/engine/NewOrder;JLjava/time/LocalTime;Ljava/time/LocalTime;J)V"⟩ : MethodName) prog_7_method_1_code 9 none ws ⟨1, 0, 0, 13⟩ Z h0 #[(.ref x0), (.ref x1), (.long x2), .null, .null, (.long x5)] (Q_a26_1 Z x0 x2 x5 w6 w20 w24 h0) := by
  refine own_met "org/matchstone/engine/BookSide$Order" (plainFor_of_name pn_26) rfl #[.val (.ref x0), .val (.ref x1), .val (.long x2), .second, .val .null, .val .null, .val (.long x5), .second, .unset] (fun _ => by first | (simp [entryFrame, mkF, argsToLocals, Value.category]; done) | rfl) ?_
  intro p e s m below meth c s₁ hx hby hlk hret hml hZ hown hnm X0 e0
  have N0 := Fr.nil Z.heap.size
  refine Go.step (fun _ kt_ => XS.aloadN X0.here hx rfl (hb hby d26_0) rfl rfl kt_) ?_
  obtain ⟨T1, X1, e1, st1⟩ := initO X0 hx hZ hown (wd hw 269 rfl) (wd hw 11 rfl) (wd hw 12 rfl) e0 (g := (mkF m 1 #[.val (.ref x0), .val (.ref x1), .val (.long x2), .second, .val .null, .val .null, .val (.long x5), .second, .unset] [(.ref x0)])) rfl (by rw [hml]; rfl) rfl (hb hby d26_1) (by decide) (W := 0) (by show 2 * 0 + _ ≤ _; exact Nat.le_of_eq rfl) (by decide)
  refine Go.step st1 ?_
  refine Go.step (fun _ kt_ => XS.aloadN X1.here hx rfl (hb hby d26_4) rfl rfl kt_) ?_
  refine Go.step (fun _ kt_ => XS.aloadN X1.here hx rfl (hb hby d26_5) rfl rfl kt_) ?_
  obtain ⟨cq2, kq2, q2a, q2b, q2c⟩ := isOf hZ e1 r0
  obtain ⟨_, _, ⟨T2, L2, k2, n2⟩, -, X2, ⟨Lc2, hQ2, l2, y2, z2⟩, st2⟩ := X1.virtualBack hx (y := (⟨"org/matchstone/engine/NewOrder", "id", "()Ljava/lang/String;"⟩ : MethodName)) (z := (⟨"org/matchstone/engine/NewOrder", "id", "()Ljava/lang/String;"⟩ : MethodName)) hown (mvT hZ (wd hw 270 rfl)) (mvT hZ (wd hw 271 rfl)) (notFace_of_selects (args := #[]) (mvT hZ (wd hw 273 rfl))) (mvT hZ (wd hw 273 rfl)) (mvT hZ (wd hw 272 rfl)) (by decide) (backOf (W := 1) (rm_a27_0 l Z a0 hw []  x1 w1 h0 O0 r1) hZ (wd hw 274 rfl) (wd hw 157 rfl) (by decide) (by decide)) q2a q2c (g := (mkF m 6 #[.val (.ref x0), .val (.ref x1), .val (.long x2), .second, .val .null, .val .null, .val (.long x5), .second, .unset] [(.ref x1), (.ref x0)])) rfl (by rw [hml]; rfl) (Steps.refl _) (argsL := []) (rest := [(.ref x0)]) (lenOf pd_LRLjava_lang_String_ rfl) rfl (by show 2 * 0 + _ ≤ _; exact Nat.le_of_eq rfl) (hb hby d26_6) (fun _ _ => ⟨rfl, e1, (by decide : 0 + 0 ≤ _), (by decide : 0 + 0 ≤ _)⟩)
  dsimp only [Pt.U, Pt.locs, Pt.cells, Pt.slots] at X2 l2 y2 z2 st2 hQ2
  subst y2 z2
  obtain ⟨rfl, Nq2, e2⟩ := hQ2
  have N2_ : Fr Z.heap.size L2 := by rw [l2]; exact Fr.app N0 Nq2
  refine Go.trans st2 ?_
  obtain ⟨T3, h3, X3, e3, W3, st3⟩ := putF X2 hx hZ hown (host := "") (Or.inl (wd hw 275 rfl)) Via.refl e2 r3 r2 (Or.inr ⟨(wd hw 276 rfl), rfl, hnm⟩) (wd hw 263 rfl) (ty := (.object "java/lang/String")) pf_Ljava_lang_String_ rfl rfl (g := (mkF m 9 #[.val (.ref x0), .val (.ref x1), .val (.long x2), .second, .val .null, .val .null, .val (.long x5), .second, .unset] [(.ref w1), (.ref x0)])) rfl rfl (hb hby d26_9)
  refine Go.step st3 ?_
  have N3_ := Fr.snoc X3 N2_ r4
  have O3_ : Ext Z.heap h3 := extWr O0 W3 r4
  have K3 := Keep.wr (Keep.refl h0 [x0]) W3 (Or.inl (List.mem_of_getElem? (i := 0) rfl))
  have F3 := Fld.same W3 r3
  refine Go.step (fun _ kt_ => XS.aloadN X3.here hx rfl (hb hby d26_12) rfl rfl kt_) ?_
  refine Go.step (fun _ kt_ => XS.aloadN X3.here hx rfl (hb hby d26_13) rfl rfl kt_) ?_
  obtain ⟨cq4, kq4, q4a, q4b, q4c⟩ := isOf hZ e3 (Exa.wr W3 r0)
  obtain ⟨_, _, ⟨T4, L4, k4, n4⟩, -, X4, ⟨Lc4, hQ4, l4, y4, z4⟩, st4⟩ := X3.virtualBack hx (y := (⟨"org/matchstone/engine/NewOrder", "side", "()Lorg/matchstone/engine/Side;"⟩ : MethodName)) (z := (⟨"org/matchstone/engine/NewOrder", "side", "()Lorg/matchstone/engine/Side;"⟩ : MethodName)) hown (mvT hZ (wd hw 277 rfl)) (mvT hZ (wd hw 278 rfl)) (notFace_of_selects (args := #[]) (mvT hZ (wd hw 280 rfl))) (mvT hZ (wd hw 280 rfl)) (mvT hZ (wd hw 279 rfl)) (by decide) (backOf (W := 1) (rm_a28_0 l Z a0 hw []  x1 w2 h3 O3_ (Fld.other W3 r5 (Or.inl r6))) hZ (wd hw 281 rfl) (wd hw 157 rfl) (by decide) (by decide)) q4a q4c (g := (mkF m 14 #[.val (.ref x0), .val (.ref x1), .val (.long x2), .second, .val .null, .val .null, .val (.long x5), .second, .unset] [(.ref x1), (.ref x0)])) rfl (by rw [hml]; rfl) (Steps.refl _) (argsL := []) (rest := [(.ref x0)]) (lenOf pd_LRLorg_matchstone_engine_Side_ rfl) rfl (by show 2 * 0 + _ ≤ _; exact Nat.le_of_eq rfl) (hb hby d26_14) (fun _ _ => ⟨rfl, e3, (by decide : 0 + 0 ≤ _), (by decide : 0 + 0 ≤ _)⟩)
  dsimp only [Pt.U, Pt.locs, Pt.cells, Pt.slots] at X4 l4 y4 z4 st4 hQ4
  subst y4 z4
  obtain ⟨rfl, Nq4, e4⟩ := hQ4
  have N4_ : Fr Z.heap.size L4 := by rw [l4]; exact Fr.app N3_ Nq4
  refine Go.trans st4 ?_
  obtain ⟨T5, h5, X5, e5, W5, st5⟩ := putF X4 hx hZ hown (host := "") (Or.inl (wd hw 282 rfl)) Via.refl e4 (Fld.other W3 r7 (Or.inr (sn_152 hw))) (Exa.wr W3 r2) (Or.inr ⟨(wd hw 283 rfl), rfl, hnm⟩) (wd hw 263 rfl) (ty := (.object "org/matchstone/engine/Side")) pf_Lorg_matchstone_engine_Side_ rfl rfl (g := (mkF m 17 #[.val (.ref x0), .val (.ref x1), .val (.long x2), .second, .val .null, .val .null, .val (.long x5), .second, .unset] [(.ref w2), (.ref x0)])) rfl rfl (hb hby d26_17)
  refine Go.step st5 ?_
  have N5_ := Fr.snoc X5 N4_ r4
  have O5_ : Ext Z.heap h5 := extWr O3_ W5 r4
  have K5 := Keep.wr K3 W5 (Or.inl (List.mem_of_getElem? (i := 0) rfl))
  have F5 := Fld.same W5 (Fld.other W3 r7 (Or.inr (sn_152 hw)))
  refine Go.step (fun _ kt_ => XS.aloadN X5.here hx rfl (hb hby d26_20) rfl rfl kt_) ?_
  refine Go.step (fun _ kt_ => XS.lloadN X5.here hx rfl (hb hby d26_21) rfl kt_) ?_
  have f6 := (Fld.other W5 (Fld.other W3 r8 (Or.inr (sn_153 hw))) (Or.inr (sn_154 hw)))
  obtain ⟨T7, h7, X7, e7, W7, st7⟩ := putF X5 hx hZ hown (host := "") (Or.inl (wd hw 284 rfl)) Via.refl e5 f6 (Exa.wr W5 (Exa.wr W3 r2)) (Or.inl (wd hw 285 rfl)) (wd hw 263 rfl) (ty := .long) pf_J rfl rfl (g := (mkF m 22 #[.val (.ref x0), .val (.ref x1), .val (.long x2), .second, .val .null, .val .null, .val (.long x5), .second, .unset] [(.long x2), (.ref x0)])) rfl rfl (hb hby d26_22)
  refine Go.step st7 ?_
  have N7_ := Fr.snoc X7 N5_ r4
  have O7_ : Ext Z.heap h7 := extWr O5_ W7 r4
  have K7 := Keep.wr K5 W7 (Or.inl (List.mem_of_getElem? (i := 0) rfl))
  have F7 := Fld.same W7 f6
  refine Go.step (fun _ kt_ => XS.aloadN X7.here hx rfl (hb hby d26_25) rfl rfl kt_) ?_
  refine Go.step (fun _ kt_ => XS.aloadN X7.here hx rfl (hb hby d26_26) rfl rfl kt_) ?_
  have f8 := (Fld.other W7 (Fld.other W5 (Fld.other W3 r9 (Or.inl r6)) (Or.inl r6)) (Or.inl r6))
  obtain ⟨cq9, kq9, q9a, q9b, q9c⟩ := isOf hZ e7 (Exa.wr W7 (Exa.wr W5 (Exa.wr W3 r0)))
  obtain ⟨_, _, ⟨T9, L9, k9, n9⟩, -, X9, ⟨Lc9, hQ9, l9, y9, z9⟩, st9⟩ := X7.virtualBack hx (y := (⟨"org/matchstone/engine/NewOrder", "price", "()J"⟩ : MethodName)) (z := (⟨"org/matchstone/engine/NewOrder", "price", "()J"⟩ : MethodName)) hown (mvT hZ (wd hw 286 rfl)) (mvT hZ (wd hw 287 rfl)) (notFace_of_selects (args := #[]) (mvT hZ (wd hw 289 rfl))) (mvT hZ (wd hw 289 rfl)) (mvT hZ (wd hw 288 rfl)) (by decide) (backOf (W := 1) (rm_a29_0 l Z a0 hw []  x1 w4 h7 O7_ f8) hZ (wd hw 290 rfl) (wd hw 157 rfl) (by decide) (by decide)) q9a q9c (g := (mkF m 27 #[.val (.ref x0), .val (.ref x1), .val (.long x2), .second, .val .null, .val .null, .val (.long x5), .second, .unset] [(.ref x1), (.ref x0)])) rfl (by rw [hml]; rfl) (Steps.refl _) (argsL := []) (rest := [(.ref x0)]) (lenOf pd_LRJ rfl) rfl (by show 2 * 0 + _ ≤ _; exact Nat.le_of_eq rfl) (hb hby d26_27) (fun _ _ => ⟨rfl, e7, (by decide : 0 + 0 ≤ _), (by decide : 0 + 0 ≤ _)⟩)
  dsimp only [Pt.U, Pt.locs, Pt.cells, Pt.slots] at X9 l9 y9 z9 st9 hQ9
  subst y9 z9
  obtain ⟨rfl, Nq9, e9⟩ := hQ9
  have N9_ : Fr Z.heap.size L9 := by rw [l9]; exact Fr.app N7_ Nq9
  refine Go.trans st9 ?_
  have f10 := (Fld.other W7 (Fld.other W5 (Fld.other W3 r10 (Or.inr (sn_155 hw))) (Or.inr (sn_156 hw))) (Or.inr (sn_157 hw)))
  obtain ⟨T11, h11, X11, e11, W11, st11⟩ := putF X9 hx hZ hown (host := "") (Or.inl (wd hw 291 rfl)) Via.refl e9 f10 (Exa.wr W7 (Exa.wr W5 (Exa.wr W3 r2))) (Or.inr ⟨(wd hw 292 rfl), rfl, hnm⟩) (wd hw 263 rfl) (ty := .long) pf_J rfl rfl (g := (mkF m 30 #[.val (.ref x0), .val (.ref x1), .val (.long x2), .second, .val .null, .val .null, .val (.long x5), .second, .unset] [(.long w4), (.ref x0)])) rfl rfl (hb hby d26_30)
  refine Go.step st11 ?_
  have N11_ := Fr.snoc X11 N9_ r4
  have O11_ : Ext Z.heap h11 := extWr O7_ W11 r4
  have K11 := Keep.wr K7 W11 (Or.inl (List.mem_of_getElem? (i := 0) rfl))
  have F11 := Fld.same W11 f10
  refine Go.step (fun _ kt_ => XS.aloadN X11.here hx rfl (hb hby d26_33) rfl rfl kt_) ?_
  refine Go.step (fun _ kt_ => XS.aloadN X11.here hx rfl (hb hby d26_34) rfl rfl kt_) ?_
  have f12 := (Exa.wr W11 (Exa.wr W7 (Exa.wr W5 (Exa.wr W3 r0))))
  have f13 := (Fld.other W11 (Fld.other W7 (Fld.other W5 (Fld.other W3 r11 (Or.inl r6)) (Or.inl r6)) (Or.inl r6)) (Or.inl r6))
  obtain ⟨cq14, kq14, q14a, q14b, q14c⟩ := isOf hZ e11 f12
  obtain ⟨_, _, ⟨T14, L14, k14, n14⟩, -, X14, ⟨Lc14, hQ14, l14, y14, z14⟩, st14⟩ := X11.virtualBack hx (y := (⟨"org/matchstone/engine/NewOrder", "peg", "()Lorg/matchstone/engine/Peg;"⟩ : MethodName)) (z := (⟨"org/matchstone/engine/NewOrder", "peg", "()Lorg/matchstone/engine/Peg;"⟩ : MethodName)) hown (mvT hZ (wd hw 293 rfl)) (mvT hZ (wd hw 294 rfl)) (notFace_of_selects (args := #[]) (mvT hZ (wd hw 296 rfl))) (mvT hZ (wd hw 296 rfl)) (mvT hZ (wd hw 295 rfl)) (by decide) (backOf (W := 1) (rm_a30_0 l Z a0 hw []  x1 h11 O11_ f13) hZ (wd hw 297 rfl) (wd hw 157 rfl) (by decide) (by decide)) q14a q14c (g := (mkF m 35 #[.val (.ref x0), .val (.ref x1), .val (.long x2), .second, .val .null, .val .null, .val (.long x5), .second, .unset] [(.ref x1), (.ref x0)])) rfl (by rw [hml]; rfl) (Steps.refl _) (argsL := []) (rest := [(.ref x0)]) (lenOf pd_LRLorg_matchstone_engine_Peg_ rfl) rfl (by show 2 * 0 + _ ≤ _; exact Nat.le_of_eq rfl) (hb hby d26_35) (fun _ _ => ⟨rfl, e11, (by decide : 0 + 0 ≤ _), (by decide : 0 + 0 ≤ _)⟩)
  dsimp only [Pt.U, Pt.locs, Pt.cells, Pt.slots] at X14 l14 y14 z14 st14 hQ14
  subst y14 z14
  obtain ⟨rfl, Nq14, e14⟩ := hQ14
  have N14_ : Fr Z.heap.size L14 := by rw [l14]; exact Fr.app N11_ Nq14
  refine Go.trans st14 ?_
  have f15 := (Exa.wr W11 (Exa.wr W7 (Exa.wr W5 (Exa.wr W3 r2))))
  have f16 := (Fld.other W11 (Fld.other W7 (Fld.other W5 (Fld.other W3 r12 (Or.inr (sn_158 hw))) (Or.inr (sn_159 hw))) (Or.inr (sn_160 hw))) (Or.inr (sn_161 hw)))
  obtain ⟨T17, h17, X17, e17, W17, st17⟩ := putF X14 hx hZ hown (host := "") (Or.inl (wd hw 298 rfl)) Via.refl e14 f16 f15 (Or.inr ⟨(wd hw 299 rfl), rfl, hnm⟩) (wd hw 263 rfl) (ty := (.object "org/matchstone/engine/Peg")) pf_Lorg_matchstone_engine_Peg_ rfl rfl (g := (mkF m 38 #[.val (.ref x0), .val (.ref x1), .val (.long x2), .second, .val .null, .val .null, .val (.long x5), .second, .unset] [.null, (.ref x0)])) rfl rfl (hb hby d26_38)
  refine Go.step st17 ?_
  have N17_ := Fr.snoc X17 N14_ r4
  have O17_ : Ext Z.heap h17 := extWr O11_ W17 r4
  have K17 := Keep.wr K11 W17 (Or.inl (List.mem_of_getElem? (i := 0) rfl))
  have F17 := Fld.same W17 f16
  refine Go.step (fun _ kt_ => XS.aloadN X17.here hx rfl (hb hby d26_41) rfl rfl kt_) ?_
  refine Go.step (fun _ kt_ => XS.aloadN X17.here hx rfl (hb hby d26_42) rfl rfl kt_) ?_
  have f18 := (Fld.other W11 (Fld.other W7 (Fld.other W5 (Fld.other W3 r13 (Or.inl r6)) (Or.inl r6)) (Or.inl r6)) (Or.inl r6))
  obtain ⟨cq19, kq19, q19a, q19b, q19c⟩ := isOf hZ e17 (Exa.wr W17 f12)
  obtain ⟨_, _, ⟨T19, L19, k19, n19⟩, -, X19, ⟨Lc19, hQ19, l19, y19, z19⟩, st19⟩ := X17.virtualBack hx (y := (⟨"org/matchstone/engine/NewOrder", "displayed", "()Z"⟩ : MethodName)) (z := (⟨"org/matchstone/engine/NewOrder", "displayed", "()Z"⟩ : MethodName)) hown (mvT hZ (wd hw 300 rfl)) (mvT hZ (wd hw 301 rfl)) (notFace_of_selects (args := #[]) (mvT hZ (wd hw 303 rfl))) (mvT hZ (wd hw 303 rfl)) (mvT hZ (wd hw 302 rfl)) (by decide) (backOf (W := 1) (rm_a31_0 l Z a0 hw []  x1 w6 h17 O17_ (Fld.other W17 f18 (Or.inl r6))) hZ (wd hw 304 rfl) (wd hw 157 rfl) (by decide) (by decide)) q19a q19c (g := (mkF m 43 #[.val (.ref x0), .val (.ref x1), .val (.long x2), .second, .val .null, .val .null, .val (.long x5), .second, .unset] [(.ref x1), (.ref x0)])) rfl (by rw [hml]; rfl) (Steps.refl _) (argsL := []) (rest := [(.ref x0)]) (lenOf pd_LRZ rfl) rfl (by show 2 * 0 + _ ≤ _; exact Nat.le_of_eq rfl) (hb hby d26_43) (fun _ _ => ⟨rfl, e17, (by decide : 0 + 0 ≤ _), (by decide : 0 + 0 ≤ _)⟩)
  dsimp only [Pt.U, Pt.locs, Pt.cells, Pt.slots] at X19 l19 y19 z19 st19 hQ19
  subst y19 z19
  obtain ⟨rfl, Nq19, e19⟩ := hQ19
  have N19_ : Fr Z.heap.size L19 := by rw [l19]; exact Fr.app N17_ Nq19
  refine Go.trans st19 ?_
  have f20 := (Fld.other W11 (Fld.other W7 (Fld.other W5 (Fld.other W3 r14 (Or.inr (sn_162 hw))) (Or.inr (sn_163 hw))) (Or.inr (sn_164 hw))) (Or.inr (sn_165 hw)))
  obtain ⟨T21, h21, X21, e21, W21, st21⟩ := putFN X19 hx hZ hown (wd hw 305 rfl) Via.refl e19 (Fld.other W17 f20 (Or.inr (sn_166 hw))) (Exa.wr W17 f15) (Or.inr ⟨(wd hw 306 rfl), rfl, hnm⟩) (wd hw 263 rfl) (ty := .boolean) (v' := (.int (((w6 &&& (1 : Int32)) &&& 1)))) pf_Z rfl (fits_nar_bool _) (g := (mkF m 46 #[.val (.ref x0), .val (.ref x1), .val (.long x2), .second, .val .null, .val .null, .val (.long x5), .second, .unset] [(.int (w6 &&& (1 : Int32))), (.ref x0)])) rfl rfl (hb hby d26_46)
  refine Go.step st21 ?_
  have N21_ := Fr.snoc X21 N19_ r4
  have O21_ : Ext Z.heap h21 := extWr O17_ W21 r4
  have K21 := Keep.wr K17 W21 (Or.inl (List.mem_of_getElem? (i := 0) rfl))
  have F21 := Fld.same W21 (Fld.other W17 f20 (Or.inr (sn_166 hw)))
  refine Go.step (fun _ kt_ => XS.aloadN X21.here hx rfl (hb hby d26_49) rfl rfl kt_) ?_
  refine Go.step (fun _ kt_ => XS.aloadN X21.here hx rfl (hb hby d26_50) rfl rfl kt_) ?_
  have f22 := (Fld.other W11 (Fld.other W7 (Fld.other W5 (Fld.other W3 r15 (Or.inl r6)) (Or.inl r6)) (Or.inl r6)) (Or.inl r6))
  have f23 := (Fld.other W21 (Fld.other W17 f22 (Or.inl r6)) (Or.inl r6))
  obtain ⟨cq24, kq24, q24a, q24b, q24c⟩ := isOf hZ e21 (Exa.wr W21 (Exa.wr W17 f12))
  obtain ⟨_, _, ⟨T24, L24, k24, n24⟩, -, X24, ⟨Lc24, hQ24, l24, y24, z24⟩, st24⟩ := X21.virtualBack hx (y := (⟨"org/matchstone/engine/NewOrder", "postOnly", "()Z"⟩ : MethodName)) (z := (⟨"org/matchstone/engine/NewOrder", "postOnly", "()Z"⟩ : MethodName)) hown (mvT hZ (wd hw 307 rfl)) (mvT hZ (wd hw 308 rfl)) (notFace_of_selects (args := #[]) (mvT hZ (wd hw 310 rfl))) (mvT hZ (wd hw 310 rfl)) (mvT hZ (wd hw 309 rfl)) (by decide) (backOf (W := 1) (rm_a32_0 l Z a0 hw []  x1 w8 h21 O21_ f23) hZ (wd hw 311 rfl) (wd hw 157 rfl) (by decide) (by decide)) q24a q24c (g := (mkF m 51 #[.val (.ref x0), .val (.ref x1), .val (.long x2), .second, .val .null, .val .null, .val (.long x5), .second, .unset] [(.ref x1), (.ref x0)])) rfl (by rw [hml]; rfl) (Steps.refl _) (argsL := []) (rest := [(.ref x0)]) (lenOf pd_LRZ rfl) rfl (by show 2 * 0 + _ ≤ _; exact Nat.le_of_eq rfl) (hb hby d26_51) (fun _ _ => ⟨rfl, e21, (by decide : 0 + 0 ≤ _), (by decide : 0 + 0 ≤ _)⟩)
  dsimp only [Pt.U, Pt.locs, Pt.cells, Pt.slots] at X24 l24 y24 z24 st24 hQ24
  subst y24 z24
  obtain ⟨rfl, Nq24, e24⟩ := hQ24
  have N24_ : Fr Z.heap.size L24 := by rw [l24]; exact Fr.app N21_ Nq24
  refine Go.trans st24 ?_
  have f25 := (Fld.other W11 (Fld.other W7 (Fld.other W5 (Fld.other W3 r16 (Or.inr (sn_167 hw))) (Or.inr (sn_168 hw))) (Or.inr (sn_169 hw))) (Or.inr (sn_170 hw)))
  have f26 := (Fld.other W21 (Fld.other W17 f25 (Or.inr (sn_171 hw))) (Or.inr (sn_172 hw)))
  obtain ⟨T27, h27, X27, e27, W27, st27⟩ := putFN X24 hx hZ hown (wd hw 312 rfl) Via.refl e24 f26 (Exa.wr W21 (Exa.wr W17 f15)) (Or.inr ⟨(wd hw 313 rfl), rfl, hnm⟩) (wd hw 263 rfl) (ty := .boolean) (v' := (.int (((w8 &&& (1 : Int32)) &&& 1)))) pf_Z rfl (fits_nar_bool _) (g := (mkF m 54 #[.val (.ref x0), .val (.ref x1), .val (.long x2), .second, .val .null, .val .null, .val (.long x5), .second, .unset] [(.int (w8 &&& (1 : Int32))), (.ref x0)])) rfl rfl (hb hby d26_54)
  refine Go.step st27 ?_
  have N27_ := Fr.snoc X27 N24_ r4
  have O27_ : Ext Z.heap h27 := extWr O21_ W27 r4
  have K27 := Keep.wr K21 W27 (Or.inl (List.mem_of_getElem? (i := 0) rfl))
  have F27 := Fld.same W27 f26
  refine Go.step (fun _ kt_ => XS.aloadN X27.here hx rfl (hb hby d26_57) rfl rfl kt_) ?_
  refine Go.step (fun _ kt_ => XS.aloadN X27.here hx rfl (hb hby d26_58) rfl rfl kt_) ?_
  have f28 := (Exa.wr W27 (Exa.wr W21 (Exa.wr W17 f12)))
  have f29 := (Fld.other W11 (Fld.other W7 (Fld.other W5 (Fld.other W3 r17 (Or.inl r6)) (Or.inl r6)) (Or.inl r6)) (Or.inl r6))
  have f30 := (Fld.other W27 (Fld.other W21 (Fld.other W17 f29 (Or.inl r6)) (Or.inl r6)) (Or.inl r6))
  obtain ⟨cq31, kq31, q31a, q31b, q31c⟩ := isOf hZ e27 f28
  obtain ⟨_, _, ⟨T31, L31, k31, n31⟩, -, X31, ⟨Lc31, hQ31, l31, y31, z31⟩, st31⟩ := X27.virtualBack hx (y := (⟨"org/matchstone/engine/NewOrder", "swap", "()Z"⟩ : MethodName)) (z := (⟨"org/matchstone/engine/NewOrder", "swap", "()Z"⟩ : MethodName)) hown (mvT hZ (wd hw 314 rfl)) (mvT hZ (wd hw 315 rfl)) (notFace_of_selects (args := #[]) (mvT hZ (wd hw 317 rfl))) (mvT hZ (wd hw 317 rfl)) (mvT hZ (wd hw 316 rfl)) (by decide) (backOf (W := 1) (rm_a33_0 l Z a0 hw []  x1 w10 h27 O27_ f30) hZ (wd hw 318 rfl) (wd hw 157 rfl) (by decide) (by decide)) q31a q31c (g := (mkF m 59 #[.val (.ref x0), .val (.ref x1), .val (.long x2), .second, .val .null, .val .null, .val (.long x5), .second, .unset] [(.ref x1), (.ref x0)])) rfl (by rw [hml]; rfl) (Steps.refl _) (argsL := []) (rest := [(.ref x0)]) (lenOf pd_LRZ rfl) rfl (by show 2 * 0 + _ ≤ _; exact Nat.le_of_eq rfl) (hb hby d26_59) (fun _ _ => ⟨rfl, e27, (by decide : 0 + 0 ≤ _), (by decide : 0 + 0 ≤ _)⟩)
  dsimp only [Pt.U, Pt.locs, Pt.cells, Pt.slots] at X31 l31 y31 z31 st31 hQ31
  subst y31 z31
  obtain ⟨rfl, Nq31, e31⟩ := hQ31
  have N31_ : Fr Z.heap.size L31 := by rw [l31]; exact Fr.app N27_ Nq31
  refine Go.trans st31 ?_
  have f32 := (Exa.wr W27 (Exa.wr W21 (Exa.wr W17 f15)))
  have f33 := (Fld.other W11 (Fld.other W7 (Fld.other W5 (Fld.other W3 r18 (Or.inr (sn_173 hw))) (Or.inr (sn_174 hw))) (Or.inr (sn_175 hw))) (Or.inr (sn_176 hw)))
  have f34 := (Fld.other W27 (Fld.other W21 (Fld.other W17 f33 (Or.inr (sn_177 hw))) (Or.inr (sn_178 hw))) (Or.inr (sn_179 hw)))
  obtain ⟨T35, h35, X35, e35, W35, st35⟩ := putFN X31 hx hZ hown (wd hw 319 rfl) Via.refl e31 f34 f32 (Or.inr ⟨(wd hw 320 rfl), rfl, hnm⟩) (wd hw 263 rfl) (ty := .boolean) (v' := (.int (((w10 &&& (1 : Int32)) &&& 1)))) pf_Z rfl (fits_nar_bool _) (g := (mkF m 62 #[.val (.ref x0), .val (.ref x1), .val (.long x2), .second, .val .null, .val .null, .val (.long x5), .second, .unset] [(.int (w10 &&& (1 : Int32))), (.ref x0)])) rfl rfl (hb hby d26_62)
  refine Go.step st35 ?_
  have N35_ := Fr.snoc X35 N31_ r4
  have O35_ : Ext Z.heap h35 := extWr O27_ W35 r4
  have K35 := Keep.wr K27 W35 (Or.inl (List.mem_of_getElem? (i := 0) rfl))
  have F35 := Fld.same W35 f34
  refine Go.step (fun _ kt_ => XS.aloadN X35.here hx rfl (hb hby d26_65) rfl rfl kt_) ?_
  refine Go.step (fun _ kt_ => XS.aloadN X35.here hx rfl (hb hby d26_66) rfl rfl kt_) ?_
  have f36 := (Fld.other W11 (Fld.other W7 (Fld.other W5 (Fld.other W3 r19 (Or.inl r6)) (Or.inl r6)) (Or.inl r6)) (Or.inl r6))
  have f37 := (Fld.other W35 (Fld.other W27 (Fld.other W21 (Fld.other W17 f36 (Or.inl r6)) (Or.inl r6)) (Or.inl r6)) (Or.inl r6))
  obtain ⟨cq38, kq38, q38a, q38b, q38c⟩ := isOf hZ e35 (Exa.wr W35 f28)
  obtain ⟨_, _, ⟨T38, L38, k38, n38⟩, -, X38, ⟨Lc38, hQ38, l38, y38, z38⟩, st38⟩ := X35.virtualBack hx (y := (⟨"org/matchstone/engine/NewOrder", "superAggressive", "()Z"⟩ : MethodName)) (z := (⟨"org/matchstone/engine/NewOrder", "superAggressive", "()Z"⟩ : MethodName)) hown (mvT hZ (wd hw 321 rfl)) (mvT hZ (wd hw 322 rfl)) (notFace_of_selects (args := #[]) (mvT hZ (wd hw 324 rfl))) (mvT hZ (wd hw 324 rfl)) (mvT hZ (wd hw 323 rfl)) (by decide) (backOf (W := 1) (rm_a34_0 l Z a0 hw []  x1 w12 h35 O35_ f37) hZ (wd hw 325 rfl) (wd hw 157 rfl) (by decide) (by decide)) q38a q38c (g := (mkF m 67 #[.val (.ref x0), .val (.ref x1), .val (.long x2), .second, .val .null, .val .null, .val (.long x5), .second, .unset] [(.ref x1), (.ref x0)])) rfl (by rw [hml]; rfl) (Steps.refl _) (argsL := []) (rest := [(.ref x0)]) (lenOf pd_LRZ rfl) rfl (by show 2 * 0 + _ ≤ _; exact Nat.le_of_eq rfl) (hb hby d26_67) (fun _ _ => ⟨rfl, e35, (by decide : 0 + 0 ≤ _), (by decide : 0 + 0 ≤ _)⟩)
  dsimp only [Pt.U, Pt.locs, Pt.cells, Pt.slots] at X38 l38 y38 z38 st38 hQ38
  subst y38 z38
  obtain ⟨rfl, Nq38, e38⟩ := hQ38
  have N38_ : Fr Z.heap.size L38 := by rw [l38]; exact Fr.app N35_ Nq38
  refine Go.trans st38 ?_
  have f39 := (Fld.other W11 (Fld.other W7 (Fld.other W5 (Fld.other W3 r20 (Or.inr (sn_180 hw))) (Or.inr (sn_181 hw))) (Or.inr (sn_182 hw))) (Or.inr (sn_183 hw)))
  have f40 := (Fld.other W35 (Fld.other W27 (Fld.other W21 (Fld.other W17 f39 (Or.inr (sn_184 hw))) (Or.inr (sn_185 hw))) (Or.inr (sn_186 hw))) (Or.inr (sn_187 hw)))
  obtain ⟨T41, h41, X41, e41, W41, st41⟩ := putFN X38 hx hZ hown (wd hw 326 rfl) Via.refl e38 f40 (Exa.wr W35 f32) (Or.inr ⟨(wd hw 327 rfl), rfl, hnm⟩) (wd hw 263 rfl) (ty := .boolean) (v' := (.int (((w12 &&& (1 : Int32)) &&& 1)))) pf_Z rfl (fits_nar_bool _) (g := (mkF m 70 #[.val (.ref x0), .val (.ref x1), .val (.long x2), .second, .val .null, .val .null, .val (.long x5), .second, .unset] [(.int (w12 &&& (1 : Int32))), (.ref x0)])) rfl rfl (hb hby d26_70)
  refine Go.step st41 ?_
  have N41_ := Fr.snoc X41 N38_ r4
  have O41_ : Ext Z.heap h41 := extWr O35_ W41 r4
  have K41 := Keep.wr K35 W41 (Or.inl (List.mem_of_getElem? (i := 0) rfl))
  have F41 := Fld.same W41 f40
  refine Go.step (fun _ kt_ => XS.aloadN X41.here hx rfl (hb hby d26_73) rfl rfl kt_) ?_
  refine Go.step (fun _ kt_ => XS.aloadN X41.here hx rfl (hb hby d26_74) rfl rfl kt_) ?_
  have f42 := (Fld.other W11 (Fld.other W7 (Fld.other W5 (Fld.other W3 r21 (Or.inl r6)) (Or.inl r6)) (Or.inl r6)) (Or.inl r6))
  have f43 := (Fld.other W35 (Fld.other W27 (Fld.other W21 (Fld.other W17 f42 (Or.inl r6)) (Or.inl r6)) (Or.inl r6)) (Or.inl r6))
  obtain ⟨cq44, kq44, q44a, q44b, q44c⟩ := isOf hZ e41 (Exa.wr W41 (Exa.wr W35 f28))
  obtain ⟨_, _, ⟨T44, L44, k44, n44⟩, -, X44, ⟨Lc44, hQ44, l44, y44, z44⟩, st44⟩ := X41.virtualBack hx (y := (⟨"org/matchstone/engine/NewOrder", "timeInForce", "()Lorg/matchstone/engine/TimeInForce;"⟩ : MethodName)) (z := (⟨"org/matchstone/engine/NewOrder", "timeInForce", "()Lorg/matchstone/engine/TimeInForce;"⟩ : MethodName)) hown (mvT hZ (wd hw 328 rfl)) (mvT hZ (wd hw 329 rfl)) (notFace_of_selects (args := #[]) (mvT hZ (wd hw 331 rfl))) (mvT hZ (wd hw 331 rfl)) (mvT hZ (wd hw 330 rfl)) (by decide) (backOf (W := 1) (rm_a35_0 l Z a0 hw []  x1 w14 h41 O41_ (Fld.other W41 f43 (Or.inl r6))) hZ (wd hw 332 rfl) (wd hw 157 rfl) (by decide) (by decide)) q44a q44c (g := (mkF m 75 #[.val (.ref x0), .val (.ref x1), .val (.long x2), .second, .val .null, .val .null, .val (.long x5), .second, .unset] [(.ref x1), (.ref x0)])) rfl (by rw [hml]; rfl) (Steps.refl _) (argsL := []) (rest := [(.ref x0)]) (lenOf pd_LRLorg_matchstone_engine_TimeInForce_ rfl) rfl (by show 2 * 0 + _ ≤ _; exact Nat.le_of_eq rfl) (hb hby d26_75) (fun _ _ => ⟨rfl, e41, (by decide : 0 + 0 ≤ _), (by decide : 0 + 0 ≤ _)⟩)
  dsimp only [Pt.U, Pt.locs, Pt.cells, Pt.slots] at X44 l44 y44 z44 st44 hQ44
  subst y44 z44
  obtain ⟨rfl, Nq44, e44⟩ := hQ44
  have N44_ : Fr Z.heap.size L44 := by rw [l44]; exact Fr.app N41_ Nq44
  refine Go.trans st44 ?_
  obtain ⟨T45, X45, e45, st45⟩ := getS2 X44 hx hZ hown (host := "") (Or.inl (wd hw 333 rfl)) Via.refl e44 (Sta.ext O41_ r22) (g := (mkF m 78 #[.val (.ref x0), .val (.ref x1), .val (.long x2), .second, .val .null, .val .null, .val (.long x5), .second, .unset] [(.ref w14), (.ref x0)])) rfl (hb hby d26_78)
  refine Go.step st45 ?_
  refine Go.step (fun _ kt_ => Jvm.RoadKit.acmp (g := (mkF m 81 #[.val (.ref x0), .val (.ref x1), .val (.long x2), .second, .val .null, .val .null, .val (.long x5), .second, .unset] [(.ref w15), (.ref w14), (.ref x0)])) X45 hx rfl rfl rfl (pc0 := 81) (pc' := 88) (same := false) rfl (hb hby d26_81) rfl (decide_eq_false fun q => r23 (Value.ref.inj q)) (by decide) (by decide) kt_) ?_
  show Go _ _ _ _ _ _ _ _ T45 (mkF m 88 #[.val (.ref x0), .val (.ref x1), .val (.long x2), .second, .val .null, .val .null, .val (.long x5), .second, .unset] [(.ref x0)])
  refine Go.step (fun _ kt_ => XS.iconst X45.here hx rfl (hb hby d26_88)  kt_) ?_
  have f46 := (Fld.other W11 (Fld.other W7 (Fld.other W5 (Fld.other W3 r24 (Or.inr (sn_188 hw))) (Or.inr (sn_189 hw))) (Or.inr (sn_190 hw))) (Or.inr (sn_191 hw)))
  have f47 := (Fld.other W35 (Fld.other W27 (Fld.other W21 (Fld.other W17 f46 (Or.inr (sn_192 hw))) (Or.inr (sn_193 hw))) (Or.inr (sn_194 hw))) (Or.inr (sn_195 hw)))
  obtain ⟨T48, h48, X48, e48, W48, st48⟩ := putFN X45 hx hZ hown (wd hw 335 rfl) Via.refl e45 (Fld.other W41 f47 (Or.inr (sn_196 hw))) (Exa.wr W41 (Exa.wr W35 f32)) (Or.inr ⟨(wd hw 336 rfl), rfl, hnm⟩) (wd hw 263 rfl) (ty := .boolean) (v' := (.int (0 : Int32))) pf_Z rfl rfl (g := (mkF m 89 #[.val (.ref x0), .val (.ref x1), .val (.long x2), .second, .val .null, .val .null, .val (.long x5), .second, .unset] [(.int (0 : Int32)), (.ref x0)])) rfl rfl (hb hby d26_89)
  refine Go.step st48 ?_
  have N48_ := Fr.snoc X48 N44_ r4
  have O48_ : Ext Z.heap h48 := extWr O41_ W48 r4
  have K48 := Keep.wr K41 W48 (Or.inl (List.mem_of_getElem? (i := 0) rfl))
  have F48 := Fld.same W48 (Fld.other W41 f47 (Or.inr (sn_196 hw)))
  refine Go.step (fun _ kt_ => XS.aloadN X48.here hx rfl (hb hby d26_92) rfl rfl kt_) ?_
  refine Go.step (fun _ kt_ => XS.aload X48.here hx rfl (hb hby d26_93) rfl rfl kt_) ?_
  have f49 := (Exa.wr W48 (Exa.wr W41 (Exa.wr W35 f32)))
  have f50 := (Fld.other W11 (Fld.other W7 (Fld.other W5 (Fld.other W3 r25 (Or.inr (sn_197 hw))) (Or.inr (sn_198 hw))) (Or.inr (sn_199 hw))) (Or.inr (sn_200 hw)))
  have f51 := (Fld.other W35 (Fld.other W27 (Fld.other W21 (Fld.other W17 f50 (Or.inr (sn_201 hw))) (Or.inr (sn_202 hw))) (Or.inr (sn_203 hw))) (Or.inr (sn_204 hw)))
  have f52 := (Fld.other W48 (Fld.other W41 f51 (Or.inr (sn_205 hw))) (Or.inr (sn_206 hw)))
  obtain ⟨T53, h53, X53, e53, W53, st53⟩ := putF X48 hx hZ hown (host := "") (Or.inl (wd hw 337 rfl)) Via.refl e48 f52 f49 (Or.inr ⟨(wd hw 338 rfl), rfl, hnm⟩) (wd hw 263 rfl) (ty := (.object "java/time/LocalTime")) pf_Ljava_time_LocalTime_ rfl rfl (g := (mkF m 95 #[.val (.ref x0), .val (.ref x1), .val (.long x2), .second, .val .null, .val .null, .val (.long x5), .second, .unset] [.null, (.ref x0)])) rfl rfl (hb hby d26_95)
  refine Go.step st53 ?_
  have N53_ := Fr.snoc X53 N48_ r4
  have O53_ : Ext Z.heap h53 := extWr O48_ W53 r4
  have K53 := Keep.wr K48 W53 (Or.inl (List.mem_of_getElem? (i := 0) rfl))
  have F53 := Fld.same W53 f52
  refine Go.step (fun _ kt_ => XS.aloadN X53.here hx rfl (hb hby d26_98) rfl rfl kt_) ?_
  refine Go.step (fun _ kt_ => XS.aload X53.here hx rfl (hb hby d26_99) rfl rfl kt_) ?_
  have f54 := (Fld.other W11 (Fld.other W7 (Fld.other W5 (Fld.other W3 r26 (Or.inr (sn_207 hw))) (Or.inr (sn_208 hw))) (Or.inr (sn_209 hw))) (Or.inr (sn_210 hw)))
  have f55 := (Fld.other W35 (Fld.other W27 (Fld.other W21 (Fld.other W17 f54 (Or.inr (sn_211 hw))) (Or.inr (sn_212 hw))) (Or.inr (sn_213 hw))) (Or.inr (sn_214 hw)))
  have f56 := (Fld.other W53 (Fld.other W48 (Fld.other W41 f55 (Or.inr (sn_215 hw))) (Or.inr (sn_216 hw))) (Or.inr (sn_217 hw)))
  obtain ⟨T57, h57, X57, e57, W57, st57⟩ := putF X53 hx hZ hown (host := "") (Or.inl (wd hw 339 rfl)) Via.refl e53 f56 (Exa.wr W53 f49) (Or.inr ⟨(wd hw 340 rfl), rfl, hnm⟩) (wd hw 263 rfl) (ty := (.object "java/time/LocalTime")) pf_Ljava_time_LocalTime_ rfl rfl (g := (mkF m 101 #[.val (.ref x0), .val (.ref x1), .val (.long x2), .second, .val .null, .val .null, .val (.long x5), .second, .unset] [.null, (.ref x0)])) rfl rfl (hb hby d26_101)
  refine Go.step st57 ?_
  have N57_ := Fr.snoc X57 N53_ r4
  have O57_ : Ext Z.heap h57 := extWr O53_ W57 r4
  have K57 := Keep.wr K53 W57 (Or.inl (List.mem_of_getElem? (i := 0) rfl))
  have F57 := Fld.same W57 f56
  refine Go.step (fun _ kt_ => XS.aloadN X57.here hx rfl (hb hby d26_104) rfl rfl kt_) ?_
  refine Go.step (fun _ kt_ => XS.lload X57.here hx rfl (hb hby d26_105) rfl kt_) ?_
  have f58 := (Fld.other W11 (Fld.other W7 (Fld.other W5 (Fld.other W3 r27 (Or.inr (sn_218 hw))) (Or.inr (sn_219 hw))) (Or.inr (sn_220 hw))) (Or.inr (sn_221 hw)))
  have f59 := (Fld.other W35 (Fld.other W27 (Fld.other W21 (Fld.other W17 f58 (Or.inr (sn_222 hw))) (Or.inr (sn_223 hw))) (Or.inr (sn_224 hw))) (Or.inr (sn_225 hw)))
  have f60 := (Fld.other W57 (Fld.other W53 (Fld.other W48 (Fld.other W41 f59 (Or.inr (sn_226 hw))) (Or.inr (sn_227 hw))) (Or.inr (sn_228 hw))) (Or.inr (sn_229 hw)))
  obtain ⟨T61, h61, X61, e61, W61, st61⟩ := putF X57 hx hZ hown (host := "") (Or.inl (wd hw 341 rfl)) Via.refl e57 f60 (Exa.wr W57 (Exa.wr W53 f49)) (Or.inl (wd hw 342 rfl)) (wd hw 263 rfl) (ty := .long) pf_J rfl rfl (g := (mkF m 107 #[.val (.ref x0), .val (.ref x1), .val (.long x2), .second, .val .null, .val .null, .val (.long x5), .second, .unset] [(.long x5), (.ref x0)])) rfl rfl (hb hby d26_107)
  refine Go.step st61 ?_
  have N61_ := Fr.snoc X61 N57_ r4
  have O61_ : Ext Z.heap h61 := extWr O57_ W61 r4
  have K61 := Keep.wr K57 W61 (Or.inl (List.mem_of_getElem? (i := 0) rfl))
  have F61 := Fld.same W61 f60
  refine Go.step (fun _ kt_ => XS.aloadN X61.here hx rfl (hb hby d26_110) rfl rfl kt_) ?_
  refine Go.step (fun _ kt_ => XS.lload X61.here hx rfl (hb hby d26_111) rfl kt_) ?_
  have f62 := (Exa.wr W61 (Exa.wr W57 (Exa.wr W53 f49)))
  have f63 := (Fld.other W11 (Fld.other W7 (Fld.other W5 (Fld.other W3 r28 (Or.inr (sn_230 hw))) (Or.inr (sn_231 hw))) (Or.inr (sn_232 hw))) (Or.inr (sn_233 hw)))
  have f64 := (Fld.other W35 (Fld.other W27 (Fld.other W21 (Fld.other W17 f63 (Or.inr (sn_234 hw))) (Or.inr (sn_235 hw))) (Or.inr (sn_236 hw))) (Or.inr (sn_237 hw)))
  have f65 := (Fld.other W57 (Fld.other W53 (Fld.other W48 (Fld.other W41 f64 (Or.inr (sn_238 hw))) (Or.inr (sn_239 hw))) (Or.inr (sn_240 hw))) (Or.inr (sn_241 hw)))
  obtain ⟨T66, h66, X66, e66, W66, st66⟩ := putF X61 hx hZ hown (host := "") (Or.inl (wd hw 343 rfl)) Via.refl e61 (Fld.other W61 f65 (Or.inr (sn_242 hw))) f62 (Or.inr ⟨(wd hw 344 rfl), rfl, hnm⟩) (wd hw 263 rfl) (ty := .long) pf_J rfl rfl (g := (mkF m 113 #[.val (.ref x0), .val (.ref x1), .val (.long x2), .second, .val .null, .val .null, .val (.long x5), .second, .unset] [(.long x5), (.ref x0)])) rfl rfl (hb hby d26_113)
  refine Go.step st66 ?_
  have N66_ := Fr.snoc X66 N61_ r4
  have O66_ : Ext Z.heap h66 := extWr O61_ W66 r4
  have K66 := Keep.wr K61 W66 (Or.inl (List.mem_of_getElem? (i := 0) rfl))
  have F66 := Fld.same W66 (Fld.other W61 f65 (Or.inr (sn_242 hw)))
  refine Go.step (fun _ kt_ => XS.aloadN X66.here hx rfl (hb hby d26_116) rfl rfl kt_) ?_
  have f67 := (Exa.wr W53 (Exa.wr W48 (Exa.wr W41 (Exa.wr W35 f28))))
  have f68 := (Exa.wr W66 (Exa.wr W61 (Exa.wr W57 f67)))
  have f69 := (Fld.other W11 (Fld.other W7 (Fld.other W5 (Fld.other W3 r29 (Or.inl r6)) (Or.inl r6)) (Or.inl r6)) (Or.inl r6))
  have f70 := (Fld.other W35 (Fld.other W27 (Fld.other W21 (Fld.other W17 f69 (Or.inl r6)) (Or.inl r6)) (Or.inl r6)) (Or.inl r6))
  have f71 := (Fld.other W57 (Fld.other W53 (Fld.other W48 (Fld.other W41 f70 (Or.inl r6)) (Or.inl r6)) (Or.inl r6)) (Or.inl r6))
  have f72 := (Fld.other W66 (Fld.other W61 f71 (Or.inl r6)) (Or.inl r6))
  obtain ⟨cq73, kq73, q73a, q73b, q73c⟩ := isOf hZ e66 f68
  obtain ⟨_, _, ⟨T73, L73, k73, n73⟩, -, X73, ⟨Lc73, hQ73, l73, y73, z73⟩, st73⟩ := X66.virtualBack hx (y := (⟨"org/matchstone/engine/NewOrder", "minQuantity", "()Lorg/matchstone/engine/MinQuantity;"⟩ : MethodName)) (z := (⟨"org/matchstone/engine/NewOrder", "minQuantity", "()Lorg/matchstone/engine/MinQuantity;"⟩ : MethodName)) hown (mvT hZ (wd hw 345 rfl)) (mvT hZ (wd hw 346 rfl)) (notFace_of_selects (args := #[]) (mvT hZ (wd hw 348 rfl))) (mvT hZ (wd hw 348 rfl)) (mvT hZ (wd hw 347 rfl)) (by decide) (backOf (W := 0) (rm_a36_1 l Z a0 hw []  x1 w19 h66 O66_ f72) hZ (wd hw 349 rfl) (wd hw 157 rfl) (by decide) (by decide)) q73a q73c (g := (mkF m 117 #[.val (.ref x0), .val (.ref x1), .val (.long x2), .second, .val .null, .val .null, .val (.long x5), .second, .unset] [(.ref x1)])) rfl (by rw [hml]; rfl) (Steps.refl _) (argsL := []) (rest := []) (lenOf pd_LRLorg_matchstone_engine_MinQuantity_ rfl) rfl (by show 2 * 0 + _ ≤ _; exact Nat.le_of_eq rfl) (hb hby d26_117) (fun _ _ => ⟨rfl, e66, (by decide : 0 + 0 ≤ _), (by decide : 0 + 0 ≤ _)⟩)
  dsimp only [Pt.U, Pt.locs, Pt.cells, Pt.slots] at X73 l73 y73 z73 st73 hQ73
  subst y73 z73
  obtain ⟨rfl, Nq73, e73⟩ := hQ73
  have N73_ : Fr Z.heap.size L73 := by rw [l73]; exact Fr.app N66_ Nq73
  refine Go.trans st73 ?_
  refine Go.step (fun _ kt_ => XS.astore X73.here hx rfl (hb hby d26_120) rfl rfl (l' := #[.val (.ref x0), .val (.ref x1), .val (.long x2), .second, .val .null, .val .null, .val (.long x5), .second, .val (.ref w19)]) rfl kt_) ?_
  refine Go.step (fun _ kt_ => XS.aloadN X73.here hx rfl (hb hby d26_122) rfl rfl kt_) ?_
  refine Go.step (fun _ kt_ => XS.aload X73.here hx rfl (hb hby d26_123) rfl rfl kt_) ?_
  refine Go.step (fun _ kt_ => XS.ifnonnullYes X73.here hx rfl (pc0 := 125) (pc' := 132) rfl (hb hby d26_125) rfl (by decide) (by decide) kt_) ?_
  refine Go.step (fun _ kt_ => XS.aload X73.here hx rfl (hb hby d26_132) rfl rfl kt_) ?_
  have f74 := (Exa.wr W11 (Exa.wr W7 (Exa.wr W5 (Exa.wr W3 r30))))
  have f75 := (Exa.wr W35 (Exa.wr W27 (Exa.wr W21 (Exa.wr W17 f74))))
  have f76 := (Exa.wr W57 (Exa.wr W53 (Exa.wr W48 (Exa.wr W41 f75))))
  have f77 := (Fld.other W11 (Fld.other W7 (Fld.other W5 (Fld.other W3 r31 (Or.inl r32)) (Or.inl r32)) (Or.inl r32)) (Or.inl r32))
  have f78 := (Fld.other W35 (Fld.other W27 (Fld.other W21 (Fld.other W17 f77 (Or.inl r32)) (Or.inl r32)) (Or.inl r32)) (Or.inl r32))
  have f79 := (Fld.other W57 (Fld.other W53 (Fld.other W48 (Fld.other W41 f78 (Or.inl r32)) (Or.inl r32)) (Or.inl r32)) (Or.inl r32))
  have f80 := (Fld.other W66 (Fld.other W61 f79 (Or.inl r32)) (Or.inl r32))
  obtain ⟨cq81, kq81, q81a, q81b, q81c⟩ := isOf hZ e73 (Exa.wr W66 (Exa.wr W61 f76))
  obtain ⟨_, _, ⟨T81, L81, k81, n81⟩, -, X81, ⟨Lc81, hQ81, l81, y81, z81⟩, st81⟩ := X73.virtualBack hx (y := (⟨"org/matchstone/engine/MinQuantity", "quantity", "()J"⟩ : MethodName)) (z := (⟨"org/matchstone/engine/MinQuantity", "quantity", "()J"⟩ : MethodName)) hown (mvT hZ (wd hw 420 rfl)) (mvT hZ (wd hw 421 rfl)) (notFace_of_selects (args := #[]) (mvT hZ (wd hw 423 rfl))) (mvT hZ (wd hw 423 rfl)) (mvT hZ (wd hw 422 rfl)) (by decide) (backOf (W := 1) (rm_a45_0 l Z a0 hw []  w19 w20 h66 O66_ f80) hZ (wd hw 424 rfl) (wd hw 402 rfl) (by decide) (by decide)) q81a q81c (g := (mkF m 134 #[.val (.ref x0), .val (.ref x1), .val (.long x2), .second, .val .null, .val .null, .val (.long x5), .second, .val (.ref w19)] [(.ref w19), (.ref x0)])) rfl (by rw [hml]; rfl) (Steps.refl _) (argsL := []) (rest := [(.ref x0)]) (lenOf pd_LRJ rfl) rfl (by show 2 * 0 + _ ≤ _; exact Nat.le_of_eq rfl) (hb hby d26_134) (fun _ _ => ⟨rfl, e73, (by decide : 0 + 0 ≤ _), (by decide : 0 + 0 ≤ _)⟩)
  dsimp only [Pt.U, Pt.locs, Pt.cells, Pt.slots] at X81 l81 y81 z81 st81 hQ81
  subst y81 z81
  obtain ⟨rfl, Nq81, e81⟩ := hQ81
  have N81_ : Fr Z.heap.size L81 := by rw [l81]; exact Fr.app N73_ Nq81
  refine Go.trans st81 ?_
  have f82 := (Fld.other W11 (Fld.other W7 (Fld.other W5 (Fld.other W3 r33 (Or.inr (sn_243 hw))) (Or.inr (sn_244 hw))) (Or.inr (sn_245 hw))) (Or.inr (sn_246 hw)))
  have f83 := (Fld.other W35 (Fld.other W27 (Fld.other W21 (Fld.other W17 f82 (Or.inr (sn_247 hw))) (Or.inr (sn_248 hw))) (Or.inr (sn_249 hw))) (Or.inr (sn_250 hw)))
  have f84 := (Fld.other W57 (Fld.other W53 (Fld.other W48 (Fld.other W41 f83 (Or.inr (sn_251 hw))) (Or.inr (sn_252 hw))) (Or.inr (sn_253 hw))) (Or.inr (sn_254 hw)))
  have f85 := (Fld.other W66 (Fld.other W61 f84 (Or.inr (sn_255 hw))) (Or.inr (sn_256 hw)))
  obtain ⟨T86, h86, X86, e86, W86, st86⟩ := putF X81 hx hZ hown (host := "") (Or.inl (wd hw 350 rfl)) Via.refl e81 f85 (Exa.wr W66 f62) (Or.inr ⟨(wd hw 351 rfl), rfl, hnm⟩) (wd hw 263 rfl) (ty := .long) pf_J rfl rfl (g := (mkF m 137 #[.val (.ref x0), .val (.ref x1), .val (.long x2), .second, .val .null, .val .null, .val (.long x5), .second, .val (.ref w19)] [(.long w20), (.ref x0)])) rfl rfl (hb hby d26_137)
  refine Go.step st86 ?_
  have N86_ := Fr.snoc X86 N81_ r4
  have O86_ : Ext Z.heap h86 := extWr O66_ W86 r4
  have K86 := Keep.wr K66 W86 (Or.inl (List.mem_of_getElem? (i := 0) rfl))
  have F86 := Fld.same W86 f85
  refine Go.step (fun _ kt_ => XS.aloadN X86.here hx rfl (hb hby d26_140) rfl rfl kt_) ?_
  refine Go.step (fun _ kt_ => XS.aload X86.here hx rfl (hb hby d26_141) rfl rfl kt_) ?_
  refine Go.step (fun _ kt_ => XS.ifnullNo X86.here hx rfl (hb hby d26_143) rfl kt_) ?_
  refine Go.step (fun _ kt_ => XS.aload X86.here hx rfl (hb hby d26_146) rfl rfl kt_) ?_
  have f87 := (Exa.wr W86 (Exa.wr W66 (Exa.wr W61 f76)))
  have f88 := (Fld.other W11 (Fld.other W7 (Fld.other W5 (Fld.other W3 r34 (Or.inl r32)) (Or.inl r32)) (Or.inl r32)) (Or.inl r32))
  have f89 := (Fld.other W35 (Fld.other W27 (Fld.other W21 (Fld.other W17 f88 (Or.inl r32)) (Or.inl r32)) (Or.inl r32)) (Or.inl r32))
  have f90 := (Fld.other W57 (Fld.other W53 (Fld.other W48 (Fld.other W41 f89 (Or.inl r32)) (Or.inl r32)) (Or.inl r32)) (Or.inl r32))
  have f91 := (Fld.other W86 (Fld.other W66 (Fld.other W61 f90 (Or.inl r32)) (Or.inl r32)) (Or.inl r32))
  obtain ⟨cq92, kq92, q92a, q92b, q92c⟩ := isOf hZ e86 f87
  obtain ⟨_, _, ⟨T92, L92, k92, n92⟩, -, X92, ⟨Lc92, hQ92, l92, y92, z92⟩, st92⟩ := X86.virtualBack hx (y := (⟨"org/matchstone/engine/MinQuantity", "singleOrder", "()Z"⟩ : MethodName)) (z := (⟨"org/matchstone/engine/MinQuantity", "singleOrder", "()Z"⟩ : MethodName)) hown (mvT hZ (wd hw 425 rfl)) (mvT hZ (wd hw 426 rfl)) (notFace_of_selects (args := #[]) (mvT hZ (wd hw 428 rfl))) (mvT hZ (wd hw 428 rfl)) (mvT hZ (wd hw 427 rfl)) (by decide) (backOf (W := 1) (rm_a46_0 l Z a0 hw []  w19 w22 h86 O86_ f91) hZ (wd hw 429 rfl) (wd hw 402 rfl) (by decide) (by decide)) q92a q92c (g := (mkF m 148 #[.val (.ref x0), .val (.ref x1), .val (.long x2), .second, .val .null, .val .null, .val (.long x5), .second, .val (.ref w19)] [(.ref w19), (.ref x0)])) rfl (by rw [hml]; rfl) (Steps.refl _) (argsL := []) (rest := [(.ref x0)]) (lenOf pd_LRZ rfl) rfl (by show 2 * 0 + _ ≤ _; exact Nat.le_of_eq rfl) (hb hby d26_148) (fun _ _ => ⟨rfl, e86, (by decide : 0 + 0 ≤ _), (by decide : 0 + 0 ≤ _)⟩)
  dsimp only [Pt.U, Pt.locs, Pt.cells, Pt.slots] at X92 l92 y92 z92 st92 hQ92
  subst y92 z92
  obtain ⟨rfl, Nq92, e92⟩ := hQ92
  have N92_ : Fr Z.heap.size L92 := by rw [l92]; exact Fr.app N86_ Nq92
  refine Go.trans st92 ?_
  by_cases hc151_93 : (w22 &&& (1 : Int32)) = (0 : Int32)
  · refine Go.step (fun _ kt_ => XS.ifYes X92.here hx rfl (pc0 := 151) (pc' := 158) rfl (hb hby d26_151) rfl ((if0 _ _).trans (teq hc151_93).1) (by decide) (by decide) kt_) ?_
    refine Go.step (fun _ kt_ => XS.iconst X92.here hx rfl (hb hby d26_158)  kt_) ?_
    have f94 := (Fld.other W11 (Fld.other W7 (Fld.other W5 (Fld.other W3 r35 (Or.inr (sn_257 hw))) (Or.inr (sn_258 hw))) (Or.inr (sn_259 hw))) (Or.inr (sn_260 hw)))
    have f95 := (Fld.other W35 (Fld.other W27 (Fld.other W21 (Fld.other W17 f94 (Or.inr (sn_261 hw))) (Or.inr (sn_262 hw))) (Or.inr (sn_263 hw))) (Or.inr (sn_264 hw)))
    have f96 := (Fld.other W57 (Fld.other W53 (Fld.other W48 (Fld.other W41 f95 (Or.inr (sn_265 hw))) (Or.inr (sn_266 hw))) (Or.inr (sn_267 hw))) (Or.inr (sn_268 hw)))
    have f97 := (Fld.other W86 (Fld.other W66 (Fld.other W61 f96 (Or.inr (sn_269 hw))) (Or.inr (sn_270 hw))) (Or.inr (sn_271 hw)))
    obtain ⟨T98, h98, X98, e98, W98, st98⟩ := putFN X92 hx hZ hown (wd hw 352 rfl) Via.refl e92 f97 (Exa.wr W86 (Exa.wr W66 f62)) (Or.inr ⟨(wd hw 353 rfl), rfl, hnm⟩) (wd hw 263 rfl) (ty := .boolean) (v' := (.int (0 : Int32))) pf_Z rfl rfl (g := (mkF m 159 #[.val (.ref x0), .val (.ref x1), .val (.long x2), .second, .val .null, .val .null, .val (.long x5), .second, .val (.ref w19)] [(.int (0 : Int32)), (.ref x0)])) rfl rfl (hb hby d26_159)
    refine Go.step st98 ?_
    have N98_ := Fr.snoc X98 N92_ r4
    have O98_ : Ext Z.heap h98 := extWr O86_ W98 r4
    have K98 := Keep.wr K86 W98 (Or.inl (List.mem_of_getElem? (i := 0) rfl))
    have F98 := Fld.same W98 f97
    refine Go.step (fun _ kt_ => XS.aloadN X98.here hx rfl (hb hby d26_162) rfl rfl kt_) ?_
    refine Go.step (fun _ kt_ => XS.aloadN X98.here hx rfl (hb hby d26_163) rfl rfl kt_) ?_
    have f99 := (Fld.other W11 (Fld.other W7 (Fld.other W5 (Fld.other W3 r36 (Or.inl r6)) (Or.inl r6)) (Or.inl r6)) (Or.inl r6))
    have f100 := (Fld.other W35 (Fld.other W27 (Fld.other W21 (Fld.other W17 f99 (Or.inl r6)) (Or.inl r6)) (Or.inl r6)) (Or.inl r6))
    have f101 := (Fld.other W57 (Fld.other W53 (Fld.other W48 (Fld.other W41 f100 (Or.inl r6)) (Or.inl r6)) (Or.inl r6)) (Or.inl r6))
    have f102 := (Fld.other W98 (Fld.other W86 (Fld.other W66 (Fld.other W61 f101 (Or.inl r6)) (Or.inl r6)) (Or.inl r6)) (Or.inl r6))
    obtain ⟨cq103, kq103, q103a, q103b, q103c⟩ := isOf hZ e98 (Exa.wr W98 (Exa.wr W86 f68))
    obtain ⟨_, _, ⟨T103, L103, k103, n103⟩, -, X103, ⟨Lc103, hQ103, l103, y103, z103⟩, st103⟩ := X98.virtualBack hx (y := (⟨"org/matchstone/engine/NewOrder", "quantity", "()J"⟩ : MethodName)) (z := (⟨"org/matchstone/engine/NewOrder", "quantity", "()J"⟩ : MethodName)) hown (mvT hZ (wd hw 354 rfl)) (mvT hZ (wd hw 355 rfl)) (notFace_of_selects (args := #[]) (mvT hZ (wd hw 357 rfl))) (mvT hZ (wd hw 357 rfl)) (mvT hZ (wd hw 356 rfl)) (by decide) (backOf (W := 1) (rm_a37_0 l Z a0 hw []  x1 w24 h98 O98_ f102) hZ (wd hw 358 rfl) (wd hw 157 rfl) (by decide) (by decide)) q103a q103c (g := (mkF m 164 #[.val (.ref x0), .val (.ref x1), .val (.long x2), .second, .val .null, .val .null, .val (.long x5), .second, .val (.ref w19)] [(.ref x1), (.ref x0)])) rfl (by rw [hml]; rfl) (Steps.refl _) (argsL := []) (rest := [(.ref x0)]) (lenOf pd_LRJ rfl) rfl (by show 2 * 0 + _ ≤ _; exact Nat.le_of_eq rfl) (hb hby d26_164) (fun _ _ => ⟨rfl, e98, (by decide : 0 + 0 ≤ _), (by decide : 0 + 0 ≤ _)⟩)
    dsimp only [Pt.U, Pt.locs, Pt.cells, Pt.slots] at X103 l103 y103 z103 st103 hQ103
    subst y103 z103
    obtain ⟨rfl, Nq103, e103⟩ := hQ103
    have N103_ : Fr Z.heap.size L103 := by rw [l103]; exact Fr.app N98_ Nq103
    refine Go.trans st103 ?_
    have f104 := (Exa.wr W98 (Exa.wr W86 (Exa.wr W66 f62)))
    have f105 := (Fld.other W11 (Fld.other W7 (Fld.other W5 (Fld.other W3 r37 (Or.inr (sn_272 hw))) (Or.inr (sn_273 hw))) (Or.inr (sn_274 hw))) (Or.inr (sn_275 hw)))
    have f106 := (Fld.other W35 (Fld.other W27 (Fld.other W21 (Fld.other W17 f105 (Or.inr (sn_276 hw))) (Or.inr (sn_277 hw))) (Or.inr (sn_278 hw))) (Or.inr (sn_279 hw)))
    have f107 := (Fld.other W57 (Fld.other W53 (Fld.other W48 (Fld.other W41 f106 (Or.inr (sn_280 hw))) (Or.inr (sn_281 hw))) (Or.inr (sn_282 hw))) (Or.inr (sn_283 hw)))
    have f108 := (Fld.other W98 (Fld.other W86 (Fld.other W66 (Fld.other W61 f107 (Or.inr (sn_284 hw))) (Or.inr (sn_285 hw))) (Or.inr (sn_286 hw))) (Or.inr (sn_287 hw)))
    obtain ⟨T109, h109, X109, e109, W109, st109⟩ := putF X103 hx hZ hown (host := "") (Or.inl (wd hw 359 rfl)) Via.refl e103 f108 f104 (Or.inl (wd hw 360 rfl)) (wd hw 263 rfl) (ty := .long) pf_J rfl rfl (g := (mkF m 167 #[.val (.ref x0), .val (.ref x1), .val (.long x2), .second, .val .null, .val .null, .val (.long x5), .second, .val (.ref w19)] [(.long w24), (.ref x0)])) rfl rfl (hb hby d26_167)
    refine Go.step st109 ?_
    have N109_ := Fr.snoc X109 N103_ r4
    have O109_ : Ext Z.heap h109 := extWr O98_ W109 r4
    have K109 := Keep.wr K98 W109 (Or.inl (List.mem_of_getElem? (i := 0) rfl))
    have F109 := Fld.same W109 f108
    have f110 := (Fld.other W48 (Fld.other W41 (Fld.other W35 (Fld.other W27 F21 (Or.inr (Ne.symm (sn_172 hw)))) (Or.inr (Ne.symm (sn_178 hw)))) (Or.inr (Ne.symm (sn_185 hw)))) (Or.inr (Ne.symm (sn_193 hw))))
    have f111 := (Fld.other W66 (Fld.other W61 (Fld.other W57 (Fld.other W53 f110 (Or.inr (Ne.symm (sn_202 hw)))) (Or.inr (Ne.symm (sn_212 hw)))) (Or.inr (Ne.symm (sn_223 hw)))) (Or.inr (Ne.symm (sn_235 hw))))
    have f112 := (Fld.other W109 (Fld.other W98 (Fld.other W86 f111 (Or.inr (Ne.symm (sn_248 hw)))) (Or.inr (Ne.symm (sn_262 hw)))) (Or.inr (Ne.symm (sn_277 hw))))
    have f113 := (Fld.other W109 (Fld.other W98 F86 (Or.inr (Ne.symm (sn_271 hw)))) (Or.inr (Ne.symm (sn_286 hw))))
    have f114 := (Fld.other W11 (Fld.other W7 (Fld.other W5 (Fld.other W3 r38 (Or.inr (sn_288 hw))) (Or.inr (sn_289 hw))) (Or.inr (sn_290 hw))) (Or.inr (sn_291 hw)))
    have f115 := (Fld.other W35 (Fld.other W27 (Fld.other W21 (Fld.other W17 f114 (Or.inr (sn_292 hw))) (Or.inr (sn_293 hw))) (Or.inr (sn_294 hw))) (Or.inr (sn_295 hw)))
    have f116 := (Fld.other W57 (Fld.other W53 (Fld.other W48 (Fld.other W41 f115 (Or.inr (sn_296 hw))) (Or.inr (sn_297 hw))) (Or.inr (sn_298 hw))) (Or.inr (sn_299 hw)))
    have f117 := (Fld.other W98 (Fld.other W86 (Fld.other W66 (Fld.other W61 f116 (Or.inr (sn_300 hw))) (Or.inr (sn_301 hw))) (Or.inr (sn_302 hw))) (Or.inr (sn_303 hw)))
    have f118 := (Fld.other W109 f117 (Or.inr (sn_304 hw)))
    have f119 := (Fld.other W11 (Fld.other W7 (Fld.other W5 (Fld.other W3 r39 (Or.inr (sn_305 hw))) (Or.inr (sn_306 hw))) (Or.inr (sn_307 hw))) (Or.inr (sn_308 hw)))
    have f120 := (Fld.other W35 (Fld.other W27 (Fld.other W21 (Fld.other W17 f119 (Or.inr (sn_309 hw))) (Or.inr (sn_310 hw))) (Or.inr (sn_311 hw))) (Or.inr (sn_312 hw)))
    have f121 := (Fld.other W57 (Fld.other W53 (Fld.other W48 (Fld.other W41 f120 (Or.inr (sn_313 hw))) (Or.inr (sn_314 hw))) (Or.inr (sn_315 hw))) (Or.inr (sn_316 hw)))
    have f122 := (Fld.other W98 (Fld.other W86 (Fld.other W66 (Fld.other W61 f121 (Or.inr (sn_317 hw))) (Or.inr (sn_318 hw))) (Or.inr (sn_319 hw))) (Or.inr (sn_320 hw)))
    have f123 := (Fld.other W109 f122 (Or.inr (sn_321 hw)))
    have f124 := (Fld.other W27 (Fld.other W21 (Fld.other W17 (Fld.other W11 F7 (Or.inr (Ne.symm (sn_157 hw)))) (Or.inr (Ne.symm (sn_160 hw)))) (Or.inr (Ne.symm (sn_164 hw)))) (Or.inr (Ne.symm (sn_169 hw))))
    have f125 := (Fld.other W53 (Fld.other W48 (Fld.other W41 (Fld.other W35 f124 (Or.inr (Ne.symm (sn_175 hw)))) (Or.inr (Ne.symm (sn_182 hw)))) (Or.inr (Ne.symm (sn_190 hw)))) (Or.inr (Ne.symm (sn_199 hw))))
    have f126 := (Fld.other W86 (Fld.other W66 (Fld.other W61 (Fld.other W57 f125 (Or.inr (Ne.symm (sn_209 hw)))) (Or.inr (Ne.symm (sn_220 hw)))) (Or.inr (Ne.symm (sn_232 hw)))) (Or.inr (Ne.symm (sn_245 hw))))
    have f127 := (Fld.other W109 (Fld.other W98 f126 (Or.inr (Ne.symm (sn_259 hw)))) (Or.inr (Ne.symm (sn_274 hw))))
    have f128 := (Fld.other W109 (Fld.other W98 (Fld.other W86 (Fld.other W66 F61 (Or.inr (Ne.symm (sn_242 hw)))) (Or.inr (Ne.symm (sn_255 hw)))) (Or.inr (Ne.symm (sn_269 hw)))) (Or.inr (Ne.symm (sn_284 hw))))
    exact Go.retV X109 hx hret hlk (hb hby d26_170) (by decide) (by decide) (by show Q_a26_1 ..; rw [e109]; exact ⟨rfl, N109_, K109, f112, f113, f118, F109, f123, f127, f128⟩)
  · refine Go.step (fun _ kt_ => XS.ifNo X92.here hx rfl (hb hby d26_151) rfl ((if0 _ _).trans (feq hc151_93).1) kt_) ?_
    refine Go.step (fun _ kt_ => XS.iconst X92.here hx rfl (hb hby d26_154)  kt_) ?_
    refine Go.step (fun _ kt_ => XS.goto X92.here hx rfl (pc0 := 155) (pc' := 159) rfl (hb hby d26_155) (by decide) (by decide) kt_) ?_
    have f129 := (Fld.other W11 (Fld.other W7 (Fld.other W5 (Fld.other W3 r35 (Or.inr (sn_257 hw))) (Or.inr (sn_258 hw))) (Or.inr (sn_259 hw))) (Or.inr (sn_260 hw)))
    have f130 := (Fld.other W35 (Fld.other W27 (Fld.other W21 (Fld.other W17 f129 (Or.inr (sn_261 hw))) (Or.inr (sn_262 hw))) (Or.inr (sn_263 hw))) (Or.inr (sn_264 hw)))
    have f131 := (Fld.other W57 (Fld.other W53 (Fld.other W48 (Fld.other W41 f130 (Or.inr (sn_265 hw))) (Or.inr (sn_266 hw))) (Or.inr (sn_267 hw))) (Or.inr (sn_268 hw)))
    have f132 := (Fld.other W86 (Fld.other W66 (Fld.other W61 f131 (Or.inr (sn_269 hw))) (Or.inr (sn_270 hw))) (Or.inr (sn_271 hw)))
    obtain ⟨T133, h133, X133, e133, W133, st133⟩ := putFN X92 hx hZ hown (wd hw 352 rfl) Via.refl e92 f132 (Exa.wr W86 (Exa.wr W66 f62)) (Or.inr ⟨(wd hw 353 rfl), rfl, hnm⟩) (wd hw 263 rfl) (ty := .boolean) (v' := (.int (1 : Int32))) pf_Z rfl rfl (g := (mkF m 159 #[.val (.ref x0), .val (.ref x1), .val (.long x2), .second, .val .null, .val .null, .val (.long x5), .second, .val (.ref w19)] [(.int (1 : Int32)), (.ref x0)])) rfl rfl (hb hby d26_159)
    refine Go.step st133 ?_
    have N133_ := Fr.snoc X133 N92_ r4
    have O133_ : Ext Z.heap h133 := extWr O86_ W133 r4
    have K133 := Keep.wr K86 W133 (Or.inl (List.mem_of_getElem? (i := 0) rfl))
    have F133 := Fld.same W133 f132
    refine Go.step (fun _ kt_ => XS.aloadN X133.here hx rfl (hb hby d26_162) rfl rfl kt_) ?_
    refine Go.step (fun _ kt_ => XS.aloadN X133.here hx rfl (hb hby d26_163) rfl rfl kt_) ?_
    have f134 := (Fld.other W11 (Fld.other W7 (Fld.other W5 (Fld.other W3 r36 (Or.inl r6)) (Or.inl r6)) (Or.inl r6)) (Or.inl r6))
    have f135 := (Fld.other W35 (Fld.other W27 (Fld.other W21 (Fld.other W17 f134 (Or.inl r6)) (Or.inl r6)) (Or.inl r6)) (Or.inl r6))
    have f136 := (Fld.other W57 (Fld.other W53 (Fld.other W48 (Fld.other W41 f135 (Or.inl r6)) (Or.inl r6)) (Or.inl r6)) (Or.inl r6))
    have f137 := (Fld.other W133 (Fld.other W86 (Fld.other W66 (Fld.other W61 f136 (Or.inl r6)) (Or.inl r6)) (Or.inl r6)) (Or.inl r6))
    obtain ⟨cq138, kq138, q138a, q138b, q138c⟩ := isOf hZ e133 (Exa.wr W133 (Exa.wr W86 f68))
    obtain ⟨_, _, ⟨T138, L138, k138, n138⟩, -, X138, ⟨Lc138, hQ138, l138, y138, z138⟩, st138⟩ := X133.virtualBack hx (y := (⟨"org/matchstone/engine/NewOrder", "quantity", "()J"⟩ : MethodName)) (z := (⟨"org/matchstone/engine/NewOrder", "quantity", "()J"⟩ : MethodName)) hown (mvT hZ (wd hw 354 rfl)) (mvT hZ (wd hw 355 rfl)) (notFace_of_selects (args := #[]) (mvT hZ (wd hw 357 rfl))) (mvT hZ (wd hw 357 rfl)) (mvT hZ (wd hw 356 rfl)) (by decide) (backOf (W := 1) (rm_a37_0 l Z a0 hw []  x1 w24 h133 O133_ f137) hZ (wd hw 358 rfl) (wd hw 157 rfl) (by decide) (by decide)) q138a q138c (g := (mkF m 164 #[.val (.ref x0), .val (.ref x1), .val (.long x2), .second, .val .null, .val .null, .val (.long x5), .second, .val (.ref w19)] [(.ref x1), (.ref x0)])) rfl (by rw [hml]; rfl) (Steps.refl _) (argsL := []) (rest := [(.ref x0)]) (lenOf pd_LRJ rfl) rfl (by show 2 * 0 + _ ≤ _; exact Nat.le_of_eq rfl) (hb hby d26_164) (fun _ _ => ⟨rfl, e133, (by decide : 0 + 0 ≤ _), (by decide : 0 + 0 ≤ _)⟩)
    dsimp only [Pt.U, Pt.locs, Pt.cells, Pt.slots] at X138 l138 y138 z138 st138 hQ138
    subst y138 z138
    obtain ⟨rfl, Nq138, e138⟩ := hQ138
    have N138_ : Fr Z.heap.size L138 := by rw [l138]; exact Fr.app N133_ Nq138
    refine Go.trans st138 ?_
    have f139 := (Exa.wr W133 (Exa.wr W86 (Exa.wr W66 f62)))
    have f140 := (Fld.other W11 (Fld.other W7 (Fld.other W5 (Fld.other W3 r37 (Or.inr (sn_272 hw))) (Or.inr (sn_273 hw))) (Or.inr (sn_274 hw))) (Or.inr (sn_275 hw)))
    have f141 := (Fld.other W35 (Fld.other W27 (Fld.other W21 (Fld.other W17 f140 (Or.inr (sn_276 hw))) (Or.inr (sn_277 hw))) (Or.inr (sn_278 hw))) (Or.inr (sn_279 hw)))
    have f142 := (Fld.other W57 (Fld.other W53 (Fld.other W48 (Fld.other W41 f141 (Or.inr (sn_280 hw))) (Or.inr (sn_281 hw))) (Or.inr (sn_282 hw))) (Or.inr (sn_283 hw)))
    have f143 := (Fld.other W133 (Fld.other W86 (Fld.other W66 (Fld.other W61 f142 (Or.inr (sn_284 hw))) (Or.inr (sn_285 hw))) (Or.inr (sn_286 hw))) (Or.inr (sn_287 hw)))
    obtain ⟨T144, h144, X144, e144, W144, st144⟩ := putF X138 hx hZ hown (host := "") (Or.inl (wd hw 359 rfl)) Via.refl e138 f143 f139 (Or.inl (wd hw 360 rfl)) (wd hw 263 rfl) (ty := .long) pf_J rfl rfl (g := (mkF m 167 #[.val (.ref x0), .val (.ref x1), .val (.long x2), .second, .val .null, .val .null, .val (.long x5), .second, .val (.ref w19)] [(.long w24), (.ref x0)])) rfl rfl (hb hby d26_167)
    refine Go.step st144 ?_
    have N144_ := Fr.snoc X144 N138_ r4
    have O144_ : Ext Z.heap h144 := extWr O133_ W144 r4
    have K144 := Keep.wr K133 W144 (Or.inl (List.mem_of_getElem? (i := 0) rfl))
    have F144 := Fld.same W144 f143
    have f145 := (Fld.other W48 (Fld.other W41 (Fld.other W35 (Fld.other W27 F21 (Or.inr (Ne.symm (sn_172 hw)))) (Or.inr (Ne.symm (sn_178 hw)))) (Or.inr (Ne.symm (sn_185 hw)))) (Or.inr (Ne.symm (sn_193 hw))))
    have f146 := (Fld.other W66 (Fld.other W61 (Fld.other W57 (Fld.other W53 f145 (Or.inr (Ne.symm (sn_202 hw)))) (Or.inr (Ne.symm (sn_212 hw)))) (Or.inr (Ne.symm (sn_223 hw)))) (Or.inr (Ne.symm (sn_235 hw))))
    have f147 := (Fld.other W144 (Fld.other W133 (Fld.other W86 f146 (Or.inr (Ne.symm (sn_248 hw)))) (Or.inr (Ne.symm (sn_262 hw)))) (Or.inr (Ne.symm (sn_277 hw))))
    have f148 := (Fld.other W144 (Fld.other W133 F86 (Or.inr (Ne.symm (sn_271 hw)))) (Or.inr (Ne.symm (sn_286 hw))))
    have f149 := (Fld.other W11 (Fld.other W7 (Fld.other W5 (Fld.other W3 r38 (Or.inr (sn_288 hw))) (Or.inr (sn_289 hw))) (Or.inr (sn_290 hw))) (Or.inr (sn_291 hw)))
    have f150 := (Fld.other W35 (Fld.other W27 (Fld.other W21 (Fld.other W17 f149 (Or.inr (sn_292 hw))) (Or.inr (sn_293 hw))) (Or.inr (sn_294 hw))) (Or.inr (sn_295 hw)))
    have f151 := (Fld.other W57 (Fld.other W53 (Fld.other W48 (Fld.other W41 f150 (Or.inr (sn_296 hw))) (Or.inr (sn_297 hw))) (Or.inr (sn_298 hw))) (Or.inr (sn_299 hw)))
    have f152 := (Fld.other W133 (Fld.other W86 (Fld.other W66 (Fld.other W61 f151 (Or.inr (sn_300 hw))) (Or.inr (sn_301 hw))) (Or.inr (sn_302 hw))) (Or.inr (sn_303 hw)))
    have f153 := (Fld.other W144 f152 (Or.inr (sn_304 hw)))
    have f154 := (Fld.other W11 (Fld.other W7 (Fld.other W5 (Fld.other W3 r39 (Or.inr (sn_305 hw))) (Or.inr (sn_306 hw))) (Or.inr (sn_307 hw))) (Or.inr (sn_308 hw)))
    have f155 := (Fld.other W35 (Fld.other W27 (Fld.other W21 (Fld.other W17 f154 (Or.inr (sn_309 hw))) (Or.inr (sn_310 hw))) (Or.inr (sn_311 hw))) (Or.inr (sn_312 hw)))
    have f156 := (Fld.other W57 (Fld.other W53 (Fld.other W48 (Fld.other W41 f155 (Or.inr (sn_313 hw))) (Or.inr (sn_314 hw))) (Or.inr (sn_315 hw))) (Or.inr (sn_316 hw)))
    have f157 := (Fld.other W133 (Fld.other W86 (Fld.other W66 (Fld.other W61 f156 (Or.inr (sn_317 hw))) (Or.inr (sn_318 hw))) (Or.inr (sn_319 hw))) (Or.inr (sn_320 hw)))
    have f158 := (Fld.other W144 f157 (Or.inr (sn_321 hw)))
    have f159 := (Fld.other W27 (Fld.other W21 (Fld.other W17 (Fld.other W11 F7 (Or.inr (Ne.symm (sn_157 hw)))) (Or.inr (Ne.symm (sn_160 hw)))) (Or.inr (Ne.symm (sn_164 hw)))) (Or.inr (Ne.symm (sn_169 hw))))
    have f160 := (Fld.other W53 (Fld.other W48 (Fld.other W41 (Fld.other W35 f159 (Or.inr (Ne.symm (sn_175 hw)))) (Or.inr (Ne.symm (sn_182 hw)))) (Or.inr (Ne.symm (sn_190 hw)))) (Or.inr (Ne.symm (sn_199 hw))))
    have f161 := (Fld.other W86 (Fld.other W66 (Fld.other W61 (Fld.other W57 f160 (Or.inr (Ne.symm (sn_209 hw)))) (Or.inr (Ne.symm (sn_220 hw)))) (Or.inr (Ne.symm (sn_232 hw)))) (Or.inr (Ne.symm (sn_245 hw))))
    have f162 := (Fld.other W144 (Fld.other W133 f161 (Or.inr (Ne.symm (sn_259 hw)))) (Or.inr (Ne.symm (sn_274 hw))))
    have f163 := (Fld.other W144 (Fld.other W133 (Fld.other W86 (Fld.other W66 F61 (Or.inr (Ne.symm (sn_242 hw)))) (Or.inr (Ne.symm (sn_255 hw)))) (Or.inr (Ne.symm (sn_269 hw)))) (Or.inr (Ne.symm (sn_284 hw))))
    exact Go.retV X144 hx hret hlk (hb hby d26_170) (by decide) (by decide) (by show Q_a26_1 ..; rw [e144]; exact ⟨rfl, N144_, K144, f147, f148, f153, F144, f158, f162, f163⟩)
def Q_a41_4 (Z : State)  (h0 : Heap) (v : Option Value) (h : Heap) (L : List Loc) : Prop := v = some .null ∧ Fr Z.heap.size L ∧ h = h0
set_option maxRecDepth 65536 in
set_option maxHeartbeats 40000000 in
theorem rm_a41_4 (l : Launch) (Z : State) (a0 : Array Value) (hw : HW Z a0) (ws : List Jvm.Cond) (x0 : Addr) (x1 : Int64) (w1 : Addr) (w2 : Addr) (w3 : Int64) (h0 : Heap) (O0 : Ext Z.heap h0) (r0 : fl_1 Z h0 x0 (.ref w1)) (r1 : fl_30 Z h0 w1 (.ref w2)) (r2 : fl_29 Z h0 w2 (.long w3)) (r3 : ¬ ((lcmpW w3 (0 : Int64)) = (0 : Int32))) :
    Met FrameEnd l (⟨"org/matchstone/engine/BookSide$Walk", "nextBehind", "(J)Lorg/matchstone/engine/BookSide$Order;"⟩ : MethodName) prog_11_method_4_code 4 (some (.object "org/matchstone/engine/BookSide$Order")) ws ⟨0, 0, 0, 0⟩ Z h0 #[(.ref x0), (.long x1)] (Q_a41_4 Z  h0) := by
  refine own_met "org/matchstone/engine/BookSide$Walk" (plainFor_of_name pn_41) rfl #[.val (.ref x0), .val (.long x1), .second, .unset] (fun _ => by first | (simp [entryFrame, mkF, argsToLocals, Value.category]; done) | rfl) ?_
  intro p e s m below meth c s₁ hx hby hlk hret hml hZ hown hnm X0 e0
  have N0 := Fr.nil Z.heap.size
  refine Go.step (fun _ kt_ => XS.aloadN X0.here hx rfl (hb hby d41_0) rfl rfl kt_) ?_
  obtain ⟨T1, X1, e1, st1⟩ := getF X0 hx hZ hown (host := "") (Or.inl (wd hw 386 rfl)) Via.refl e0 r0 (g := (mkF m 1 #[.val (.ref x0), .val (.long x1), .second, .unset] [(.ref x0)])) rfl rfl (hb hby d41_1)
  refine Go.step st1 ?_
  refine Go.step (fun _ kt_ => XS.ifnonnullYes X1.here hx rfl (pc0 := 4) (pc' := 11) rfl (hb hby d41_4) rfl (by decide) (by decide) kt_) ?_
  refine Go.step (fun _ kt_ => XS.aloadN X1.here hx rfl (hb hby d41_11) rfl rfl kt_) ?_
  obtain ⟨T2, X2, e2, st2⟩ := getF X1 hx hZ hown (host := "") (Or.inl (wd hw 386 rfl)) Via.refl e1 r0 (g := (mkF m 12 #[.val (.ref x0), .val (.long x1), .second, .unset] [(.ref x0)])) rfl rfl (hb hby d41_12)
  refine Go.step st2 ?_
  obtain ⟨T3, X3, e3, st3⟩ := getF X2 hx hZ hown (host := "") (Or.inl (wd hw 395 rfl)) Via.refl e2 r1 (g := (mkF m 15 #[.val (.ref x0), .val (.long x1), .second, .unset] [(.ref w1)])) rfl rfl (hb hby d41_15)
  refine Go.step st3 ?_
  refine Go.step (fun _ kt_ => XS.astoreN X3.here hx rfl (hb hby d41_18) rfl rfl (l' := #[.val (.ref x0), .val (.long x1), .second, .val (.ref w2)]) rfl kt_) ?_
  refine Go.step (fun _ kt_ => XS.aloadN X3.here hx rfl (hb hby d41_19) rfl rfl kt_) ?_
  refine Go.step (fun _ kt_ => XS.ifnullNo X3.here hx rfl (hb hby d41_20) rfl kt_) ?_
  refine Go.step (fun _ kt_ => XS.aloadN X3.here hx rfl (hb hby d41_23) rfl rfl kt_) ?_
  obtain ⟨T4, X4, e4, st4⟩ := getF X3 hx hZ hown (host := "") (Or.inl (wd hw 430 rfl)) Via.refl e3 r2 (g := (mkF m 24 #[.val (.ref x0), .val (.long x1), .second, .val (.ref w2)] [(.ref w2)])) rfl rfl (hb hby d41_24)
  refine Go.step st4 ?_
  refine Go.step (fun _ kt_ => XS.lconst X4.here hx rfl (hb hby d41_27)  kt_) ?_
  refine Go.step (fun _ kt_ => XS.lcmp X4.here hx rfl (hb hby d41_28) rfl kt_) ?_
  refine Go.step (fun _ kt_ => XS.ifYes X4.here hx rfl (pc0 := 29) (pc' := 45) rfl (hb hby d41_29) rfl ((if0 _ _).trans (feq r3).2) (by decide) (by decide) kt_) ?_
  refine Go.step (fun _ kt_ => XS.aconstNull X4.here hx rfl (hb hby d41_45)  kt_) ?_
  exact Go.retA X4 hx hret rfl rfl hlk (hb hby d41_46) (by decide) (by decide) (by show _ ∧ _ ∧ _; rw [e4]; exact ⟨rfl, N0, rfl⟩)
theorem d47_0 : decode prog_18_method_3_code 0 = .ok (.new 8, 3) := by decide +kernel
theorem d47_3 : decode prog_18_method_3_code 3 = .ok (.dup, 1) := by decide +kernel
theorem d47_4 : decode prog_18_method_3_code 4 = .ok (.lload_n 0, 1) := by decide +kernel
theorem d47_5 : decode prog_18_method_3_code 5 = .ok (.iconst 1, 1) := by decide +kernel
theorem d47_6 : decode prog_18_method_3_code 6 = .ok (.invokespecial 17, 3) := by decide +kernel
theorem d47_9 : decode prog_18_method_3_code 9 = .ok (.areturn, 1) := by decide +kernel
theorem pn_47 : plainName "org/matchstone/engine/MinQuantity" = true := by first | (simp [plainName, overriddenIn]; done) | decide +kernel
def Q_a47_0 (Z : State) (x0 : Int64) (h0 : Heap) (v : Option Value) (h : Heap) (L : List Loc) : Prop := ∃ (b1 : Addr), v = some (.ref b1) ∧ Fr Z.heap.size L ∧ Keep h0 h [] ∧ h0.size ≤ b1 ∧ Exa Z h b1 "org/matchstone/engine/MinQuantity" ∧ fl_47 Z h b1 (.long x0) ∧ fl_48 Z h b1 (.int (1 : Int32))
set_option maxRecDepth 65536 in
set_option maxHeartbeats 40000000 in
theorem rm_a47_0 (l : Launch) (Z : State) (a0 : Array Value) (hw : HW Z a0) (ws : List Jvm.Cond) (x0 : Int64) (h0 : Heap) (O0 : Ext Z.heap h0) :
    Met FrameEnd l (⟨"org/matchstone/engine/MinQuantity", "single", "(J)Lorg/matchstone/engine/MinQuantity;"⟩ : MethodName) prog_18_method_3_code 2 (some (.object "org/matchstone/engine/MinQuantity")) ws ⟨3, 1, 2, 40⟩ Z h0 #[(.long x0)] (Q_a47_0 Z x0 h0) := by
  refine own_met "org/matchstone/engine/MinQuantity" (plainFor_of_name pn_47) rfl #[.val (.long x0), .second] (fun _ => by first | (simp [entryFrame, mkF, argsToLocals, Value.category]; done) | rfl) ?_
  intro p e s m below meth c s₁ hx hby hlk hret hml hZ hown hnm X0 e0
  have N0 := Fr.nil Z.heap.size
  obtain ⟨T1, h1, X1, e1, E1, A1, D1, U1, st1⟩ := newO X0 hx hZ hown (wd hw 404 rfl) (wd hw 405 rfl) (wd hw 402 rfl) e0 (g := (mkF m 0 #[.val (.long x0), .second] [])) rfl (hb hby d47_0) (by decide) (by decide)
  obtain ⟨b1, hb1⟩ : ∃ z, z = h0.size := ⟨_, rfl⟩
  rw [← hb1] at A1 D1 U1 st1
  refine Go.step st1 ?_
  have g_b1 : Z.heap.size ≤ b1 := Nat.le_trans O0.1 (Nat.le_of_eq hb1.symm)
  have O1_ : Ext Z.heap h1 := extTr O0 E1
  have sz_b1 : h0.size ≤ b1 := Nat.le_trans (Keep.refl h0 []).1 (Nat.le_of_eq hb1.symm)
  have K1 := Keep.ext (Keep.refl h0 []) E1
  have F1_quantity : fl_47 Z h1 b1 (.long (0 : Int64)) := D1 (Or.inr (wd hw 411 rfl)) (ty := .long) pf_J
  have F1_singleOrder : fl_48 Z h1 b1 (.int (0 : Int32)) := D1 (Or.inr (wd hw 413 rfl)) (ty := .boolean) pf_Z
  refine Go.step (fun _ kt_ => XS.dup X1.here hx rfl (hb hby d47_3) rfl rfl kt_) ?_
  refine Go.step (fun _ kt_ => XS.lloadN X1.here hx rfl (hb hby d47_4) rfl kt_) ?_
  refine Go.step (fun _ kt_ => XS.iconst X1.here hx rfl (hb hby d47_5)  kt_) ?_
  obtain ⟨_, _, ⟨T2, L2, k2, n2⟩, -, X2, ⟨Lc2, hQ2, l2, y2, z2⟩, st2⟩ := X1.specialBack hx (y := (⟨"org/matchstone/engine/MinQuantity", "<init>", "(JZ)V"⟩ : MethodName)) rfl hown (mvT hZ (wd hw 406 rfl)) (mvT hZ (wd hw 407 rfl)) (mvT hZ (wd hw 408 rfl)) (by decide) (backOf (W := 1) (rm_a43_0 l Z a0 hw []  b1 x0 (1 : Int32) (0 : Int64) (0 : Int32) h1 O1_ A1 F1_quantity g_b1 F1_singleOrder) hZ (wd hw 408 rfl) (wd hw 402 rfl) (by decide) (by decide)) (g := (mkF m 6 #[.val (.long x0), .second] [(.int (1 : Int32)), (.long x0), (.ref b1), (.ref b1)])) rfl (by rw [hml]; rfl) (Steps.refl _) (a := b1) (argsL := [(.long x0), (.int (1 : Int32))]) (rest := [(.ref b1)]) (lenOf pd_LJZRV rfl) rfl (by show 2 * 0 + _ ≤ _; exact Nat.le_of_eq rfl) (hb hby d47_6) (fun _ _ => ⟨rfl, e1, (by decide : 1 + 0 ≤ _), (by decide : 2 + 0 ≤ _)⟩)
  dsimp only [Pt.U, Pt.locs, Pt.cells, Pt.slots] at X2 l2 y2 z2 st2 hQ2
  subst y2 z2
  obtain ⟨rfl, Nq2, Kq2, p2_0, p2_1⟩ := hQ2
  have O2_ : Ext Z.heap T2.heap := extKeep O1_ Kq2 (allS g_b1 all0)
  have K2 := Keep.trans K1 Kq2 (allS (Or.inr sz_b1) all0)
  have N2_ : Fr Z.heap.size L2 := by rw [l2]; exact Fr.app N0 Nq2
  refine Go.trans st2 ?_
  exact Go.retA X2 hx hret rfl rfl hlk (hb hby d47_9) (by decide) (by decide) ⟨b1, rfl, N2_, K2, sz_b1, (A1.keep Kq2), p2_0, p2_1⟩
theorem pn_0 : plainName "org/matchstone/engine/WalkNextBehindPinLaw" = true := by first | (simp [plainName, overriddenIn]; done) | decide +kernel
def Q_0 (Z : State)  (h0 : Heap) (v : Option Value) (h : Heap) (L : List Loc) : Prop := v = some (.int 1) ∧ Fr Z.heap.size L ∧ True
set_option maxRecDepth 65536 in
set_option maxHeartbeats 40000000 in
theorem rm_0 (l : Launch) (Z : State) (a0 : Array Value) (hw : HW Z a0) (ws : List Jvm.Cond) (x0 : Int64) (x1 : Int64) (x2 : Int64) (x3 : Int32) (bA : Addr) (dA : Addr) (iA : Addr) (rA : Addr) (h0 : Heap) (O0 : Ext Z.heap h0) (S_B : Sta Z Z.heap "org/matchstone/engine/Side" "BUY" "Lorg/matchstone/engine/Side;" (.ref bA)) (S_D : Sta Z Z.heap "org/matchstone/engine/TimeInForce" "DAY" "Lorg/matchstone/engine/TimeInForce;" (.ref dA)) (S_I : Sta Z Z.heap "org/matchstone/engine/TimeInForce" "IOC" "Lorg/matchstone/engine/TimeInForce;" (.ref iA)) (X_B : Exa Z Z.heap bA "org/matchstone/engine/Side") (X_D : Exa Z Z.heap dA "org/matchstone/engine/TimeInForce") (X_I : Exa Z Z.heap iA "org/matchstone/engine/TimeInForce") (hne : dA ≠ iA) (S_RO : Sta Z Z.heap "java/util/Collections$ReverseComparator" "REVERSE_ORDER" "Ljava/util/Collections$ReverseComparator;" (.ref rA)) :
    Met ReturnedEndW l x code maxLocals ret ws room_1 Z h0 #[(.long x0), (.long x1), (.long x2), (.int x3)] (Q_0 Z  h0) := by
  refine own_metW "org/matchstone/engine/WalkNextBehindPinLaw" (plainFor_of_name pn_0) rfl #[.val (.long x0), .second, .val (.long x1), .second, .val (.long x2), .second, .val (.int x3), .unset, .unset, .unset, .unset, .unset, .unset, .unset, .unset, .unset, .unset, .unset, .unset, .unset] (fun _ => by first | (simp [entryFrame, mkF, argsToLocals, Value.category, maxLocals]; done) | rfl) ?_
  intro p e s m below meth c s₁ hx hby hlk hret hml hZ hown hnm X0 e0 S0 kk0
  have N0 := Fr.nil Z.heap.size
  have wS := own_wS hw
  refine Go.step (fun _ kt_ => XS.iload X0.here hx rfl (hb hby at_0) rfl kt_) ?_
  refine Go.step (fun _ kt_ => XS.iconst X0.here hx rfl (hb hby at_2)  kt_) ?_
  refine Go.step (fun _ kt_ => XS.iand X0.here hx rfl (hb hby at_3) rfl kt_) ?_
  show Go _ _ _ _ _ _ _ _ s₁ (mkF m 4 #[.val (.long x0), .second, .val (.long x1), .second, .val (.long x2), .second, .val (.int x3), .unset, .unset, .unset, .unset, .unset, .unset, .unset, .unset, .unset, .unset, .unset, .unset, .unset] [(.int (x3 &&& (3 : Int32)))])
  have hk := own_and3 x3
  generalize (x3 &&& (3 : Int32)) = k at hk ⊢
  show Go _ _ _ _ _ _ _ _ s₁ (mkF m 4 #[.val (.long x0), .second, .val (.long x1), .second, .val (.long x2), .second, .val (.int x3), .unset, .unset, .unset, .unset, .unset, .unset, .unset, .unset, .unset, .unset, .unset, .unset, .unset] [(.int k)])
  refine Go.step (fun _ kt_ => XS.istore X0.here hx rfl (hb hby at_4) rfl (l' := #[.val (.long x0), .second, .val (.long x1), .second, .val (.long x2), .second, .val (.int x3), .val (.int k), .unset, .unset, .unset, .unset, .unset, .unset, .unset, .unset, .unset, .unset, .unset, .unset]) rfl kt_) ?_
  refine Go.step (fun _ kt_ => XS.iload X0.here hx rfl (hb hby at_6) rfl kt_) ?_
  refine Go.step (fun _ kt_ => XS.iconst X0.here hx rfl (hb hby at_8)  kt_) ?_
  refine Go.step (fun _ kt_ => XS.iand X0.here hx rfl (hb hby at_9) rfl kt_) ?_
  by_cases hc10_1 : (x3 &&& (4 : Int32)) = (0 : Int32)
  · refine Go.step (fun _ kt_ => XS.ifYes X0.here hx rfl (pc0 := 10) (pc' := 17) rfl (hb hby at_10) rfl ((if0 _ _).trans (teq hc10_1).1) (by decide) (by decide) kt_) ?_
    refine Go.step (fun _ kt_ => XS.iconst X0.here hx rfl (hb hby at_17)  kt_) ?_
    refine Go.step (fun _ kt_ => XS.istore X0.here hx rfl (hb hby at_18) rfl (l' := #[.val (.long x0), .second, .val (.long x1), .second, .val (.long x2), .second, .val (.int x3), .val (.int k), .val (.int (0 : Int32)), .unset, .unset, .unset, .unset, .unset, .unset, .unset, .unset, .unset, .unset, .unset]) rfl kt_) ?_
    show Go _ _ _ _ _ _ _ _ s₁ (mkF m 20 #[.val (.long x0), .second, .val (.long x1), .second, .val (.long x2), .second, .val (.int x3), .val (.int k), .val (.int (0 : Int32)), .unset, .unset, .unset, .unset, .unset, .unset, .unset, .unset, .unset, .unset, .unset] [])
    have cut35 : ∀ (Tc2 : State) (Lc2 : List Loc) (vmc2 : Vm) (Xc2 : Stand p l e room_1 (s.setVm vmc2) m #[(.long x0), (.long x1), (.long x2), (.int x3)] below meth c Tc2 Lc2 0 0) (ec2 : Tc2.heap = h0) (Nc2 : Fr Z.heap.size Lc2) (hZc2 : Z.Warmed39 (s.setVm vmc2).vm) (hownc2 : (s.setVm vmc2).vm.findClass "org/matchstone/engine/WalkNextBehindPinLaw" = some m.cls) (kc2 : Nat) (Sc2 : s.Since vmc2 kc2) (kkc2 : kc2 ≤ h0.size) (sg : Int32) , Go ReturnedEndW p e below s (room_1).cells (room_1).slots (Q_0 Z  h0) Tc2 (mkF m 35 #[.val (.long x0), .second, .val (.long x1), .second, .val (.long x2), .second, .val (.int x3), .val (.int k), .val (.int (0 : Int32)), .val (.int sg), .unset, .unset, .unset, .unset, .unset, .unset, .unset, .unset, .unset, .unset] []) := by
      intro Tc2 Lc2 vmc2 Xc2 ec2 Nc2 hZc2 hownc2 kc2 Sc2 kkc2 sg 
      refine Go.step (fun _ kt_ => XS.lconst Xc2.here hx rfl (hb hby at_35)  kt_) ?_
      refine Go.step (fun _ kt_ => XS.lload Xc2.here hx rfl (hb hby at_36) rfl kt_) ?_
      refine Go.step (Xc2.ldc2Long hx hownc2 (mvT hZc2 (wd hw 0 rfl)) (g := (mkF m 38 #[.val (.long x0), .second, .val (.long x1), .second, .val (.long x2), .second, .val (.int x3), .val (.int k), .val (.int (0 : Int32)), .val (.int sg), .unset, .unset, .unset, .unset, .unset, .unset, .unset, .unset, .unset, .unset] [(.long x2), (.long (1 : Int64))])) rfl (hb hby at_38)) ?_
      refine Go.step (fun _ kt_ => XS.land Xc2.here hx rfl (hb hby at_41) rfl kt_) ?_
      refine Go.step (fun _ kt_ => XS.ladd Xc2.here hx rfl (hb hby at_42) rfl kt_) ?_
      show Go _ _ _ _ _ _ _ _ Tc2 (mkF m 43 #[.val (.long x0), .second, .val (.long x1), .second, .val (.long x2), .second, .val (.int x3), .val (.int k), .val (.int (0 : Int32)), .val (.int sg), .unset, .unset, .unset, .unset, .unset, .unset, .unset, .unset, .unset, .unset] [(.long ((1 : Int64) + (x2 &&& (4611686018427387903 : Int64))))])
      have hq0 := own_q x2
      generalize ((1 : Int64) + (x2 &&& (4611686018427387903 : Int64))) = q at hq0 ⊢
      show Go _ _ _ _ _ _ _ _ Tc2 (mkF m 43 #[.val (.long x0), .second, .val (.long x1), .second, .val (.long x2), .second, .val (.int x3), .val (.int k), .val (.int (0 : Int32)), .val (.int sg), .unset, .unset, .unset, .unset, .unset, .unset, .unset, .unset, .unset, .unset] [(.long q)])
      refine Go.step (fun _ kt_ => XS.lstore Xc2.here hx rfl (hb hby at_43) rfl (l' := #[.val (.long x0), .second, .val (.long x1), .second, .val (.long x2), .second, .val (.int x3), .val (.int k), .val (.int (0 : Int32)), .val (.int sg), .val (.long q), .second, .unset, .unset, .unset, .unset, .unset, .unset, .unset, .unset]) rfl kt_) ?_
      obtain ⟨T3, h3, X3, e3, E3, A3, D3, U3, st3⟩ := newO Xc2 hx hZc2 hownc2 (wd hw 1 rfl) (wd hw 2 rfl) (wd hw 3 rfl) ec2 (g := (mkF m 45 #[.val (.long x0), .second, .val (.long x1), .second, .val (.long x2), .second, .val (.int x3), .val (.int k), .val (.int (0 : Int32)), .val (.int sg), .val (.long q), .second, .unset, .unset, .unset, .unset, .unset, .unset, .unset, .unset] [])) rfl (hb hby at_45) (by decide) (by decide)
      obtain ⟨b3, hb3⟩ : ∃ z, z = h0.size := ⟨_, rfl⟩
      rw [← hb3] at A3 D3 U3 st3
      refine Go.step st3 ?_
      have g_b3 : Z.heap.size ≤ b3 := Nat.le_trans O0.1 (Nat.le_of_eq hb3.symm)
      have O3_ : Ext Z.heap h3 := extTr O0 E3
      have F3_side : Fld Z h3 b3 "org/matchstone/engine/BookSide" "side" "Lorg/matchstone/engine/Side;" .null := D3 (Or.inr (wd hw 14 rfl)) (ty := (.object "org/matchstone/engine/Side")) pf_Lorg_matchstone_engine_Side_
      have F3_levels : Fld Z h3 b3 "org/matchstone/engine/BookSide" "levels" "Lorg/matchstone/engine/Ladder;" .null := D3 (Or.inr (wd hw 89 rfl)) (ty := (.object "org/matchstone/engine/Ladder")) pf_Lorg_matchstone_engine_Ladder_
      have F3_hiddenOrders : Fld Z h3 b3 "org/matchstone/engine/BookSide" "hiddenOrders" "Lorg/matchstone/engine/MinimumIndex;" .null := D3 (Or.inr (wd hw 131 rfl)) (ty := (.object "org/matchstone/engine/MinimumIndex")) pf_Lorg_matchstone_engine_MinimumIndex_
      refine Go.step (fun _ kt_ => XS.dup X3.here hx rfl (hb hby at_48) rfl rfl kt_) ?_
      obtain ⟨T4, X4, e4, st4⟩ := getS2 X3 hx hZc2 hownc2 (host := "") (Or.inl (wd hw 4 rfl)) Via.refl e3 (Sta.ext O3_ S_B) (g := (mkF m 49 #[.val (.long x0), .second, .val (.long x1), .second, .val (.long x2), .second, .val (.int x3), .val (.int k), .val (.int (0 : Int32)), .val (.int sg), .val (.long q), .second, .unset, .unset, .unset, .unset, .unset, .unset, .unset, .unset] [(.ref b3), (.ref b3)])) rfl (hb hby at_49)
      refine Go.step st4 ?_
      obtain ⟨_, _, ⟨T5, L5, k5, n5⟩, -, X5, ⟨Lc5, hQ5, l5, y5, z5⟩, st5⟩ := X4.specialBack hx (y := (⟨"org/matchstone/engine/BookSide", "<init>", "(Lorg/matchstone/engine/Side;)V"⟩ : MethodName)) rfl hownc2 (mvT hZc2 (wd hw 7 rfl)) (mvT hZc2 (wd hw 8 rfl)) (mvT hZc2 (wd hw 9 rfl)) (by decide) (backOf (W := 1) (rm_a1_0 l Z a0 hw []  b3 bA rA h3 O3_ A3 F3_side g_b3 S_B S_RO F3_levels F3_hiddenOrders) hZc2 (wd hw 9 rfl) (wd hw 3 rfl) (by decide) (by decide)) (g := (mkF m 52 #[.val (.long x0), .second, .val (.long x1), .second, .val (.long x2), .second, .val (.int x3), .val (.int k), .val (.int (0 : Int32)), .val (.int sg), .val (.long q), .second, .unset, .unset, .unset, .unset, .unset, .unset, .unset, .unset] [(.ref bA), (.ref b3), (.ref b3)])) rfl (by rw [hml]; rfl) (Steps.refl _) (a := b3) (argsL := [(.ref bA)]) (rest := [(.ref b3)]) (lenOf pd_LLorg_matchstone_engine_Side_RV rfl) rfl (by show 2 * 0 + _ ≤ _; exact Nat.le_of_eq rfl) (hb hby at_52) (fun _ _ => ⟨rfl, e4, (by decide : 1 + 8 ≤ _), (by decide : 3 + 42 ≤ _)⟩)
      dsimp only [Pt.U, Pt.locs, Pt.cells, Pt.slots] at X5 l5 y5 z5 st5 hQ5
      subst y5 z5
      obtain ⟨rfl, Nq5, Kq5⟩ := hQ5
      have O5_ : Ext Z.heap T5.heap := extKeep O3_ Kq5 (allS g_b3 all0)
      have N5_ : Fr Z.heap.size L5 := by rw [l5]; exact Fr.app Nc2 Nq5
      refine Go.trans st5 ?_
      refine Go.step (fun _ kt_ => XS.astore X5.here hx rfl (hb hby at_55) rfl rfl (l' := #[.val (.long x0), .second, .val (.long x1), .second, .val (.long x2), .second, .val (.int x3), .val (.int k), .val (.int (0 : Int32)), .val (.int sg), .val (.long q), .second, .val (.ref b3), .unset, .unset, .unset, .unset, .unset, .unset, .unset]) rfl kt_) ?_
      refine Go.step (fun _ kt_ => XS.aload X5.here hx rfl (hb hby at_57) rfl rfl kt_) ?_
      obtain ⟨cq6, kq6, q6a, q6b, q6c⟩ := isOf hZc2 rfl (A3.keep Kq5)
      obtain ⟨_, _, ⟨T6, L6, k6, n6⟩, -, X6, ⟨Lc6, hQ6, l6, y6, z6⟩, st6⟩ := X5.virtualBack hx (y := (⟨"org/matchstone/engine/BookSide", "walk", "()Lorg/matchstone/engine/BookSide$Walk;"⟩ : MethodName)) (z := (⟨"org/matchstone/engine/BookSide", "walk", "()Lorg/matchstone/engine/BookSide$Walk;"⟩ : MethodName)) hownc2 (mvT hZc2 (wd hw 132 rfl)) (mvT hZc2 (wd hw 133 rfl)) (notFace_of_selects (args := #[]) (mvT hZc2 (wd hw 135 rfl))) (mvT hZc2 (wd hw 135 rfl)) (mvT hZc2 (wd hw 134 rfl)) (by decide) (backOf (W := 0) (rm_a16_0 l Z a0 hw []  b3 T5.heap O5_ ) hZc2 (wd hw 136 rfl) (wd hw 3 rfl) (by decide) (by decide)) q6a q6c (g := (mkF m 59 #[.val (.long x0), .second, .val (.long x1), .second, .val (.long x2), .second, .val (.int x3), .val (.int k), .val (.int (0 : Int32)), .val (.int sg), .val (.long q), .second, .val (.ref b3), .unset, .unset, .unset, .unset, .unset, .unset, .unset] [(.ref b3)])) rfl (by rw [hml]; rfl) (Steps.refl _) (argsL := []) (rest := []) (lenOf pd_LRLorg_matchstone_engine_BookSideSWalk_ rfl) rfl (by show 2 * 0 + _ ≤ _; exact Nat.le_of_eq rfl) (hb hby at_59) (fun _ _ => ⟨rfl, rfl, (by decide : 9 + 1 ≤ _), (by decide : 45 + 5 ≤ _)⟩)
      dsimp only [Pt.U, Pt.locs, Pt.cells, Pt.slots] at X6 l6 y6 z6 st6 hQ6
      subst y6 z6
      obtain ⟨b1q6, rfl, Nq6, Kq6, p6_0, p6_1, p6_2, p6_3, p6_4, p6_5⟩ := hQ6
      have O6_ : Ext Z.heap T6.heap := extKeep O5_ Kq6 all0
      have N6_ : Fr Z.heap.size L6 := by rw [l6]; exact Fr.app N5_ Nq6
      have g_b1q6 : Z.heap.size ≤ b1q6 := Nat.le_trans O5_.1 p6_0
      refine Go.trans st6 ?_
      refine Go.step (fun _ kt_ => XS.astore X6.here hx rfl (hb hby at_62) rfl rfl (l' := #[.val (.long x0), .second, .val (.long x1), .second, .val (.long x2), .second, .val (.int x3), .val (.int k), .val (.int (0 : Int32)), .val (.int sg), .val (.long q), .second, .val (.ref b3), .val (.ref b1q6), .unset, .unset, .unset, .unset, .unset, .unset]) rfl kt_) ?_
      obtain ⟨a7, T7, h7, k7, X7, e7, E7, S7, kq7, hZ7, hown7, st7⟩ := ldcS X6 hx hZc2 hownc2 (wd hw 146 rfl) wS rfl Sc2 (Nat.le_trans (Nat.le_trans (Nat.le_trans kkc2 E3.1) Kq5.1) Kq6.1) (g := (mkF m 64 #[.val (.long x0), .second, .val (.long x1), .second, .val (.long x2), .second, .val (.int x3), .val (.int k), .val (.int (0 : Int32)), .val (.int sg), .val (.long q), .second, .val (.ref b3), .val (.ref b1q6), .unset, .unset, .unset, .unset, .unset, .unset] [])) rfl (hb hby at_64) (n := 4) (by decide) (by decide) (by decide) (by decide)
      have O7_ : Ext Z.heap h7 := extTr O6_ E7
      refine Go.step st7 ?_
      obtain ⟨T8, X8, e8, st8⟩ := getS2 X7 hx hZ7 hown7 (host := "") (Or.inl (wd hw 4 rfl)) Via.refl e7 (Sta.ext O7_ S_B) (g := (mkF m 66 #[.val (.long x0), .second, .val (.long x1), .second, .val (.long x2), .second, .val (.int x3), .val (.int k), .val (.int (0 : Int32)), .val (.int sg), .val (.long q), .second, .val (.ref b3), .val (.ref b1q6), .unset, .unset, .unset, .unset, .unset, .unset] [(.ref a7)])) rfl (hb hby at_66)
      refine Go.step st8 ?_
      refine Go.step (fun _ kt_ => XS.lloadN X8.here hx rfl (hb hby at_69) rfl kt_) ?_
      refine Go.step (X8.ldc2Long hx hown7 (mvT hZ7 (wd hw 154 rfl)) (g := (mkF m 70 #[.val (.long x0), .second, .val (.long x1), .second, .val (.long x2), .second, .val (.int x3), .val (.int k), .val (.int (0 : Int32)), .val (.int sg), .val (.long q), .second, .val (.ref b3), .val (.ref b1q6), .unset, .unset, .unset, .unset, .unset, .unset] [(.long x1), (.ref bA), (.ref a7)])) rfl (hb hby at_70)) ?_
      obtain ⟨_, _, ⟨T9, L9, k9, n9⟩, -, X9, Sq9, gq9, ⟨Lc9, hQ9, l9, y9, z9⟩, st9⟩ := callSS X8 hx (y := (⟨"org/matchstone/engine/NewOrder", "limit", "(Ljava/lang/String;Lorg/matchstone/engine/Side;JJ)Lorg/matchstone/engine/NewOrder;"⟩ : MethodName)) hown7 (mvT hZ7 (wd hw 155 rfl)) (mvT hZ7 (wd hw 156 rfl)) (mvT hZ7 (wd hw 157 rfl)) (mvT hZ7 (wd hw 158 rfl)) (by decide) (backOfS (W := 0) (rm_a18_0 l Z a0 hw []  a7 bA x1 (100 : Int64) dA h7 O7_ S_D) hZ7 (wd hw 158 rfl) (wd hw 157 rfl) (by decide) (by decide)) (g := (mkF m 73 #[.val (.long x0), .second, .val (.long x1), .second, .val (.long x2), .second, .val (.int x3), .val (.int k), .val (.int (0 : Int32)), .val (.int sg), .val (.long q), .second, .val (.ref b3), .val (.ref b1q6), .unset, .unset, .unset, .unset, .unset, .unset] [(.long (100 : Int64)), (.long x1), (.ref bA), (.ref a7)])) rfl (by rw [hml]; rfl) (argsL := [(.ref a7), (.ref bA), (.long x1), (.long (100 : Int64))]) (rest := []) (lenOf pd_LLjava_lang_String_Lorg_matchstone_engine_Side_JJRLorg_matchstone_engine_NewOrder_ rfl) rfl (by show 2 * 0 + _ ≤ _; exact Nat.le_of_eq rfl) (hb hby at_73) (fun _ _ => ⟨rfl, e8, (by decide : 12 + 8 ≤ _), (by decide : 58 + 104 ≤ _)⟩)
      dsimp only [Pt.U, Pt.locs, Pt.cells, Pt.slots] at X9 l9 y9 z9 st9 hQ9 Sq9 gq9
      subst y9 z9
      obtain ⟨X9, S9, hZ9, hown9⟩ := rebS S7 ((congrArg Array.size e8).symm ▸ kq7) X9 Sq9 gq9 hZ7 hown7
      obtain ⟨b1q3q9, rfl, Nq9, Kq9, p9_0, p9_1, p9_2, p9_3, p9_4, p9_5, p9_6, p9_7, p9_8, p9_9, p9_10, p9_11, p9_12, p9_13⟩ := hQ9
      have O9_ : Ext Z.heap T9.heap := extKeep O7_ Kq9 all0
      have N9_ : Fr Z.heap.size L9 := by rw [l9]; exact Fr.app N6_ Nq9
      have g_b1q3q9 : Z.heap.size ≤ b1q3q9 := Nat.le_trans O7_.1 p9_0
      refine Go.trans st9 ?_
      refine Go.step (fun _ kt_ => XS.iconst X9.here hx rfl (hb hby at_76)  kt_) ?_
      obtain ⟨cq10, kq10, q10a, q10b, q10c⟩ := isOf hZ9 rfl p9_1
      obtain ⟨_, _, ⟨T10, L10, k10, n10⟩, -, X10, Sq10, gq10, ⟨Lc10, hQ10, l10, y10, z10⟩, st10⟩ := X9.virtualBackS hx (y := (⟨"org/matchstone/engine/NewOrder", "withDisplayed", "(Z)Lorg/matchstone/engine/NewOrder;"⟩ : MethodName)) (z := (⟨"org/matchstone/engine/NewOrder", "withDisplayed", "(Z)Lorg/matchstone/engine/NewOrder;"⟩ : MethodName)) hown9 (mvT hZ9 (wd hw 240 rfl)) (mvT hZ9 (wd hw 241 rfl)) (notFace_of_selects (args := #[]) (mvT hZ9 (wd hw 243 rfl))) (mvT hZ9 (wd hw 243 rfl)) (mvT hZ9 (wd hw 242 rfl)) (by decide) (backOfS (W := 0) (rm_a24_0 l Z a0 hw []  b1q3q9 a7 bA x1 dA T9.heap O9_ p9_2 p9_3 p9_4 p9_5 S_D p9_6 p9_7 p9_8 p9_9 p9_10 p9_11 p9_12 p9_13) hZ9 (wd hw 244 rfl) (wd hw 157 rfl) (by decide) (by decide)) q10a q10c (g := (mkF m 77 #[.val (.long x0), .second, .val (.long x1), .second, .val (.long x2), .second, .val (.int x3), .val (.int k), .val (.int (0 : Int32)), .val (.int sg), .val (.long q), .second, .val (.ref b3), .val (.ref b1q6), .unset, .unset, .unset, .unset, .unset, .unset] [(.int (0 : Int32)), (.ref b1q3q9)])) rfl (by rw [hml]; rfl) (Steps.refl _) (argsL := [(.int (0 : Int32))]) (rest := []) (lenOf pd_LZRLorg_matchstone_engine_NewOrder_ rfl) rfl (by show 2 * 0 + _ ≤ _; exact Nat.le_of_eq rfl) (hb hby at_77) (fun _ _ => ⟨rfl, rfl, (by decide : 20 + 8 ≤ _), (by decide : 162 + 104 ≤ _)⟩)
      dsimp only [Pt.U, Pt.locs, Pt.cells, Pt.slots] at X10 l10 y10 z10 st10 hQ10 Sq10 gq10
      subst y10 z10
      obtain ⟨X10, S10, hZ10, hown10⟩ := rebS S9 ((Nat.le_refl _)) X10 Sq10 gq10 hZ9 hown9
      obtain ⟨b1q5q10, rfl, Nq10, Kq10, p10_0, p10_1, p10_2, p10_3, p10_4, p10_5, p10_6, p10_7, p10_8, p10_9, p10_10, p10_11, p10_12, p10_13⟩ := hQ10
      have O10_ : Ext Z.heap T10.heap := extKeep O9_ Kq10 all0
      have N10_ : Fr Z.heap.size L10 := by rw [l10]; exact Fr.app N9_ Nq10
      have g_b1q5q10 : Z.heap.size ≤ b1q5q10 := Nat.le_trans O9_.1 p10_0
      refine Go.trans st10 ?_
      refine Go.step (fun _ kt_ => XS.astore X10.here hx rfl (hb hby at_80) rfl rfl (l' := #[.val (.long x0), .second, .val (.long x1), .second, .val (.long x2), .second, .val (.int x3), .val (.int k), .val (.int (0 : Int32)), .val (.int sg), .val (.long q), .second, .val (.ref b3), .val (.ref b1q6), .val (.ref b1q5q10), .unset, .unset, .unset, .unset, .unset]) rfl kt_) ?_
      show Go _ _ _ _ _ _ _ _ T10 (mkF m 82 #[.val (.long x0), .second, .val (.long x1), .second, .val (.long x2), .second, .val (.int x3), .val (.int k), .val (.int (0 : Int32)), .val (.int sg), .val (.long q), .second, .val (.ref b3), .val (.ref b1q6), .val (.ref b1q5q10), .unset, .unset, .unset, .unset, .unset] [])
      have cont131_0 : ∀ (Tc13 : State) (Lc13 : List Loc) (vmc13 : Vm) (hc13 : Heap) (Xc13 : Stand p l e room_1 (s.setVm vmc13) m #[(.long x0), (.long x1), (.long x2), (.int x3)] below meth c Tc13 Lc13 40 2000) (ec13 : Tc13.heap = hc13) (Oc13 : Ext Z.heap hc13) (Nc13 : Fr Z.heap.size Lc13) (hZc13 : Z.Warmed39 (s.setVm vmc13).vm) (hownc13 : (s.setVm vmc13).vm.findClass "org/matchstone/engine/WalkNextBehindPinLaw" = some m.cls) (kc13 : Nat) (Sc13 : s.Since vmc13 kc13) (kkc13 : kc13 ≤ hc13.size) (yc13_8 : Int32) (yc13_15 : Addr) (wc13_1 : Int32) (wc13_2 : Int64) (r0 : dA ≠ iA) (r1 : Exa Z hc13 yc13_15 "org/matchstone/engine/BookSide$Order") (r2 : fl_32 Z hc13 yc13_15 .null) (r3 : Z.heap.size ≤ yc13_15) (r4 : Exa Z hc13 b1q6 "org/matchstone/engine/BookSide$Walk") (r5 : fl_0 Z hc13 b1q6 .null) (r6 : b1q6 ≠ yc13_15) (r7 : fl_1 Z hc13 b1q6 .null) (r8 : fl_2 Z hc13 b1q6 .null) (r9 : fl_3 Z hc13 b1q6 (.int wc13_1)) (r10 : fl_29 Z hc13 yc13_15 (.long wc13_2)) (r11 : (lcmpW wc13_2 (0 : Int64)) = (0 : Int32)) (r12 : fl_31 Z hc13 yc13_15 (.long x1)) (r13 : yc13_8 = (0 : Int32)), Go ReturnedEndW p e below s (room_1).cells (room_1).slots (Q_0 Z  h0) Tc13 (mkF m 131 #[.val (.long x0), .second, .val (.long x1), .second, .val (.long x2), .second, .val (.int x3), .val (.int k), .val (.int yc13_8), .val (.int sg), .val (.long q), .second, .val (.ref b3), .val (.ref b1q6), .val (.ref b1q5q10), .val (.ref yc13_15), .unset, .unset, .unset, .unset] []) := by
        intro Tc13 Lc13 vmc13 hc13 Xc13 ec13 Oc13 Nc13 hZc13 hownc13 kc13 Sc13 kkc13 yc13_8 yc13_15 wc13_1 wc13_2 r0 r1 r2 r3 r4 r5 r6 r7 r8 r9 r10 r11 r12 r13
        have cont159_01 : ∀ (Tc19 : State) (Lc19 : List Loc) (vmc19 : Vm) (hc19 : Heap) (Xc19 : Stand p l e room_1 (s.setVm vmc19) m #[(.long x0), (.long x1), (.long x2), (.int x3)] below meth c Tc19 Lc19 58 4000) (ec19 : Tc19.heap = hc19) (Oc19 : Ext Z.heap hc19) (Nc19 : Fr Z.heap.size Lc19) (hZc19 : Z.Warmed39 (s.setVm vmc19).vm) (hownc19 : (s.setVm vmc19).vm.findClass "org/matchstone/engine/WalkNextBehindPinLaw" = some m.cls) (kc19 : Nat) (Sc19 : s.Since vmc19 kc19) (kkc19 : kc19 ≤ hc19.size) (yc19_16 : Addr) (wc19_1 : Addr) (wc19_2 : Int64) (wc19_3 : Int32) (wc19_4 : Int32) (wc19_5 : Int32) (wc19_6 : Int32) (wc19_7 : Int64) (rc19_0 : Exa Z hc19 yc19_16 "org/matchstone/engine/NewOrder") (rc19_1 : fl_16 Z hc19 yc19_16 (.ref wc19_1)) (rc19_2 : fl_17 Z hc19 yc19_16 (.ref bA)) (rc19_3 : fl_19 Z hc19 yc19_16 (.long wc19_2)) (rc19_4 : fl_26 Z hc19 yc19_16 .null) (rc19_5 : fl_22 Z hc19 yc19_16 (.int wc19_3)) (rc19_6 : fl_23 Z hc19 yc19_16 (.int wc19_4)) (rc19_7 : fl_24 Z hc19 yc19_16 (.int wc19_5)) (rc19_8 : fl_25 Z hc19 yc19_16 (.int wc19_6)) (rc19_9 : fl_20 Z hc19 yc19_16 (.ref dA)) (rc19_10 : dA ≠ iA) (rc19_11 : fl_27 Z hc19 yc19_16 .null) (rc19_12 : fl_18 Z hc19 yc19_16 (.long wc19_7)) (rc19_13 : k = (1 : Int32)) (rc19_14 : Exa Z hc19 yc13_15 "org/matchstone/engine/BookSide$Order") (rc19_15 : fl_32 Z hc19 yc13_15 .null) (rc19_16 : Z.heap.size ≤ yc13_15) (rc19_17 : Exa Z hc19 b1q6 "org/matchstone/engine/BookSide$Walk") (rc19_18 : ¬ ((((wc19_3 &&& (1 : Int32)) &&& 1)) = (0 : Int32))) (rc19_19 : fl_0 Z hc19 b1q6 .null) (rc19_20 : b1q6 ≠ yc13_15) (rc19_21 : fl_1 Z hc19 b1q6 .null) (rc19_22 : fl_2 Z hc19 b1q6 .null) (rc19_23 : fl_3 Z hc19 b1q6 (.int wc13_1)), Go ReturnedEndW p e below s (room_1).cells (room_1).slots (Q_0 Z  h0) Tc19 (mkF m 159 #[.val (.long x0), .second, .val (.long x1), .second, .val (.long x2), .second, .val (.int x3), .val (.int k), .val (.int yc13_8), .val (.int sg), .val (.long q), .second, .val (.ref b3), .val (.ref b1q6), .val (.ref b1q5q10), .val (.ref yc13_15), .val (.ref yc19_16), .unset, .unset, .unset] []) := by
          intro Tc19 Lc19 vmc19 hc19 Xc19 ec19 Oc19 Nc19 hZc19 hownc19 kc19 Sc19 kkc19 yc19_16 wc19_1 wc19_2 wc19_3 wc19_4 wc19_5 wc19_6 wc19_7 rc19_0 rc19_1 rc19_2 rc19_3 rc19_4 rc19_5 rc19_6 rc19_7 rc19_8 rc19_9 rc19_10 rc19_11 rc19_12 rc19_13 rc19_14 rc19_15 rc19_16 rc19_17 rc19_18 rc19_19 rc19_20 rc19_21 rc19_22 rc19_23
          obtain ⟨T20, h20, X20, e20, E20, A20, D20, U20, st20⟩ := newO Xc19 hx hZc19 hownc19 (wd hw 262 rfl) (wd hw 263 rfl) (wd hw 264 rfl) ec19 (g := (mkF m 159 #[.val (.long x0), .second, .val (.long x1), .second, .val (.long x2), .second, .val (.int x3), .val (.int k), .val (.int yc13_8), .val (.int sg), .val (.long q), .second, .val (.ref b3), .val (.ref b1q6), .val (.ref b1q5q10), .val (.ref yc13_15), .val (.ref yc19_16), .unset, .unset, .unset] [])) rfl (hb hby at_159) (by decide) (by decide)
          obtain ⟨b20, hb20⟩ : ∃ z, z = hc19.size := ⟨_, rfl⟩
          rw [← hb20] at A20 D20 U20 st20
          refine Go.step st20 ?_
          have g_b20 : Z.heap.size ≤ b20 := Nat.le_trans Oc19.1 (Nat.le_of_eq hb20.symm)
          have O20_ : Ext Z.heap h20 := extTr Oc19 E20
          have F20_id : fl_35 Z h20 b20 .null := D20 (Or.inr (wd hw 276 rfl)) (ty := (.object "java/lang/String")) pf_Ljava_lang_String_
          have F20_side : fl_36 Z h20 b20 .null := D20 (Or.inr (wd hw 283 rfl)) (ty := (.object "org/matchstone/engine/Side")) pf_Lorg_matchstone_engine_Side_
          have F20_price : fl_33 Z h20 b20 (.long (0 : Int64)) := D20 (Or.inl (wd hw 285 rfl)) (ty := .long) pf_J
          have F20_limit : fl_37 Z h20 b20 (.long (0 : Int64)) := D20 (Or.inr (wd hw 292 rfl)) (ty := .long) pf_J
          have F20_peg : fl_38 Z h20 b20 .null := D20 (Or.inr (wd hw 299 rfl)) (ty := (.object "org/matchstone/engine/Peg")) pf_Lorg_matchstone_engine_Peg_
          have F20_displayed : fl_28 Z h20 b20 (.int (0 : Int32)) := D20 (Or.inr (wd hw 306 rfl)) (ty := .boolean) pf_Z
          have F20_postOnly : fl_39 Z h20 b20 (.int (0 : Int32)) := D20 (Or.inr (wd hw 313 rfl)) (ty := .boolean) pf_Z
          have F20_swap : fl_40 Z h20 b20 (.int (0 : Int32)) := D20 (Or.inr (wd hw 320 rfl)) (ty := .boolean) pf_Z
          have F20_superAggressive : fl_41 Z h20 b20 (.int (0 : Int32)) := D20 (Or.inr (wd hw 327 rfl)) (ty := .boolean) pf_Z
          have F20_immediateOrCancel : fl_42 Z h20 b20 (.int (0 : Int32)) := D20 (Or.inr (wd hw 336 rfl)) (ty := .boolean) pf_Z
          have F20_start : fl_43 Z h20 b20 .null := D20 (Or.inr (wd hw 338 rfl)) (ty := (.object "java/time/LocalTime")) pf_Ljava_time_LocalTime_
          have F20_end : fl_44 Z h20 b20 .null := D20 (Or.inr (wd hw 340 rfl)) (ty := (.object "java/time/LocalTime")) pf_Ljava_time_LocalTime_
          have F20_priority : fl_34 Z h20 b20 (.long (0 : Int64)) := D20 (Or.inl (wd hw 342 rfl)) (ty := .long) pf_J
          have F20_entered : fl_45 Z h20 b20 (.long (0 : Int64)) := D20 (Or.inr (wd hw 344 rfl)) (ty := .long) pf_J
          have F20_minQuantity : fl_29 Z h20 b20 (.long (0 : Int64)) := D20 (Or.inr (wd hw 351 rfl)) (ty := .long) pf_J
          have F20_singleOrderMinimum : fl_46 Z h20 b20 (.int (0 : Int32)) := D20 (Or.inr (wd hw 353 rfl)) (ty := .boolean) pf_Z
          have F20_open : fl_31 Z h20 b20 (.long (0 : Int64)) := D20 (Or.inl (wd hw 360 rfl)) (ty := .long) pf_J
          have F20_next : fl_30 Z h20 b20 .null := D20 (Or.inl (wd hw 396 rfl)) (ty := (.object "org/matchstone/engine/BookSide$Order")) pf_Lorg_matchstone_engine_BookSideSOrder_
          have F20_previous : fl_32 Z h20 b20 .null := D20 (Or.inl (wd hw 399 rfl)) (ty := (.object "org/matchstone/engine/BookSide$Order")) pf_Lorg_matchstone_engine_BookSideSOrder_
          refine Go.step (fun _ kt_ => XS.dup X20.here hx rfl (hb hby at_162) rfl rfl kt_) ?_
          refine Go.step (fun _ kt_ => XS.aload X20.here hx rfl (hb hby at_163) rfl rfl kt_) ?_
          refine Go.step (X20.ldc2Long hx hownc19 (mvT hZc19 (wd hw 154 rfl)) (g := (mkF m 165 #[.val (.long x0), .second, .val (.long x1), .second, .val (.long x2), .second, .val (.int x3), .val (.int k), .val (.int yc13_8), .val (.int sg), .val (.long q), .second, .val (.ref b3), .val (.ref b1q6), .val (.ref b1q5q10), .val (.ref yc13_15), .val (.ref yc19_16), .unset, .unset, .unset] [(.ref yc19_16), (.ref b20), (.ref b20)])) rfl (hb hby at_165)) ?_
          refine Go.step (fun _ kt_ => XS.aconstNull X20.here hx rfl (hb hby at_168)  kt_) ?_
          refine Go.step (fun _ kt_ => XS.aconstNull X20.here hx rfl (hb hby at_169)  kt_) ?_
          refine Go.step (fun _ kt_ => XS.lconst X20.here hx rfl (hb hby at_170)  kt_) ?_
          obtain ⟨_, _, ⟨T21, L21, k21, n21⟩, -, X21, ⟨Lc21, hQ21, l21, y21, z21⟩, st21⟩ := X20.specialBack hx (y := (⟨"org/matchstone/engine/BookSide$Order", "<init>", "(Lorg/matchstone/engine/NewOrder;JLjava/time/LocalTime;Ljava/time/LocalTime;J)V"⟩ : MethodName)) rfl hownc19 (mvT hZc19 (wd hw 266 rfl)) (mvT hZc19 (wd hw 267 rfl)) (mvT hZc19 (wd hw 268 rfl)) (by decide) (backOf (W := 1) (rm_a26_0 l Z a0 hw []  b20 yc19_16 (100 : Int64) (1 : Int64) wc19_1 bA (0 : Int64) wc19_2 (0 : Int64) wc19_3 (0 : Int32) wc19_4 (0 : Int32) wc19_5 (0 : Int32) wc19_6 (0 : Int32) dA iA (0 : Int32) (0 : Int64) (0 : Int64) (0 : Int64) (0 : Int32) wc19_7 (0 : Int64) h20 O20_ (Exa.ext E20 rc19_0) (Fld.ext E20 rc19_1) A20 F20_id g_b20 (Fld.ext E20 rc19_2) (Nat.ne_of_lt (Nat.lt_of_lt_of_le rc19_0.lt (Nat.le_of_eq hb20.symm))) F20_side F20_price (Fld.ext E20 rc19_3) F20_limit (Fld.ext E20 rc19_4) F20_peg (Fld.ext E20 rc19_5) F20_displayed (Fld.ext E20 rc19_6) F20_postOnly (Fld.ext E20 rc19_7) F20_swap (Fld.ext E20 rc19_8) F20_superAggressive (Fld.ext E20 rc19_9) S_I rc19_10 F20_immediateOrCancel F20_start F20_end F20_priority F20_entered (Fld.ext E20 rc19_11) F20_minQuantity F20_singleOrderMinimum (Fld.ext E20 rc19_12) F20_open F20_next F20_previous) hZc19 (wd hw 268 rfl) (wd hw 264 rfl) (by decide) (by decide)) (g := (mkF m 171 #[.val (.long x0), .second, .val (.long x1), .second, .val (.long x2), .second, .val (.int x3), .val (.int k), .val (.int yc13_8), .val (.int sg), .val (.long q), .second, .val (.ref b3), .val (.ref b1q6), .val (.ref b1q5q10), .val (.ref yc13_15), .val (.ref yc19_16), .unset, .unset, .unset] [(.long (1 : Int64)), .null, .null, (.long (100 : Int64)), (.ref yc19_16), (.ref b20), (.ref b20)])) rfl (by rw [hml]; rfl) (Steps.refl _) (a := b20) (argsL := [(.ref yc19_16), (.long (100 : Int64)), .null, .null, (.long (1 : Int64))]) (rest := [(.ref b20)]) (lenOf pd_LLorg_matchstone_engine_NewOrder_JLjava_time_LocalTime_Ljava_time_LocalTime_JRV rfl) rfl (by show 2 * 0 + _ ≤ _; exact Nat.le_of_eq rfl) (hb hby at_171) (fun _ _ => ⟨rfl, e20, (by decide : 59 + 0 ≤ _), (by decide : 4023 + 0 ≤ _)⟩)
          dsimp only [Pt.U, Pt.locs, Pt.cells, Pt.slots] at X21 l21 y21 z21 st21 hQ21
          subst y21 z21
          obtain ⟨rfl, Nq21, Kq21, p21_0, p21_1, p21_2, p21_3, p21_4, p21_5, p21_6⟩ := hQ21
          have O21_ : Ext Z.heap T21.heap := extKeep O20_ Kq21 (allS g_b20 all0)
          have N21_ : Fr Z.heap.size L21 := by rw [l21]; exact Fr.app Nc19 Nq21
          refine Go.trans st21 ?_
          refine Go.step (fun _ kt_ => XS.astore X21.here hx rfl (hb hby at_174) rfl rfl (l' := #[.val (.long x0), .second, .val (.long x1), .second, .val (.long x2), .second, .val (.int x3), .val (.int k), .val (.int yc13_8), .val (.int sg), .val (.long q), .second, .val (.ref b3), .val (.ref b1q6), .val (.ref b1q5q10), .val (.ref yc13_15), .val (.ref yc19_16), .val (.ref b20), .unset, .unset]) rfl kt_) ?_
          show Go _ _ _ _ _ _ _ _ T21 (mkF m 176 #[.val (.long x0), .second, .val (.long x1), .second, .val (.long x2), .second, .val (.int x3), .val (.int k), .val (.int yc13_8), .val (.int sg), .val (.long q), .second, .val (.ref b3), .val (.ref b1q6), .val (.ref b1q5q10), .val (.ref yc13_15), .val (.ref yc19_16), .val (.ref b20), .unset, .unset] [])
          rcases hk with hk | hk | hk | hk
          · exact absurd (hk.symm.trans rc19_13) (by decide)
          · subst hk
            show Go _ _ _ _ _ _ _ _ T21 (mkF m 176 #[.val (.long x0), .second, .val (.long x1), .second, .val (.long x2), .second, .val (.int x3), .val (.int (1 : Int32)), .val (.int yc13_8), .val (.int sg), .val (.long q), .second, .val (.ref b3), .val (.ref b1q6), .val (.ref b1q5q10), .val (.ref yc13_15), .val (.ref yc19_16), .val (.ref b20), .unset, .unset] [])
            refine Go.step (fun _ kt_ => XS.iload X21.here hx rfl (hb hby at_176) rfl kt_) ?_
            refine Go.step (fun _ kt_ => XS.iconst X21.here hx rfl (hb hby at_178)  kt_) ?_
            refine Go.step (fun _ kt_ => XS.icmpNo X21.here hx rfl (hb hby at_179) rfl (feq (by decide : ¬ ((1 : Int32) = (2 : Int32)))).1 kt_) ?_
            refine Go.step (fun _ kt_ => XS.aload X21.here hx rfl (hb hby at_182) rfl rfl kt_) ?_
            refine Go.step (fun _ kt_ => XS.aload X21.here hx rfl (hb hby at_184) rfl rfl kt_) ?_
            obtain ⟨T22, h22, X22, e22, W22, st22⟩ := putF X21 hx hZc19 hownc19 (host := "") (Or.inl (wd hw 397 rfl)) Via.refl rfl p21_2 (A20.keep Kq21) (Or.inl (wd hw 396 rfl)) (wd hw 263 rfl) (ty := (.object "org/matchstone/engine/BookSide$Order")) pf_Lorg_matchstone_engine_BookSideSOrder_ rfl rfl (g := (mkF m 186 #[.val (.long x0), .second, .val (.long x1), .second, .val (.long x2), .second, .val (.int x3), .val (.int (1 : Int32)), .val (.int yc13_8), .val (.int sg), .val (.long q), .second, .val (.ref b3), .val (.ref b1q6), .val (.ref b1q5q10), .val (.ref yc13_15), .val (.ref yc19_16), .val (.ref b20), .unset, .unset] [(.ref yc13_15), (.ref b20)])) rfl rfl (hb hby at_186)
            refine Go.step st22 ?_
            have N22_ := Fr.snoc X22 N21_ g_b20
            have O22_ : Ext Z.heap h22 := extWr O21_ W22 g_b20
            have F22 := Fld.same W22 p21_2
            refine Go.step (fun _ kt_ => XS.aload X22.here hx rfl (hb hby at_189) rfl rfl kt_) ?_
            refine Go.step (fun _ kt_ => XS.aload X22.here hx rfl (hb hby at_191) rfl rfl kt_) ?_
            have f23 := (Exa.wr W22 ((Exa.ext E20 rc19_14).keep Kq21))
            have f24 := (Fld.other W22 ((Fld.ext E20 rc19_15).keep Kq21 (ninS (Nat.ne_of_lt (Nat.lt_of_lt_of_le rc19_14.lt (Nat.le_of_eq hb20.symm))) nin0)) (Or.inl (Nat.ne_of_lt (Nat.lt_of_lt_of_le rc19_14.lt (Nat.le_of_eq hb20.symm)))))
            obtain ⟨T25, h25, X25, e25, W25, st25⟩ := putF X22 hx hZc19 hownc19 (host := "") (Or.inl (wd hw 398 rfl)) Via.refl e22 f24 f23 (Or.inl (wd hw 399 rfl)) (wd hw 263 rfl) (ty := (.object "org/matchstone/engine/BookSide$Order")) pf_Lorg_matchstone_engine_BookSideSOrder_ rfl rfl (g := (mkF m 193 #[.val (.long x0), .second, .val (.long x1), .second, .val (.long x2), .second, .val (.int x3), .val (.int (1 : Int32)), .val (.int yc13_8), .val (.int sg), .val (.long q), .second, .val (.ref b3), .val (.ref b1q6), .val (.ref b1q5q10), .val (.ref yc13_15), .val (.ref yc19_16), .val (.ref b20), .unset, .unset] [(.ref b20), (.ref yc13_15)])) rfl rfl (hb hby at_193)
            refine Go.step st25 ?_
            have N25_ := Fr.snoc X25 N22_ rc19_16
            have O25_ : Ext Z.heap h25 := extWr O22_ W25 rc19_16
            have F25 := Fld.same W25 f24
            refine Go.step (fun _ kt_ => XS.iload X25.here hx rfl (hb hby at_196) rfl kt_) ?_
            refine Go.step (fun _ kt_ => XS.ifNo X25.here hx rfl (hb hby at_198) rfl ((if0 _ _).trans (feq (by decide : ¬ ((1 : Int32) = (0 : Int32)))).1) kt_) ?_
            refine Go.step (fun _ kt_ => XS.aload X25.here hx rfl (hb hby at_201) rfl rfl kt_) ?_
            refine Go.step (fun _ kt_ => XS.aload X25.here hx rfl (hb hby at_203) rfl rfl kt_) ?_
            have f26 := (Exa.wr W25 (Exa.wr W22 ((Exa.ext E20 rc19_17).keep Kq21)))
            have f27 := (Exa.wr W25 (Exa.wr W22 (A20.keep Kq21)))
            have f28 := (Fld.other W25 (Fld.other W22 p21_0 (Or.inr (Ne.symm (sn_293 hw)))) (Or.inl (Ne.symm (Nat.ne_of_lt (Nat.lt_of_lt_of_le rc19_14.lt (Nat.le_of_eq hb20.symm))))))
            have f29 := (Fld.other W25 (Fld.other W22 p21_5 (Or.inr (Ne.symm (sn_290 hw)))) (Or.inl (Ne.symm (Nat.ne_of_lt (Nat.lt_of_lt_of_le rc19_14.lt (Nat.le_of_eq hb20.symm))))))
            have f30 := (Fld.other W25 (Fld.other W22 ((Fld.ext E20 rc19_19).keep Kq21 (ninS (Nat.ne_of_lt (Nat.lt_of_lt_of_le rc19_17.lt (Nat.le_of_eq hb20.symm))) nin0)) (Or.inl (Nat.ne_of_lt (Nat.lt_of_lt_of_le rc19_17.lt (Nat.le_of_eq hb20.symm))))) (Or.inl rc19_20))
            have f31 := (Fld.other W25 (Fld.other W22 ((Fld.ext E20 rc19_21).keep Kq21 (ninS (Nat.ne_of_lt (Nat.lt_of_lt_of_le rc19_17.lt (Nat.le_of_eq hb20.symm))) nin0)) (Or.inl (Nat.ne_of_lt (Nat.lt_of_lt_of_le rc19_17.lt (Nat.le_of_eq hb20.symm))))) (Or.inl rc19_20))
            have f32 := (Fld.other W25 (Fld.other W22 ((Fld.ext E20 rc19_22).keep Kq21 (ninS (Nat.ne_of_lt (Nat.lt_of_lt_of_le rc19_17.lt (Nat.le_of_eq hb20.symm))) nin0)) (Or.inl (Nat.ne_of_lt (Nat.lt_of_lt_of_le rc19_17.lt (Nat.le_of_eq hb20.symm))))) (Or.inl rc19_20))
            have f33 := (Exa.wr W25 (Exa.wr W22 (A20.keep Kq21)))
            have f34 := (Fld.other W25 (Fld.other W22 p21_0 (Or.inr (Ne.symm (sn_293 hw)))) (Or.inl (Ne.symm (Nat.ne_of_lt (Nat.lt_of_lt_of_le rc19_14.lt (Nat.le_of_eq hb20.symm))))))
            have f35 := (Fld.other W25 (Fld.other W22 p21_5 (Or.inr (Ne.symm (sn_290 hw)))) (Or.inl (Ne.symm (Nat.ne_of_lt (Nat.lt_of_lt_of_le rc19_14.lt (Nat.le_of_eq hb20.symm))))))
            have f36 := (Fld.other W25 (Fld.other W22 ((Fld.ext E20 rc19_19).keep Kq21 (ninS (Nat.ne_of_lt (Nat.lt_of_lt_of_le rc19_17.lt (Nat.le_of_eq hb20.symm))) nin0)) (Or.inl (Nat.ne_of_lt (Nat.lt_of_lt_of_le rc19_17.lt (Nat.le_of_eq hb20.symm))))) (Or.inl rc19_20))
            have f37 := (Fld.other W25 (Fld.other W22 ((Fld.ext E20 rc19_21).keep Kq21 (ninS (Nat.ne_of_lt (Nat.lt_of_lt_of_le rc19_17.lt (Nat.le_of_eq hb20.symm))) nin0)) (Or.inl (Nat.ne_of_lt (Nat.lt_of_lt_of_le rc19_17.lt (Nat.le_of_eq hb20.symm))))) (Or.inl rc19_20))
            have f38 := (Fld.other W25 (Fld.other W22 ((Fld.ext E20 rc19_22).keep Kq21 (ninS (Nat.ne_of_lt (Nat.lt_of_lt_of_le rc19_17.lt (Nat.le_of_eq hb20.symm))) nin0)) (Or.inl (Nat.ne_of_lt (Nat.lt_of_lt_of_le rc19_17.lt (Nat.le_of_eq hb20.symm))))) (Or.inl rc19_20))
            have f39 := (Fld.other W25 (Fld.other W22 ((Fld.ext E20 rc19_23).keep Kq21 (ninS (Nat.ne_of_lt (Nat.lt_of_lt_of_le rc19_17.lt (Nat.le_of_eq hb20.symm))) nin0)) (Or.inl (Nat.ne_of_lt (Nat.lt_of_lt_of_le rc19_17.lt (Nat.le_of_eq hb20.symm))))) (Or.inl rc19_20))
            have f40 := (Exa.wr W25 (Exa.wr W22 (A20.keep Kq21)))
            have f41 := (Fld.other W25 (Fld.other W22 p21_0 (Or.inr (Ne.symm (sn_293 hw)))) (Or.inl (Ne.symm (Nat.ne_of_lt (Nat.lt_of_lt_of_le rc19_14.lt (Nat.le_of_eq hb20.symm))))))
            have f42 := (Fld.other W25 (Fld.other W22 p21_5 (Or.inr (Ne.symm (sn_290 hw)))) (Or.inl (Ne.symm (Nat.ne_of_lt (Nat.lt_of_lt_of_le rc19_14.lt (Nat.le_of_eq hb20.symm))))))
            have f43 := (Fld.other W25 (Fld.other W22 ((Fld.ext E20 rc19_19).keep Kq21 (ninS (Nat.ne_of_lt (Nat.lt_of_lt_of_le rc19_17.lt (Nat.le_of_eq hb20.symm))) nin0)) (Or.inl (Nat.ne_of_lt (Nat.lt_of_lt_of_le rc19_17.lt (Nat.le_of_eq hb20.symm))))) (Or.inl rc19_20))
            have f44 := (Fld.other W25 (Fld.other W22 ((Fld.ext E20 rc19_21).keep Kq21 (ninS (Nat.ne_of_lt (Nat.lt_of_lt_of_le rc19_17.lt (Nat.le_of_eq hb20.symm))) nin0)) (Or.inl (Nat.ne_of_lt (Nat.lt_of_lt_of_le rc19_17.lt (Nat.le_of_eq hb20.symm))))) (Or.inl rc19_20))
            have f45 := (Fld.other W25 (Fld.other W22 ((Fld.ext E20 rc19_22).keep Kq21 (ninS (Nat.ne_of_lt (Nat.lt_of_lt_of_le rc19_17.lt (Nat.le_of_eq hb20.symm))) nin0)) (Or.inl (Nat.ne_of_lt (Nat.lt_of_lt_of_le rc19_17.lt (Nat.le_of_eq hb20.symm))))) (Or.inl rc19_20))
            have f46 := (Fld.other W25 (Fld.other W22 ((Fld.ext E20 rc19_23).keep Kq21 (ninS (Nat.ne_of_lt (Nat.lt_of_lt_of_le rc19_17.lt (Nat.le_of_eq hb20.symm))) nin0)) (Or.inl (Nat.ne_of_lt (Nat.lt_of_lt_of_le rc19_17.lt (Nat.le_of_eq hb20.symm))))) (Or.inl rc19_20))
            obtain ⟨cq47, kq47, q47a, q47b, q47c⟩ := isOf hZc19 e25 f26
            obtain ⟨_, _, ⟨T47, L47, k47, n47⟩, -, X47, ⟨Lc47, hQ47, l47, y47, z47⟩, st47⟩ := X25.virtualBack hx (y := (⟨"org/matchstone/engine/BookSide$Walk", "step", "(Lorg/matchstone/engine/BookSide$Order;)V"⟩ : MethodName)) (z := (⟨"org/matchstone/engine/BookSide$Walk", "step", "(Lorg/matchstone/engine/BookSide$Order;)V"⟩ : MethodName)) hownc19 (mvT hZc19 (wd hw 362 rfl)) (mvT hZc19 (wd hw 363 rfl)) (notFace_of_selects (args := #[]) (mvT hZc19 (wd hw 365 rfl))) (mvT hZc19 (wd hw 365 rfl)) (mvT hZc19 (wd hw 364 rfl)) (by decide) (backOf (W := 0) (rm_a38_0 l Z a0 hw []  b1q6 b20 (((wc19_3 &&& (1 : Int32)) &&& 1)) (100 : Int64) wc13_1 h25 O25_ f41 rc19_18 f42 f26 f43 g_b1q6 (Ne.symm (Nat.ne_of_lt (Nat.lt_of_lt_of_le rc19_17.lt (Nat.le_of_eq hb20.symm)))) f44 f45 f46) hZc19 (wd hw 366 rfl) (wd hw 139 rfl) (by decide) (by decide)) q47a q47c (g := (mkF m 205 #[.val (.long x0), .second, .val (.long x1), .second, .val (.long x2), .second, .val (.int x3), .val (.int (1 : Int32)), .val (.int yc13_8), .val (.int sg), .val (.long q), .second, .val (.ref b3), .val (.ref b1q6), .val (.ref b1q5q10), .val (.ref yc13_15), .val (.ref yc19_16), .val (.ref b20), .unset, .unset] [(.ref b20), (.ref b1q6)])) rfl (by rw [hml]; rfl) (Steps.refl _) (argsL := [(.ref b20)]) (rest := []) (lenOf pd_LLorg_matchstone_engine_BookSideSOrder_RV rfl) rfl (by show 2 * 0 + _ ≤ _; exact Nat.le_of_eq rfl) (hb hby at_205) (fun _ _ => ⟨rfl, e25, (by decide : 59 + 1 ≤ _), (by decide : 4023 + 2 ≤ _)⟩)
            dsimp only [Pt.U, Pt.locs, Pt.cells, Pt.slots] at X47 l47 y47 z47 st47 hQ47
            subst y47 z47
            obtain ⟨b1q3q47, rfl, Nq47, Kq47, p47_0, p47_1, p47_2, p47_3, p47_4, p47_5⟩ := hQ47
            have O47_ : Ext Z.heap T47.heap := extKeep O25_ Kq47 (allS g_b1q6 all0)
            have N47_ : Fr Z.heap.size L47 := by rw [l47]; exact Fr.app N25_ Nq47
            have g_b1q3q47 : Z.heap.size ≤ b1q3q47 := Nat.le_trans O25_.1 p47_4
            refine Go.trans st47 ?_
            refine Go.step (fun _ kt_ => XS.aload X47.here hx rfl (hb hby at_208) rfl rfl kt_) ?_
            refine Go.step (fun _ kt_ => XS.lloadN X47.here hx rfl (hb hby at_210) rfl kt_) ?_
            show Go _ _ _ _ _ _ _ _ T47 (mkF m 211 #[.val (.long x0), .second, .val (.long x1), .second, .val (.long x2), .second, .val (.int x3), .val (.int (1 : Int32)), .val (.int yc13_8), .val (.int sg), .val (.long q), .second, .val (.ref b3), .val (.ref b1q6), .val (.ref b1q5q10), .val (.ref yc13_15), .val (.ref yc19_16), .val (.ref b20), .unset, .unset] [(.long x0), (.ref b1q6)])
            obtain ⟨cq48, kq48, q48a, q48b, q48c⟩ := isOf hZc19 rfl (f26.keep Kq47)
            obtain ⟨_, _, ⟨T48, L48, k48, n48⟩, -, X48, ⟨Lc48, hQ48, l48, y48, z48⟩, st48⟩ := X47.virtualBack hx (y := (⟨"org/matchstone/engine/BookSide$Walk", "nextBehind", "(J)Lorg/matchstone/engine/BookSide$Order;"⟩ : MethodName)) (z := (⟨"org/matchstone/engine/BookSide$Walk", "nextBehind", "(J)Lorg/matchstone/engine/BookSide$Order;"⟩ : MethodName)) hownc19 (mvT hZc19 (wd hw 390 rfl)) (mvT hZc19 (wd hw 391 rfl)) (notFace_of_selects (args := #[]) (mvT hZc19 (wd hw 393 rfl))) (mvT hZc19 (wd hw 393 rfl)) (mvT hZc19 (wd hw 392 rfl)) (by decide) (backOf (W := 0) (rm_a41_0 l Z a0 hw []  b1q6 x0 T47.heap O47_ p47_1) hZc19 (wd hw 394 rfl) (wd hw 139 rfl) (by decide) (by decide)) q48a q48c (g := (mkF m 211 #[.val (.long x0), .second, .val (.long x1), .second, .val (.long x2), .second, .val (.int x3), .val (.int (1 : Int32)), .val (.int yc13_8), .val (.int sg), .val (.long q), .second, .val (.ref b3), .val (.ref b1q6), .val (.ref b1q5q10), .val (.ref yc13_15), .val (.ref yc19_16), .val (.ref b20), .unset, .unset] [(.long x0), (.ref b1q6)])) rfl (by rw [hml]; rfl) (Steps.refl _) (argsL := [(.long x0)]) (rest := []) (lenOf pd_LJRLorg_matchstone_engine_BookSideSOrder_ rfl) rfl (by show 2 * 0 + _ ≤ _; exact Nat.le_of_eq rfl) (hb hby at_211) (fun _ _ => ⟨rfl, rfl, (by decide : 60 + 0 ≤ _), (by decide : 4025 + 0 ≤ _)⟩)
            dsimp only [Pt.U, Pt.locs, Pt.cells, Pt.slots] at X48 l48 y48 z48 st48 hQ48
            subst y48 z48
            obtain ⟨rfl, Nq48, e48⟩ := hQ48
            have N48_ : Fr Z.heap.size L48 := by rw [l48]; exact Fr.app N47_ Nq48
            refine Go.trans st48 ?_
            refine Go.step (fun _ kt_ => XS.astore X48.here hx rfl (hb hby at_214) rfl rfl (l' := #[.val (.long x0), .second, .val (.long x1), .second, .val (.long x2), .second, .val (.int x3), .val (.int (1 : Int32)), .val (.int yc13_8), .val (.int sg), .val (.long q), .second, .val (.ref b3), .val (.ref b1q6), .val (.ref b1q5q10), .val (.ref yc13_15), .val (.ref yc19_16), .val (.ref b20), .val .null, .unset]) rfl kt_) ?_
            refine Go.step (fun _ kt_ => XS.aconstNull X48.here hx rfl (hb hby at_216)  kt_) ?_
            refine Go.step (fun _ kt_ => XS.astore X48.here hx rfl (hb hby at_217) rfl rfl (l' := #[.val (.long x0), .second, .val (.long x1), .second, .val (.long x2), .second, .val (.int x3), .val (.int (1 : Int32)), .val (.int yc13_8), .val (.int sg), .val (.long q), .second, .val (.ref b3), .val (.ref b1q6), .val (.ref b1q5q10), .val (.ref yc13_15), .val (.ref yc19_16), .val (.ref b20), .val .null, .val .null]) rfl kt_) ?_
            refine Go.step (fun _ kt_ => XS.iload X48.here hx rfl (hb hby at_219) rfl kt_) ?_
            refine Go.step (fun _ kt_ => XS.iconst X48.here hx rfl (hb hby at_221)  kt_) ?_
            refine Go.step (fun _ kt_ => XS.icmpYes X48.here hx rfl (pc0 := 222) (pc' := 240) rfl (hb hby at_222) rfl (feq (by decide : ¬ ((1 : Int32) = (3 : Int32)))).2 (by decide) (by decide) kt_) ?_
            refine Go.step (fun _ kt_ => XS.aload X48.here hx rfl (hb hby at_240) rfl rfl kt_) ?_
            refine Go.step (fun _ kt_ => XS.aload X48.here hx rfl (hb hby at_242) rfl rfl kt_) ?_
            refine Go.step (fun _ kt_ => Jvm.RoadKit.acmp (g := (mkF m 244 #[.val (.long x0), .second, .val (.long x1), .second, .val (.long x2), .second, .val (.int x3), .val (.int (1 : Int32)), .val (.int yc13_8), .val (.int sg), .val (.long q), .second, .val (.ref b3), .val (.ref b1q6), .val (.ref b1q5q10), .val (.ref yc13_15), .val (.ref yc19_16), .val (.ref b20), .val .null, .val .null] [.null, .null])) X48 hx rfl rfl rfl (pc0 := 244) (pc' := 247) (same := true) rfl (hb hby at_244) rfl (decide_eq_true rfl) (by decide) (by decide) kt_) ?_
            show Go _ _ _ _ _ _ _ _ T48 (mkF m 247 #[.val (.long x0), .second, .val (.long x1), .second, .val (.long x2), .second, .val (.int x3), .val (.int (1 : Int32)), .val (.int yc13_8), .val (.int sg), .val (.long q), .second, .val (.ref b3), .val (.ref b1q6), .val (.ref b1q5q10), .val (.ref yc13_15), .val (.ref yc19_16), .val (.ref b20), .val .null, .val .null] [])
            refine Go.step (fun _ kt_ => XS.iconst X48.here hx rfl (hb hby at_247)  kt_) ?_
            refine Go.step (fun _ kt_ => XS.goto X48.here hx rfl (pc0 := 248) (pc' := 252) rfl (hb hby at_248) (by decide) (by decide) kt_) ?_
            show Go _ _ _ _ _ _ _ _ T48 (mkF m 252 #[.val (.long x0), .second, .val (.long x1), .second, .val (.long x2), .second, .val (.int x3), .val (.int (1 : Int32)), .val (.int yc13_8), .val (.int sg), .val (.long q), .second, .val (.ref b3), .val (.ref b1q6), .val (.ref b1q5q10), .val (.ref yc13_15), .val (.ref yc19_16), .val (.ref b20), .val .null, .val .null] [(.int (1 : Int32))])
            exact Go.retNW X48 Sc19 (by rw [e48]; exact (Nat.le_trans (Nat.le_trans (Nat.le_trans (Nat.le_trans (Nat.le_trans kkc19 E20.1) Kq21.1) (Keep.of_wr W22).1) (Keep.of_wr W25).1) Kq47.1)) hx (t := .boolean) hret (by simp) hlk (hb hby at_252) (by decide) (by decide) ⟨rfl, N48_, trivial⟩
          · exact absurd (hk.symm.trans rc19_13) (by decide)
          · exact absurd (hk.symm.trans rc19_13) (by decide)
        have cont159_00 : ∀ (Tc31 : State) (Lc31 : List Loc) (vmc31 : Vm) (hc31 : Heap) (Xc31 : Stand p l e room_1 (s.setVm vmc31) m #[(.long x0), (.long x1), (.long x2), (.int x3)] below meth c Tc31 Lc31 58 4000) (ec31 : Tc31.heap = hc31) (Oc31 : Ext Z.heap hc31) (Nc31 : Fr Z.heap.size Lc31) (hZc31 : Z.Warmed39 (s.setVm vmc31).vm) (hownc31 : (s.setVm vmc31).vm.findClass "org/matchstone/engine/WalkNextBehindPinLaw" = some m.cls) (kc31 : Nat) (Sc31 : s.Since vmc31 kc31) (kkc31 : kc31 ≤ hc31.size) (yc31_16 : Addr) (wc31_1 : Addr) (wc31_2 : Int64) (wc31_3 : Int32) (wc31_4 : Int32) (wc31_5 : Int32) (wc31_6 : Int32) (wc31_7 : Int64) (rc31_0 : Exa Z hc31 yc31_16 "org/matchstone/engine/NewOrder") (rc31_1 : fl_16 Z hc31 yc31_16 (.ref wc31_1)) (rc31_2 : fl_17 Z hc31 yc31_16 (.ref bA)) (rc31_3 : fl_19 Z hc31 yc31_16 (.long wc31_2)) (rc31_4 : fl_26 Z hc31 yc31_16 .null) (rc31_5 : fl_22 Z hc31 yc31_16 (.int wc31_3)) (rc31_6 : fl_23 Z hc31 yc31_16 (.int wc31_4)) (rc31_7 : fl_24 Z hc31 yc31_16 (.int wc31_5)) (rc31_8 : fl_25 Z hc31 yc31_16 (.int wc31_6)) (rc31_9 : fl_20 Z hc31 yc31_16 (.ref dA)) (rc31_10 : dA ≠ iA) (rc31_11 : fl_27 Z hc31 yc31_16 .null) (rc31_12 : fl_18 Z hc31 yc31_16 (.long wc31_7)) (rc31_13 : ¬ (k = (1 : Int32))) (rc31_14 : Exa Z hc31 yc13_15 "org/matchstone/engine/BookSide$Order") (rc31_15 : fl_32 Z hc31 yc13_15 .null) (rc31_16 : Z.heap.size ≤ yc13_15) (rc31_17 : Exa Z hc31 b1q6 "org/matchstone/engine/BookSide$Walk") (rc31_18 : fl_1 Z hc31 b1q6 .null) (rc31_19 : b1q6 ≠ yc13_15) (rc31_20 : (((wc31_3 &&& (1 : Int32)) &&& 1)) = (0 : Int32)) (rc31_21 : fl_0 Z hc31 b1q6 .null) (rc31_22 : fl_2 Z hc31 b1q6 .null) (rc31_23 : fl_3 Z hc31 b1q6 (.int wc13_1)) (rc31_24 : fl_29 Z hc31 yc13_15 (.long wc13_2)) (rc31_25 : (lcmpW wc13_2 (0 : Int64)) = (0 : Int32)) (rc31_26 : fl_31 Z hc31 yc13_15 (.long x1)) (rc31_27 : yc13_8 = (0 : Int32)), Go ReturnedEndW p e below s (room_1).cells (room_1).slots (Q_0 Z  h0) Tc31 (mkF m 159 #[.val (.long x0), .second, .val (.long x1), .second, .val (.long x2), .second, .val (.int x3), .val (.int k), .val (.int yc13_8), .val (.int sg), .val (.long q), .second, .val (.ref b3), .val (.ref b1q6), .val (.ref b1q5q10), .val (.ref yc13_15), .val (.ref yc31_16), .unset, .unset, .unset] []) := by
          intro Tc31 Lc31 vmc31 hc31 Xc31 ec31 Oc31 Nc31 hZc31 hownc31 kc31 Sc31 kkc31 yc31_16 wc31_1 wc31_2 wc31_3 wc31_4 wc31_5 wc31_6 wc31_7 rc31_0 rc31_1 rc31_2 rc31_3 rc31_4 rc31_5 rc31_6 rc31_7 rc31_8 rc31_9 rc31_10 rc31_11 rc31_12 rc31_13 rc31_14 rc31_15 rc31_16 rc31_17 rc31_18 rc31_19 rc31_20 rc31_21 rc31_22 rc31_23 rc31_24 rc31_25 rc31_26 rc31_27
          obtain ⟨T32, h32, X32, e32, E32, A32, D32, U32, st32⟩ := newO Xc31 hx hZc31 hownc31 (wd hw 262 rfl) (wd hw 263 rfl) (wd hw 264 rfl) ec31 (g := (mkF m 159 #[.val (.long x0), .second, .val (.long x1), .second, .val (.long x2), .second, .val (.int x3), .val (.int k), .val (.int yc13_8), .val (.int sg), .val (.long q), .second, .val (.ref b3), .val (.ref b1q6), .val (.ref b1q5q10), .val (.ref yc13_15), .val (.ref yc31_16), .unset, .unset, .unset] [])) rfl (hb hby at_159) (by decide) (by decide)
          obtain ⟨b32, hb32⟩ : ∃ z, z = hc31.size := ⟨_, rfl⟩
          rw [← hb32] at A32 D32 U32 st32
          refine Go.step st32 ?_
          have g_b32 : Z.heap.size ≤ b32 := Nat.le_trans Oc31.1 (Nat.le_of_eq hb32.symm)
          have O32_ : Ext Z.heap h32 := extTr Oc31 E32
          have F32_id : fl_35 Z h32 b32 .null := D32 (Or.inr (wd hw 276 rfl)) (ty := (.object "java/lang/String")) pf_Ljava_lang_String_
          have F32_side : fl_36 Z h32 b32 .null := D32 (Or.inr (wd hw 283 rfl)) (ty := (.object "org/matchstone/engine/Side")) pf_Lorg_matchstone_engine_Side_
          have F32_price : fl_33 Z h32 b32 (.long (0 : Int64)) := D32 (Or.inl (wd hw 285 rfl)) (ty := .long) pf_J
          have F32_limit : fl_37 Z h32 b32 (.long (0 : Int64)) := D32 (Or.inr (wd hw 292 rfl)) (ty := .long) pf_J
          have F32_peg : fl_38 Z h32 b32 .null := D32 (Or.inr (wd hw 299 rfl)) (ty := (.object "org/matchstone/engine/Peg")) pf_Lorg_matchstone_engine_Peg_
          have F32_displayed : fl_28 Z h32 b32 (.int (0 : Int32)) := D32 (Or.inr (wd hw 306 rfl)) (ty := .boolean) pf_Z
          have F32_postOnly : fl_39 Z h32 b32 (.int (0 : Int32)) := D32 (Or.inr (wd hw 313 rfl)) (ty := .boolean) pf_Z
          have F32_swap : fl_40 Z h32 b32 (.int (0 : Int32)) := D32 (Or.inr (wd hw 320 rfl)) (ty := .boolean) pf_Z
          have F32_superAggressive : fl_41 Z h32 b32 (.int (0 : Int32)) := D32 (Or.inr (wd hw 327 rfl)) (ty := .boolean) pf_Z
          have F32_immediateOrCancel : fl_42 Z h32 b32 (.int (0 : Int32)) := D32 (Or.inr (wd hw 336 rfl)) (ty := .boolean) pf_Z
          have F32_start : fl_43 Z h32 b32 .null := D32 (Or.inr (wd hw 338 rfl)) (ty := (.object "java/time/LocalTime")) pf_Ljava_time_LocalTime_
          have F32_end : fl_44 Z h32 b32 .null := D32 (Or.inr (wd hw 340 rfl)) (ty := (.object "java/time/LocalTime")) pf_Ljava_time_LocalTime_
          have F32_priority : fl_34 Z h32 b32 (.long (0 : Int64)) := D32 (Or.inl (wd hw 342 rfl)) (ty := .long) pf_J
          have F32_entered : fl_45 Z h32 b32 (.long (0 : Int64)) := D32 (Or.inr (wd hw 344 rfl)) (ty := .long) pf_J
          have F32_minQuantity : fl_29 Z h32 b32 (.long (0 : Int64)) := D32 (Or.inr (wd hw 351 rfl)) (ty := .long) pf_J
          have F32_singleOrderMinimum : fl_46 Z h32 b32 (.int (0 : Int32)) := D32 (Or.inr (wd hw 353 rfl)) (ty := .boolean) pf_Z
          have F32_open : fl_31 Z h32 b32 (.long (0 : Int64)) := D32 (Or.inl (wd hw 360 rfl)) (ty := .long) pf_J
          have F32_next : fl_30 Z h32 b32 .null := D32 (Or.inl (wd hw 396 rfl)) (ty := (.object "org/matchstone/engine/BookSide$Order")) pf_Lorg_matchstone_engine_BookSideSOrder_
          have F32_previous : fl_32 Z h32 b32 .null := D32 (Or.inl (wd hw 399 rfl)) (ty := (.object "org/matchstone/engine/BookSide$Order")) pf_Lorg_matchstone_engine_BookSideSOrder_
          refine Go.step (fun _ kt_ => XS.dup X32.here hx rfl (hb hby at_162) rfl rfl kt_) ?_
          refine Go.step (fun _ kt_ => XS.aload X32.here hx rfl (hb hby at_163) rfl rfl kt_) ?_
          refine Go.step (X32.ldc2Long hx hownc31 (mvT hZc31 (wd hw 154 rfl)) (g := (mkF m 165 #[.val (.long x0), .second, .val (.long x1), .second, .val (.long x2), .second, .val (.int x3), .val (.int k), .val (.int yc13_8), .val (.int sg), .val (.long q), .second, .val (.ref b3), .val (.ref b1q6), .val (.ref b1q5q10), .val (.ref yc13_15), .val (.ref yc31_16), .unset, .unset, .unset] [(.ref yc31_16), (.ref b32), (.ref b32)])) rfl (hb hby at_165)) ?_
          refine Go.step (fun _ kt_ => XS.aconstNull X32.here hx rfl (hb hby at_168)  kt_) ?_
          refine Go.step (fun _ kt_ => XS.aconstNull X32.here hx rfl (hb hby at_169)  kt_) ?_
          refine Go.step (fun _ kt_ => XS.lconst X32.here hx rfl (hb hby at_170)  kt_) ?_
          obtain ⟨_, _, ⟨T33, L33, k33, n33⟩, -, X33, ⟨Lc33, hQ33, l33, y33, z33⟩, st33⟩ := X32.specialBack hx (y := (⟨"org/matchstone/engine/BookSide$Order", "<init>", "(Lorg/matchstone/engine/NewOrder;JLjava/time/LocalTime;Ljava/time/LocalTime;J)V"⟩ : MethodName)) rfl hownc31 (mvT hZc31 (wd hw 266 rfl)) (mvT hZc31 (wd hw 267 rfl)) (mvT hZc31 (wd hw 268 rfl)) (by decide) (backOf (W := 1) (rm_a26_0 l Z a0 hw []  b32 yc31_16 (100 : Int64) (1 : Int64) wc31_1 bA (0 : Int64) wc31_2 (0 : Int64) wc31_3 (0 : Int32) wc31_4 (0 : Int32) wc31_5 (0 : Int32) wc31_6 (0 : Int32) dA iA (0 : Int32) (0 : Int64) (0 : Int64) (0 : Int64) (0 : Int32) wc31_7 (0 : Int64) h32 O32_ (Exa.ext E32 rc31_0) (Fld.ext E32 rc31_1) A32 F32_id g_b32 (Fld.ext E32 rc31_2) (Nat.ne_of_lt (Nat.lt_of_lt_of_le rc31_0.lt (Nat.le_of_eq hb32.symm))) F32_side F32_price (Fld.ext E32 rc31_3) F32_limit (Fld.ext E32 rc31_4) F32_peg (Fld.ext E32 rc31_5) F32_displayed (Fld.ext E32 rc31_6) F32_postOnly (Fld.ext E32 rc31_7) F32_swap (Fld.ext E32 rc31_8) F32_superAggressive (Fld.ext E32 rc31_9) S_I rc31_10 F32_immediateOrCancel F32_start F32_end F32_priority F32_entered (Fld.ext E32 rc31_11) F32_minQuantity F32_singleOrderMinimum (Fld.ext E32 rc31_12) F32_open F32_next F32_previous) hZc31 (wd hw 268 rfl) (wd hw 264 rfl) (by decide) (by decide)) (g := (mkF m 171 #[.val (.long x0), .second, .val (.long x1), .second, .val (.long x2), .second, .val (.int x3), .val (.int k), .val (.int yc13_8), .val (.int sg), .val (.long q), .second, .val (.ref b3), .val (.ref b1q6), .val (.ref b1q5q10), .val (.ref yc13_15), .val (.ref yc31_16), .unset, .unset, .unset] [(.long (1 : Int64)), .null, .null, (.long (100 : Int64)), (.ref yc31_16), (.ref b32), (.ref b32)])) rfl (by rw [hml]; rfl) (Steps.refl _) (a := b32) (argsL := [(.ref yc31_16), (.long (100 : Int64)), .null, .null, (.long (1 : Int64))]) (rest := [(.ref b32)]) (lenOf pd_LLorg_matchstone_engine_NewOrder_JLjava_time_LocalTime_Ljava_time_LocalTime_JRV rfl) rfl (by show 2 * 0 + _ ≤ _; exact Nat.le_of_eq rfl) (hb hby at_171) (fun _ _ => ⟨rfl, e32, (by decide : 59 + 0 ≤ _), (by decide : 4023 + 0 ≤ _)⟩)
          dsimp only [Pt.U, Pt.locs, Pt.cells, Pt.slots] at X33 l33 y33 z33 st33 hQ33
          subst y33 z33
          obtain ⟨rfl, Nq33, Kq33, p33_0, p33_1, p33_2, p33_3, p33_4, p33_5, p33_6⟩ := hQ33
          have O33_ : Ext Z.heap T33.heap := extKeep O32_ Kq33 (allS g_b32 all0)
          have N33_ : Fr Z.heap.size L33 := by rw [l33]; exact Fr.app Nc31 Nq33
          refine Go.trans st33 ?_
          refine Go.step (fun _ kt_ => XS.astore X33.here hx rfl (hb hby at_174) rfl rfl (l' := #[.val (.long x0), .second, .val (.long x1), .second, .val (.long x2), .second, .val (.int x3), .val (.int k), .val (.int yc13_8), .val (.int sg), .val (.long q), .second, .val (.ref b3), .val (.ref b1q6), .val (.ref b1q5q10), .val (.ref yc13_15), .val (.ref yc31_16), .val (.ref b32), .unset, .unset]) rfl kt_) ?_
          show Go _ _ _ _ _ _ _ _ T33 (mkF m 176 #[.val (.long x0), .second, .val (.long x1), .second, .val (.long x2), .second, .val (.int x3), .val (.int k), .val (.int yc13_8), .val (.int sg), .val (.long q), .second, .val (.ref b3), .val (.ref b1q6), .val (.ref b1q5q10), .val (.ref yc13_15), .val (.ref yc31_16), .val (.ref b32), .unset, .unset] [])
          rcases hk with hk | hk | hk | hk
          · subst hk
            show Go _ _ _ _ _ _ _ _ T33 (mkF m 176 #[.val (.long x0), .second, .val (.long x1), .second, .val (.long x2), .second, .val (.int x3), .val (.int (0 : Int32)), .val (.int yc13_8), .val (.int sg), .val (.long q), .second, .val (.ref b3), .val (.ref b1q6), .val (.ref b1q5q10), .val (.ref yc13_15), .val (.ref yc31_16), .val (.ref b32), .unset, .unset] [])
            refine Go.step (fun _ kt_ => XS.iload X33.here hx rfl (hb hby at_176) rfl kt_) ?_
            refine Go.step (fun _ kt_ => XS.iconst X33.here hx rfl (hb hby at_178)  kt_) ?_
            refine Go.step (fun _ kt_ => XS.icmpNo X33.here hx rfl (hb hby at_179) rfl (feq (by decide : ¬ ((0 : Int32) = (2 : Int32)))).1 kt_) ?_
            refine Go.step (fun _ kt_ => XS.aload X33.here hx rfl (hb hby at_182) rfl rfl kt_) ?_
            refine Go.step (fun _ kt_ => XS.aload X33.here hx rfl (hb hby at_184) rfl rfl kt_) ?_
            obtain ⟨T34, h34, X34, e34, W34, st34⟩ := putF X33 hx hZc31 hownc31 (host := "") (Or.inl (wd hw 397 rfl)) Via.refl rfl p33_2 (A32.keep Kq33) (Or.inl (wd hw 396 rfl)) (wd hw 263 rfl) (ty := (.object "org/matchstone/engine/BookSide$Order")) pf_Lorg_matchstone_engine_BookSideSOrder_ rfl rfl (g := (mkF m 186 #[.val (.long x0), .second, .val (.long x1), .second, .val (.long x2), .second, .val (.int x3), .val (.int (0 : Int32)), .val (.int yc13_8), .val (.int sg), .val (.long q), .second, .val (.ref b3), .val (.ref b1q6), .val (.ref b1q5q10), .val (.ref yc13_15), .val (.ref yc31_16), .val (.ref b32), .unset, .unset] [(.ref yc13_15), (.ref b32)])) rfl rfl (hb hby at_186)
            refine Go.step st34 ?_
            have N34_ := Fr.snoc X34 N33_ g_b32
            have O34_ : Ext Z.heap h34 := extWr O33_ W34 g_b32
            have F34 := Fld.same W34 p33_2
            refine Go.step (fun _ kt_ => XS.aload X34.here hx rfl (hb hby at_189) rfl rfl kt_) ?_
            refine Go.step (fun _ kt_ => XS.aload X34.here hx rfl (hb hby at_191) rfl rfl kt_) ?_
            have f35 := (Exa.wr W34 ((Exa.ext E32 rc31_14).keep Kq33))
            have f36 := (Fld.other W34 ((Fld.ext E32 rc31_15).keep Kq33 (ninS (Nat.ne_of_lt (Nat.lt_of_lt_of_le rc31_14.lt (Nat.le_of_eq hb32.symm))) nin0)) (Or.inl (Nat.ne_of_lt (Nat.lt_of_lt_of_le rc31_14.lt (Nat.le_of_eq hb32.symm)))))
            obtain ⟨T37, h37, X37, e37, W37, st37⟩ := putF X34 hx hZc31 hownc31 (host := "") (Or.inl (wd hw 398 rfl)) Via.refl e34 f36 f35 (Or.inl (wd hw 399 rfl)) (wd hw 263 rfl) (ty := (.object "org/matchstone/engine/BookSide$Order")) pf_Lorg_matchstone_engine_BookSideSOrder_ rfl rfl (g := (mkF m 193 #[.val (.long x0), .second, .val (.long x1), .second, .val (.long x2), .second, .val (.int x3), .val (.int (0 : Int32)), .val (.int yc13_8), .val (.int sg), .val (.long q), .second, .val (.ref b3), .val (.ref b1q6), .val (.ref b1q5q10), .val (.ref yc13_15), .val (.ref yc31_16), .val (.ref b32), .unset, .unset] [(.ref b32), (.ref yc13_15)])) rfl rfl (hb hby at_193)
            refine Go.step st37 ?_
            have N37_ := Fr.snoc X37 N34_ rc31_16
            have O37_ : Ext Z.heap h37 := extWr O34_ W37 rc31_16
            have F37 := Fld.same W37 f36
            refine Go.step (fun _ kt_ => XS.iload X37.here hx rfl (hb hby at_196) rfl kt_) ?_
            refine Go.step (fun _ kt_ => XS.ifYes X37.here hx rfl (pc0 := 198) (pc' := 208) rfl (hb hby at_198) rfl ((if0 _ _).trans (teq (by decide : (0 : Int32) = (0 : Int32))).1) (by decide) (by decide) kt_) ?_
            refine Go.step (fun _ kt_ => XS.aload X37.here hx rfl (hb hby at_208) rfl rfl kt_) ?_
            refine Go.step (fun _ kt_ => XS.lloadN X37.here hx rfl (hb hby at_210) rfl kt_) ?_
            show Go _ _ _ _ _ _ _ _ T37 (mkF m 211 #[.val (.long x0), .second, .val (.long x1), .second, .val (.long x2), .second, .val (.int x3), .val (.int (0 : Int32)), .val (.int yc13_8), .val (.int sg), .val (.long q), .second, .val (.ref b3), .val (.ref b1q6), .val (.ref b1q5q10), .val (.ref yc13_15), .val (.ref yc31_16), .val (.ref b32), .unset, .unset] [(.long x0), (.ref b1q6)])
            have f38 := (Exa.wr W37 (Exa.wr W34 ((Exa.ext E32 rc31_17).keep Kq33)))
            have f39 := (Fld.other W37 (Fld.other W34 ((Fld.ext E32 rc31_18).keep Kq33 (ninS (Nat.ne_of_lt (Nat.lt_of_lt_of_le rc31_17.lt (Nat.le_of_eq hb32.symm))) nin0)) (Or.inl (Nat.ne_of_lt (Nat.lt_of_lt_of_le rc31_17.lt (Nat.le_of_eq hb32.symm))))) (Or.inl rc31_19))
            obtain ⟨cq40, kq40, q40a, q40b, q40c⟩ := isOf hZc31 e37 f38
            obtain ⟨_, _, ⟨T40, L40, k40, n40⟩, -, X40, ⟨Lc40, hQ40, l40, y40, z40⟩, st40⟩ := X37.virtualBack hx (y := (⟨"org/matchstone/engine/BookSide$Walk", "nextBehind", "(J)Lorg/matchstone/engine/BookSide$Order;"⟩ : MethodName)) (z := (⟨"org/matchstone/engine/BookSide$Walk", "nextBehind", "(J)Lorg/matchstone/engine/BookSide$Order;"⟩ : MethodName)) hownc31 (mvT hZc31 (wd hw 390 rfl)) (mvT hZc31 (wd hw 391 rfl)) (notFace_of_selects (args := #[]) (mvT hZc31 (wd hw 393 rfl))) (mvT hZc31 (wd hw 393 rfl)) (mvT hZc31 (wd hw 392 rfl)) (by decide) (backOf (W := 0) (rm_a41_0 l Z a0 hw []  b1q6 x0 h37 O37_ f39) hZc31 (wd hw 394 rfl) (wd hw 139 rfl) (by decide) (by decide)) q40a q40c (g := (mkF m 211 #[.val (.long x0), .second, .val (.long x1), .second, .val (.long x2), .second, .val (.int x3), .val (.int (0 : Int32)), .val (.int yc13_8), .val (.int sg), .val (.long q), .second, .val (.ref b3), .val (.ref b1q6), .val (.ref b1q5q10), .val (.ref yc13_15), .val (.ref yc31_16), .val (.ref b32), .unset, .unset] [(.long x0), (.ref b1q6)])) rfl (by rw [hml]; rfl) (Steps.refl _) (argsL := [(.long x0)]) (rest := []) (lenOf pd_LJRLorg_matchstone_engine_BookSideSOrder_ rfl) rfl (by show 2 * 0 + _ ≤ _; exact Nat.le_of_eq rfl) (hb hby at_211) (fun _ _ => ⟨rfl, e37, (by decide : 59 + 0 ≤ _), (by decide : 4023 + 0 ≤ _)⟩)
            dsimp only [Pt.U, Pt.locs, Pt.cells, Pt.slots] at X40 l40 y40 z40 st40 hQ40
            subst y40 z40
            obtain ⟨rfl, Nq40, e40⟩ := hQ40
            have N40_ : Fr Z.heap.size L40 := by rw [l40]; exact Fr.app N37_ Nq40
            refine Go.trans st40 ?_
            refine Go.step (fun _ kt_ => XS.astore X40.here hx rfl (hb hby at_214) rfl rfl (l' := #[.val (.long x0), .second, .val (.long x1), .second, .val (.long x2), .second, .val (.int x3), .val (.int (0 : Int32)), .val (.int yc13_8), .val (.int sg), .val (.long q), .second, .val (.ref b3), .val (.ref b1q6), .val (.ref b1q5q10), .val (.ref yc13_15), .val (.ref yc31_16), .val (.ref b32), .val .null, .unset]) rfl kt_) ?_
            refine Go.step (fun _ kt_ => XS.aconstNull X40.here hx rfl (hb hby at_216)  kt_) ?_
            refine Go.step (fun _ kt_ => XS.astore X40.here hx rfl (hb hby at_217) rfl rfl (l' := #[.val (.long x0), .second, .val (.long x1), .second, .val (.long x2), .second, .val (.int x3), .val (.int (0 : Int32)), .val (.int yc13_8), .val (.int sg), .val (.long q), .second, .val (.ref b3), .val (.ref b1q6), .val (.ref b1q5q10), .val (.ref yc13_15), .val (.ref yc31_16), .val (.ref b32), .val .null, .val .null]) rfl kt_) ?_
            refine Go.step (fun _ kt_ => XS.iload X40.here hx rfl (hb hby at_219) rfl kt_) ?_
            refine Go.step (fun _ kt_ => XS.iconst X40.here hx rfl (hb hby at_221)  kt_) ?_
            refine Go.step (fun _ kt_ => XS.icmpYes X40.here hx rfl (pc0 := 222) (pc' := 240) rfl (hb hby at_222) rfl (feq (by decide : ¬ ((0 : Int32) = (3 : Int32)))).2 (by decide) (by decide) kt_) ?_
            refine Go.step (fun _ kt_ => XS.aload X40.here hx rfl (hb hby at_240) rfl rfl kt_) ?_
            refine Go.step (fun _ kt_ => XS.aload X40.here hx rfl (hb hby at_242) rfl rfl kt_) ?_
            refine Go.step (fun _ kt_ => Jvm.RoadKit.acmp (g := (mkF m 244 #[.val (.long x0), .second, .val (.long x1), .second, .val (.long x2), .second, .val (.int x3), .val (.int (0 : Int32)), .val (.int yc13_8), .val (.int sg), .val (.long q), .second, .val (.ref b3), .val (.ref b1q6), .val (.ref b1q5q10), .val (.ref yc13_15), .val (.ref yc31_16), .val (.ref b32), .val .null, .val .null] [.null, .null])) X40 hx rfl rfl rfl (pc0 := 244) (pc' := 247) (same := true) rfl (hb hby at_244) rfl (decide_eq_true rfl) (by decide) (by decide) kt_) ?_
            show Go _ _ _ _ _ _ _ _ T40 (mkF m 247 #[.val (.long x0), .second, .val (.long x1), .second, .val (.long x2), .second, .val (.int x3), .val (.int (0 : Int32)), .val (.int yc13_8), .val (.int sg), .val (.long q), .second, .val (.ref b3), .val (.ref b1q6), .val (.ref b1q5q10), .val (.ref yc13_15), .val (.ref yc31_16), .val (.ref b32), .val .null, .val .null] [])
            refine Go.step (fun _ kt_ => XS.iconst X40.here hx rfl (hb hby at_247)  kt_) ?_
            refine Go.step (fun _ kt_ => XS.goto X40.here hx rfl (pc0 := 248) (pc' := 252) rfl (hb hby at_248) (by decide) (by decide) kt_) ?_
            show Go _ _ _ _ _ _ _ _ T40 (mkF m 252 #[.val (.long x0), .second, .val (.long x1), .second, .val (.long x2), .second, .val (.int x3), .val (.int (0 : Int32)), .val (.int yc13_8), .val (.int sg), .val (.long q), .second, .val (.ref b3), .val (.ref b1q6), .val (.ref b1q5q10), .val (.ref yc13_15), .val (.ref yc31_16), .val (.ref b32), .val .null, .val .null] [(.int (1 : Int32))])
            exact Go.retNW X40 Sc31 (by rw [e40]; exact (Nat.le_trans (Nat.le_trans (Nat.le_trans (Nat.le_trans kkc31 E32.1) Kq33.1) (Keep.of_wr W34).1) (Keep.of_wr W37).1)) hx (t := .boolean) hret (by simp) hlk (hb hby at_252) (by decide) (by decide) ⟨rfl, N40_, trivial⟩
          · exact absurd hk rc31_13
          · subst hk
            show Go _ _ _ _ _ _ _ _ T33 (mkF m 176 #[.val (.long x0), .second, .val (.long x1), .second, .val (.long x2), .second, .val (.int x3), .val (.int (2 : Int32)), .val (.int yc13_8), .val (.int sg), .val (.long q), .second, .val (.ref b3), .val (.ref b1q6), .val (.ref b1q5q10), .val (.ref yc13_15), .val (.ref yc31_16), .val (.ref b32), .unset, .unset] [])
            refine Go.step (fun _ kt_ => XS.iload X33.here hx rfl (hb hby at_176) rfl kt_) ?_
            refine Go.step (fun _ kt_ => XS.iconst X33.here hx rfl (hb hby at_178)  kt_) ?_
            refine Go.step (fun _ kt_ => XS.icmpYes X33.here hx rfl (pc0 := 179) (pc' := 196) rfl (hb hby at_179) rfl (teq (by decide : (2 : Int32) = (2 : Int32))).1 (by decide) (by decide) kt_) ?_
            refine Go.step (fun _ kt_ => XS.iload X33.here hx rfl (hb hby at_196) rfl kt_) ?_
            refine Go.step (fun _ kt_ => XS.ifNo X33.here hx rfl (hb hby at_198) rfl ((if0 _ _).trans (feq (by decide : ¬ ((2 : Int32) = (0 : Int32)))).1) kt_) ?_
            refine Go.step (fun _ kt_ => XS.aload X33.here hx rfl (hb hby at_201) rfl rfl kt_) ?_
            refine Go.step (fun _ kt_ => XS.aload X33.here hx rfl (hb hby at_203) rfl rfl kt_) ?_
            have f41 := ((Fld.ext E32 rc31_21).keep Kq33 (ninS (Nat.ne_of_lt (Nat.lt_of_lt_of_le rc31_17.lt (Nat.le_of_eq hb32.symm))) nin0))
            have f42 := ((Fld.ext E32 rc31_18).keep Kq33 (ninS (Nat.ne_of_lt (Nat.lt_of_lt_of_le rc31_17.lt (Nat.le_of_eq hb32.symm))) nin0))
            have f43 := ((Fld.ext E32 rc31_22).keep Kq33 (ninS (Nat.ne_of_lt (Nat.lt_of_lt_of_le rc31_17.lt (Nat.le_of_eq hb32.symm))) nin0))
            have f44 := ((Fld.ext E32 rc31_21).keep Kq33 (ninS (Nat.ne_of_lt (Nat.lt_of_lt_of_le rc31_17.lt (Nat.le_of_eq hb32.symm))) nin0))
            have f45 := ((Fld.ext E32 rc31_18).keep Kq33 (ninS (Nat.ne_of_lt (Nat.lt_of_lt_of_le rc31_17.lt (Nat.le_of_eq hb32.symm))) nin0))
            have f46 := ((Fld.ext E32 rc31_22).keep Kq33 (ninS (Nat.ne_of_lt (Nat.lt_of_lt_of_le rc31_17.lt (Nat.le_of_eq hb32.symm))) nin0))
            have f47 := ((Fld.ext E32 rc31_23).keep Kq33 (ninS (Nat.ne_of_lt (Nat.lt_of_lt_of_le rc31_17.lt (Nat.le_of_eq hb32.symm))) nin0))
            have f48 := ((Fld.ext E32 rc31_21).keep Kq33 (ninS (Nat.ne_of_lt (Nat.lt_of_lt_of_le rc31_17.lt (Nat.le_of_eq hb32.symm))) nin0))
            have f49 := ((Fld.ext E32 rc31_18).keep Kq33 (ninS (Nat.ne_of_lt (Nat.lt_of_lt_of_le rc31_17.lt (Nat.le_of_eq hb32.symm))) nin0))
            have f50 := ((Fld.ext E32 rc31_22).keep Kq33 (ninS (Nat.ne_of_lt (Nat.lt_of_lt_of_le rc31_17.lt (Nat.le_of_eq hb32.symm))) nin0))
            have f51 := ((Fld.ext E32 rc31_23).keep Kq33 (ninS (Nat.ne_of_lt (Nat.lt_of_lt_of_le rc31_17.lt (Nat.le_of_eq hb32.symm))) nin0))
            obtain ⟨cq52, kq52, q52a, q52b, q52c⟩ := isOf hZc31 rfl ((Exa.ext E32 rc31_17).keep Kq33)
            obtain ⟨_, _, ⟨T52, L52, k52, n52⟩, -, X52, ⟨Lc52, hQ52, l52, y52, z52⟩, st52⟩ := X33.virtualBack hx (y := (⟨"org/matchstone/engine/BookSide$Walk", "step", "(Lorg/matchstone/engine/BookSide$Order;)V"⟩ : MethodName)) (z := (⟨"org/matchstone/engine/BookSide$Walk", "step", "(Lorg/matchstone/engine/BookSide$Order;)V"⟩ : MethodName)) hownc31 (mvT hZc31 (wd hw 362 rfl)) (mvT hZc31 (wd hw 363 rfl)) (notFace_of_selects (args := #[]) (mvT hZc31 (wd hw 365 rfl))) (mvT hZc31 (wd hw 365 rfl)) (mvT hZc31 (wd hw 364 rfl)) (by decide) (backOf (W := 0) (rm_a38_1 l Z a0 hw []  b1q6 b32 (((wc31_3 &&& (1 : Int32)) &&& 1)) (100 : Int64) (1 : Int64) wc13_1 T33.heap O33_ p33_0 rc31_20 p33_5 p33_6 ((Exa.ext E32 rc31_17).keep Kq33) f48 g_b1q6 (Ne.symm (Nat.ne_of_lt (Nat.lt_of_lt_of_le rc31_17.lt (Nat.le_of_eq hb32.symm)))) f49 f50 f51) hZc31 (wd hw 366 rfl) (wd hw 139 rfl) (by decide) (by decide)) q52a q52c (g := (mkF m 205 #[.val (.long x0), .second, .val (.long x1), .second, .val (.long x2), .second, .val (.int x3), .val (.int (2 : Int32)), .val (.int yc13_8), .val (.int sg), .val (.long q), .second, .val (.ref b3), .val (.ref b1q6), .val (.ref b1q5q10), .val (.ref yc13_15), .val (.ref yc31_16), .val (.ref b32), .unset, .unset] [(.ref b32), (.ref b1q6)])) rfl (by rw [hml]; rfl) (Steps.refl _) (argsL := [(.ref b32)]) (rest := []) (lenOf pd_LLorg_matchstone_engine_BookSideSOrder_RV rfl) rfl (by show 2 * 0 + _ ≤ _; exact Nat.le_of_eq rfl) (hb hby at_205) (fun _ _ => ⟨rfl, rfl, (by decide : 59 + 1 ≤ _), (by decide : 4023 + 2 ≤ _)⟩)
            dsimp only [Pt.U, Pt.locs, Pt.cells, Pt.slots] at X52 l52 y52 z52 st52 hQ52
            subst y52 z52
            obtain ⟨b1q2q52, rfl, Nq52, Kq52, p52_0, p52_1, p52_2, p52_3, p52_4, p52_5⟩ := hQ52
            have O52_ : Ext Z.heap T52.heap := extKeep O33_ Kq52 (allS g_b1q6 all0)
            have N52_ : Fr Z.heap.size L52 := by rw [l52]; exact Fr.app N33_ Nq52
            have g_b1q2q52 : Z.heap.size ≤ b1q2q52 := Nat.le_trans O33_.1 p52_4
            refine Go.trans st52 ?_
            refine Go.step (fun _ kt_ => XS.aload X52.here hx rfl (hb hby at_208) rfl rfl kt_) ?_
            refine Go.step (fun _ kt_ => XS.lloadN X52.here hx rfl (hb hby at_210) rfl kt_) ?_
            show Go _ _ _ _ _ _ _ _ T52 (mkF m 211 #[.val (.long x0), .second, .val (.long x1), .second, .val (.long x2), .second, .val (.int x3), .val (.int (2 : Int32)), .val (.int yc13_8), .val (.int sg), .val (.long q), .second, .val (.ref b3), .val (.ref b1q6), .val (.ref b1q5q10), .val (.ref yc13_15), .val (.ref yc31_16), .val (.ref b32), .unset, .unset] [(.long x0), (.ref b1q6)])
            have f53 := (((Exa.ext E32 rc31_17).keep Kq33).keep Kq52)
            have f54 := (p33_2.keep Kq52 (ninS (Ne.symm (Nat.ne_of_lt (Nat.lt_of_lt_of_le rc31_17.lt (Nat.le_of_eq hb32.symm)))) nin0))
            have f55 := (p33_2.keep Kq52 (ninS (Ne.symm (Nat.ne_of_lt (Nat.lt_of_lt_of_le rc31_17.lt (Nat.le_of_eq hb32.symm)))) nin0))
            obtain ⟨cq56, kq56, q56a, q56b, q56c⟩ := isOf hZc31 rfl f53
            obtain ⟨_, _, ⟨T56, L56, k56, n56⟩, -, X56, ⟨Lc56, hQ56, l56, y56, z56⟩, st56⟩ := X52.virtualBack hx (y := (⟨"org/matchstone/engine/BookSide$Walk", "nextBehind", "(J)Lorg/matchstone/engine/BookSide$Order;"⟩ : MethodName)) (z := (⟨"org/matchstone/engine/BookSide$Walk", "nextBehind", "(J)Lorg/matchstone/engine/BookSide$Order;"⟩ : MethodName)) hownc31 (mvT hZc31 (wd hw 390 rfl)) (mvT hZc31 (wd hw 391 rfl)) (notFace_of_selects (args := #[]) (mvT hZc31 (wd hw 393 rfl))) (mvT hZc31 (wd hw 393 rfl)) (mvT hZc31 (wd hw 392 rfl)) (by decide) (backOf (W := 0) (rm_a41_1 l Z a0 hw []  b1q6 x0 b32 T52.heap O52_ p52_1 f55) hZc31 (wd hw 394 rfl) (wd hw 139 rfl) (by decide) (by decide)) q56a q56c (g := (mkF m 211 #[.val (.long x0), .second, .val (.long x1), .second, .val (.long x2), .second, .val (.int x3), .val (.int (2 : Int32)), .val (.int yc13_8), .val (.int sg), .val (.long q), .second, .val (.ref b3), .val (.ref b1q6), .val (.ref b1q5q10), .val (.ref yc13_15), .val (.ref yc31_16), .val (.ref b32), .unset, .unset] [(.long x0), (.ref b1q6)])) rfl (by rw [hml]; rfl) (Steps.refl _) (argsL := [(.long x0)]) (rest := []) (lenOf pd_LJRLorg_matchstone_engine_BookSideSOrder_ rfl) rfl (by show 2 * 0 + _ ≤ _; exact Nat.le_of_eq rfl) (hb hby at_211) (fun _ _ => ⟨rfl, rfl, (by decide : 60 + 0 ≤ _), (by decide : 4025 + 0 ≤ _)⟩)
            dsimp only [Pt.U, Pt.locs, Pt.cells, Pt.slots] at X56 l56 y56 z56 st56 hQ56
            subst y56 z56
            obtain ⟨rfl, Nq56, e56⟩ := hQ56
            have N56_ : Fr Z.heap.size L56 := by rw [l56]; exact Fr.app N52_ Nq56
            refine Go.trans st56 ?_
            refine Go.step (fun _ kt_ => XS.astore X56.here hx rfl (hb hby at_214) rfl rfl (l' := #[.val (.long x0), .second, .val (.long x1), .second, .val (.long x2), .second, .val (.int x3), .val (.int (2 : Int32)), .val (.int yc13_8), .val (.int sg), .val (.long q), .second, .val (.ref b3), .val (.ref b1q6), .val (.ref b1q5q10), .val (.ref yc13_15), .val (.ref yc31_16), .val (.ref b32), .val .null, .unset]) rfl kt_) ?_
            refine Go.step (fun _ kt_ => XS.aconstNull X56.here hx rfl (hb hby at_216)  kt_) ?_
            refine Go.step (fun _ kt_ => XS.astore X56.here hx rfl (hb hby at_217) rfl rfl (l' := #[.val (.long x0), .second, .val (.long x1), .second, .val (.long x2), .second, .val (.int x3), .val (.int (2 : Int32)), .val (.int yc13_8), .val (.int sg), .val (.long q), .second, .val (.ref b3), .val (.ref b1q6), .val (.ref b1q5q10), .val (.ref yc13_15), .val (.ref yc31_16), .val (.ref b32), .val .null, .val .null]) rfl kt_) ?_
            refine Go.step (fun _ kt_ => XS.iload X56.here hx rfl (hb hby at_219) rfl kt_) ?_
            refine Go.step (fun _ kt_ => XS.iconst X56.here hx rfl (hb hby at_221)  kt_) ?_
            refine Go.step (fun _ kt_ => XS.icmpYes X56.here hx rfl (pc0 := 222) (pc' := 240) rfl (hb hby at_222) rfl (feq (by decide : ¬ ((2 : Int32) = (3 : Int32)))).2 (by decide) (by decide) kt_) ?_
            refine Go.step (fun _ kt_ => XS.aload X56.here hx rfl (hb hby at_240) rfl rfl kt_) ?_
            refine Go.step (fun _ kt_ => XS.aload X56.here hx rfl (hb hby at_242) rfl rfl kt_) ?_
            refine Go.step (fun _ kt_ => Jvm.RoadKit.acmp (g := (mkF m 244 #[.val (.long x0), .second, .val (.long x1), .second, .val (.long x2), .second, .val (.int x3), .val (.int (2 : Int32)), .val (.int yc13_8), .val (.int sg), .val (.long q), .second, .val (.ref b3), .val (.ref b1q6), .val (.ref b1q5q10), .val (.ref yc13_15), .val (.ref yc31_16), .val (.ref b32), .val .null, .val .null] [.null, .null])) X56 hx rfl rfl rfl (pc0 := 244) (pc' := 247) (same := true) rfl (hb hby at_244) rfl (decide_eq_true rfl) (by decide) (by decide) kt_) ?_
            show Go _ _ _ _ _ _ _ _ T56 (mkF m 247 #[.val (.long x0), .second, .val (.long x1), .second, .val (.long x2), .second, .val (.int x3), .val (.int (2 : Int32)), .val (.int yc13_8), .val (.int sg), .val (.long q), .second, .val (.ref b3), .val (.ref b1q6), .val (.ref b1q5q10), .val (.ref yc13_15), .val (.ref yc31_16), .val (.ref b32), .val .null, .val .null] [])
            refine Go.step (fun _ kt_ => XS.iconst X56.here hx rfl (hb hby at_247)  kt_) ?_
            refine Go.step (fun _ kt_ => XS.goto X56.here hx rfl (pc0 := 248) (pc' := 252) rfl (hb hby at_248) (by decide) (by decide) kt_) ?_
            show Go _ _ _ _ _ _ _ _ T56 (mkF m 252 #[.val (.long x0), .second, .val (.long x1), .second, .val (.long x2), .second, .val (.int x3), .val (.int (2 : Int32)), .val (.int yc13_8), .val (.int sg), .val (.long q), .second, .val (.ref b3), .val (.ref b1q6), .val (.ref b1q5q10), .val (.ref yc13_15), .val (.ref yc31_16), .val (.ref b32), .val .null, .val .null] [(.int (1 : Int32))])
            exact Go.retNW X56 Sc31 (by rw [e56]; exact (Nat.le_trans (Nat.le_trans (Nat.le_trans kkc31 E32.1) Kq33.1) Kq52.1)) hx (t := .boolean) hret (by simp) hlk (hb hby at_252) (by decide) (by decide) ⟨rfl, N56_, trivial⟩
          · subst hk
            show Go _ _ _ _ _ _ _ _ T33 (mkF m 176 #[.val (.long x0), .second, .val (.long x1), .second, .val (.long x2), .second, .val (.int x3), .val (.int (3 : Int32)), .val (.int yc13_8), .val (.int sg), .val (.long q), .second, .val (.ref b3), .val (.ref b1q6), .val (.ref b1q5q10), .val (.ref yc13_15), .val (.ref yc31_16), .val (.ref b32), .unset, .unset] [])
            refine Go.step (fun _ kt_ => XS.iload X33.here hx rfl (hb hby at_176) rfl kt_) ?_
            refine Go.step (fun _ kt_ => XS.iconst X33.here hx rfl (hb hby at_178)  kt_) ?_
            refine Go.step (fun _ kt_ => XS.icmpNo X33.here hx rfl (hb hby at_179) rfl (feq (by decide : ¬ ((3 : Int32) = (2 : Int32)))).1 kt_) ?_
            refine Go.step (fun _ kt_ => XS.aload X33.here hx rfl (hb hby at_182) rfl rfl kt_) ?_
            refine Go.step (fun _ kt_ => XS.aload X33.here hx rfl (hb hby at_184) rfl rfl kt_) ?_
            obtain ⟨T57, h57, X57, e57, W57, st57⟩ := putF X33 hx hZc31 hownc31 (host := "") (Or.inl (wd hw 397 rfl)) Via.refl rfl p33_2 (A32.keep Kq33) (Or.inl (wd hw 396 rfl)) (wd hw 263 rfl) (ty := (.object "org/matchstone/engine/BookSide$Order")) pf_Lorg_matchstone_engine_BookSideSOrder_ rfl rfl (g := (mkF m 186 #[.val (.long x0), .second, .val (.long x1), .second, .val (.long x2), .second, .val (.int x3), .val (.int (3 : Int32)), .val (.int yc13_8), .val (.int sg), .val (.long q), .second, .val (.ref b3), .val (.ref b1q6), .val (.ref b1q5q10), .val (.ref yc13_15), .val (.ref yc31_16), .val (.ref b32), .unset, .unset] [(.ref yc13_15), (.ref b32)])) rfl rfl (hb hby at_186)
            refine Go.step st57 ?_
            have N57_ := Fr.snoc X57 N33_ g_b32
            have O57_ : Ext Z.heap h57 := extWr O33_ W57 g_b32
            have F57 := Fld.same W57 p33_2
            refine Go.step (fun _ kt_ => XS.aload X57.here hx rfl (hb hby at_189) rfl rfl kt_) ?_
            refine Go.step (fun _ kt_ => XS.aload X57.here hx rfl (hb hby at_191) rfl rfl kt_) ?_
            have f58 := (Exa.wr W57 ((Exa.ext E32 rc31_14).keep Kq33))
            have f59 := (Fld.other W57 ((Fld.ext E32 rc31_15).keep Kq33 (ninS (Nat.ne_of_lt (Nat.lt_of_lt_of_le rc31_14.lt (Nat.le_of_eq hb32.symm))) nin0)) (Or.inl (Nat.ne_of_lt (Nat.lt_of_lt_of_le rc31_14.lt (Nat.le_of_eq hb32.symm)))))
            obtain ⟨T60, h60, X60, e60, W60, st60⟩ := putF X57 hx hZc31 hownc31 (host := "") (Or.inl (wd hw 398 rfl)) Via.refl e57 f59 f58 (Or.inl (wd hw 399 rfl)) (wd hw 263 rfl) (ty := (.object "org/matchstone/engine/BookSide$Order")) pf_Lorg_matchstone_engine_BookSideSOrder_ rfl rfl (g := (mkF m 193 #[.val (.long x0), .second, .val (.long x1), .second, .val (.long x2), .second, .val (.int x3), .val (.int (3 : Int32)), .val (.int yc13_8), .val (.int sg), .val (.long q), .second, .val (.ref b3), .val (.ref b1q6), .val (.ref b1q5q10), .val (.ref yc13_15), .val (.ref yc31_16), .val (.ref b32), .unset, .unset] [(.ref b32), (.ref yc13_15)])) rfl rfl (hb hby at_193)
            refine Go.step st60 ?_
            have N60_ := Fr.snoc X60 N57_ rc31_16
            have O60_ : Ext Z.heap h60 := extWr O57_ W60 rc31_16
            have F60 := Fld.same W60 f59
            refine Go.step (fun _ kt_ => XS.iload X60.here hx rfl (hb hby at_196) rfl kt_) ?_
            refine Go.step (fun _ kt_ => XS.ifNo X60.here hx rfl (hb hby at_198) rfl ((if0 _ _).trans (feq (by decide : ¬ ((3 : Int32) = (0 : Int32)))).1) kt_) ?_
            refine Go.step (fun _ kt_ => XS.aload X60.here hx rfl (hb hby at_201) rfl rfl kt_) ?_
            refine Go.step (fun _ kt_ => XS.aload X60.here hx rfl (hb hby at_203) rfl rfl kt_) ?_
            have f61 := (Exa.wr W60 (Exa.wr W57 ((Exa.ext E32 rc31_17).keep Kq33)))
            have f62 := (Exa.wr W60 (Exa.wr W57 (A32.keep Kq33)))
            have f63 := (Fld.other W60 (Fld.other W57 p33_0 (Or.inr (Ne.symm (sn_293 hw)))) (Or.inl (Ne.symm (Nat.ne_of_lt (Nat.lt_of_lt_of_le rc31_14.lt (Nat.le_of_eq hb32.symm))))))
            have f64 := (Fld.other W60 (Fld.other W57 p33_5 (Or.inr (Ne.symm (sn_290 hw)))) (Or.inl (Ne.symm (Nat.ne_of_lt (Nat.lt_of_lt_of_le rc31_14.lt (Nat.le_of_eq hb32.symm))))))
            have f65 := (Fld.other W60 (Fld.other W57 p33_6 (Or.inr (Ne.symm (sn_300 hw)))) (Or.inl (Ne.symm (Nat.ne_of_lt (Nat.lt_of_lt_of_le rc31_14.lt (Nat.le_of_eq hb32.symm))))))
            have f66 := (Fld.other W60 (Fld.other W57 ((Fld.ext E32 rc31_21).keep Kq33 (ninS (Nat.ne_of_lt (Nat.lt_of_lt_of_le rc31_17.lt (Nat.le_of_eq hb32.symm))) nin0)) (Or.inl (Nat.ne_of_lt (Nat.lt_of_lt_of_le rc31_17.lt (Nat.le_of_eq hb32.symm))))) (Or.inl rc31_19))
            have f67 := (Fld.other W60 (Fld.other W57 ((Fld.ext E32 rc31_18).keep Kq33 (ninS (Nat.ne_of_lt (Nat.lt_of_lt_of_le rc31_17.lt (Nat.le_of_eq hb32.symm))) nin0)) (Or.inl (Nat.ne_of_lt (Nat.lt_of_lt_of_le rc31_17.lt (Nat.le_of_eq hb32.symm))))) (Or.inl rc31_19))
            have f68 := (Fld.other W60 (Fld.other W57 ((Fld.ext E32 rc31_22).keep Kq33 (ninS (Nat.ne_of_lt (Nat.lt_of_lt_of_le rc31_17.lt (Nat.le_of_eq hb32.symm))) nin0)) (Or.inl (Nat.ne_of_lt (Nat.lt_of_lt_of_le rc31_17.lt (Nat.le_of_eq hb32.symm))))) (Or.inl rc31_19))
            have f69 := (Fld.other W60 (Fld.other W57 ((Fld.ext E32 rc31_23).keep Kq33 (ninS (Nat.ne_of_lt (Nat.lt_of_lt_of_le rc31_17.lt (Nat.le_of_eq hb32.symm))) nin0)) (Or.inl (Nat.ne_of_lt (Nat.lt_of_lt_of_le rc31_17.lt (Nat.le_of_eq hb32.symm))))) (Or.inl rc31_19))
            obtain ⟨cq70, kq70, q70a, q70b, q70c⟩ := isOf hZc31 e60 f61
            obtain ⟨_, _, ⟨T70, L70, k70, n70⟩, -, X70, ⟨Lc70, hQ70, l70, y70, z70⟩, st70⟩ := X60.virtualBack hx (y := (⟨"org/matchstone/engine/BookSide$Walk", "step", "(Lorg/matchstone/engine/BookSide$Order;)V"⟩ : MethodName)) (z := (⟨"org/matchstone/engine/BookSide$Walk", "step", "(Lorg/matchstone/engine/BookSide$Order;)V"⟩ : MethodName)) hownc31 (mvT hZc31 (wd hw 362 rfl)) (mvT hZc31 (wd hw 363 rfl)) (notFace_of_selects (args := #[]) (mvT hZc31 (wd hw 365 rfl))) (mvT hZc31 (wd hw 365 rfl)) (mvT hZc31 (wd hw 364 rfl)) (by decide) (backOf (W := 0) (rm_a38_1 l Z a0 hw []  b1q6 b32 (((wc31_3 &&& (1 : Int32)) &&& 1)) (100 : Int64) (1 : Int64) wc13_1 h60 O60_ f63 rc31_20 f64 f65 f61 f66 g_b1q6 (Ne.symm (Nat.ne_of_lt (Nat.lt_of_lt_of_le rc31_17.lt (Nat.le_of_eq hb32.symm)))) f67 f68 f69) hZc31 (wd hw 366 rfl) (wd hw 139 rfl) (by decide) (by decide)) q70a q70c (g := (mkF m 205 #[.val (.long x0), .second, .val (.long x1), .second, .val (.long x2), .second, .val (.int x3), .val (.int (3 : Int32)), .val (.int yc13_8), .val (.int sg), .val (.long q), .second, .val (.ref b3), .val (.ref b1q6), .val (.ref b1q5q10), .val (.ref yc13_15), .val (.ref yc31_16), .val (.ref b32), .unset, .unset] [(.ref b32), (.ref b1q6)])) rfl (by rw [hml]; rfl) (Steps.refl _) (argsL := [(.ref b32)]) (rest := []) (lenOf pd_LLorg_matchstone_engine_BookSideSOrder_RV rfl) rfl (by show 2 * 0 + _ ≤ _; exact Nat.le_of_eq rfl) (hb hby at_205) (fun _ _ => ⟨rfl, e60, (by decide : 59 + 1 ≤ _), (by decide : 4023 + 2 ≤ _)⟩)
            dsimp only [Pt.U, Pt.locs, Pt.cells, Pt.slots] at X70 l70 y70 z70 st70 hQ70
            subst y70 z70
            obtain ⟨b1q2q70, rfl, Nq70, Kq70, p70_0, p70_1, p70_2, p70_3, p70_4, p70_5⟩ := hQ70
            have O70_ : Ext Z.heap T70.heap := extKeep O60_ Kq70 (allS g_b1q6 all0)
            have N70_ : Fr Z.heap.size L70 := by rw [l70]; exact Fr.app N60_ Nq70
            have g_b1q2q70 : Z.heap.size ≤ b1q2q70 := Nat.le_trans O60_.1 p70_4
            refine Go.trans st70 ?_
            refine Go.step (fun _ kt_ => XS.aload X70.here hx rfl (hb hby at_208) rfl rfl kt_) ?_
            refine Go.step (fun _ kt_ => XS.lloadN X70.here hx rfl (hb hby at_210) rfl kt_) ?_
            show Go _ _ _ _ _ _ _ _ T70 (mkF m 211 #[.val (.long x0), .second, .val (.long x1), .second, .val (.long x2), .second, .val (.int x3), .val (.int (3 : Int32)), .val (.int yc13_8), .val (.int sg), .val (.long q), .second, .val (.ref b3), .val (.ref b1q6), .val (.ref b1q5q10), .val (.ref yc13_15), .val (.ref yc31_16), .val (.ref b32), .unset, .unset] [(.long x0), (.ref b1q6)])
            by_cases hlt : (lcmpW x1 x0) < (0 : Int32)
            · show Go _ _ _ _ _ _ _ _ T70 (mkF m 211 #[.val (.long x0), .second, .val (.long x1), .second, .val (.long x2), .second, .val (.int x3), .val (.int (3 : Int32)), .val (.int yc13_8), .val (.int sg), .val (.long q), .second, .val (.ref b3), .val (.ref b1q6), .val (.ref b1q5q10), .val (.ref yc13_15), .val (.ref yc31_16), .val (.ref b32), .unset, .unset] [(.long x0), (.ref b1q6)])
              have f71 := ((Fld.other W60 F57 (Or.inl (Ne.symm (Nat.ne_of_lt (Nat.lt_of_lt_of_le rc31_14.lt (Nat.le_of_eq hb32.symm)))))).keep Kq70 (ninS (Ne.symm (Nat.ne_of_lt (Nat.lt_of_lt_of_le rc31_17.lt (Nat.le_of_eq hb32.symm)))) nin0))
              have f72 := (Fld.other W60 (Fld.other W57 ((Fld.ext E32 rc31_24).keep Kq33 (ninS (Nat.ne_of_lt (Nat.lt_of_lt_of_le rc31_14.lt (Nat.le_of_eq hb32.symm))) nin0)) (Or.inl (Nat.ne_of_lt (Nat.lt_of_lt_of_le rc31_14.lt (Nat.le_of_eq hb32.symm))))) (Or.inr (Ne.symm (sn_319 hw))))
              have f73 := (f72.keep Kq70 (ninS (Ne.symm rc31_19) nin0))
              have f74 := (Fld.other W60 (Fld.other W57 ((Fld.ext E32 rc31_26).keep Kq33 (ninS (Nat.ne_of_lt (Nat.lt_of_lt_of_le rc31_14.lt (Nat.le_of_eq hb32.symm))) nin0)) (Or.inl (Nat.ne_of_lt (Nat.lt_of_lt_of_le rc31_14.lt (Nat.le_of_eq hb32.symm))))) (Or.inr (Ne.symm (sn_321 hw))))
              have f75 := (f74.keep Kq70 (ninS (Ne.symm rc31_19) nin0))
              have f76 := (Fld.other W60 (Fld.other W57 ((Fld.ext E32 rc31_24).keep Kq33 (ninS (Nat.ne_of_lt (Nat.lt_of_lt_of_le rc31_14.lt (Nat.le_of_eq hb32.symm))) nin0)) (Or.inl (Nat.ne_of_lt (Nat.lt_of_lt_of_le rc31_14.lt (Nat.le_of_eq hb32.symm))))) (Or.inr (Ne.symm (sn_319 hw))))
              have f77 := (f76.keep Kq70 (ninS (Ne.symm rc31_19) nin0))
              have f78 := (Fld.other W60 (Fld.other W57 ((Fld.ext E32 rc31_26).keep Kq33 (ninS (Nat.ne_of_lt (Nat.lt_of_lt_of_le rc31_14.lt (Nat.le_of_eq hb32.symm))) nin0)) (Or.inl (Nat.ne_of_lt (Nat.lt_of_lt_of_le rc31_14.lt (Nat.le_of_eq hb32.symm))))) (Or.inr (Ne.symm (sn_321 hw))))
              have f79 := (f78.keep Kq70 (ninS (Ne.symm rc31_19) nin0))
              obtain ⟨cq80, kq80, q80a, q80b, q80c⟩ := isOf hZc31 rfl (f61.keep Kq70)
              obtain ⟨_, _, ⟨T80, L80, k80, n80⟩, -, X80, ⟨Lc80, hQ80, l80, y80, z80⟩, st80⟩ := X70.virtualBack hx (y := (⟨"org/matchstone/engine/BookSide$Walk", "nextBehind", "(J)Lorg/matchstone/engine/BookSide$Order;"⟩ : MethodName)) (z := (⟨"org/matchstone/engine/BookSide$Walk", "nextBehind", "(J)Lorg/matchstone/engine/BookSide$Order;"⟩ : MethodName)) hownc31 (mvT hZc31 (wd hw 390 rfl)) (mvT hZc31 (wd hw 391 rfl)) (notFace_of_selects (args := #[]) (mvT hZc31 (wd hw 393 rfl))) (mvT hZc31 (wd hw 393 rfl)) (mvT hZc31 (wd hw 392 rfl)) (by decide) (backOf (W := 0) (rm_a41_2 l Z a0 hw []  b1q6 x0 b32 yc13_15 wc13_2 x1 T70.heap O70_ p70_1 f71 f77 rc31_25 f79 hlt) hZc31 (wd hw 394 rfl) (wd hw 139 rfl) (by decide) (by decide)) q80a q80c (g := (mkF m 211 #[.val (.long x0), .second, .val (.long x1), .second, .val (.long x2), .second, .val (.int x3), .val (.int (3 : Int32)), .val (.int yc13_8), .val (.int sg), .val (.long q), .second, .val (.ref b3), .val (.ref b1q6), .val (.ref b1q5q10), .val (.ref yc13_15), .val (.ref yc31_16), .val (.ref b32), .unset, .unset] [(.long x0), (.ref b1q6)])) rfl (by rw [hml]; rfl) (Steps.refl _) (argsL := [(.long x0)]) (rest := []) (lenOf pd_LJRLorg_matchstone_engine_BookSideSOrder_ rfl) rfl (by show 2 * 0 + _ ≤ _; exact Nat.le_of_eq rfl) (hb hby at_211) (fun _ _ => ⟨rfl, rfl, (by decide : 60 + 0 ≤ _), (by decide : 4025 + 0 ≤ _)⟩)
              dsimp only [Pt.U, Pt.locs, Pt.cells, Pt.slots] at X80 l80 y80 z80 st80 hQ80
              subst y80 z80
              obtain ⟨rfl, Nq80, e80⟩ := hQ80
              have N80_ : Fr Z.heap.size L80 := by rw [l80]; exact Fr.app N70_ Nq80
              refine Go.trans st80 ?_
              refine Go.step (fun _ kt_ => XS.astore X80.here hx rfl (hb hby at_214) rfl rfl (l' := #[.val (.long x0), .second, .val (.long x1), .second, .val (.long x2), .second, .val (.int x3), .val (.int (3 : Int32)), .val (.int yc13_8), .val (.int sg), .val (.long q), .second, .val (.ref b3), .val (.ref b1q6), .val (.ref b1q5q10), .val (.ref yc13_15), .val (.ref yc31_16), .val (.ref b32), .val .null, .unset]) rfl kt_) ?_
              refine Go.step (fun _ kt_ => XS.aconstNull X80.here hx rfl (hb hby at_216)  kt_) ?_
              refine Go.step (fun _ kt_ => XS.astore X80.here hx rfl (hb hby at_217) rfl rfl (l' := #[.val (.long x0), .second, .val (.long x1), .second, .val (.long x2), .second, .val (.int x3), .val (.int (3 : Int32)), .val (.int yc13_8), .val (.int sg), .val (.long q), .second, .val (.ref b3), .val (.ref b1q6), .val (.ref b1q5q10), .val (.ref yc13_15), .val (.ref yc31_16), .val (.ref b32), .val .null, .val .null]) rfl kt_) ?_
              refine Go.step (fun _ kt_ => XS.iload X80.here hx rfl (hb hby at_219) rfl kt_) ?_
              refine Go.step (fun _ kt_ => XS.iconst X80.here hx rfl (hb hby at_221)  kt_) ?_
              refine Go.step (fun _ kt_ => XS.icmpNo X80.here hx rfl (hb hby at_222) rfl (teq (by decide : (3 : Int32) = (3 : Int32))).2 kt_) ?_
              refine Go.step (fun _ kt_ => XS.iload X80.here hx rfl (hb hby at_225) rfl kt_) ?_
              refine Go.step (fun _ kt_ => XS.ifNo X80.here hx rfl (hb hby at_227) rfl ((if0 _ _).trans (teq rc31_27).2) kt_) ?_
              refine Go.step (fun _ kt_ => XS.lloadN X80.here hx rfl (hb hby at_230) rfl kt_) ?_
              refine Go.step (fun _ kt_ => XS.lloadN X80.here hx rfl (hb hby at_231) rfl kt_) ?_
              show Go _ _ _ _ _ _ _ _ T80 (mkF m 232 #[.val (.long x0), .second, .val (.long x1), .second, .val (.long x2), .second, .val (.int x3), .val (.int (3 : Int32)), .val (.int yc13_8), .val (.int sg), .val (.long q), .second, .val (.ref b3), .val (.ref b1q6), .val (.ref b1q5q10), .val (.ref yc13_15), .val (.ref yc31_16), .val (.ref b32), .val .null, .val .null] [(.long x0), (.long x1)])
              refine Go.step (fun _ kt_ => XS.lcmp X80.here hx rfl (hb hby at_232) rfl kt_) ?_
              refine Go.step (fun _ kt_ => XS.ifYes X80.here hx rfl (pc0 := 233) (pc' := 240) rfl (hb hby at_233) rfl ((if0 _ _).trans (tlt hlt).1) (by decide) (by decide) kt_) ?_
              refine Go.step (fun _ kt_ => XS.aload X80.here hx rfl (hb hby at_240) rfl rfl kt_) ?_
              refine Go.step (fun _ kt_ => XS.aload X80.here hx rfl (hb hby at_242) rfl rfl kt_) ?_
              refine Go.step (fun _ kt_ => Jvm.RoadKit.acmp (g := (mkF m 244 #[.val (.long x0), .second, .val (.long x1), .second, .val (.long x2), .second, .val (.int x3), .val (.int (3 : Int32)), .val (.int yc13_8), .val (.int sg), .val (.long q), .second, .val (.ref b3), .val (.ref b1q6), .val (.ref b1q5q10), .val (.ref yc13_15), .val (.ref yc31_16), .val (.ref b32), .val .null, .val .null] [.null, .null])) X80 hx rfl rfl rfl (pc0 := 244) (pc' := 247) (same := true) rfl (hb hby at_244) rfl (decide_eq_true rfl) (by decide) (by decide) kt_) ?_
              show Go _ _ _ _ _ _ _ _ T80 (mkF m 247 #[.val (.long x0), .second, .val (.long x1), .second, .val (.long x2), .second, .val (.int x3), .val (.int (3 : Int32)), .val (.int yc13_8), .val (.int sg), .val (.long q), .second, .val (.ref b3), .val (.ref b1q6), .val (.ref b1q5q10), .val (.ref yc13_15), .val (.ref yc31_16), .val (.ref b32), .val .null, .val .null] [])
              refine Go.step (fun _ kt_ => XS.iconst X80.here hx rfl (hb hby at_247)  kt_) ?_
              refine Go.step (fun _ kt_ => XS.goto X80.here hx rfl (pc0 := 248) (pc' := 252) rfl (hb hby at_248) (by decide) (by decide) kt_) ?_
              exact Go.retNW X80 Sc31 (by rw [e80]; exact (Nat.le_trans (Nat.le_trans (Nat.le_trans (Nat.le_trans (Nat.le_trans kkc31 E32.1) Kq33.1) (Keep.of_wr W57).1) (Keep.of_wr W60).1) Kq70.1)) hx (t := .boolean) hret (by simp) hlk (hb hby at_252) (by decide) (by decide) ⟨rfl, N80_, trivial⟩
            · show Go _ _ _ _ _ _ _ _ T70 (mkF m 211 #[.val (.long x0), .second, .val (.long x1), .second, .val (.long x2), .second, .val (.int x3), .val (.int (3 : Int32)), .val (.int yc13_8), .val (.int sg), .val (.long q), .second, .val (.ref b3), .val (.ref b1q6), .val (.ref b1q5q10), .val (.ref yc13_15), .val (.ref yc31_16), .val (.ref b32), .unset, .unset] [(.long x0), (.ref b1q6)])
              have f81 := ((Fld.other W60 F57 (Or.inl (Ne.symm (Nat.ne_of_lt (Nat.lt_of_lt_of_le rc31_14.lt (Nat.le_of_eq hb32.symm)))))).keep Kq70 (ninS (Ne.symm (Nat.ne_of_lt (Nat.lt_of_lt_of_le rc31_17.lt (Nat.le_of_eq hb32.symm)))) nin0))
              have f82 := (Fld.other W60 (Fld.other W57 ((Fld.ext E32 rc31_24).keep Kq33 (ninS (Nat.ne_of_lt (Nat.lt_of_lt_of_le rc31_14.lt (Nat.le_of_eq hb32.symm))) nin0)) (Or.inl (Nat.ne_of_lt (Nat.lt_of_lt_of_le rc31_14.lt (Nat.le_of_eq hb32.symm))))) (Or.inr (Ne.symm (sn_319 hw))))
              have f83 := (f82.keep Kq70 (ninS (Ne.symm rc31_19) nin0))
              have f84 := (Fld.other W60 (Fld.other W57 ((Fld.ext E32 rc31_26).keep Kq33 (ninS (Nat.ne_of_lt (Nat.lt_of_lt_of_le rc31_14.lt (Nat.le_of_eq hb32.symm))) nin0)) (Or.inl (Nat.ne_of_lt (Nat.lt_of_lt_of_le rc31_14.lt (Nat.le_of_eq hb32.symm))))) (Or.inr (Ne.symm (sn_321 hw))))
              have f85 := (f84.keep Kq70 (ninS (Ne.symm rc31_19) nin0))
              obtain ⟨cq86, kq86, q86a, q86b, q86c⟩ := isOf hZc31 rfl (f61.keep Kq70)
              obtain ⟨_, _, ⟨T86, L86, k86, n86⟩, -, X86, ⟨Lc86, hQ86, l86, y86, z86⟩, st86⟩ := X70.virtualBack hx (y := (⟨"org/matchstone/engine/BookSide$Walk", "nextBehind", "(J)Lorg/matchstone/engine/BookSide$Order;"⟩ : MethodName)) (z := (⟨"org/matchstone/engine/BookSide$Walk", "nextBehind", "(J)Lorg/matchstone/engine/BookSide$Order;"⟩ : MethodName)) hownc31 (mvT hZc31 (wd hw 390 rfl)) (mvT hZc31 (wd hw 391 rfl)) (notFace_of_selects (args := #[]) (mvT hZc31 (wd hw 393 rfl))) (mvT hZc31 (wd hw 393 rfl)) (mvT hZc31 (wd hw 392 rfl)) (by decide) (backOf (W := 0) (rm_a41_3 l Z a0 hw []  b1q6 x0 b32 yc13_15 wc13_2 x1 T70.heap O70_ p70_1 f81 f83 rc31_25 f85 hlt) hZc31 (wd hw 394 rfl) (wd hw 139 rfl) (by decide) (by decide)) q86a q86c (g := (mkF m 211 #[.val (.long x0), .second, .val (.long x1), .second, .val (.long x2), .second, .val (.int x3), .val (.int (3 : Int32)), .val (.int yc13_8), .val (.int sg), .val (.long q), .second, .val (.ref b3), .val (.ref b1q6), .val (.ref b1q5q10), .val (.ref yc13_15), .val (.ref yc31_16), .val (.ref b32), .unset, .unset] [(.long x0), (.ref b1q6)])) rfl (by rw [hml]; rfl) (Steps.refl _) (argsL := [(.long x0)]) (rest := []) (lenOf pd_LJRLorg_matchstone_engine_BookSideSOrder_ rfl) rfl (by show 2 * 0 + _ ≤ _; exact Nat.le_of_eq rfl) (hb hby at_211) (fun _ _ => ⟨rfl, rfl, (by decide : 60 + 0 ≤ _), (by decide : 4025 + 0 ≤ _)⟩)
              dsimp only [Pt.U, Pt.locs, Pt.cells, Pt.slots] at X86 l86 y86 z86 st86 hQ86
              subst y86 z86
              obtain ⟨rfl, Nq86, e86⟩ := hQ86
              have N86_ : Fr Z.heap.size L86 := by rw [l86]; exact Fr.app N70_ Nq86
              refine Go.trans st86 ?_
              refine Go.step (fun _ kt_ => XS.astore X86.here hx rfl (hb hby at_214) rfl rfl (l' := #[.val (.long x0), .second, .val (.long x1), .second, .val (.long x2), .second, .val (.int x3), .val (.int (3 : Int32)), .val (.int yc13_8), .val (.int sg), .val (.long q), .second, .val (.ref b3), .val (.ref b1q6), .val (.ref b1q5q10), .val (.ref yc13_15), .val (.ref yc31_16), .val (.ref b32), .val (.ref yc13_15), .unset]) rfl kt_) ?_
              refine Go.step (fun _ kt_ => XS.aconstNull X86.here hx rfl (hb hby at_216)  kt_) ?_
              refine Go.step (fun _ kt_ => XS.astore X86.here hx rfl (hb hby at_217) rfl rfl (l' := #[.val (.long x0), .second, .val (.long x1), .second, .val (.long x2), .second, .val (.int x3), .val (.int (3 : Int32)), .val (.int yc13_8), .val (.int sg), .val (.long q), .second, .val (.ref b3), .val (.ref b1q6), .val (.ref b1q5q10), .val (.ref yc13_15), .val (.ref yc31_16), .val (.ref b32), .val (.ref yc13_15), .val .null]) rfl kt_) ?_
              refine Go.step (fun _ kt_ => XS.iload X86.here hx rfl (hb hby at_219) rfl kt_) ?_
              refine Go.step (fun _ kt_ => XS.iconst X86.here hx rfl (hb hby at_221)  kt_) ?_
              refine Go.step (fun _ kt_ => XS.icmpNo X86.here hx rfl (hb hby at_222) rfl (teq (by decide : (3 : Int32) = (3 : Int32))).2 kt_) ?_
              refine Go.step (fun _ kt_ => XS.iload X86.here hx rfl (hb hby at_225) rfl kt_) ?_
              refine Go.step (fun _ kt_ => XS.ifNo X86.here hx rfl (hb hby at_227) rfl ((if0 _ _).trans (teq rc31_27).2) kt_) ?_
              refine Go.step (fun _ kt_ => XS.lloadN X86.here hx rfl (hb hby at_230) rfl kt_) ?_
              refine Go.step (fun _ kt_ => XS.lloadN X86.here hx rfl (hb hby at_231) rfl kt_) ?_
              show Go _ _ _ _ _ _ _ _ T86 (mkF m 232 #[.val (.long x0), .second, .val (.long x1), .second, .val (.long x2), .second, .val (.int x3), .val (.int (3 : Int32)), .val (.int yc13_8), .val (.int sg), .val (.long q), .second, .val (.ref b3), .val (.ref b1q6), .val (.ref b1q5q10), .val (.ref yc13_15), .val (.ref yc31_16), .val (.ref b32), .val (.ref yc13_15), .val .null] [(.long x0), (.long x1)])
              refine Go.step (fun _ kt_ => XS.lcmp X86.here hx rfl (hb hby at_232) rfl kt_) ?_
              refine Go.step (fun _ kt_ => XS.ifNo X86.here hx rfl (hb hby at_233) rfl ((if0 _ _).trans (flt hlt).1) kt_) ?_
              refine Go.step (fun _ kt_ => XS.aload X86.here hx rfl (hb hby at_236) rfl rfl kt_) ?_
              refine Go.step (fun _ kt_ => XS.astore X86.here hx rfl (hb hby at_238) rfl rfl (l' := #[.val (.long x0), .second, .val (.long x1), .second, .val (.long x2), .second, .val (.int x3), .val (.int (3 : Int32)), .val (.int yc13_8), .val (.int sg), .val (.long q), .second, .val (.ref b3), .val (.ref b1q6), .val (.ref b1q5q10), .val (.ref yc13_15), .val (.ref yc31_16), .val (.ref b32), .val (.ref yc13_15), .val (.ref yc13_15)]) rfl kt_) ?_
              refine Go.step (fun _ kt_ => XS.aload X86.here hx rfl (hb hby at_240) rfl rfl kt_) ?_
              refine Go.step (fun _ kt_ => XS.aload X86.here hx rfl (hb hby at_242) rfl rfl kt_) ?_
              refine Go.step (fun _ kt_ => Jvm.RoadKit.acmp (g := (mkF m 244 #[.val (.long x0), .second, .val (.long x1), .second, .val (.long x2), .second, .val (.int x3), .val (.int (3 : Int32)), .val (.int yc13_8), .val (.int sg), .val (.long q), .second, .val (.ref b3), .val (.ref b1q6), .val (.ref b1q5q10), .val (.ref yc13_15), .val (.ref yc31_16), .val (.ref b32), .val (.ref yc13_15), .val (.ref yc13_15)] [(.ref yc13_15), (.ref yc13_15)])) X86 hx rfl rfl rfl (pc0 := 244) (pc' := 247) (same := true) rfl (hb hby at_244) rfl (decide_eq_true rfl) (by decide) (by decide) kt_) ?_
              show Go _ _ _ _ _ _ _ _ T86 (mkF m 247 #[.val (.long x0), .second, .val (.long x1), .second, .val (.long x2), .second, .val (.int x3), .val (.int (3 : Int32)), .val (.int yc13_8), .val (.int sg), .val (.long q), .second, .val (.ref b3), .val (.ref b1q6), .val (.ref b1q5q10), .val (.ref yc13_15), .val (.ref yc31_16), .val (.ref b32), .val (.ref yc13_15), .val (.ref yc13_15)] [])
              refine Go.step (fun _ kt_ => XS.iconst X86.here hx rfl (hb hby at_247)  kt_) ?_
              refine Go.step (fun _ kt_ => XS.goto X86.here hx rfl (pc0 := 248) (pc' := 252) rfl (hb hby at_248) (by decide) (by decide) kt_) ?_
              exact Go.retNW X86 Sc31 (by rw [e86]; exact (Nat.le_trans (Nat.le_trans (Nat.le_trans (Nat.le_trans (Nat.le_trans kkc31 E32.1) Kq33.1) (Keep.of_wr W57).1) (Keep.of_wr W60).1) Kq70.1)) hx (t := .boolean) hret (by simp) hlk (hb hby at_252) (by decide) (by decide) ⟨rfl, N86_, trivial⟩
        obtain ⟨a14, T14, h14, k14, X14, e14, E14, S14, kq14, hZ14, hown14, st14⟩ := ldcS Xc13 hx hZc13 hownc13 (wd hw 361 rfl) wS ec13 Sc13 kkc13 (g := (mkF m 131 #[.val (.long x0), .second, .val (.long x1), .second, .val (.long x2), .second, .val (.int x3), .val (.int k), .val (.int yc13_8), .val (.int sg), .val (.long q), .second, .val (.ref b3), .val (.ref b1q6), .val (.ref b1q5q10), .val (.ref yc13_15), .unset, .unset, .unset, .unset] [])) rfl (hb hby at_131) (n := 4) (by decide) (by decide) (by decide) (by decide)
        have O14_ : Ext Z.heap h14 := extTr Oc13 E14
        refine Go.step st14 ?_
        obtain ⟨T15, X15, e15, st15⟩ := getS2 X14 hx hZ14 hown14 (host := "") (Or.inl (wd hw 4 rfl)) Via.refl e14 (Sta.ext O14_ S_B) (g := (mkF m 133 #[.val (.long x0), .second, .val (.long x1), .second, .val (.long x2), .second, .val (.int x3), .val (.int k), .val (.int yc13_8), .val (.int sg), .val (.long q), .second, .val (.ref b3), .val (.ref b1q6), .val (.ref b1q5q10), .val (.ref yc13_15), .unset, .unset, .unset, .unset] [(.ref a14)])) rfl (hb hby at_133)
        refine Go.step st15 ?_
        refine Go.step (fun _ kt_ => XS.lconst X15.here hx rfl (hb hby at_136)  kt_) ?_
        refine Go.step (X15.ldc2Long hx hown14 (mvT hZ14 (wd hw 154 rfl)) (g := (mkF m 137 #[.val (.long x0), .second, .val (.long x1), .second, .val (.long x2), .second, .val (.int x3), .val (.int k), .val (.int yc13_8), .val (.int sg), .val (.long q), .second, .val (.ref b3), .val (.ref b1q6), .val (.ref b1q5q10), .val (.ref yc13_15), .unset, .unset, .unset, .unset] [(.long (1 : Int64)), (.ref bA), (.ref a14)])) rfl (hb hby at_137)) ?_
        obtain ⟨_, _, ⟨T16, L16, k16, n16⟩, -, X16, Sq16, gq16, ⟨Lc16, hQ16, l16, y16, z16⟩, st16⟩ := callSS X15 hx (y := (⟨"org/matchstone/engine/NewOrder", "limit", "(Ljava/lang/String;Lorg/matchstone/engine/Side;JJ)Lorg/matchstone/engine/NewOrder;"⟩ : MethodName)) hown14 (mvT hZ14 (wd hw 155 rfl)) (mvT hZ14 (wd hw 156 rfl)) (mvT hZ14 (wd hw 157 rfl)) (mvT hZ14 (wd hw 158 rfl)) (by decide) (backOfS (W := 0) (rm_a18_0 l Z a0 hw []  a14 bA (1 : Int64) (100 : Int64) dA h14 O14_ S_D) hZ14 (wd hw 158 rfl) (wd hw 157 rfl) (by decide) (by decide)) (g := (mkF m 140 #[.val (.long x0), .second, .val (.long x1), .second, .val (.long x2), .second, .val (.int x3), .val (.int k), .val (.int yc13_8), .val (.int sg), .val (.long q), .second, .val (.ref b3), .val (.ref b1q6), .val (.ref b1q5q10), .val (.ref yc13_15), .unset, .unset, .unset, .unset] [(.long (100 : Int64)), (.long (1 : Int64)), (.ref bA), (.ref a14)])) rfl (by rw [hml]; rfl) (argsL := [(.ref a14), (.ref bA), (.long (1 : Int64)), (.long (100 : Int64))]) (rest := []) (lenOf pd_LLjava_lang_String_Lorg_matchstone_engine_Side_JJRLorg_matchstone_engine_NewOrder_ rfl) rfl (by show 2 * 0 + _ ≤ _; exact Nat.le_of_eq rfl) (hb hby at_140) (fun _ _ => ⟨rfl, e15, (by decide : 42 + 8 ≤ _), (by decide : 2008 + 104 ≤ _)⟩)
        dsimp only [Pt.U, Pt.locs, Pt.cells, Pt.slots] at X16 l16 y16 z16 st16 hQ16 Sq16 gq16
        subst y16 z16
        obtain ⟨X16, S16, hZ16, hown16⟩ := rebS S14 ((congrArg Array.size e15).symm ▸ kq14) X16 Sq16 gq16 hZ14 hown14
        obtain ⟨b1q3q16, rfl, Nq16, Kq16, p16_0, p16_1, p16_2, p16_3, p16_4, p16_5, p16_6, p16_7, p16_8, p16_9, p16_10, p16_11, p16_12, p16_13⟩ := hQ16
        have O16_ : Ext Z.heap T16.heap := extKeep O14_ Kq16 all0
        have N16_ : Fr Z.heap.size L16 := by rw [l16]; exact Fr.app Nc13 Nq16
        have g_b1q3q16 : Z.heap.size ≤ b1q3q16 := Nat.le_trans O14_.1 p16_0
        refine Go.trans st16 ?_
        refine Go.step (fun _ kt_ => XS.iload X16.here hx rfl (hb hby at_143) rfl kt_) ?_
        refine Go.step (fun _ kt_ => XS.iconst X16.here hx rfl (hb hby at_145)  kt_) ?_
        by_cases hc146_17 : k = (1 : Int32)
        · refine Go.step (fun _ kt_ => XS.icmpNo X16.here hx rfl (hb hby at_146) rfl (teq hc146_17).2 kt_) ?_
          refine Go.step (fun _ kt_ => XS.iconst X16.here hx rfl (hb hby at_149)  kt_) ?_
          refine Go.step (fun _ kt_ => XS.goto X16.here hx rfl (pc0 := 150) (pc' := 154) rfl (hb hby at_150) (by decide) (by decide) kt_) ?_
          obtain ⟨cq18, kq18, q18a, q18b, q18c⟩ := isOf hZ16 rfl p16_1
          obtain ⟨_, _, ⟨T18, L18, k18, n18⟩, -, X18, Sq18, gq18, ⟨Lc18, hQ18, l18, y18, z18⟩, st18⟩ := X16.virtualBackS hx (y := (⟨"org/matchstone/engine/NewOrder", "withDisplayed", "(Z)Lorg/matchstone/engine/NewOrder;"⟩ : MethodName)) (z := (⟨"org/matchstone/engine/NewOrder", "withDisplayed", "(Z)Lorg/matchstone/engine/NewOrder;"⟩ : MethodName)) hown16 (mvT hZ16 (wd hw 240 rfl)) (mvT hZ16 (wd hw 241 rfl)) (notFace_of_selects (args := #[]) (mvT hZ16 (wd hw 243 rfl))) (mvT hZ16 (wd hw 243 rfl)) (mvT hZ16 (wd hw 242 rfl)) (by decide) (backOfS (W := 0) (rm_a24_1 l Z a0 hw []  b1q3q16 a14 bA dA T16.heap O16_ p16_2 p16_3 p16_4 p16_5 S_D p16_6 p16_7 p16_8 p16_9 p16_10 p16_11 p16_12 p16_13) hZ16 (wd hw 244 rfl) (wd hw 157 rfl) (by decide) (by decide)) q18a q18c (g := (mkF m 154 #[.val (.long x0), .second, .val (.long x1), .second, .val (.long x2), .second, .val (.int x3), .val (.int k), .val (.int yc13_8), .val (.int sg), .val (.long q), .second, .val (.ref b3), .val (.ref b1q6), .val (.ref b1q5q10), .val (.ref yc13_15), .unset, .unset, .unset, .unset] [(.int (1 : Int32)), (.ref b1q3q16)])) rfl (by rw [hml]; rfl) (Steps.refl _) (argsL := [(.int (1 : Int32))]) (rest := []) (lenOf pd_LZRLorg_matchstone_engine_NewOrder_ rfl) rfl (by show 2 * 0 + _ ≤ _; exact Nat.le_of_eq rfl) (hb hby at_154) (fun _ _ => ⟨rfl, rfl, (by decide : 50 + 8 ≤ _), (by decide : 2112 + 104 ≤ _)⟩)
          dsimp only [Pt.U, Pt.locs, Pt.cells, Pt.slots] at X18 l18 y18 z18 st18 hQ18 Sq18 gq18
          subst y18 z18
          obtain ⟨X18, S18, hZ18, hown18⟩ := rebS S16 ((Nat.le_refl _)) X18 Sq18 gq18 hZ16 hown16
          obtain ⟨b1q5q18, rfl, Nq18, Kq18, p18_0, p18_1, p18_2, p18_3, p18_4, p18_5, p18_6, p18_7, p18_8, p18_9, p18_10, p18_11, p18_12, p18_13⟩ := hQ18
          have O18_ : Ext Z.heap T18.heap := extKeep O16_ Kq18 all0
          have N18_ : Fr Z.heap.size L18 := by rw [l18]; exact Fr.app N16_ Nq18
          have g_b1q5q18 : Z.heap.size ≤ b1q5q18 := Nat.le_trans O16_.1 p18_0
          refine Go.trans st18 ?_
          refine Go.step (fun _ kt_ => XS.astore X18.here hx rfl (hb hby at_157) rfl rfl (l' := #[.val (.long x0), .second, .val (.long x1), .second, .val (.long x2), .second, .val (.int x3), .val (.int k), .val (.int yc13_8), .val (.int sg), .val (.long q), .second, .val (.ref b3), .val (.ref b1q6), .val (.ref b1q5q10), .val (.ref yc13_15), .val (.ref b1q5q18), .unset, .unset, .unset]) rfl kt_) ?_
          show Go _ _ _ _ _ _ _ _ T18 (mkF m 159 #[.val (.long x0), .second, .val (.long x1), .second, .val (.long x2), .second, .val (.int x3), .val (.int k), .val (.int yc13_8), .val (.int sg), .val (.long q), .second, .val (.ref b3), .val (.ref b1q6), .val (.ref b1q5q10), .val (.ref yc13_15), .val (.ref b1q5q18), .unset, .unset, .unset] [])
          have f20 := (((Fld.ext E14 r2).keep Kq16 nin0).keep Kq18 nin0)
          have f21 := (((Fld.ext E14 r5).keep Kq16 nin0).keep Kq18 nin0)
          have f22 := (((Fld.ext E14 r7).keep Kq16 nin0).keep Kq18 nin0)
          have f23 := (((Fld.ext E14 r8).keep Kq16 nin0).keep Kq18 nin0)
          have f24 := (((Fld.ext E14 r9).keep Kq16 nin0).keep Kq18 nin0)
          have f25 := (((Fld.ext E14 r2).keep Kq16 nin0).keep Kq18 nin0)
          have f26 := (((Fld.ext E14 r5).keep Kq16 nin0).keep Kq18 nin0)
          have f27 := (((Fld.ext E14 r7).keep Kq16 nin0).keep Kq18 nin0)
          have f28 := (((Fld.ext E14 r8).keep Kq16 nin0).keep Kq18 nin0)
          have f29 := (((Fld.ext E14 r9).keep Kq16 nin0).keep Kq18 nin0)
          exact cont159_01 T18 _ _ _ (X18.more (by decide) (by decide)) rfl O18_ N18_ hZ18 hown18 _ S18 (Nat.le_refl _) b1q5q18 a14 (100 : Int64) (1 : Int32) (0 : Int32) (0 : Int32) (0 : Int32) (1 : Int64) p18_1 p18_2 p18_3 p18_5 p18_12 p18_8 p18_9 p18_10 p18_11 p18_6 r0 p18_13 p18_4 hc146_17 (((Exa.ext E14 r1).keep Kq16).keep Kq18) f25 r3 (((Exa.ext E14 r4).keep Kq16).keep Kq18) (by decide) f26 r6 f27 f28 f29
        · refine Go.step (fun _ kt_ => XS.icmpYes X16.here hx rfl (pc0 := 146) (pc' := 153) rfl (hb hby at_146) rfl (feq hc146_17).2 (by decide) (by decide) kt_) ?_
          refine Go.step (fun _ kt_ => XS.iconst X16.here hx rfl (hb hby at_153)  kt_) ?_
          obtain ⟨cq30, kq30, q30a, q30b, q30c⟩ := isOf hZ16 rfl p16_1
          obtain ⟨_, _, ⟨T30, L30, k30, n30⟩, -, X30, Sq30, gq30, ⟨Lc30, hQ30, l30, y30, z30⟩, st30⟩ := X16.virtualBackS hx (y := (⟨"org/matchstone/engine/NewOrder", "withDisplayed", "(Z)Lorg/matchstone/engine/NewOrder;"⟩ : MethodName)) (z := (⟨"org/matchstone/engine/NewOrder", "withDisplayed", "(Z)Lorg/matchstone/engine/NewOrder;"⟩ : MethodName)) hown16 (mvT hZ16 (wd hw 240 rfl)) (mvT hZ16 (wd hw 241 rfl)) (notFace_of_selects (args := #[]) (mvT hZ16 (wd hw 243 rfl))) (mvT hZ16 (wd hw 243 rfl)) (mvT hZ16 (wd hw 242 rfl)) (by decide) (backOfS (W := 0) (rm_a24_0 l Z a0 hw []  b1q3q16 a14 bA (1 : Int64) dA T16.heap O16_ p16_2 p16_3 p16_4 p16_5 S_D p16_6 p16_7 p16_8 p16_9 p16_10 p16_11 p16_12 p16_13) hZ16 (wd hw 244 rfl) (wd hw 157 rfl) (by decide) (by decide)) q30a q30c (g := (mkF m 154 #[.val (.long x0), .second, .val (.long x1), .second, .val (.long x2), .second, .val (.int x3), .val (.int k), .val (.int yc13_8), .val (.int sg), .val (.long q), .second, .val (.ref b3), .val (.ref b1q6), .val (.ref b1q5q10), .val (.ref yc13_15), .unset, .unset, .unset, .unset] [(.int (0 : Int32)), (.ref b1q3q16)])) rfl (by rw [hml]; rfl) (Steps.refl _) (argsL := [(.int (0 : Int32))]) (rest := []) (lenOf pd_LZRLorg_matchstone_engine_NewOrder_ rfl) rfl (by show 2 * 0 + _ ≤ _; exact Nat.le_of_eq rfl) (hb hby at_154) (fun _ _ => ⟨rfl, rfl, (by decide : 50 + 8 ≤ _), (by decide : 2112 + 104 ≤ _)⟩)
          dsimp only [Pt.U, Pt.locs, Pt.cells, Pt.slots] at X30 l30 y30 z30 st30 hQ30 Sq30 gq30
          subst y30 z30
          obtain ⟨X30, S30, hZ30, hown30⟩ := rebS S16 ((Nat.le_refl _)) X30 Sq30 gq30 hZ16 hown16
          obtain ⟨b1q5q30, rfl, Nq30, Kq30, p30_0, p30_1, p30_2, p30_3, p30_4, p30_5, p30_6, p30_7, p30_8, p30_9, p30_10, p30_11, p30_12, p30_13⟩ := hQ30
          have O30_ : Ext Z.heap T30.heap := extKeep O16_ Kq30 all0
          have N30_ : Fr Z.heap.size L30 := by rw [l30]; exact Fr.app N16_ Nq30
          have g_b1q5q30 : Z.heap.size ≤ b1q5q30 := Nat.le_trans O16_.1 p30_0
          refine Go.trans st30 ?_
          refine Go.step (fun _ kt_ => XS.astore X30.here hx rfl (hb hby at_157) rfl rfl (l' := #[.val (.long x0), .second, .val (.long x1), .second, .val (.long x2), .second, .val (.int x3), .val (.int k), .val (.int yc13_8), .val (.int sg), .val (.long q), .second, .val (.ref b3), .val (.ref b1q6), .val (.ref b1q5q10), .val (.ref yc13_15), .val (.ref b1q5q30), .unset, .unset, .unset]) rfl kt_) ?_
          show Go _ _ _ _ _ _ _ _ T30 (mkF m 159 #[.val (.long x0), .second, .val (.long x1), .second, .val (.long x2), .second, .val (.int x3), .val (.int k), .val (.int yc13_8), .val (.int sg), .val (.long q), .second, .val (.ref b3), .val (.ref b1q6), .val (.ref b1q5q10), .val (.ref yc13_15), .val (.ref b1q5q30), .unset, .unset, .unset] [])
          have f32 := (((Fld.ext E14 r2).keep Kq16 nin0).keep Kq30 nin0)
          have f33 := (((Fld.ext E14 r7).keep Kq16 nin0).keep Kq30 nin0)
          have f34 := (((Fld.ext E14 r5).keep Kq16 nin0).keep Kq30 nin0)
          have f35 := (((Fld.ext E14 r8).keep Kq16 nin0).keep Kq30 nin0)
          have f36 := (((Fld.ext E14 r9).keep Kq16 nin0).keep Kq30 nin0)
          have f37 := (((Fld.ext E14 r10).keep Kq16 nin0).keep Kq30 nin0)
          have f38 := (((Fld.ext E14 r12).keep Kq16 nin0).keep Kq30 nin0)
          have f39 := (((Fld.ext E14 r2).keep Kq16 nin0).keep Kq30 nin0)
          have f40 := (((Fld.ext E14 r7).keep Kq16 nin0).keep Kq30 nin0)
          have f41 := (((Fld.ext E14 r5).keep Kq16 nin0).keep Kq30 nin0)
          have f42 := (((Fld.ext E14 r8).keep Kq16 nin0).keep Kq30 nin0)
          have f43 := (((Fld.ext E14 r9).keep Kq16 nin0).keep Kq30 nin0)
          have f44 := (((Fld.ext E14 r10).keep Kq16 nin0).keep Kq30 nin0)
          have f45 := (((Fld.ext E14 r12).keep Kq16 nin0).keep Kq30 nin0)
          exact cont159_00 T30 _ _ _ (X30.more (by decide) (by decide)) rfl O30_ N30_ hZ30 hown30 _ S30 (Nat.le_refl _) b1q5q30 a14 (100 : Int64) (0 : Int32) (0 : Int32) (0 : Int32) (0 : Int32) (1 : Int64) p30_1 p30_2 p30_3 p30_5 p30_12 p30_8 p30_9 p30_10 p30_11 p30_6 r0 p30_13 p30_4 hc146_17 (((Exa.ext E14 r1).keep Kq16).keep Kq30) f39 r3 (((Exa.ext E14 r4).keep Kq16).keep Kq30) f40 r6 (by decide) f41 f42 f43 f44 r11 f45 r13
      refine Go.step (fun _ kt_ => XS.iload X10.here hx rfl (hb hby at_82) rfl kt_) ?_
      refine Go.step (fun _ kt_ => XS.ifYes X10.here hx rfl (pc0 := 84) (pc' := 112) rfl (hb hby at_84) rfl ((if0 _ _).trans (teq (by decide : (0 : Int32) = (0 : Int32))).1) (by decide) (by decide) kt_) ?_
      obtain ⟨T11, h11, X11, e11, E11, A11, D11, U11, st11⟩ := newO X10 hx hZ10 hown10 (wd hw 262 rfl) (wd hw 263 rfl) (wd hw 264 rfl) rfl (g := (mkF m 112 #[.val (.long x0), .second, .val (.long x1), .second, .val (.long x2), .second, .val (.int x3), .val (.int k), .val (.int (0 : Int32)), .val (.int sg), .val (.long q), .second, .val (.ref b3), .val (.ref b1q6), .val (.ref b1q5q10), .unset, .unset, .unset, .unset, .unset] [])) rfl (hb hby at_112) (by decide) (by decide)
      obtain ⟨b11, hb11⟩ : ∃ z, z = T10.heap.size := ⟨_, rfl⟩
      rw [← hb11] at A11 D11 U11 st11
      refine Go.step st11 ?_
      have g_b11 : Z.heap.size ≤ b11 := Nat.le_trans O10_.1 (Nat.le_of_eq hb11.symm)
      have O11_ : Ext Z.heap h11 := extTr O10_ E11
      have F11_id : fl_35 Z h11 b11 .null := D11 (Or.inr (wd hw 276 rfl)) (ty := (.object "java/lang/String")) pf_Ljava_lang_String_
      have F11_side : fl_36 Z h11 b11 .null := D11 (Or.inr (wd hw 283 rfl)) (ty := (.object "org/matchstone/engine/Side")) pf_Lorg_matchstone_engine_Side_
      have F11_price : fl_33 Z h11 b11 (.long (0 : Int64)) := D11 (Or.inl (wd hw 285 rfl)) (ty := .long) pf_J
      have F11_limit : fl_37 Z h11 b11 (.long (0 : Int64)) := D11 (Or.inr (wd hw 292 rfl)) (ty := .long) pf_J
      have F11_peg : fl_38 Z h11 b11 .null := D11 (Or.inr (wd hw 299 rfl)) (ty := (.object "org/matchstone/engine/Peg")) pf_Lorg_matchstone_engine_Peg_
      have F11_displayed : fl_28 Z h11 b11 (.int (0 : Int32)) := D11 (Or.inr (wd hw 306 rfl)) (ty := .boolean) pf_Z
      have F11_postOnly : fl_39 Z h11 b11 (.int (0 : Int32)) := D11 (Or.inr (wd hw 313 rfl)) (ty := .boolean) pf_Z
      have F11_swap : fl_40 Z h11 b11 (.int (0 : Int32)) := D11 (Or.inr (wd hw 320 rfl)) (ty := .boolean) pf_Z
      have F11_superAggressive : fl_41 Z h11 b11 (.int (0 : Int32)) := D11 (Or.inr (wd hw 327 rfl)) (ty := .boolean) pf_Z
      have F11_immediateOrCancel : fl_42 Z h11 b11 (.int (0 : Int32)) := D11 (Or.inr (wd hw 336 rfl)) (ty := .boolean) pf_Z
      have F11_start : fl_43 Z h11 b11 .null := D11 (Or.inr (wd hw 338 rfl)) (ty := (.object "java/time/LocalTime")) pf_Ljava_time_LocalTime_
      have F11_end : fl_44 Z h11 b11 .null := D11 (Or.inr (wd hw 340 rfl)) (ty := (.object "java/time/LocalTime")) pf_Ljava_time_LocalTime_
      have F11_priority : fl_34 Z h11 b11 (.long (0 : Int64)) := D11 (Or.inl (wd hw 342 rfl)) (ty := .long) pf_J
      have F11_entered : fl_45 Z h11 b11 (.long (0 : Int64)) := D11 (Or.inr (wd hw 344 rfl)) (ty := .long) pf_J
      have F11_minQuantity : fl_29 Z h11 b11 (.long (0 : Int64)) := D11 (Or.inr (wd hw 351 rfl)) (ty := .long) pf_J
      have F11_singleOrderMinimum : fl_46 Z h11 b11 (.int (0 : Int32)) := D11 (Or.inr (wd hw 353 rfl)) (ty := .boolean) pf_Z
      have F11_open : fl_31 Z h11 b11 (.long (0 : Int64)) := D11 (Or.inl (wd hw 360 rfl)) (ty := .long) pf_J
      have F11_next : fl_30 Z h11 b11 .null := D11 (Or.inl (wd hw 396 rfl)) (ty := (.object "org/matchstone/engine/BookSide$Order")) pf_Lorg_matchstone_engine_BookSideSOrder_
      have F11_previous : fl_32 Z h11 b11 .null := D11 (Or.inl (wd hw 399 rfl)) (ty := (.object "org/matchstone/engine/BookSide$Order")) pf_Lorg_matchstone_engine_BookSideSOrder_
      refine Go.step (fun _ kt_ => XS.dup X11.here hx rfl (hb hby at_115) rfl rfl kt_) ?_
      refine Go.step (fun _ kt_ => XS.aload X11.here hx rfl (hb hby at_116) rfl rfl kt_) ?_
      refine Go.step (X11.ldc2Long hx hown10 (mvT hZ10 (wd hw 154 rfl)) (g := (mkF m 118 #[.val (.long x0), .second, .val (.long x1), .second, .val (.long x2), .second, .val (.int x3), .val (.int k), .val (.int (0 : Int32)), .val (.int sg), .val (.long q), .second, .val (.ref b3), .val (.ref b1q6), .val (.ref b1q5q10), .unset, .unset, .unset, .unset, .unset] [(.ref b1q5q10), (.ref b11), (.ref b11)])) rfl (hb hby at_118)) ?_
      refine Go.step (fun _ kt_ => XS.aconstNull X11.here hx rfl (hb hby at_121)  kt_) ?_
      refine Go.step (fun _ kt_ => XS.aconstNull X11.here hx rfl (hb hby at_122)  kt_) ?_
      refine Go.step (X11.ldc2Long hx hown10 (mvT hZ10 (wd hw 265 rfl)) (g := (mkF m 123 #[.val (.long x0), .second, .val (.long x1), .second, .val (.long x2), .second, .val (.int x3), .val (.int k), .val (.int (0 : Int32)), .val (.int sg), .val (.long q), .second, .val (.ref b3), .val (.ref b1q6), .val (.ref b1q5q10), .unset, .unset, .unset, .unset, .unset] [.null, .null, (.long (100 : Int64)), (.ref b1q5q10), (.ref b11), (.ref b11)])) rfl (hb hby at_123)) ?_
      obtain ⟨_, _, ⟨T12, L12, k12, n12⟩, -, X12, ⟨Lc12, hQ12, l12, y12, z12⟩, st12⟩ := X11.specialBack hx (y := (⟨"org/matchstone/engine/BookSide$Order", "<init>", "(Lorg/matchstone/engine/NewOrder;JLjava/time/LocalTime;Ljava/time/LocalTime;J)V"⟩ : MethodName)) rfl hown10 (mvT hZ10 (wd hw 266 rfl)) (mvT hZ10 (wd hw 267 rfl)) (mvT hZ10 (wd hw 268 rfl)) (by decide) (backOf (W := 1) (rm_a26_0 l Z a0 hw []  b11 b1q5q10 (100 : Int64) (2 : Int64) a7 bA (0 : Int64) (100 : Int64) (0 : Int64) (0 : Int32) (0 : Int32) (0 : Int32) (0 : Int32) (0 : Int32) (0 : Int32) (0 : Int32) (0 : Int32) dA iA (0 : Int32) (0 : Int64) (0 : Int64) (0 : Int64) (0 : Int32) x1 (0 : Int64) h11 O11_ (Exa.ext E11 p10_1) (Fld.ext E11 p10_2) A11 F11_id g_b11 (Fld.ext E11 p10_3) (Nat.ne_of_lt (Nat.lt_of_lt_of_le p10_1.lt (Nat.le_of_eq hb11.symm))) F11_side F11_price (Fld.ext E11 p10_5) F11_limit (Fld.ext E11 p10_12) F11_peg (Fld.ext E11 p10_8) F11_displayed (Fld.ext E11 p10_9) F11_postOnly (Fld.ext E11 p10_10) F11_swap (Fld.ext E11 p10_11) F11_superAggressive (Fld.ext E11 p10_6) S_I hne F11_immediateOrCancel F11_start F11_end F11_priority F11_entered (Fld.ext E11 p10_13) F11_minQuantity F11_singleOrderMinimum (Fld.ext E11 p10_4) F11_open F11_next F11_previous) hZ10 (wd hw 268 rfl) (wd hw 264 rfl) (by decide) (by decide)) (g := (mkF m 126 #[.val (.long x0), .second, .val (.long x1), .second, .val (.long x2), .second, .val (.int x3), .val (.int k), .val (.int (0 : Int32)), .val (.int sg), .val (.long q), .second, .val (.ref b3), .val (.ref b1q6), .val (.ref b1q5q10), .unset, .unset, .unset, .unset, .unset] [(.long (2 : Int64)), .null, .null, (.long (100 : Int64)), (.ref b1q5q10), (.ref b11), (.ref b11)])) rfl (by rw [hml]; rfl) (Steps.refl _) (a := b11) (argsL := [(.ref b1q5q10), (.long (100 : Int64)), .null, .null, (.long (2 : Int64))]) (rest := [(.ref b11)]) (lenOf pd_LLorg_matchstone_engine_NewOrder_JLjava_time_LocalTime_Ljava_time_LocalTime_JRV rfl) rfl (by show 2 * 0 + _ ≤ _; exact Nat.le_of_eq rfl) (hb hby at_126) (fun _ _ => ⟨rfl, e11, (by decide : 29 + 0 ≤ _), (by decide : 289 + 0 ≤ _)⟩)
      dsimp only [Pt.U, Pt.locs, Pt.cells, Pt.slots] at X12 l12 y12 z12 st12 hQ12
      subst y12 z12
      obtain ⟨rfl, Nq12, Kq12, p12_0, p12_1, p12_2, p12_3, p12_4, p12_5, p12_6⟩ := hQ12
      have O12_ : Ext Z.heap T12.heap := extKeep O11_ Kq12 (allS g_b11 all0)
      have N12_ : Fr Z.heap.size L12 := by rw [l12]; exact Fr.app N10_ Nq12
      refine Go.trans st12 ?_
      refine Go.step (fun _ kt_ => XS.astore X12.here hx rfl (hb hby at_129) rfl rfl (l' := #[.val (.long x0), .second, .val (.long x1), .second, .val (.long x2), .second, .val (.int x3), .val (.int k), .val (.int (0 : Int32)), .val (.int sg), .val (.long q), .second, .val (.ref b3), .val (.ref b1q6), .val (.ref b1q5q10), .val (.ref b11), .unset, .unset, .unset, .unset]) rfl kt_) ?_
      show Go _ _ _ _ _ _ _ _ T12 (mkF m 131 #[.val (.long x0), .second, .val (.long x1), .second, .val (.long x2), .second, .val (.int x3), .val (.int k), .val (.int (0 : Int32)), .val (.int sg), .val (.long q), .second, .val (.ref b3), .val (.ref b1q6), .val (.ref b1q5q10), .val (.ref b11), .unset, .unset, .unset, .unset] [])
      have f14 := (Exa.ext E11 (((Exa.ext E7 p6_1).keep Kq9).keep Kq10))
      have f15 := (Fld.ext E11 (((Fld.ext E7 p6_2).keep Kq9 nin0).keep Kq10 nin0))
      have f16 := (f15.keep Kq12 (ninS (Nat.ne_of_lt (Nat.lt_of_lt_of_le (((Exa.ext E7 p6_1).keep Kq9).keep Kq10).lt (Nat.le_of_eq hb11.symm))) nin0))
      have f17 := (Fld.ext E11 (((Fld.ext E7 p6_3).keep Kq9 nin0).keep Kq10 nin0))
      have f18 := (f17.keep Kq12 (ninS (Nat.ne_of_lt (Nat.lt_of_lt_of_le (((Exa.ext E7 p6_1).keep Kq9).keep Kq10).lt (Nat.le_of_eq hb11.symm))) nin0))
      have f19 := (Fld.ext E11 (((Fld.ext E7 p6_4).keep Kq9 nin0).keep Kq10 nin0))
      have f20 := (f19.keep Kq12 (ninS (Nat.ne_of_lt (Nat.lt_of_lt_of_le (((Exa.ext E7 p6_1).keep Kq9).keep Kq10).lt (Nat.le_of_eq hb11.symm))) nin0))
      have f21 := (Fld.ext E11 (((Fld.ext E7 p6_5).keep Kq9 nin0).keep Kq10 nin0))
      have f22 := (f21.keep Kq12 (ninS (Nat.ne_of_lt (Nat.lt_of_lt_of_le (((Exa.ext E7 p6_1).keep Kq9).keep Kq10).lt (Nat.le_of_eq hb11.symm))) nin0))
      have f23 := (Exa.ext E11 (((Exa.ext E7 p6_1).keep Kq9).keep Kq10))
      have f24 := (Fld.ext E11 (((Fld.ext E7 p6_2).keep Kq9 nin0).keep Kq10 nin0))
      have f25 := (f24.keep Kq12 (ninS (Nat.ne_of_lt (Nat.lt_of_lt_of_le (((Exa.ext E7 p6_1).keep Kq9).keep Kq10).lt (Nat.le_of_eq hb11.symm))) nin0))
      have f26 := (Fld.ext E11 (((Fld.ext E7 p6_3).keep Kq9 nin0).keep Kq10 nin0))
      have f27 := (f26.keep Kq12 (ninS (Nat.ne_of_lt (Nat.lt_of_lt_of_le (((Exa.ext E7 p6_1).keep Kq9).keep Kq10).lt (Nat.le_of_eq hb11.symm))) nin0))
      have f28 := (Fld.ext E11 (((Fld.ext E7 p6_4).keep Kq9 nin0).keep Kq10 nin0))
      have f29 := (f28.keep Kq12 (ninS (Nat.ne_of_lt (Nat.lt_of_lt_of_le (((Exa.ext E7 p6_1).keep Kq9).keep Kq10).lt (Nat.le_of_eq hb11.symm))) nin0))
      have f30 := (Fld.ext E11 (((Fld.ext E7 p6_5).keep Kq9 nin0).keep Kq10 nin0))
      have f31 := (f30.keep Kq12 (ninS (Nat.ne_of_lt (Nat.lt_of_lt_of_le (((Exa.ext E7 p6_1).keep Kq9).keep Kq10).lt (Nat.le_of_eq hb11.symm))) nin0))
      exact cont131_0 T12 _ _ _ (X12.more (by decide) (by decide)) rfl O12_ N12_ hZ10 hown10 _ S10 (Nat.le_trans (Nat.le_trans (Nat.le_refl _) E11.1) Kq12.1) (0 : Int32) b11 (0 : Int32) (0 : Int64) hne (A11.keep Kq12) p12_4 g_b11 (f23.keep Kq12) f25 (Nat.ne_of_lt (Nat.lt_of_lt_of_le (((Exa.ext E7 p6_1).keep Kq9).keep Kq10).lt (Nat.le_of_eq hb11.symm))) f27 f29 f31 p12_1 (by decide) p12_3 (by decide)
    refine Go.step (fun _ kt_ => XS.iload X0.here hx rfl (hb hby at_20) rfl kt_) ?_
    refine Go.step (fun _ kt_ => XS.bipush X0.here hx rfl (hb hby at_22)  kt_) ?_
    refine Go.step (fun _ kt_ => XS.iand X0.here hx rfl (hb hby at_24) rfl kt_) ?_
    by_cases hc25_32 : (x3 &&& (8 : Int32)) = (0 : Int32)
    · refine Go.step (fun _ kt_ => XS.ifYes X0.here hx rfl (pc0 := 25) (pc' := 32) rfl (hb hby at_25) rfl ((if0 _ _).trans (teq hc25_32).1) (by decide) (by decide) kt_) ?_
      refine Go.step (fun _ kt_ => XS.iconst X0.here hx rfl (hb hby at_32)  kt_) ?_
      refine Go.step (fun _ kt_ => XS.istore X0.here hx rfl (hb hby at_33) rfl (l' := #[.val (.long x0), .second, .val (.long x1), .second, .val (.long x2), .second, .val (.int x3), .val (.int k), .val (.int (0 : Int32)), .val (.int (0 : Int32)), .unset, .unset, .unset, .unset, .unset, .unset, .unset, .unset, .unset, .unset]) rfl kt_) ?_
      exact cut35 s₁ _ _ X0 e0 N0 hZ hown _ S0 kk0 (0 : Int32) 
    · refine Go.step (fun _ kt_ => XS.ifNo X0.here hx rfl (hb hby at_25) rfl ((if0 _ _).trans (feq hc25_32).1) kt_) ?_
      refine Go.step (fun _ kt_ => XS.iconst X0.here hx rfl (hb hby at_28)  kt_) ?_
      refine Go.step (fun _ kt_ => XS.goto X0.here hx rfl (pc0 := 29) (pc' := 33) rfl (hb hby at_29) (by decide) (by decide) kt_) ?_
      refine Go.step (fun _ kt_ => XS.istore X0.here hx rfl (hb hby at_33) rfl (l' := #[.val (.long x0), .second, .val (.long x1), .second, .val (.long x2), .second, .val (.int x3), .val (.int k), .val (.int (0 : Int32)), .val (.int (1 : Int32)), .unset, .unset, .unset, .unset, .unset, .unset, .unset, .unset, .unset, .unset]) rfl kt_) ?_
      exact cut35 s₁ _ _ X0 e0 N0 hZ hown _ S0 kk0 (1 : Int32) 
  · refine Go.step (fun _ kt_ => XS.ifNo X0.here hx rfl (hb hby at_10) rfl ((if0 _ _).trans (feq hc10_1).1) kt_) ?_
    refine Go.step (fun _ kt_ => XS.iconst X0.here hx rfl (hb hby at_13)  kt_) ?_
    refine Go.step (fun _ kt_ => XS.goto X0.here hx rfl (pc0 := 14) (pc' := 18) rfl (hb hby at_14) (by decide) (by decide) kt_) ?_
    refine Go.step (fun _ kt_ => XS.istore X0.here hx rfl (hb hby at_18) rfl (l' := #[.val (.long x0), .second, .val (.long x1), .second, .val (.long x2), .second, .val (.int x3), .val (.int k), .val (.int (1 : Int32)), .unset, .unset, .unset, .unset, .unset, .unset, .unset, .unset, .unset, .unset, .unset]) rfl kt_) ?_
    show Go _ _ _ _ _ _ _ _ s₁ (mkF m 20 #[.val (.long x0), .second, .val (.long x1), .second, .val (.long x2), .second, .val (.int x3), .val (.int k), .val (.int (1 : Int32)), .unset, .unset, .unset, .unset, .unset, .unset, .unset, .unset, .unset, .unset, .unset] [])
    have cut35 : ∀ (Tc33 : State) (Lc33 : List Loc) (vmc33 : Vm) (Xc33 : Stand p l e room_1 (s.setVm vmc33) m #[(.long x0), (.long x1), (.long x2), (.int x3)] below meth c Tc33 Lc33 0 0) (ec33 : Tc33.heap = h0) (Nc33 : Fr Z.heap.size Lc33) (hZc33 : Z.Warmed39 (s.setVm vmc33).vm) (hownc33 : (s.setVm vmc33).vm.findClass "org/matchstone/engine/WalkNextBehindPinLaw" = some m.cls) (kc33 : Nat) (Sc33 : s.Since vmc33 kc33) (kkc33 : kc33 ≤ h0.size) (sg : Int32) , Go ReturnedEndW p e below s (room_1).cells (room_1).slots (Q_0 Z  h0) Tc33 (mkF m 35 #[.val (.long x0), .second, .val (.long x1), .second, .val (.long x2), .second, .val (.int x3), .val (.int k), .val (.int (1 : Int32)), .val (.int sg), .unset, .unset, .unset, .unset, .unset, .unset, .unset, .unset, .unset, .unset] []) := by
      intro Tc33 Lc33 vmc33 Xc33 ec33 Nc33 hZc33 hownc33 kc33 Sc33 kkc33 sg 
      refine Go.step (fun _ kt_ => XS.lconst Xc33.here hx rfl (hb hby at_35)  kt_) ?_
      refine Go.step (fun _ kt_ => XS.lload Xc33.here hx rfl (hb hby at_36) rfl kt_) ?_
      refine Go.step (Xc33.ldc2Long hx hownc33 (mvT hZc33 (wd hw 0 rfl)) (g := (mkF m 38 #[.val (.long x0), .second, .val (.long x1), .second, .val (.long x2), .second, .val (.int x3), .val (.int k), .val (.int (1 : Int32)), .val (.int sg), .unset, .unset, .unset, .unset, .unset, .unset, .unset, .unset, .unset, .unset] [(.long x2), (.long (1 : Int64))])) rfl (hb hby at_38)) ?_
      refine Go.step (fun _ kt_ => XS.land Xc33.here hx rfl (hb hby at_41) rfl kt_) ?_
      refine Go.step (fun _ kt_ => XS.ladd Xc33.here hx rfl (hb hby at_42) rfl kt_) ?_
      show Go _ _ _ _ _ _ _ _ Tc33 (mkF m 43 #[.val (.long x0), .second, .val (.long x1), .second, .val (.long x2), .second, .val (.int x3), .val (.int k), .val (.int (1 : Int32)), .val (.int sg), .unset, .unset, .unset, .unset, .unset, .unset, .unset, .unset, .unset, .unset] [(.long ((1 : Int64) + (x2 &&& (4611686018427387903 : Int64))))])
      have hq0 := own_q x2
      generalize ((1 : Int64) + (x2 &&& (4611686018427387903 : Int64))) = q at hq0 ⊢
      show Go _ _ _ _ _ _ _ _ Tc33 (mkF m 43 #[.val (.long x0), .second, .val (.long x1), .second, .val (.long x2), .second, .val (.int x3), .val (.int k), .val (.int (1 : Int32)), .val (.int sg), .unset, .unset, .unset, .unset, .unset, .unset, .unset, .unset, .unset, .unset] [(.long q)])
      refine Go.step (fun _ kt_ => XS.lstore Xc33.here hx rfl (hb hby at_43) rfl (l' := #[.val (.long x0), .second, .val (.long x1), .second, .val (.long x2), .second, .val (.int x3), .val (.int k), .val (.int (1 : Int32)), .val (.int sg), .val (.long q), .second, .unset, .unset, .unset, .unset, .unset, .unset, .unset, .unset]) rfl kt_) ?_
      obtain ⟨T34, h34, X34, e34, E34, A34, D34, U34, st34⟩ := newO Xc33 hx hZc33 hownc33 (wd hw 1 rfl) (wd hw 2 rfl) (wd hw 3 rfl) ec33 (g := (mkF m 45 #[.val (.long x0), .second, .val (.long x1), .second, .val (.long x2), .second, .val (.int x3), .val (.int k), .val (.int (1 : Int32)), .val (.int sg), .val (.long q), .second, .unset, .unset, .unset, .unset, .unset, .unset, .unset, .unset] [])) rfl (hb hby at_45) (by decide) (by decide)
      obtain ⟨b34, hb34⟩ : ∃ z, z = h0.size := ⟨_, rfl⟩
      rw [← hb34] at A34 D34 U34 st34
      refine Go.step st34 ?_
      have g_b34 : Z.heap.size ≤ b34 := Nat.le_trans O0.1 (Nat.le_of_eq hb34.symm)
      have O34_ : Ext Z.heap h34 := extTr O0 E34
      have F34_side : Fld Z h34 b34 "org/matchstone/engine/BookSide" "side" "Lorg/matchstone/engine/Side;" .null := D34 (Or.inr (wd hw 14 rfl)) (ty := (.object "org/matchstone/engine/Side")) pf_Lorg_matchstone_engine_Side_
      have F34_levels : Fld Z h34 b34 "org/matchstone/engine/BookSide" "levels" "Lorg/matchstone/engine/Ladder;" .null := D34 (Or.inr (wd hw 89 rfl)) (ty := (.object "org/matchstone/engine/Ladder")) pf_Lorg_matchstone_engine_Ladder_
      have F34_hiddenOrders : Fld Z h34 b34 "org/matchstone/engine/BookSide" "hiddenOrders" "Lorg/matchstone/engine/MinimumIndex;" .null := D34 (Or.inr (wd hw 131 rfl)) (ty := (.object "org/matchstone/engine/MinimumIndex")) pf_Lorg_matchstone_engine_MinimumIndex_
      refine Go.step (fun _ kt_ => XS.dup X34.here hx rfl (hb hby at_48) rfl rfl kt_) ?_
      obtain ⟨T35, X35, e35, st35⟩ := getS2 X34 hx hZc33 hownc33 (host := "") (Or.inl (wd hw 4 rfl)) Via.refl e34 (Sta.ext O34_ S_B) (g := (mkF m 49 #[.val (.long x0), .second, .val (.long x1), .second, .val (.long x2), .second, .val (.int x3), .val (.int k), .val (.int (1 : Int32)), .val (.int sg), .val (.long q), .second, .unset, .unset, .unset, .unset, .unset, .unset, .unset, .unset] [(.ref b34), (.ref b34)])) rfl (hb hby at_49)
      refine Go.step st35 ?_
      obtain ⟨_, _, ⟨T36, L36, k36, n36⟩, -, X36, ⟨Lc36, hQ36, l36, y36, z36⟩, st36⟩ := X35.specialBack hx (y := (⟨"org/matchstone/engine/BookSide", "<init>", "(Lorg/matchstone/engine/Side;)V"⟩ : MethodName)) rfl hownc33 (mvT hZc33 (wd hw 7 rfl)) (mvT hZc33 (wd hw 8 rfl)) (mvT hZc33 (wd hw 9 rfl)) (by decide) (backOf (W := 1) (rm_a1_0 l Z a0 hw []  b34 bA rA h34 O34_ A34 F34_side g_b34 S_B S_RO F34_levels F34_hiddenOrders) hZc33 (wd hw 9 rfl) (wd hw 3 rfl) (by decide) (by decide)) (g := (mkF m 52 #[.val (.long x0), .second, .val (.long x1), .second, .val (.long x2), .second, .val (.int x3), .val (.int k), .val (.int (1 : Int32)), .val (.int sg), .val (.long q), .second, .unset, .unset, .unset, .unset, .unset, .unset, .unset, .unset] [(.ref bA), (.ref b34), (.ref b34)])) rfl (by rw [hml]; rfl) (Steps.refl _) (a := b34) (argsL := [(.ref bA)]) (rest := [(.ref b34)]) (lenOf pd_LLorg_matchstone_engine_Side_RV rfl) rfl (by show 2 * 0 + _ ≤ _; exact Nat.le_of_eq rfl) (hb hby at_52) (fun _ _ => ⟨rfl, e35, (by decide : 1 + 8 ≤ _), (by decide : 3 + 42 ≤ _)⟩)
      dsimp only [Pt.U, Pt.locs, Pt.cells, Pt.slots] at X36 l36 y36 z36 st36 hQ36
      subst y36 z36
      obtain ⟨rfl, Nq36, Kq36⟩ := hQ36
      have O36_ : Ext Z.heap T36.heap := extKeep O34_ Kq36 (allS g_b34 all0)
      have N36_ : Fr Z.heap.size L36 := by rw [l36]; exact Fr.app Nc33 Nq36
      refine Go.trans st36 ?_
      refine Go.step (fun _ kt_ => XS.astore X36.here hx rfl (hb hby at_55) rfl rfl (l' := #[.val (.long x0), .second, .val (.long x1), .second, .val (.long x2), .second, .val (.int x3), .val (.int k), .val (.int (1 : Int32)), .val (.int sg), .val (.long q), .second, .val (.ref b34), .unset, .unset, .unset, .unset, .unset, .unset, .unset]) rfl kt_) ?_
      refine Go.step (fun _ kt_ => XS.aload X36.here hx rfl (hb hby at_57) rfl rfl kt_) ?_
      obtain ⟨cq37, kq37, q37a, q37b, q37c⟩ := isOf hZc33 rfl (A34.keep Kq36)
      obtain ⟨_, _, ⟨T37, L37, k37, n37⟩, -, X37, ⟨Lc37, hQ37, l37, y37, z37⟩, st37⟩ := X36.virtualBack hx (y := (⟨"org/matchstone/engine/BookSide", "walk", "()Lorg/matchstone/engine/BookSide$Walk;"⟩ : MethodName)) (z := (⟨"org/matchstone/engine/BookSide", "walk", "()Lorg/matchstone/engine/BookSide$Walk;"⟩ : MethodName)) hownc33 (mvT hZc33 (wd hw 132 rfl)) (mvT hZc33 (wd hw 133 rfl)) (notFace_of_selects (args := #[]) (mvT hZc33 (wd hw 135 rfl))) (mvT hZc33 (wd hw 135 rfl)) (mvT hZc33 (wd hw 134 rfl)) (by decide) (backOf (W := 0) (rm_a16_0 l Z a0 hw []  b34 T36.heap O36_ ) hZc33 (wd hw 136 rfl) (wd hw 3 rfl) (by decide) (by decide)) q37a q37c (g := (mkF m 59 #[.val (.long x0), .second, .val (.long x1), .second, .val (.long x2), .second, .val (.int x3), .val (.int k), .val (.int (1 : Int32)), .val (.int sg), .val (.long q), .second, .val (.ref b34), .unset, .unset, .unset, .unset, .unset, .unset, .unset] [(.ref b34)])) rfl (by rw [hml]; rfl) (Steps.refl _) (argsL := []) (rest := []) (lenOf pd_LRLorg_matchstone_engine_BookSideSWalk_ rfl) rfl (by show 2 * 0 + _ ≤ _; exact Nat.le_of_eq rfl) (hb hby at_59) (fun _ _ => ⟨rfl, rfl, (by decide : 9 + 1 ≤ _), (by decide : 45 + 5 ≤ _)⟩)
      dsimp only [Pt.U, Pt.locs, Pt.cells, Pt.slots] at X37 l37 y37 z37 st37 hQ37
      subst y37 z37
      obtain ⟨b1q37, rfl, Nq37, Kq37, p37_0, p37_1, p37_2, p37_3, p37_4, p37_5⟩ := hQ37
      have O37_ : Ext Z.heap T37.heap := extKeep O36_ Kq37 all0
      have N37_ : Fr Z.heap.size L37 := by rw [l37]; exact Fr.app N36_ Nq37
      have g_b1q37 : Z.heap.size ≤ b1q37 := Nat.le_trans O36_.1 p37_0
      refine Go.trans st37 ?_
      refine Go.step (fun _ kt_ => XS.astore X37.here hx rfl (hb hby at_62) rfl rfl (l' := #[.val (.long x0), .second, .val (.long x1), .second, .val (.long x2), .second, .val (.int x3), .val (.int k), .val (.int (1 : Int32)), .val (.int sg), .val (.long q), .second, .val (.ref b34), .val (.ref b1q37), .unset, .unset, .unset, .unset, .unset, .unset]) rfl kt_) ?_
      obtain ⟨a38, T38, h38, k38, X38, e38, E38, S38, kq38, hZ38, hown38, st38⟩ := ldcS X37 hx hZc33 hownc33 (wd hw 146 rfl) wS rfl Sc33 (Nat.le_trans (Nat.le_trans (Nat.le_trans kkc33 E34.1) Kq36.1) Kq37.1) (g := (mkF m 64 #[.val (.long x0), .second, .val (.long x1), .second, .val (.long x2), .second, .val (.int x3), .val (.int k), .val (.int (1 : Int32)), .val (.int sg), .val (.long q), .second, .val (.ref b34), .val (.ref b1q37), .unset, .unset, .unset, .unset, .unset, .unset] [])) rfl (hb hby at_64) (n := 4) (by decide) (by decide) (by decide) (by decide)
      have O38_ : Ext Z.heap h38 := extTr O37_ E38
      refine Go.step st38 ?_
      obtain ⟨T39, X39, e39, st39⟩ := getS2 X38 hx hZ38 hown38 (host := "") (Or.inl (wd hw 4 rfl)) Via.refl e38 (Sta.ext O38_ S_B) (g := (mkF m 66 #[.val (.long x0), .second, .val (.long x1), .second, .val (.long x2), .second, .val (.int x3), .val (.int k), .val (.int (1 : Int32)), .val (.int sg), .val (.long q), .second, .val (.ref b34), .val (.ref b1q37), .unset, .unset, .unset, .unset, .unset, .unset] [(.ref a38)])) rfl (hb hby at_66)
      refine Go.step st39 ?_
      refine Go.step (fun _ kt_ => XS.lloadN X39.here hx rfl (hb hby at_69) rfl kt_) ?_
      refine Go.step (X39.ldc2Long hx hown38 (mvT hZ38 (wd hw 154 rfl)) (g := (mkF m 70 #[.val (.long x0), .second, .val (.long x1), .second, .val (.long x2), .second, .val (.int x3), .val (.int k), .val (.int (1 : Int32)), .val (.int sg), .val (.long q), .second, .val (.ref b34), .val (.ref b1q37), .unset, .unset, .unset, .unset, .unset, .unset] [(.long x1), (.ref bA), (.ref a38)])) rfl (hb hby at_70)) ?_
      obtain ⟨_, _, ⟨T40, L40, k40, n40⟩, -, X40, Sq40, gq40, ⟨Lc40, hQ40, l40, y40, z40⟩, st40⟩ := callSS X39 hx (y := (⟨"org/matchstone/engine/NewOrder", "limit", "(Ljava/lang/String;Lorg/matchstone/engine/Side;JJ)Lorg/matchstone/engine/NewOrder;"⟩ : MethodName)) hown38 (mvT hZ38 (wd hw 155 rfl)) (mvT hZ38 (wd hw 156 rfl)) (mvT hZ38 (wd hw 157 rfl)) (mvT hZ38 (wd hw 158 rfl)) (by decide) (backOfS (W := 0) (rm_a18_0 l Z a0 hw []  a38 bA x1 (100 : Int64) dA h38 O38_ S_D) hZ38 (wd hw 158 rfl) (wd hw 157 rfl) (by decide) (by decide)) (g := (mkF m 73 #[.val (.long x0), .second, .val (.long x1), .second, .val (.long x2), .second, .val (.int x3), .val (.int k), .val (.int (1 : Int32)), .val (.int sg), .val (.long q), .second, .val (.ref b34), .val (.ref b1q37), .unset, .unset, .unset, .unset, .unset, .unset] [(.long (100 : Int64)), (.long x1), (.ref bA), (.ref a38)])) rfl (by rw [hml]; rfl) (argsL := [(.ref a38), (.ref bA), (.long x1), (.long (100 : Int64))]) (rest := []) (lenOf pd_LLjava_lang_String_Lorg_matchstone_engine_Side_JJRLorg_matchstone_engine_NewOrder_ rfl) rfl (by show 2 * 0 + _ ≤ _; exact Nat.le_of_eq rfl) (hb hby at_73) (fun _ _ => ⟨rfl, e39, (by decide : 12 + 8 ≤ _), (by decide : 58 + 104 ≤ _)⟩)
      dsimp only [Pt.U, Pt.locs, Pt.cells, Pt.slots] at X40 l40 y40 z40 st40 hQ40 Sq40 gq40
      subst y40 z40
      obtain ⟨X40, S40, hZ40, hown40⟩ := rebS S38 ((congrArg Array.size e39).symm ▸ kq38) X40 Sq40 gq40 hZ38 hown38
      obtain ⟨b1q3q40, rfl, Nq40, Kq40, p40_0, p40_1, p40_2, p40_3, p40_4, p40_5, p40_6, p40_7, p40_8, p40_9, p40_10, p40_11, p40_12, p40_13⟩ := hQ40
      have O40_ : Ext Z.heap T40.heap := extKeep O38_ Kq40 all0
      have N40_ : Fr Z.heap.size L40 := by rw [l40]; exact Fr.app N37_ Nq40
      have g_b1q3q40 : Z.heap.size ≤ b1q3q40 := Nat.le_trans O38_.1 p40_0
      refine Go.trans st40 ?_
      refine Go.step (fun _ kt_ => XS.iconst X40.here hx rfl (hb hby at_76)  kt_) ?_
      obtain ⟨cq41, kq41, q41a, q41b, q41c⟩ := isOf hZ40 rfl p40_1
      obtain ⟨_, _, ⟨T41, L41, k41, n41⟩, -, X41, Sq41, gq41, ⟨Lc41, hQ41, l41, y41, z41⟩, st41⟩ := X40.virtualBackS hx (y := (⟨"org/matchstone/engine/NewOrder", "withDisplayed", "(Z)Lorg/matchstone/engine/NewOrder;"⟩ : MethodName)) (z := (⟨"org/matchstone/engine/NewOrder", "withDisplayed", "(Z)Lorg/matchstone/engine/NewOrder;"⟩ : MethodName)) hown40 (mvT hZ40 (wd hw 240 rfl)) (mvT hZ40 (wd hw 241 rfl)) (notFace_of_selects (args := #[]) (mvT hZ40 (wd hw 243 rfl))) (mvT hZ40 (wd hw 243 rfl)) (mvT hZ40 (wd hw 242 rfl)) (by decide) (backOfS (W := 0) (rm_a24_0 l Z a0 hw []  b1q3q40 a38 bA x1 dA T40.heap O40_ p40_2 p40_3 p40_4 p40_5 S_D p40_6 p40_7 p40_8 p40_9 p40_10 p40_11 p40_12 p40_13) hZ40 (wd hw 244 rfl) (wd hw 157 rfl) (by decide) (by decide)) q41a q41c (g := (mkF m 77 #[.val (.long x0), .second, .val (.long x1), .second, .val (.long x2), .second, .val (.int x3), .val (.int k), .val (.int (1 : Int32)), .val (.int sg), .val (.long q), .second, .val (.ref b34), .val (.ref b1q37), .unset, .unset, .unset, .unset, .unset, .unset] [(.int (0 : Int32)), (.ref b1q3q40)])) rfl (by rw [hml]; rfl) (Steps.refl _) (argsL := [(.int (0 : Int32))]) (rest := []) (lenOf pd_LZRLorg_matchstone_engine_NewOrder_ rfl) rfl (by show 2 * 0 + _ ≤ _; exact Nat.le_of_eq rfl) (hb hby at_77) (fun _ _ => ⟨rfl, rfl, (by decide : 20 + 8 ≤ _), (by decide : 162 + 104 ≤ _)⟩)
      dsimp only [Pt.U, Pt.locs, Pt.cells, Pt.slots] at X41 l41 y41 z41 st41 hQ41 Sq41 gq41
      subst y41 z41
      obtain ⟨X41, S41, hZ41, hown41⟩ := rebS S40 ((Nat.le_refl _)) X41 Sq41 gq41 hZ40 hown40
      obtain ⟨b1q5q41, rfl, Nq41, Kq41, p41_0, p41_1, p41_2, p41_3, p41_4, p41_5, p41_6, p41_7, p41_8, p41_9, p41_10, p41_11, p41_12, p41_13⟩ := hQ41
      have O41_ : Ext Z.heap T41.heap := extKeep O40_ Kq41 all0
      have N41_ : Fr Z.heap.size L41 := by rw [l41]; exact Fr.app N40_ Nq41
      have g_b1q5q41 : Z.heap.size ≤ b1q5q41 := Nat.le_trans O40_.1 p41_0
      refine Go.trans st41 ?_
      refine Go.step (fun _ kt_ => XS.astore X41.here hx rfl (hb hby at_80) rfl rfl (l' := #[.val (.long x0), .second, .val (.long x1), .second, .val (.long x2), .second, .val (.int x3), .val (.int k), .val (.int (1 : Int32)), .val (.int sg), .val (.long q), .second, .val (.ref b34), .val (.ref b1q37), .val (.ref b1q5q41), .unset, .unset, .unset, .unset, .unset]) rfl kt_) ?_
      show Go _ _ _ _ _ _ _ _ T41 (mkF m 82 #[.val (.long x0), .second, .val (.long x1), .second, .val (.long x2), .second, .val (.int x3), .val (.int k), .val (.int (1 : Int32)), .val (.int sg), .val (.long q), .second, .val (.ref b34), .val (.ref b1q37), .val (.ref b1q5q41), .unset, .unset, .unset, .unset, .unset] [])
      have cont131_1 : ∀ (Tc47 : State) (Lc47 : List Loc) (vmc47 : Vm) (hc47 : Heap) (Xc47 : Stand p l e room_1 (s.setVm vmc47) m #[(.long x0), (.long x1), (.long x2), (.int x3)] below meth c Tc47 Lc47 40 2000) (ec47 : Tc47.heap = hc47) (Oc47 : Ext Z.heap hc47) (Nc47 : Fr Z.heap.size Lc47) (hZc47 : Z.Warmed39 (s.setVm vmc47).vm) (hownc47 : (s.setVm vmc47).vm.findClass "org/matchstone/engine/WalkNextBehindPinLaw" = some m.cls) (kc47 : Nat) (Sc47 : s.Since vmc47 kc47) (kkc47 : kc47 ≤ hc47.size) (yc47_8 : Int32) (yc47_14 : Addr) (yc47_15 : Addr) (wc47_1 : Int32) (r0 : dA ≠ iA) (r1 : Exa Z hc47 yc47_15 "org/matchstone/engine/BookSide$Order") (r2 : fl_32 Z hc47 yc47_15 .null) (r3 : Z.heap.size ≤ yc47_15) (r4 : Exa Z hc47 b1q37 "org/matchstone/engine/BookSide$Walk") (r5 : fl_0 Z hc47 b1q37 .null) (r6 : b1q37 ≠ yc47_15) (r7 : fl_1 Z hc47 b1q37 .null) (r8 : fl_2 Z hc47 b1q37 .null) (r9 : fl_3 Z hc47 b1q37 (.int wc47_1)) (r10 : fl_29 Z hc47 yc47_15 (.long q)) (r11 : ¬ (yc47_8 = (0 : Int32))), Go ReturnedEndW p e below s (room_1).cells (room_1).slots (Q_0 Z  h0) Tc47 (mkF m 131 #[.val (.long x0), .second, .val (.long x1), .second, .val (.long x2), .second, .val (.int x3), .val (.int k), .val (.int yc47_8), .val (.int sg), .val (.long q), .second, .val (.ref b34), .val (.ref b1q37), .val (.ref yc47_14), .val (.ref yc47_15), .unset, .unset, .unset, .unset] []) := by
        intro Tc47 Lc47 vmc47 hc47 Xc47 ec47 Oc47 Nc47 hZc47 hownc47 kc47 Sc47 kkc47 yc47_8 yc47_14 yc47_15 wc47_1 r0 r1 r2 r3 r4 r5 r6 r7 r8 r9 r10 r11
        have cont159_11 : ∀ (Tc53 : State) (Lc53 : List Loc) (vmc53 : Vm) (hc53 : Heap) (Xc53 : Stand p l e room_1 (s.setVm vmc53) m #[(.long x0), (.long x1), (.long x2), (.int x3)] below meth c Tc53 Lc53 58 4000) (ec53 : Tc53.heap = hc53) (Oc53 : Ext Z.heap hc53) (Nc53 : Fr Z.heap.size Lc53) (hZc53 : Z.Warmed39 (s.setVm vmc53).vm) (hownc53 : (s.setVm vmc53).vm.findClass "org/matchstone/engine/WalkNextBehindPinLaw" = some m.cls) (kc53 : Nat) (Sc53 : s.Since vmc53 kc53) (kkc53 : kc53 ≤ hc53.size) (yc53_16 : Addr) (wc53_1 : Addr) (wc53_2 : Int64) (wc53_3 : Int32) (wc53_4 : Int32) (wc53_5 : Int32) (wc53_6 : Int32) (wc53_7 : Int64) (rc53_0 : Exa Z hc53 yc53_16 "org/matchstone/engine/NewOrder") (rc53_1 : fl_16 Z hc53 yc53_16 (.ref wc53_1)) (rc53_2 : fl_17 Z hc53 yc53_16 (.ref bA)) (rc53_3 : fl_19 Z hc53 yc53_16 (.long wc53_2)) (rc53_4 : fl_26 Z hc53 yc53_16 .null) (rc53_5 : fl_22 Z hc53 yc53_16 (.int wc53_3)) (rc53_6 : fl_23 Z hc53 yc53_16 (.int wc53_4)) (rc53_7 : fl_24 Z hc53 yc53_16 (.int wc53_5)) (rc53_8 : fl_25 Z hc53 yc53_16 (.int wc53_6)) (rc53_9 : fl_20 Z hc53 yc53_16 (.ref dA)) (rc53_10 : dA ≠ iA) (rc53_11 : fl_27 Z hc53 yc53_16 .null) (rc53_12 : fl_18 Z hc53 yc53_16 (.long wc53_7)) (rc53_13 : k = (1 : Int32)) (rc53_14 : Exa Z hc53 yc47_15 "org/matchstone/engine/BookSide$Order") (rc53_15 : fl_32 Z hc53 yc47_15 .null) (rc53_16 : Z.heap.size ≤ yc47_15) (rc53_17 : Exa Z hc53 b1q37 "org/matchstone/engine/BookSide$Walk") (rc53_18 : ¬ ((((wc53_3 &&& (1 : Int32)) &&& 1)) = (0 : Int32))) (rc53_19 : fl_0 Z hc53 b1q37 .null) (rc53_20 : b1q37 ≠ yc47_15) (rc53_21 : fl_1 Z hc53 b1q37 .null) (rc53_22 : fl_2 Z hc53 b1q37 .null) (rc53_23 : fl_3 Z hc53 b1q37 (.int wc47_1)), Go ReturnedEndW p e below s (room_1).cells (room_1).slots (Q_0 Z  h0) Tc53 (mkF m 159 #[.val (.long x0), .second, .val (.long x1), .second, .val (.long x2), .second, .val (.int x3), .val (.int k), .val (.int yc47_8), .val (.int sg), .val (.long q), .second, .val (.ref b34), .val (.ref b1q37), .val (.ref yc47_14), .val (.ref yc47_15), .val (.ref yc53_16), .unset, .unset, .unset] []) := by
          intro Tc53 Lc53 vmc53 hc53 Xc53 ec53 Oc53 Nc53 hZc53 hownc53 kc53 Sc53 kkc53 yc53_16 wc53_1 wc53_2 wc53_3 wc53_4 wc53_5 wc53_6 wc53_7 rc53_0 rc53_1 rc53_2 rc53_3 rc53_4 rc53_5 rc53_6 rc53_7 rc53_8 rc53_9 rc53_10 rc53_11 rc53_12 rc53_13 rc53_14 rc53_15 rc53_16 rc53_17 rc53_18 rc53_19 rc53_20 rc53_21 rc53_22 rc53_23
          obtain ⟨T54, h54, X54, e54, E54, A54, D54, U54, st54⟩ := newO Xc53 hx hZc53 hownc53 (wd hw 262 rfl) (wd hw 263 rfl) (wd hw 264 rfl) ec53 (g := (mkF m 159 #[.val (.long x0), .second, .val (.long x1), .second, .val (.long x2), .second, .val (.int x3), .val (.int k), .val (.int yc47_8), .val (.int sg), .val (.long q), .second, .val (.ref b34), .val (.ref b1q37), .val (.ref yc47_14), .val (.ref yc47_15), .val (.ref yc53_16), .unset, .unset, .unset] [])) rfl (hb hby at_159) (by decide) (by decide)
          obtain ⟨b54, hb54⟩ : ∃ z, z = hc53.size := ⟨_, rfl⟩
          rw [← hb54] at A54 D54 U54 st54
          refine Go.step st54 ?_
          have g_b54 : Z.heap.size ≤ b54 := Nat.le_trans Oc53.1 (Nat.le_of_eq hb54.symm)
          have O54_ : Ext Z.heap h54 := extTr Oc53 E54
          have F54_id : fl_35 Z h54 b54 .null := D54 (Or.inr (wd hw 276 rfl)) (ty := (.object "java/lang/String")) pf_Ljava_lang_String_
          have F54_side : fl_36 Z h54 b54 .null := D54 (Or.inr (wd hw 283 rfl)) (ty := (.object "org/matchstone/engine/Side")) pf_Lorg_matchstone_engine_Side_
          have F54_price : fl_33 Z h54 b54 (.long (0 : Int64)) := D54 (Or.inl (wd hw 285 rfl)) (ty := .long) pf_J
          have F54_limit : fl_37 Z h54 b54 (.long (0 : Int64)) := D54 (Or.inr (wd hw 292 rfl)) (ty := .long) pf_J
          have F54_peg : fl_38 Z h54 b54 .null := D54 (Or.inr (wd hw 299 rfl)) (ty := (.object "org/matchstone/engine/Peg")) pf_Lorg_matchstone_engine_Peg_
          have F54_displayed : fl_28 Z h54 b54 (.int (0 : Int32)) := D54 (Or.inr (wd hw 306 rfl)) (ty := .boolean) pf_Z
          have F54_postOnly : fl_39 Z h54 b54 (.int (0 : Int32)) := D54 (Or.inr (wd hw 313 rfl)) (ty := .boolean) pf_Z
          have F54_swap : fl_40 Z h54 b54 (.int (0 : Int32)) := D54 (Or.inr (wd hw 320 rfl)) (ty := .boolean) pf_Z
          have F54_superAggressive : fl_41 Z h54 b54 (.int (0 : Int32)) := D54 (Or.inr (wd hw 327 rfl)) (ty := .boolean) pf_Z
          have F54_immediateOrCancel : fl_42 Z h54 b54 (.int (0 : Int32)) := D54 (Or.inr (wd hw 336 rfl)) (ty := .boolean) pf_Z
          have F54_start : fl_43 Z h54 b54 .null := D54 (Or.inr (wd hw 338 rfl)) (ty := (.object "java/time/LocalTime")) pf_Ljava_time_LocalTime_
          have F54_end : fl_44 Z h54 b54 .null := D54 (Or.inr (wd hw 340 rfl)) (ty := (.object "java/time/LocalTime")) pf_Ljava_time_LocalTime_
          have F54_priority : fl_34 Z h54 b54 (.long (0 : Int64)) := D54 (Or.inl (wd hw 342 rfl)) (ty := .long) pf_J
          have F54_entered : fl_45 Z h54 b54 (.long (0 : Int64)) := D54 (Or.inr (wd hw 344 rfl)) (ty := .long) pf_J
          have F54_minQuantity : fl_29 Z h54 b54 (.long (0 : Int64)) := D54 (Or.inr (wd hw 351 rfl)) (ty := .long) pf_J
          have F54_singleOrderMinimum : fl_46 Z h54 b54 (.int (0 : Int32)) := D54 (Or.inr (wd hw 353 rfl)) (ty := .boolean) pf_Z
          have F54_open : fl_31 Z h54 b54 (.long (0 : Int64)) := D54 (Or.inl (wd hw 360 rfl)) (ty := .long) pf_J
          have F54_next : fl_30 Z h54 b54 .null := D54 (Or.inl (wd hw 396 rfl)) (ty := (.object "org/matchstone/engine/BookSide$Order")) pf_Lorg_matchstone_engine_BookSideSOrder_
          have F54_previous : fl_32 Z h54 b54 .null := D54 (Or.inl (wd hw 399 rfl)) (ty := (.object "org/matchstone/engine/BookSide$Order")) pf_Lorg_matchstone_engine_BookSideSOrder_
          refine Go.step (fun _ kt_ => XS.dup X54.here hx rfl (hb hby at_162) rfl rfl kt_) ?_
          refine Go.step (fun _ kt_ => XS.aload X54.here hx rfl (hb hby at_163) rfl rfl kt_) ?_
          refine Go.step (X54.ldc2Long hx hownc53 (mvT hZc53 (wd hw 154 rfl)) (g := (mkF m 165 #[.val (.long x0), .second, .val (.long x1), .second, .val (.long x2), .second, .val (.int x3), .val (.int k), .val (.int yc47_8), .val (.int sg), .val (.long q), .second, .val (.ref b34), .val (.ref b1q37), .val (.ref yc47_14), .val (.ref yc47_15), .val (.ref yc53_16), .unset, .unset, .unset] [(.ref yc53_16), (.ref b54), (.ref b54)])) rfl (hb hby at_165)) ?_
          refine Go.step (fun _ kt_ => XS.aconstNull X54.here hx rfl (hb hby at_168)  kt_) ?_
          refine Go.step (fun _ kt_ => XS.aconstNull X54.here hx rfl (hb hby at_169)  kt_) ?_
          refine Go.step (fun _ kt_ => XS.lconst X54.here hx rfl (hb hby at_170)  kt_) ?_
          obtain ⟨_, _, ⟨T55, L55, k55, n55⟩, -, X55, ⟨Lc55, hQ55, l55, y55, z55⟩, st55⟩ := X54.specialBack hx (y := (⟨"org/matchstone/engine/BookSide$Order", "<init>", "(Lorg/matchstone/engine/NewOrder;JLjava/time/LocalTime;Ljava/time/LocalTime;J)V"⟩ : MethodName)) rfl hownc53 (mvT hZc53 (wd hw 266 rfl)) (mvT hZc53 (wd hw 267 rfl)) (mvT hZc53 (wd hw 268 rfl)) (by decide) (backOf (W := 1) (rm_a26_0 l Z a0 hw []  b54 yc53_16 (100 : Int64) (1 : Int64) wc53_1 bA (0 : Int64) wc53_2 (0 : Int64) wc53_3 (0 : Int32) wc53_4 (0 : Int32) wc53_5 (0 : Int32) wc53_6 (0 : Int32) dA iA (0 : Int32) (0 : Int64) (0 : Int64) (0 : Int64) (0 : Int32) wc53_7 (0 : Int64) h54 O54_ (Exa.ext E54 rc53_0) (Fld.ext E54 rc53_1) A54 F54_id g_b54 (Fld.ext E54 rc53_2) (Nat.ne_of_lt (Nat.lt_of_lt_of_le rc53_0.lt (Nat.le_of_eq hb54.symm))) F54_side F54_price (Fld.ext E54 rc53_3) F54_limit (Fld.ext E54 rc53_4) F54_peg (Fld.ext E54 rc53_5) F54_displayed (Fld.ext E54 rc53_6) F54_postOnly (Fld.ext E54 rc53_7) F54_swap (Fld.ext E54 rc53_8) F54_superAggressive (Fld.ext E54 rc53_9) S_I rc53_10 F54_immediateOrCancel F54_start F54_end F54_priority F54_entered (Fld.ext E54 rc53_11) F54_minQuantity F54_singleOrderMinimum (Fld.ext E54 rc53_12) F54_open F54_next F54_previous) hZc53 (wd hw 268 rfl) (wd hw 264 rfl) (by decide) (by decide)) (g := (mkF m 171 #[.val (.long x0), .second, .val (.long x1), .second, .val (.long x2), .second, .val (.int x3), .val (.int k), .val (.int yc47_8), .val (.int sg), .val (.long q), .second, .val (.ref b34), .val (.ref b1q37), .val (.ref yc47_14), .val (.ref yc47_15), .val (.ref yc53_16), .unset, .unset, .unset] [(.long (1 : Int64)), .null, .null, (.long (100 : Int64)), (.ref yc53_16), (.ref b54), (.ref b54)])) rfl (by rw [hml]; rfl) (Steps.refl _) (a := b54) (argsL := [(.ref yc53_16), (.long (100 : Int64)), .null, .null, (.long (1 : Int64))]) (rest := [(.ref b54)]) (lenOf pd_LLorg_matchstone_engine_NewOrder_JLjava_time_LocalTime_Ljava_time_LocalTime_JRV rfl) rfl (by show 2 * 0 + _ ≤ _; exact Nat.le_of_eq rfl) (hb hby at_171) (fun _ _ => ⟨rfl, e54, (by decide : 59 + 0 ≤ _), (by decide : 4023 + 0 ≤ _)⟩)
          dsimp only [Pt.U, Pt.locs, Pt.cells, Pt.slots] at X55 l55 y55 z55 st55 hQ55
          subst y55 z55
          obtain ⟨rfl, Nq55, Kq55, p55_0, p55_1, p55_2, p55_3, p55_4, p55_5, p55_6⟩ := hQ55
          have O55_ : Ext Z.heap T55.heap := extKeep O54_ Kq55 (allS g_b54 all0)
          have N55_ : Fr Z.heap.size L55 := by rw [l55]; exact Fr.app Nc53 Nq55
          refine Go.trans st55 ?_
          refine Go.step (fun _ kt_ => XS.astore X55.here hx rfl (hb hby at_174) rfl rfl (l' := #[.val (.long x0), .second, .val (.long x1), .second, .val (.long x2), .second, .val (.int x3), .val (.int k), .val (.int yc47_8), .val (.int sg), .val (.long q), .second, .val (.ref b34), .val (.ref b1q37), .val (.ref yc47_14), .val (.ref yc47_15), .val (.ref yc53_16), .val (.ref b54), .unset, .unset]) rfl kt_) ?_
          show Go _ _ _ _ _ _ _ _ T55 (mkF m 176 #[.val (.long x0), .second, .val (.long x1), .second, .val (.long x2), .second, .val (.int x3), .val (.int k), .val (.int yc47_8), .val (.int sg), .val (.long q), .second, .val (.ref b34), .val (.ref b1q37), .val (.ref yc47_14), .val (.ref yc47_15), .val (.ref yc53_16), .val (.ref b54), .unset, .unset] [])
          rcases hk with hk | hk | hk | hk
          · exact absurd (hk.symm.trans rc53_13) (by decide)
          · subst hk
            show Go _ _ _ _ _ _ _ _ T55 (mkF m 176 #[.val (.long x0), .second, .val (.long x1), .second, .val (.long x2), .second, .val (.int x3), .val (.int (1 : Int32)), .val (.int yc47_8), .val (.int sg), .val (.long q), .second, .val (.ref b34), .val (.ref b1q37), .val (.ref yc47_14), .val (.ref yc47_15), .val (.ref yc53_16), .val (.ref b54), .unset, .unset] [])
            refine Go.step (fun _ kt_ => XS.iload X55.here hx rfl (hb hby at_176) rfl kt_) ?_
            refine Go.step (fun _ kt_ => XS.iconst X55.here hx rfl (hb hby at_178)  kt_) ?_
            refine Go.step (fun _ kt_ => XS.icmpNo X55.here hx rfl (hb hby at_179) rfl (feq (by decide : ¬ ((1 : Int32) = (2 : Int32)))).1 kt_) ?_
            refine Go.step (fun _ kt_ => XS.aload X55.here hx rfl (hb hby at_182) rfl rfl kt_) ?_
            refine Go.step (fun _ kt_ => XS.aload X55.here hx rfl (hb hby at_184) rfl rfl kt_) ?_
            obtain ⟨T56, h56, X56, e56, W56, st56⟩ := putF X55 hx hZc53 hownc53 (host := "") (Or.inl (wd hw 397 rfl)) Via.refl rfl p55_2 (A54.keep Kq55) (Or.inl (wd hw 396 rfl)) (wd hw 263 rfl) (ty := (.object "org/matchstone/engine/BookSide$Order")) pf_Lorg_matchstone_engine_BookSideSOrder_ rfl rfl (g := (mkF m 186 #[.val (.long x0), .second, .val (.long x1), .second, .val (.long x2), .second, .val (.int x3), .val (.int (1 : Int32)), .val (.int yc47_8), .val (.int sg), .val (.long q), .second, .val (.ref b34), .val (.ref b1q37), .val (.ref yc47_14), .val (.ref yc47_15), .val (.ref yc53_16), .val (.ref b54), .unset, .unset] [(.ref yc47_15), (.ref b54)])) rfl rfl (hb hby at_186)
            refine Go.step st56 ?_
            have N56_ := Fr.snoc X56 N55_ g_b54
            have O56_ : Ext Z.heap h56 := extWr O55_ W56 g_b54
            have F56 := Fld.same W56 p55_2
            refine Go.step (fun _ kt_ => XS.aload X56.here hx rfl (hb hby at_189) rfl rfl kt_) ?_
            refine Go.step (fun _ kt_ => XS.aload X56.here hx rfl (hb hby at_191) rfl rfl kt_) ?_
            have f57 := (Exa.wr W56 ((Exa.ext E54 rc53_14).keep Kq55))
            have f58 := (Fld.other W56 ((Fld.ext E54 rc53_15).keep Kq55 (ninS (Nat.ne_of_lt (Nat.lt_of_lt_of_le rc53_14.lt (Nat.le_of_eq hb54.symm))) nin0)) (Or.inl (Nat.ne_of_lt (Nat.lt_of_lt_of_le rc53_14.lt (Nat.le_of_eq hb54.symm)))))
            obtain ⟨T59, h59, X59, e59, W59, st59⟩ := putF X56 hx hZc53 hownc53 (host := "") (Or.inl (wd hw 398 rfl)) Via.refl e56 f58 f57 (Or.inl (wd hw 399 rfl)) (wd hw 263 rfl) (ty := (.object "org/matchstone/engine/BookSide$Order")) pf_Lorg_matchstone_engine_BookSideSOrder_ rfl rfl (g := (mkF m 193 #[.val (.long x0), .second, .val (.long x1), .second, .val (.long x2), .second, .val (.int x3), .val (.int (1 : Int32)), .val (.int yc47_8), .val (.int sg), .val (.long q), .second, .val (.ref b34), .val (.ref b1q37), .val (.ref yc47_14), .val (.ref yc47_15), .val (.ref yc53_16), .val (.ref b54), .unset, .unset] [(.ref b54), (.ref yc47_15)])) rfl rfl (hb hby at_193)
            refine Go.step st59 ?_
            have N59_ := Fr.snoc X59 N56_ rc53_16
            have O59_ : Ext Z.heap h59 := extWr O56_ W59 rc53_16
            have F59 := Fld.same W59 f58
            refine Go.step (fun _ kt_ => XS.iload X59.here hx rfl (hb hby at_196) rfl kt_) ?_
            refine Go.step (fun _ kt_ => XS.ifNo X59.here hx rfl (hb hby at_198) rfl ((if0 _ _).trans (feq (by decide : ¬ ((1 : Int32) = (0 : Int32)))).1) kt_) ?_
            refine Go.step (fun _ kt_ => XS.aload X59.here hx rfl (hb hby at_201) rfl rfl kt_) ?_
            refine Go.step (fun _ kt_ => XS.aload X59.here hx rfl (hb hby at_203) rfl rfl kt_) ?_
            have f60 := (Exa.wr W59 (Exa.wr W56 ((Exa.ext E54 rc53_17).keep Kq55)))
            have f61 := (Exa.wr W59 (Exa.wr W56 (A54.keep Kq55)))
            have f62 := (Fld.other W59 (Fld.other W56 p55_0 (Or.inr (Ne.symm (sn_293 hw)))) (Or.inl (Ne.symm (Nat.ne_of_lt (Nat.lt_of_lt_of_le rc53_14.lt (Nat.le_of_eq hb54.symm))))))
            have f63 := (Fld.other W59 (Fld.other W56 p55_5 (Or.inr (Ne.symm (sn_290 hw)))) (Or.inl (Ne.symm (Nat.ne_of_lt (Nat.lt_of_lt_of_le rc53_14.lt (Nat.le_of_eq hb54.symm))))))
            have f64 := (Fld.other W59 (Fld.other W56 ((Fld.ext E54 rc53_19).keep Kq55 (ninS (Nat.ne_of_lt (Nat.lt_of_lt_of_le rc53_17.lt (Nat.le_of_eq hb54.symm))) nin0)) (Or.inl (Nat.ne_of_lt (Nat.lt_of_lt_of_le rc53_17.lt (Nat.le_of_eq hb54.symm))))) (Or.inl rc53_20))
            have f65 := (Fld.other W59 (Fld.other W56 ((Fld.ext E54 rc53_21).keep Kq55 (ninS (Nat.ne_of_lt (Nat.lt_of_lt_of_le rc53_17.lt (Nat.le_of_eq hb54.symm))) nin0)) (Or.inl (Nat.ne_of_lt (Nat.lt_of_lt_of_le rc53_17.lt (Nat.le_of_eq hb54.symm))))) (Or.inl rc53_20))
            have f66 := (Fld.other W59 (Fld.other W56 ((Fld.ext E54 rc53_22).keep Kq55 (ninS (Nat.ne_of_lt (Nat.lt_of_lt_of_le rc53_17.lt (Nat.le_of_eq hb54.symm))) nin0)) (Or.inl (Nat.ne_of_lt (Nat.lt_of_lt_of_le rc53_17.lt (Nat.le_of_eq hb54.symm))))) (Or.inl rc53_20))
            have f67 := (Fld.other W59 (Fld.other W56 ((Fld.ext E54 rc53_23).keep Kq55 (ninS (Nat.ne_of_lt (Nat.lt_of_lt_of_le rc53_17.lt (Nat.le_of_eq hb54.symm))) nin0)) (Or.inl (Nat.ne_of_lt (Nat.lt_of_lt_of_le rc53_17.lt (Nat.le_of_eq hb54.symm))))) (Or.inl rc53_20))
            obtain ⟨cq68, kq68, q68a, q68b, q68c⟩ := isOf hZc53 e59 f60
            obtain ⟨_, _, ⟨T68, L68, k68, n68⟩, -, X68, ⟨Lc68, hQ68, l68, y68, z68⟩, st68⟩ := X59.virtualBack hx (y := (⟨"org/matchstone/engine/BookSide$Walk", "step", "(Lorg/matchstone/engine/BookSide$Order;)V"⟩ : MethodName)) (z := (⟨"org/matchstone/engine/BookSide$Walk", "step", "(Lorg/matchstone/engine/BookSide$Order;)V"⟩ : MethodName)) hownc53 (mvT hZc53 (wd hw 362 rfl)) (mvT hZc53 (wd hw 363 rfl)) (notFace_of_selects (args := #[]) (mvT hZc53 (wd hw 365 rfl))) (mvT hZc53 (wd hw 365 rfl)) (mvT hZc53 (wd hw 364 rfl)) (by decide) (backOf (W := 0) (rm_a38_0 l Z a0 hw []  b1q37 b54 (((wc53_3 &&& (1 : Int32)) &&& 1)) (100 : Int64) wc47_1 h59 O59_ f62 rc53_18 f63 f60 f64 g_b1q37 (Ne.symm (Nat.ne_of_lt (Nat.lt_of_lt_of_le rc53_17.lt (Nat.le_of_eq hb54.symm)))) f65 f66 f67) hZc53 (wd hw 366 rfl) (wd hw 139 rfl) (by decide) (by decide)) q68a q68c (g := (mkF m 205 #[.val (.long x0), .second, .val (.long x1), .second, .val (.long x2), .second, .val (.int x3), .val (.int (1 : Int32)), .val (.int yc47_8), .val (.int sg), .val (.long q), .second, .val (.ref b34), .val (.ref b1q37), .val (.ref yc47_14), .val (.ref yc47_15), .val (.ref yc53_16), .val (.ref b54), .unset, .unset] [(.ref b54), (.ref b1q37)])) rfl (by rw [hml]; rfl) (Steps.refl _) (argsL := [(.ref b54)]) (rest := []) (lenOf pd_LLorg_matchstone_engine_BookSideSOrder_RV rfl) rfl (by show 2 * 0 + _ ≤ _; exact Nat.le_of_eq rfl) (hb hby at_205) (fun _ _ => ⟨rfl, e59, (by decide : 59 + 1 ≤ _), (by decide : 4023 + 2 ≤ _)⟩)
            dsimp only [Pt.U, Pt.locs, Pt.cells, Pt.slots] at X68 l68 y68 z68 st68 hQ68
            subst y68 z68
            obtain ⟨b1q3q68, rfl, Nq68, Kq68, p68_0, p68_1, p68_2, p68_3, p68_4, p68_5⟩ := hQ68
            have O68_ : Ext Z.heap T68.heap := extKeep O59_ Kq68 (allS g_b1q37 all0)
            have N68_ : Fr Z.heap.size L68 := by rw [l68]; exact Fr.app N59_ Nq68
            have g_b1q3q68 : Z.heap.size ≤ b1q3q68 := Nat.le_trans O59_.1 p68_4
            refine Go.trans st68 ?_
            refine Go.step (fun _ kt_ => XS.aload X68.here hx rfl (hb hby at_208) rfl rfl kt_) ?_
            refine Go.step (fun _ kt_ => XS.lloadN X68.here hx rfl (hb hby at_210) rfl kt_) ?_
            show Go _ _ _ _ _ _ _ _ T68 (mkF m 211 #[.val (.long x0), .second, .val (.long x1), .second, .val (.long x2), .second, .val (.int x3), .val (.int (1 : Int32)), .val (.int yc47_8), .val (.int sg), .val (.long q), .second, .val (.ref b34), .val (.ref b1q37), .val (.ref yc47_14), .val (.ref yc47_15), .val (.ref yc53_16), .val (.ref b54), .unset, .unset] [(.long x0), (.ref b1q37)])
            obtain ⟨cq69, kq69, q69a, q69b, q69c⟩ := isOf hZc53 rfl (f60.keep Kq68)
            obtain ⟨_, _, ⟨T69, L69, k69, n69⟩, -, X69, ⟨Lc69, hQ69, l69, y69, z69⟩, st69⟩ := X68.virtualBack hx (y := (⟨"org/matchstone/engine/BookSide$Walk", "nextBehind", "(J)Lorg/matchstone/engine/BookSide$Order;"⟩ : MethodName)) (z := (⟨"org/matchstone/engine/BookSide$Walk", "nextBehind", "(J)Lorg/matchstone/engine/BookSide$Order;"⟩ : MethodName)) hownc53 (mvT hZc53 (wd hw 390 rfl)) (mvT hZc53 (wd hw 391 rfl)) (notFace_of_selects (args := #[]) (mvT hZc53 (wd hw 393 rfl))) (mvT hZc53 (wd hw 393 rfl)) (mvT hZc53 (wd hw 392 rfl)) (by decide) (backOf (W := 0) (rm_a41_0 l Z a0 hw []  b1q37 x0 T68.heap O68_ p68_1) hZc53 (wd hw 394 rfl) (wd hw 139 rfl) (by decide) (by decide)) q69a q69c (g := (mkF m 211 #[.val (.long x0), .second, .val (.long x1), .second, .val (.long x2), .second, .val (.int x3), .val (.int (1 : Int32)), .val (.int yc47_8), .val (.int sg), .val (.long q), .second, .val (.ref b34), .val (.ref b1q37), .val (.ref yc47_14), .val (.ref yc47_15), .val (.ref yc53_16), .val (.ref b54), .unset, .unset] [(.long x0), (.ref b1q37)])) rfl (by rw [hml]; rfl) (Steps.refl _) (argsL := [(.long x0)]) (rest := []) (lenOf pd_LJRLorg_matchstone_engine_BookSideSOrder_ rfl) rfl (by show 2 * 0 + _ ≤ _; exact Nat.le_of_eq rfl) (hb hby at_211) (fun _ _ => ⟨rfl, rfl, (by decide : 60 + 0 ≤ _), (by decide : 4025 + 0 ≤ _)⟩)
            dsimp only [Pt.U, Pt.locs, Pt.cells, Pt.slots] at X69 l69 y69 z69 st69 hQ69
            subst y69 z69
            obtain ⟨rfl, Nq69, e69⟩ := hQ69
            have N69_ : Fr Z.heap.size L69 := by rw [l69]; exact Fr.app N68_ Nq69
            refine Go.trans st69 ?_
            refine Go.step (fun _ kt_ => XS.astore X69.here hx rfl (hb hby at_214) rfl rfl (l' := #[.val (.long x0), .second, .val (.long x1), .second, .val (.long x2), .second, .val (.int x3), .val (.int (1 : Int32)), .val (.int yc47_8), .val (.int sg), .val (.long q), .second, .val (.ref b34), .val (.ref b1q37), .val (.ref yc47_14), .val (.ref yc47_15), .val (.ref yc53_16), .val (.ref b54), .val .null, .unset]) rfl kt_) ?_
            refine Go.step (fun _ kt_ => XS.aconstNull X69.here hx rfl (hb hby at_216)  kt_) ?_
            refine Go.step (fun _ kt_ => XS.astore X69.here hx rfl (hb hby at_217) rfl rfl (l' := #[.val (.long x0), .second, .val (.long x1), .second, .val (.long x2), .second, .val (.int x3), .val (.int (1 : Int32)), .val (.int yc47_8), .val (.int sg), .val (.long q), .second, .val (.ref b34), .val (.ref b1q37), .val (.ref yc47_14), .val (.ref yc47_15), .val (.ref yc53_16), .val (.ref b54), .val .null, .val .null]) rfl kt_) ?_
            refine Go.step (fun _ kt_ => XS.iload X69.here hx rfl (hb hby at_219) rfl kt_) ?_
            refine Go.step (fun _ kt_ => XS.iconst X69.here hx rfl (hb hby at_221)  kt_) ?_
            refine Go.step (fun _ kt_ => XS.icmpYes X69.here hx rfl (pc0 := 222) (pc' := 240) rfl (hb hby at_222) rfl (feq (by decide : ¬ ((1 : Int32) = (3 : Int32)))).2 (by decide) (by decide) kt_) ?_
            refine Go.step (fun _ kt_ => XS.aload X69.here hx rfl (hb hby at_240) rfl rfl kt_) ?_
            refine Go.step (fun _ kt_ => XS.aload X69.here hx rfl (hb hby at_242) rfl rfl kt_) ?_
            refine Go.step (fun _ kt_ => Jvm.RoadKit.acmp (g := (mkF m 244 #[.val (.long x0), .second, .val (.long x1), .second, .val (.long x2), .second, .val (.int x3), .val (.int (1 : Int32)), .val (.int yc47_8), .val (.int sg), .val (.long q), .second, .val (.ref b34), .val (.ref b1q37), .val (.ref yc47_14), .val (.ref yc47_15), .val (.ref yc53_16), .val (.ref b54), .val .null, .val .null] [.null, .null])) X69 hx rfl rfl rfl (pc0 := 244) (pc' := 247) (same := true) rfl (hb hby at_244) rfl (decide_eq_true rfl) (by decide) (by decide) kt_) ?_
            show Go _ _ _ _ _ _ _ _ T69 (mkF m 247 #[.val (.long x0), .second, .val (.long x1), .second, .val (.long x2), .second, .val (.int x3), .val (.int (1 : Int32)), .val (.int yc47_8), .val (.int sg), .val (.long q), .second, .val (.ref b34), .val (.ref b1q37), .val (.ref yc47_14), .val (.ref yc47_15), .val (.ref yc53_16), .val (.ref b54), .val .null, .val .null] [])
            refine Go.step (fun _ kt_ => XS.iconst X69.here hx rfl (hb hby at_247)  kt_) ?_
            refine Go.step (fun _ kt_ => XS.goto X69.here hx rfl (pc0 := 248) (pc' := 252) rfl (hb hby at_248) (by decide) (by decide) kt_) ?_
            show Go _ _ _ _ _ _ _ _ T69 (mkF m 252 #[.val (.long x0), .second, .val (.long x1), .second, .val (.long x2), .second, .val (.int x3), .val (.int (1 : Int32)), .val (.int yc47_8), .val (.int sg), .val (.long q), .second, .val (.ref b34), .val (.ref b1q37), .val (.ref yc47_14), .val (.ref yc47_15), .val (.ref yc53_16), .val (.ref b54), .val .null, .val .null] [(.int (1 : Int32))])
            exact Go.retNW X69 Sc53 (by rw [e69]; exact (Nat.le_trans (Nat.le_trans (Nat.le_trans (Nat.le_trans (Nat.le_trans kkc53 E54.1) Kq55.1) (Keep.of_wr W56).1) (Keep.of_wr W59).1) Kq68.1)) hx (t := .boolean) hret (by simp) hlk (hb hby at_252) (by decide) (by decide) ⟨rfl, N69_, trivial⟩
          · exact absurd (hk.symm.trans rc53_13) (by decide)
          · exact absurd (hk.symm.trans rc53_13) (by decide)
        have cont159_10 : ∀ (Tc65 : State) (Lc65 : List Loc) (vmc65 : Vm) (hc65 : Heap) (Xc65 : Stand p l e room_1 (s.setVm vmc65) m #[(.long x0), (.long x1), (.long x2), (.int x3)] below meth c Tc65 Lc65 58 4000) (ec65 : Tc65.heap = hc65) (Oc65 : Ext Z.heap hc65) (Nc65 : Fr Z.heap.size Lc65) (hZc65 : Z.Warmed39 (s.setVm vmc65).vm) (hownc65 : (s.setVm vmc65).vm.findClass "org/matchstone/engine/WalkNextBehindPinLaw" = some m.cls) (kc65 : Nat) (Sc65 : s.Since vmc65 kc65) (kkc65 : kc65 ≤ hc65.size) (yc65_16 : Addr) (wc65_1 : Addr) (wc65_2 : Int64) (wc65_3 : Int32) (wc65_4 : Int32) (wc65_5 : Int32) (wc65_6 : Int32) (wc65_7 : Int64) (rc65_0 : Exa Z hc65 yc65_16 "org/matchstone/engine/NewOrder") (rc65_1 : fl_16 Z hc65 yc65_16 (.ref wc65_1)) (rc65_2 : fl_17 Z hc65 yc65_16 (.ref bA)) (rc65_3 : fl_19 Z hc65 yc65_16 (.long wc65_2)) (rc65_4 : fl_26 Z hc65 yc65_16 .null) (rc65_5 : fl_22 Z hc65 yc65_16 (.int wc65_3)) (rc65_6 : fl_23 Z hc65 yc65_16 (.int wc65_4)) (rc65_7 : fl_24 Z hc65 yc65_16 (.int wc65_5)) (rc65_8 : fl_25 Z hc65 yc65_16 (.int wc65_6)) (rc65_9 : fl_20 Z hc65 yc65_16 (.ref dA)) (rc65_10 : dA ≠ iA) (rc65_11 : fl_27 Z hc65 yc65_16 .null) (rc65_12 : fl_18 Z hc65 yc65_16 (.long wc65_7)) (rc65_13 : ¬ (k = (1 : Int32))) (rc65_14 : Exa Z hc65 yc47_15 "org/matchstone/engine/BookSide$Order") (rc65_15 : fl_32 Z hc65 yc47_15 .null) (rc65_16 : Z.heap.size ≤ yc47_15) (rc65_17 : Exa Z hc65 b1q37 "org/matchstone/engine/BookSide$Walk") (rc65_18 : fl_1 Z hc65 b1q37 .null) (rc65_19 : b1q37 ≠ yc47_15) (rc65_20 : (((wc65_3 &&& (1 : Int32)) &&& 1)) = (0 : Int32)) (rc65_21 : fl_0 Z hc65 b1q37 .null) (rc65_22 : fl_2 Z hc65 b1q37 .null) (rc65_23 : fl_3 Z hc65 b1q37 (.int wc47_1)) (rc65_24 : fl_29 Z hc65 yc47_15 (.long q)) (rc65_25 : ¬ (yc47_8 = (0 : Int32))), Go ReturnedEndW p e below s (room_1).cells (room_1).slots (Q_0 Z  h0) Tc65 (mkF m 159 #[.val (.long x0), .second, .val (.long x1), .second, .val (.long x2), .second, .val (.int x3), .val (.int k), .val (.int yc47_8), .val (.int sg), .val (.long q), .second, .val (.ref b34), .val (.ref b1q37), .val (.ref yc47_14), .val (.ref yc47_15), .val (.ref yc65_16), .unset, .unset, .unset] []) := by
          intro Tc65 Lc65 vmc65 hc65 Xc65 ec65 Oc65 Nc65 hZc65 hownc65 kc65 Sc65 kkc65 yc65_16 wc65_1 wc65_2 wc65_3 wc65_4 wc65_5 wc65_6 wc65_7 rc65_0 rc65_1 rc65_2 rc65_3 rc65_4 rc65_5 rc65_6 rc65_7 rc65_8 rc65_9 rc65_10 rc65_11 rc65_12 rc65_13 rc65_14 rc65_15 rc65_16 rc65_17 rc65_18 rc65_19 rc65_20 rc65_21 rc65_22 rc65_23 rc65_24 rc65_25
          obtain ⟨T66, h66, X66, e66, E66, A66, D66, U66, st66⟩ := newO Xc65 hx hZc65 hownc65 (wd hw 262 rfl) (wd hw 263 rfl) (wd hw 264 rfl) ec65 (g := (mkF m 159 #[.val (.long x0), .second, .val (.long x1), .second, .val (.long x2), .second, .val (.int x3), .val (.int k), .val (.int yc47_8), .val (.int sg), .val (.long q), .second, .val (.ref b34), .val (.ref b1q37), .val (.ref yc47_14), .val (.ref yc47_15), .val (.ref yc65_16), .unset, .unset, .unset] [])) rfl (hb hby at_159) (by decide) (by decide)
          obtain ⟨b66, hb66⟩ : ∃ z, z = hc65.size := ⟨_, rfl⟩
          rw [← hb66] at A66 D66 U66 st66
          refine Go.step st66 ?_
          have g_b66 : Z.heap.size ≤ b66 := Nat.le_trans Oc65.1 (Nat.le_of_eq hb66.symm)
          have O66_ : Ext Z.heap h66 := extTr Oc65 E66
          have F66_id : fl_35 Z h66 b66 .null := D66 (Or.inr (wd hw 276 rfl)) (ty := (.object "java/lang/String")) pf_Ljava_lang_String_
          have F66_side : fl_36 Z h66 b66 .null := D66 (Or.inr (wd hw 283 rfl)) (ty := (.object "org/matchstone/engine/Side")) pf_Lorg_matchstone_engine_Side_
          have F66_price : fl_33 Z h66 b66 (.long (0 : Int64)) := D66 (Or.inl (wd hw 285 rfl)) (ty := .long) pf_J
          have F66_limit : fl_37 Z h66 b66 (.long (0 : Int64)) := D66 (Or.inr (wd hw 292 rfl)) (ty := .long) pf_J
          have F66_peg : fl_38 Z h66 b66 .null := D66 (Or.inr (wd hw 299 rfl)) (ty := (.object "org/matchstone/engine/Peg")) pf_Lorg_matchstone_engine_Peg_
          have F66_displayed : fl_28 Z h66 b66 (.int (0 : Int32)) := D66 (Or.inr (wd hw 306 rfl)) (ty := .boolean) pf_Z
          have F66_postOnly : fl_39 Z h66 b66 (.int (0 : Int32)) := D66 (Or.inr (wd hw 313 rfl)) (ty := .boolean) pf_Z
          have F66_swap : fl_40 Z h66 b66 (.int (0 : Int32)) := D66 (Or.inr (wd hw 320 rfl)) (ty := .boolean) pf_Z
          have F66_superAggressive : fl_41 Z h66 b66 (.int (0 : Int32)) := D66 (Or.inr (wd hw 327 rfl)) (ty := .boolean) pf_Z
          have F66_immediateOrCancel : fl_42 Z h66 b66 (.int (0 : Int32)) := D66 (Or.inr (wd hw 336 rfl)) (ty := .boolean) pf_Z
          have F66_start : fl_43 Z h66 b66 .null := D66 (Or.inr (wd hw 338 rfl)) (ty := (.object "java/time/LocalTime")) pf_Ljava_time_LocalTime_
          have F66_end : fl_44 Z h66 b66 .null := D66 (Or.inr (wd hw 340 rfl)) (ty := (.object "java/time/LocalTime")) pf_Ljava_time_LocalTime_
          have F66_priority : fl_34 Z h66 b66 (.long (0 : Int64)) := D66 (Or.inl (wd hw 342 rfl)) (ty := .long) pf_J
          have F66_entered : fl_45 Z h66 b66 (.long (0 : Int64)) := D66 (Or.inr (wd hw 344 rfl)) (ty := .long) pf_J
          have F66_minQuantity : fl_29 Z h66 b66 (.long (0 : Int64)) := D66 (Or.inr (wd hw 351 rfl)) (ty := .long) pf_J
          have F66_singleOrderMinimum : fl_46 Z h66 b66 (.int (0 : Int32)) := D66 (Or.inr (wd hw 353 rfl)) (ty := .boolean) pf_Z
          have F66_open : fl_31 Z h66 b66 (.long (0 : Int64)) := D66 (Or.inl (wd hw 360 rfl)) (ty := .long) pf_J
          have F66_next : fl_30 Z h66 b66 .null := D66 (Or.inl (wd hw 396 rfl)) (ty := (.object "org/matchstone/engine/BookSide$Order")) pf_Lorg_matchstone_engine_BookSideSOrder_
          have F66_previous : fl_32 Z h66 b66 .null := D66 (Or.inl (wd hw 399 rfl)) (ty := (.object "org/matchstone/engine/BookSide$Order")) pf_Lorg_matchstone_engine_BookSideSOrder_
          refine Go.step (fun _ kt_ => XS.dup X66.here hx rfl (hb hby at_162) rfl rfl kt_) ?_
          refine Go.step (fun _ kt_ => XS.aload X66.here hx rfl (hb hby at_163) rfl rfl kt_) ?_
          refine Go.step (X66.ldc2Long hx hownc65 (mvT hZc65 (wd hw 154 rfl)) (g := (mkF m 165 #[.val (.long x0), .second, .val (.long x1), .second, .val (.long x2), .second, .val (.int x3), .val (.int k), .val (.int yc47_8), .val (.int sg), .val (.long q), .second, .val (.ref b34), .val (.ref b1q37), .val (.ref yc47_14), .val (.ref yc47_15), .val (.ref yc65_16), .unset, .unset, .unset] [(.ref yc65_16), (.ref b66), (.ref b66)])) rfl (hb hby at_165)) ?_
          refine Go.step (fun _ kt_ => XS.aconstNull X66.here hx rfl (hb hby at_168)  kt_) ?_
          refine Go.step (fun _ kt_ => XS.aconstNull X66.here hx rfl (hb hby at_169)  kt_) ?_
          refine Go.step (fun _ kt_ => XS.lconst X66.here hx rfl (hb hby at_170)  kt_) ?_
          obtain ⟨_, _, ⟨T67, L67, k67, n67⟩, -, X67, ⟨Lc67, hQ67, l67, y67, z67⟩, st67⟩ := X66.specialBack hx (y := (⟨"org/matchstone/engine/BookSide$Order", "<init>", "(Lorg/matchstone/engine/NewOrder;JLjava/time/LocalTime;Ljava/time/LocalTime;J)V"⟩ : MethodName)) rfl hownc65 (mvT hZc65 (wd hw 266 rfl)) (mvT hZc65 (wd hw 267 rfl)) (mvT hZc65 (wd hw 268 rfl)) (by decide) (backOf (W := 1) (rm_a26_0 l Z a0 hw []  b66 yc65_16 (100 : Int64) (1 : Int64) wc65_1 bA (0 : Int64) wc65_2 (0 : Int64) wc65_3 (0 : Int32) wc65_4 (0 : Int32) wc65_5 (0 : Int32) wc65_6 (0 : Int32) dA iA (0 : Int32) (0 : Int64) (0 : Int64) (0 : Int64) (0 : Int32) wc65_7 (0 : Int64) h66 O66_ (Exa.ext E66 rc65_0) (Fld.ext E66 rc65_1) A66 F66_id g_b66 (Fld.ext E66 rc65_2) (Nat.ne_of_lt (Nat.lt_of_lt_of_le rc65_0.lt (Nat.le_of_eq hb66.symm))) F66_side F66_price (Fld.ext E66 rc65_3) F66_limit (Fld.ext E66 rc65_4) F66_peg (Fld.ext E66 rc65_5) F66_displayed (Fld.ext E66 rc65_6) F66_postOnly (Fld.ext E66 rc65_7) F66_swap (Fld.ext E66 rc65_8) F66_superAggressive (Fld.ext E66 rc65_9) S_I rc65_10 F66_immediateOrCancel F66_start F66_end F66_priority F66_entered (Fld.ext E66 rc65_11) F66_minQuantity F66_singleOrderMinimum (Fld.ext E66 rc65_12) F66_open F66_next F66_previous) hZc65 (wd hw 268 rfl) (wd hw 264 rfl) (by decide) (by decide)) (g := (mkF m 171 #[.val (.long x0), .second, .val (.long x1), .second, .val (.long x2), .second, .val (.int x3), .val (.int k), .val (.int yc47_8), .val (.int sg), .val (.long q), .second, .val (.ref b34), .val (.ref b1q37), .val (.ref yc47_14), .val (.ref yc47_15), .val (.ref yc65_16), .unset, .unset, .unset] [(.long (1 : Int64)), .null, .null, (.long (100 : Int64)), (.ref yc65_16), (.ref b66), (.ref b66)])) rfl (by rw [hml]; rfl) (Steps.refl _) (a := b66) (argsL := [(.ref yc65_16), (.long (100 : Int64)), .null, .null, (.long (1 : Int64))]) (rest := [(.ref b66)]) (lenOf pd_LLorg_matchstone_engine_NewOrder_JLjava_time_LocalTime_Ljava_time_LocalTime_JRV rfl) rfl (by show 2 * 0 + _ ≤ _; exact Nat.le_of_eq rfl) (hb hby at_171) (fun _ _ => ⟨rfl, e66, (by decide : 59 + 0 ≤ _), (by decide : 4023 + 0 ≤ _)⟩)
          dsimp only [Pt.U, Pt.locs, Pt.cells, Pt.slots] at X67 l67 y67 z67 st67 hQ67
          subst y67 z67
          obtain ⟨rfl, Nq67, Kq67, p67_0, p67_1, p67_2, p67_3, p67_4, p67_5, p67_6⟩ := hQ67
          have O67_ : Ext Z.heap T67.heap := extKeep O66_ Kq67 (allS g_b66 all0)
          have N67_ : Fr Z.heap.size L67 := by rw [l67]; exact Fr.app Nc65 Nq67
          refine Go.trans st67 ?_
          refine Go.step (fun _ kt_ => XS.astore X67.here hx rfl (hb hby at_174) rfl rfl (l' := #[.val (.long x0), .second, .val (.long x1), .second, .val (.long x2), .second, .val (.int x3), .val (.int k), .val (.int yc47_8), .val (.int sg), .val (.long q), .second, .val (.ref b34), .val (.ref b1q37), .val (.ref yc47_14), .val (.ref yc47_15), .val (.ref yc65_16), .val (.ref b66), .unset, .unset]) rfl kt_) ?_
          show Go _ _ _ _ _ _ _ _ T67 (mkF m 176 #[.val (.long x0), .second, .val (.long x1), .second, .val (.long x2), .second, .val (.int x3), .val (.int k), .val (.int yc47_8), .val (.int sg), .val (.long q), .second, .val (.ref b34), .val (.ref b1q37), .val (.ref yc47_14), .val (.ref yc47_15), .val (.ref yc65_16), .val (.ref b66), .unset, .unset] [])
          rcases hk with hk | hk | hk | hk
          · subst hk
            show Go _ _ _ _ _ _ _ _ T67 (mkF m 176 #[.val (.long x0), .second, .val (.long x1), .second, .val (.long x2), .second, .val (.int x3), .val (.int (0 : Int32)), .val (.int yc47_8), .val (.int sg), .val (.long q), .second, .val (.ref b34), .val (.ref b1q37), .val (.ref yc47_14), .val (.ref yc47_15), .val (.ref yc65_16), .val (.ref b66), .unset, .unset] [])
            refine Go.step (fun _ kt_ => XS.iload X67.here hx rfl (hb hby at_176) rfl kt_) ?_
            refine Go.step (fun _ kt_ => XS.iconst X67.here hx rfl (hb hby at_178)  kt_) ?_
            refine Go.step (fun _ kt_ => XS.icmpNo X67.here hx rfl (hb hby at_179) rfl (feq (by decide : ¬ ((0 : Int32) = (2 : Int32)))).1 kt_) ?_
            refine Go.step (fun _ kt_ => XS.aload X67.here hx rfl (hb hby at_182) rfl rfl kt_) ?_
            refine Go.step (fun _ kt_ => XS.aload X67.here hx rfl (hb hby at_184) rfl rfl kt_) ?_
            obtain ⟨T68, h68, X68, e68, W68, st68⟩ := putF X67 hx hZc65 hownc65 (host := "") (Or.inl (wd hw 397 rfl)) Via.refl rfl p67_2 (A66.keep Kq67) (Or.inl (wd hw 396 rfl)) (wd hw 263 rfl) (ty := (.object "org/matchstone/engine/BookSide$Order")) pf_Lorg_matchstone_engine_BookSideSOrder_ rfl rfl (g := (mkF m 186 #[.val (.long x0), .second, .val (.long x1), .second, .val (.long x2), .second, .val (.int x3), .val (.int (0 : Int32)), .val (.int yc47_8), .val (.int sg), .val (.long q), .second, .val (.ref b34), .val (.ref b1q37), .val (.ref yc47_14), .val (.ref yc47_15), .val (.ref yc65_16), .val (.ref b66), .unset, .unset] [(.ref yc47_15), (.ref b66)])) rfl rfl (hb hby at_186)
            refine Go.step st68 ?_
            have N68_ := Fr.snoc X68 N67_ g_b66
            have O68_ : Ext Z.heap h68 := extWr O67_ W68 g_b66
            have F68 := Fld.same W68 p67_2
            refine Go.step (fun _ kt_ => XS.aload X68.here hx rfl (hb hby at_189) rfl rfl kt_) ?_
            refine Go.step (fun _ kt_ => XS.aload X68.here hx rfl (hb hby at_191) rfl rfl kt_) ?_
            have f69 := (Exa.wr W68 ((Exa.ext E66 rc65_14).keep Kq67))
            have f70 := (Fld.other W68 ((Fld.ext E66 rc65_15).keep Kq67 (ninS (Nat.ne_of_lt (Nat.lt_of_lt_of_le rc65_14.lt (Nat.le_of_eq hb66.symm))) nin0)) (Or.inl (Nat.ne_of_lt (Nat.lt_of_lt_of_le rc65_14.lt (Nat.le_of_eq hb66.symm)))))
            obtain ⟨T71, h71, X71, e71, W71, st71⟩ := putF X68 hx hZc65 hownc65 (host := "") (Or.inl (wd hw 398 rfl)) Via.refl e68 f70 f69 (Or.inl (wd hw 399 rfl)) (wd hw 263 rfl) (ty := (.object "org/matchstone/engine/BookSide$Order")) pf_Lorg_matchstone_engine_BookSideSOrder_ rfl rfl (g := (mkF m 193 #[.val (.long x0), .second, .val (.long x1), .second, .val (.long x2), .second, .val (.int x3), .val (.int (0 : Int32)), .val (.int yc47_8), .val (.int sg), .val (.long q), .second, .val (.ref b34), .val (.ref b1q37), .val (.ref yc47_14), .val (.ref yc47_15), .val (.ref yc65_16), .val (.ref b66), .unset, .unset] [(.ref b66), (.ref yc47_15)])) rfl rfl (hb hby at_193)
            refine Go.step st71 ?_
            have N71_ := Fr.snoc X71 N68_ rc65_16
            have O71_ : Ext Z.heap h71 := extWr O68_ W71 rc65_16
            have F71 := Fld.same W71 f70
            refine Go.step (fun _ kt_ => XS.iload X71.here hx rfl (hb hby at_196) rfl kt_) ?_
            refine Go.step (fun _ kt_ => XS.ifYes X71.here hx rfl (pc0 := 198) (pc' := 208) rfl (hb hby at_198) rfl ((if0 _ _).trans (teq (by decide : (0 : Int32) = (0 : Int32))).1) (by decide) (by decide) kt_) ?_
            refine Go.step (fun _ kt_ => XS.aload X71.here hx rfl (hb hby at_208) rfl rfl kt_) ?_
            refine Go.step (fun _ kt_ => XS.lloadN X71.here hx rfl (hb hby at_210) rfl kt_) ?_
            show Go _ _ _ _ _ _ _ _ T71 (mkF m 211 #[.val (.long x0), .second, .val (.long x1), .second, .val (.long x2), .second, .val (.int x3), .val (.int (0 : Int32)), .val (.int yc47_8), .val (.int sg), .val (.long q), .second, .val (.ref b34), .val (.ref b1q37), .val (.ref yc47_14), .val (.ref yc47_15), .val (.ref yc65_16), .val (.ref b66), .unset, .unset] [(.long x0), (.ref b1q37)])
            have f72 := (Exa.wr W71 (Exa.wr W68 ((Exa.ext E66 rc65_17).keep Kq67)))
            have f73 := (Fld.other W71 (Fld.other W68 ((Fld.ext E66 rc65_18).keep Kq67 (ninS (Nat.ne_of_lt (Nat.lt_of_lt_of_le rc65_17.lt (Nat.le_of_eq hb66.symm))) nin0)) (Or.inl (Nat.ne_of_lt (Nat.lt_of_lt_of_le rc65_17.lt (Nat.le_of_eq hb66.symm))))) (Or.inl rc65_19))
            obtain ⟨cq74, kq74, q74a, q74b, q74c⟩ := isOf hZc65 e71 f72
            obtain ⟨_, _, ⟨T74, L74, k74, n74⟩, -, X74, ⟨Lc74, hQ74, l74, y74, z74⟩, st74⟩ := X71.virtualBack hx (y := (⟨"org/matchstone/engine/BookSide$Walk", "nextBehind", "(J)Lorg/matchstone/engine/BookSide$Order;"⟩ : MethodName)) (z := (⟨"org/matchstone/engine/BookSide$Walk", "nextBehind", "(J)Lorg/matchstone/engine/BookSide$Order;"⟩ : MethodName)) hownc65 (mvT hZc65 (wd hw 390 rfl)) (mvT hZc65 (wd hw 391 rfl)) (notFace_of_selects (args := #[]) (mvT hZc65 (wd hw 393 rfl))) (mvT hZc65 (wd hw 393 rfl)) (mvT hZc65 (wd hw 392 rfl)) (by decide) (backOf (W := 0) (rm_a41_0 l Z a0 hw []  b1q37 x0 h71 O71_ f73) hZc65 (wd hw 394 rfl) (wd hw 139 rfl) (by decide) (by decide)) q74a q74c (g := (mkF m 211 #[.val (.long x0), .second, .val (.long x1), .second, .val (.long x2), .second, .val (.int x3), .val (.int (0 : Int32)), .val (.int yc47_8), .val (.int sg), .val (.long q), .second, .val (.ref b34), .val (.ref b1q37), .val (.ref yc47_14), .val (.ref yc47_15), .val (.ref yc65_16), .val (.ref b66), .unset, .unset] [(.long x0), (.ref b1q37)])) rfl (by rw [hml]; rfl) (Steps.refl _) (argsL := [(.long x0)]) (rest := []) (lenOf pd_LJRLorg_matchstone_engine_BookSideSOrder_ rfl) rfl (by show 2 * 0 + _ ≤ _; exact Nat.le_of_eq rfl) (hb hby at_211) (fun _ _ => ⟨rfl, e71, (by decide : 59 + 0 ≤ _), (by decide : 4023 + 0 ≤ _)⟩)
            dsimp only [Pt.U, Pt.locs, Pt.cells, Pt.slots] at X74 l74 y74 z74 st74 hQ74
            subst y74 z74
            obtain ⟨rfl, Nq74, e74⟩ := hQ74
            have N74_ : Fr Z.heap.size L74 := by rw [l74]; exact Fr.app N71_ Nq74
            refine Go.trans st74 ?_
            refine Go.step (fun _ kt_ => XS.astore X74.here hx rfl (hb hby at_214) rfl rfl (l' := #[.val (.long x0), .second, .val (.long x1), .second, .val (.long x2), .second, .val (.int x3), .val (.int (0 : Int32)), .val (.int yc47_8), .val (.int sg), .val (.long q), .second, .val (.ref b34), .val (.ref b1q37), .val (.ref yc47_14), .val (.ref yc47_15), .val (.ref yc65_16), .val (.ref b66), .val .null, .unset]) rfl kt_) ?_
            refine Go.step (fun _ kt_ => XS.aconstNull X74.here hx rfl (hb hby at_216)  kt_) ?_
            refine Go.step (fun _ kt_ => XS.astore X74.here hx rfl (hb hby at_217) rfl rfl (l' := #[.val (.long x0), .second, .val (.long x1), .second, .val (.long x2), .second, .val (.int x3), .val (.int (0 : Int32)), .val (.int yc47_8), .val (.int sg), .val (.long q), .second, .val (.ref b34), .val (.ref b1q37), .val (.ref yc47_14), .val (.ref yc47_15), .val (.ref yc65_16), .val (.ref b66), .val .null, .val .null]) rfl kt_) ?_
            refine Go.step (fun _ kt_ => XS.iload X74.here hx rfl (hb hby at_219) rfl kt_) ?_
            refine Go.step (fun _ kt_ => XS.iconst X74.here hx rfl (hb hby at_221)  kt_) ?_
            refine Go.step (fun _ kt_ => XS.icmpYes X74.here hx rfl (pc0 := 222) (pc' := 240) rfl (hb hby at_222) rfl (feq (by decide : ¬ ((0 : Int32) = (3 : Int32)))).2 (by decide) (by decide) kt_) ?_
            refine Go.step (fun _ kt_ => XS.aload X74.here hx rfl (hb hby at_240) rfl rfl kt_) ?_
            refine Go.step (fun _ kt_ => XS.aload X74.here hx rfl (hb hby at_242) rfl rfl kt_) ?_
            refine Go.step (fun _ kt_ => Jvm.RoadKit.acmp (g := (mkF m 244 #[.val (.long x0), .second, .val (.long x1), .second, .val (.long x2), .second, .val (.int x3), .val (.int (0 : Int32)), .val (.int yc47_8), .val (.int sg), .val (.long q), .second, .val (.ref b34), .val (.ref b1q37), .val (.ref yc47_14), .val (.ref yc47_15), .val (.ref yc65_16), .val (.ref b66), .val .null, .val .null] [.null, .null])) X74 hx rfl rfl rfl (pc0 := 244) (pc' := 247) (same := true) rfl (hb hby at_244) rfl (decide_eq_true rfl) (by decide) (by decide) kt_) ?_
            show Go _ _ _ _ _ _ _ _ T74 (mkF m 247 #[.val (.long x0), .second, .val (.long x1), .second, .val (.long x2), .second, .val (.int x3), .val (.int (0 : Int32)), .val (.int yc47_8), .val (.int sg), .val (.long q), .second, .val (.ref b34), .val (.ref b1q37), .val (.ref yc47_14), .val (.ref yc47_15), .val (.ref yc65_16), .val (.ref b66), .val .null, .val .null] [])
            refine Go.step (fun _ kt_ => XS.iconst X74.here hx rfl (hb hby at_247)  kt_) ?_
            refine Go.step (fun _ kt_ => XS.goto X74.here hx rfl (pc0 := 248) (pc' := 252) rfl (hb hby at_248) (by decide) (by decide) kt_) ?_
            show Go _ _ _ _ _ _ _ _ T74 (mkF m 252 #[.val (.long x0), .second, .val (.long x1), .second, .val (.long x2), .second, .val (.int x3), .val (.int (0 : Int32)), .val (.int yc47_8), .val (.int sg), .val (.long q), .second, .val (.ref b34), .val (.ref b1q37), .val (.ref yc47_14), .val (.ref yc47_15), .val (.ref yc65_16), .val (.ref b66), .val .null, .val .null] [(.int (1 : Int32))])
            exact Go.retNW X74 Sc65 (by rw [e74]; exact (Nat.le_trans (Nat.le_trans (Nat.le_trans (Nat.le_trans kkc65 E66.1) Kq67.1) (Keep.of_wr W68).1) (Keep.of_wr W71).1)) hx (t := .boolean) hret (by simp) hlk (hb hby at_252) (by decide) (by decide) ⟨rfl, N74_, trivial⟩
          · exact absurd hk rc65_13
          · subst hk
            show Go _ _ _ _ _ _ _ _ T67 (mkF m 176 #[.val (.long x0), .second, .val (.long x1), .second, .val (.long x2), .second, .val (.int x3), .val (.int (2 : Int32)), .val (.int yc47_8), .val (.int sg), .val (.long q), .second, .val (.ref b34), .val (.ref b1q37), .val (.ref yc47_14), .val (.ref yc47_15), .val (.ref yc65_16), .val (.ref b66), .unset, .unset] [])
            refine Go.step (fun _ kt_ => XS.iload X67.here hx rfl (hb hby at_176) rfl kt_) ?_
            refine Go.step (fun _ kt_ => XS.iconst X67.here hx rfl (hb hby at_178)  kt_) ?_
            refine Go.step (fun _ kt_ => XS.icmpYes X67.here hx rfl (pc0 := 179) (pc' := 196) rfl (hb hby at_179) rfl (teq (by decide : (2 : Int32) = (2 : Int32))).1 (by decide) (by decide) kt_) ?_
            refine Go.step (fun _ kt_ => XS.iload X67.here hx rfl (hb hby at_196) rfl kt_) ?_
            refine Go.step (fun _ kt_ => XS.ifNo X67.here hx rfl (hb hby at_198) rfl ((if0 _ _).trans (feq (by decide : ¬ ((2 : Int32) = (0 : Int32)))).1) kt_) ?_
            refine Go.step (fun _ kt_ => XS.aload X67.here hx rfl (hb hby at_201) rfl rfl kt_) ?_
            refine Go.step (fun _ kt_ => XS.aload X67.here hx rfl (hb hby at_203) rfl rfl kt_) ?_
            have f75 := ((Fld.ext E66 rc65_21).keep Kq67 (ninS (Nat.ne_of_lt (Nat.lt_of_lt_of_le rc65_17.lt (Nat.le_of_eq hb66.symm))) nin0))
            have f76 := ((Fld.ext E66 rc65_18).keep Kq67 (ninS (Nat.ne_of_lt (Nat.lt_of_lt_of_le rc65_17.lt (Nat.le_of_eq hb66.symm))) nin0))
            have f77 := ((Fld.ext E66 rc65_22).keep Kq67 (ninS (Nat.ne_of_lt (Nat.lt_of_lt_of_le rc65_17.lt (Nat.le_of_eq hb66.symm))) nin0))
            have f78 := ((Fld.ext E66 rc65_23).keep Kq67 (ninS (Nat.ne_of_lt (Nat.lt_of_lt_of_le rc65_17.lt (Nat.le_of_eq hb66.symm))) nin0))
            obtain ⟨cq79, kq79, q79a, q79b, q79c⟩ := isOf hZc65 rfl ((Exa.ext E66 rc65_17).keep Kq67)
            obtain ⟨_, _, ⟨T79, L79, k79, n79⟩, -, X79, ⟨Lc79, hQ79, l79, y79, z79⟩, st79⟩ := X67.virtualBack hx (y := (⟨"org/matchstone/engine/BookSide$Walk", "step", "(Lorg/matchstone/engine/BookSide$Order;)V"⟩ : MethodName)) (z := (⟨"org/matchstone/engine/BookSide$Walk", "step", "(Lorg/matchstone/engine/BookSide$Order;)V"⟩ : MethodName)) hownc65 (mvT hZc65 (wd hw 362 rfl)) (mvT hZc65 (wd hw 363 rfl)) (notFace_of_selects (args := #[]) (mvT hZc65 (wd hw 365 rfl))) (mvT hZc65 (wd hw 365 rfl)) (mvT hZc65 (wd hw 364 rfl)) (by decide) (backOf (W := 0) (rm_a38_1 l Z a0 hw []  b1q37 b66 (((wc65_3 &&& (1 : Int32)) &&& 1)) (100 : Int64) (1 : Int64) wc47_1 T67.heap O67_ p67_0 rc65_20 p67_5 p67_6 ((Exa.ext E66 rc65_17).keep Kq67) f75 g_b1q37 (Ne.symm (Nat.ne_of_lt (Nat.lt_of_lt_of_le rc65_17.lt (Nat.le_of_eq hb66.symm)))) f76 f77 f78) hZc65 (wd hw 366 rfl) (wd hw 139 rfl) (by decide) (by decide)) q79a q79c (g := (mkF m 205 #[.val (.long x0), .second, .val (.long x1), .second, .val (.long x2), .second, .val (.int x3), .val (.int (2 : Int32)), .val (.int yc47_8), .val (.int sg), .val (.long q), .second, .val (.ref b34), .val (.ref b1q37), .val (.ref yc47_14), .val (.ref yc47_15), .val (.ref yc65_16), .val (.ref b66), .unset, .unset] [(.ref b66), (.ref b1q37)])) rfl (by rw [hml]; rfl) (Steps.refl _) (argsL := [(.ref b66)]) (rest := []) (lenOf pd_LLorg_matchstone_engine_BookSideSOrder_RV rfl) rfl (by show 2 * 0 + _ ≤ _; exact Nat.le_of_eq rfl) (hb hby at_205) (fun _ _ => ⟨rfl, rfl, (by decide : 59 + 1 ≤ _), (by decide : 4023 + 2 ≤ _)⟩)
            dsimp only [Pt.U, Pt.locs, Pt.cells, Pt.slots] at X79 l79 y79 z79 st79 hQ79
            subst y79 z79
            obtain ⟨b1q2q79, rfl, Nq79, Kq79, p79_0, p79_1, p79_2, p79_3, p79_4, p79_5⟩ := hQ79
            have O79_ : Ext Z.heap T79.heap := extKeep O67_ Kq79 (allS g_b1q37 all0)
            have N79_ : Fr Z.heap.size L79 := by rw [l79]; exact Fr.app N67_ Nq79
            have g_b1q2q79 : Z.heap.size ≤ b1q2q79 := Nat.le_trans O67_.1 p79_4
            refine Go.trans st79 ?_
            refine Go.step (fun _ kt_ => XS.aload X79.here hx rfl (hb hby at_208) rfl rfl kt_) ?_
            refine Go.step (fun _ kt_ => XS.lloadN X79.here hx rfl (hb hby at_210) rfl kt_) ?_
            show Go _ _ _ _ _ _ _ _ T79 (mkF m 211 #[.val (.long x0), .second, .val (.long x1), .second, .val (.long x2), .second, .val (.int x3), .val (.int (2 : Int32)), .val (.int yc47_8), .val (.int sg), .val (.long q), .second, .val (.ref b34), .val (.ref b1q37), .val (.ref yc47_14), .val (.ref yc47_15), .val (.ref yc65_16), .val (.ref b66), .unset, .unset] [(.long x0), (.ref b1q37)])
            have f80 := (((Exa.ext E66 rc65_17).keep Kq67).keep Kq79)
            have f81 := (p67_2.keep Kq79 (ninS (Ne.symm (Nat.ne_of_lt (Nat.lt_of_lt_of_le rc65_17.lt (Nat.le_of_eq hb66.symm)))) nin0))
            obtain ⟨cq82, kq82, q82a, q82b, q82c⟩ := isOf hZc65 rfl f80
            obtain ⟨_, _, ⟨T82, L82, k82, n82⟩, -, X82, ⟨Lc82, hQ82, l82, y82, z82⟩, st82⟩ := X79.virtualBack hx (y := (⟨"org/matchstone/engine/BookSide$Walk", "nextBehind", "(J)Lorg/matchstone/engine/BookSide$Order;"⟩ : MethodName)) (z := (⟨"org/matchstone/engine/BookSide$Walk", "nextBehind", "(J)Lorg/matchstone/engine/BookSide$Order;"⟩ : MethodName)) hownc65 (mvT hZc65 (wd hw 390 rfl)) (mvT hZc65 (wd hw 391 rfl)) (notFace_of_selects (args := #[]) (mvT hZc65 (wd hw 393 rfl))) (mvT hZc65 (wd hw 393 rfl)) (mvT hZc65 (wd hw 392 rfl)) (by decide) (backOf (W := 0) (rm_a41_1 l Z a0 hw []  b1q37 x0 b66 T79.heap O79_ p79_1 f81) hZc65 (wd hw 394 rfl) (wd hw 139 rfl) (by decide) (by decide)) q82a q82c (g := (mkF m 211 #[.val (.long x0), .second, .val (.long x1), .second, .val (.long x2), .second, .val (.int x3), .val (.int (2 : Int32)), .val (.int yc47_8), .val (.int sg), .val (.long q), .second, .val (.ref b34), .val (.ref b1q37), .val (.ref yc47_14), .val (.ref yc47_15), .val (.ref yc65_16), .val (.ref b66), .unset, .unset] [(.long x0), (.ref b1q37)])) rfl (by rw [hml]; rfl) (Steps.refl _) (argsL := [(.long x0)]) (rest := []) (lenOf pd_LJRLorg_matchstone_engine_BookSideSOrder_ rfl) rfl (by show 2 * 0 + _ ≤ _; exact Nat.le_of_eq rfl) (hb hby at_211) (fun _ _ => ⟨rfl, rfl, (by decide : 60 + 0 ≤ _), (by decide : 4025 + 0 ≤ _)⟩)
            dsimp only [Pt.U, Pt.locs, Pt.cells, Pt.slots] at X82 l82 y82 z82 st82 hQ82
            subst y82 z82
            obtain ⟨rfl, Nq82, e82⟩ := hQ82
            have N82_ : Fr Z.heap.size L82 := by rw [l82]; exact Fr.app N79_ Nq82
            refine Go.trans st82 ?_
            refine Go.step (fun _ kt_ => XS.astore X82.here hx rfl (hb hby at_214) rfl rfl (l' := #[.val (.long x0), .second, .val (.long x1), .second, .val (.long x2), .second, .val (.int x3), .val (.int (2 : Int32)), .val (.int yc47_8), .val (.int sg), .val (.long q), .second, .val (.ref b34), .val (.ref b1q37), .val (.ref yc47_14), .val (.ref yc47_15), .val (.ref yc65_16), .val (.ref b66), .val .null, .unset]) rfl kt_) ?_
            refine Go.step (fun _ kt_ => XS.aconstNull X82.here hx rfl (hb hby at_216)  kt_) ?_
            refine Go.step (fun _ kt_ => XS.astore X82.here hx rfl (hb hby at_217) rfl rfl (l' := #[.val (.long x0), .second, .val (.long x1), .second, .val (.long x2), .second, .val (.int x3), .val (.int (2 : Int32)), .val (.int yc47_8), .val (.int sg), .val (.long q), .second, .val (.ref b34), .val (.ref b1q37), .val (.ref yc47_14), .val (.ref yc47_15), .val (.ref yc65_16), .val (.ref b66), .val .null, .val .null]) rfl kt_) ?_
            refine Go.step (fun _ kt_ => XS.iload X82.here hx rfl (hb hby at_219) rfl kt_) ?_
            refine Go.step (fun _ kt_ => XS.iconst X82.here hx rfl (hb hby at_221)  kt_) ?_
            refine Go.step (fun _ kt_ => XS.icmpYes X82.here hx rfl (pc0 := 222) (pc' := 240) rfl (hb hby at_222) rfl (feq (by decide : ¬ ((2 : Int32) = (3 : Int32)))).2 (by decide) (by decide) kt_) ?_
            refine Go.step (fun _ kt_ => XS.aload X82.here hx rfl (hb hby at_240) rfl rfl kt_) ?_
            refine Go.step (fun _ kt_ => XS.aload X82.here hx rfl (hb hby at_242) rfl rfl kt_) ?_
            refine Go.step (fun _ kt_ => Jvm.RoadKit.acmp (g := (mkF m 244 #[.val (.long x0), .second, .val (.long x1), .second, .val (.long x2), .second, .val (.int x3), .val (.int (2 : Int32)), .val (.int yc47_8), .val (.int sg), .val (.long q), .second, .val (.ref b34), .val (.ref b1q37), .val (.ref yc47_14), .val (.ref yc47_15), .val (.ref yc65_16), .val (.ref b66), .val .null, .val .null] [.null, .null])) X82 hx rfl rfl rfl (pc0 := 244) (pc' := 247) (same := true) rfl (hb hby at_244) rfl (decide_eq_true rfl) (by decide) (by decide) kt_) ?_
            show Go _ _ _ _ _ _ _ _ T82 (mkF m 247 #[.val (.long x0), .second, .val (.long x1), .second, .val (.long x2), .second, .val (.int x3), .val (.int (2 : Int32)), .val (.int yc47_8), .val (.int sg), .val (.long q), .second, .val (.ref b34), .val (.ref b1q37), .val (.ref yc47_14), .val (.ref yc47_15), .val (.ref yc65_16), .val (.ref b66), .val .null, .val .null] [])
            refine Go.step (fun _ kt_ => XS.iconst X82.here hx rfl (hb hby at_247)  kt_) ?_
            refine Go.step (fun _ kt_ => XS.goto X82.here hx rfl (pc0 := 248) (pc' := 252) rfl (hb hby at_248) (by decide) (by decide) kt_) ?_
            show Go _ _ _ _ _ _ _ _ T82 (mkF m 252 #[.val (.long x0), .second, .val (.long x1), .second, .val (.long x2), .second, .val (.int x3), .val (.int (2 : Int32)), .val (.int yc47_8), .val (.int sg), .val (.long q), .second, .val (.ref b34), .val (.ref b1q37), .val (.ref yc47_14), .val (.ref yc47_15), .val (.ref yc65_16), .val (.ref b66), .val .null, .val .null] [(.int (1 : Int32))])
            exact Go.retNW X82 Sc65 (by rw [e82]; exact (Nat.le_trans (Nat.le_trans (Nat.le_trans kkc65 E66.1) Kq67.1) Kq79.1)) hx (t := .boolean) hret (by simp) hlk (hb hby at_252) (by decide) (by decide) ⟨rfl, N82_, trivial⟩
          · subst hk
            show Go _ _ _ _ _ _ _ _ T67 (mkF m 176 #[.val (.long x0), .second, .val (.long x1), .second, .val (.long x2), .second, .val (.int x3), .val (.int (3 : Int32)), .val (.int yc47_8), .val (.int sg), .val (.long q), .second, .val (.ref b34), .val (.ref b1q37), .val (.ref yc47_14), .val (.ref yc47_15), .val (.ref yc65_16), .val (.ref b66), .unset, .unset] [])
            refine Go.step (fun _ kt_ => XS.iload X67.here hx rfl (hb hby at_176) rfl kt_) ?_
            refine Go.step (fun _ kt_ => XS.iconst X67.here hx rfl (hb hby at_178)  kt_) ?_
            refine Go.step (fun _ kt_ => XS.icmpNo X67.here hx rfl (hb hby at_179) rfl (feq (by decide : ¬ ((3 : Int32) = (2 : Int32)))).1 kt_) ?_
            refine Go.step (fun _ kt_ => XS.aload X67.here hx rfl (hb hby at_182) rfl rfl kt_) ?_
            refine Go.step (fun _ kt_ => XS.aload X67.here hx rfl (hb hby at_184) rfl rfl kt_) ?_
            obtain ⟨T83, h83, X83, e83, W83, st83⟩ := putF X67 hx hZc65 hownc65 (host := "") (Or.inl (wd hw 397 rfl)) Via.refl rfl p67_2 (A66.keep Kq67) (Or.inl (wd hw 396 rfl)) (wd hw 263 rfl) (ty := (.object "org/matchstone/engine/BookSide$Order")) pf_Lorg_matchstone_engine_BookSideSOrder_ rfl rfl (g := (mkF m 186 #[.val (.long x0), .second, .val (.long x1), .second, .val (.long x2), .second, .val (.int x3), .val (.int (3 : Int32)), .val (.int yc47_8), .val (.int sg), .val (.long q), .second, .val (.ref b34), .val (.ref b1q37), .val (.ref yc47_14), .val (.ref yc47_15), .val (.ref yc65_16), .val (.ref b66), .unset, .unset] [(.ref yc47_15), (.ref b66)])) rfl rfl (hb hby at_186)
            refine Go.step st83 ?_
            have N83_ := Fr.snoc X83 N67_ g_b66
            have O83_ : Ext Z.heap h83 := extWr O67_ W83 g_b66
            have F83 := Fld.same W83 p67_2
            refine Go.step (fun _ kt_ => XS.aload X83.here hx rfl (hb hby at_189) rfl rfl kt_) ?_
            refine Go.step (fun _ kt_ => XS.aload X83.here hx rfl (hb hby at_191) rfl rfl kt_) ?_
            have f84 := (Exa.wr W83 ((Exa.ext E66 rc65_14).keep Kq67))
            have f85 := (Fld.other W83 ((Fld.ext E66 rc65_15).keep Kq67 (ninS (Nat.ne_of_lt (Nat.lt_of_lt_of_le rc65_14.lt (Nat.le_of_eq hb66.symm))) nin0)) (Or.inl (Nat.ne_of_lt (Nat.lt_of_lt_of_le rc65_14.lt (Nat.le_of_eq hb66.symm)))))
            obtain ⟨T86, h86, X86, e86, W86, st86⟩ := putF X83 hx hZc65 hownc65 (host := "") (Or.inl (wd hw 398 rfl)) Via.refl e83 f85 f84 (Or.inl (wd hw 399 rfl)) (wd hw 263 rfl) (ty := (.object "org/matchstone/engine/BookSide$Order")) pf_Lorg_matchstone_engine_BookSideSOrder_ rfl rfl (g := (mkF m 193 #[.val (.long x0), .second, .val (.long x1), .second, .val (.long x2), .second, .val (.int x3), .val (.int (3 : Int32)), .val (.int yc47_8), .val (.int sg), .val (.long q), .second, .val (.ref b34), .val (.ref b1q37), .val (.ref yc47_14), .val (.ref yc47_15), .val (.ref yc65_16), .val (.ref b66), .unset, .unset] [(.ref b66), (.ref yc47_15)])) rfl rfl (hb hby at_193)
            refine Go.step st86 ?_
            have N86_ := Fr.snoc X86 N83_ rc65_16
            have O86_ : Ext Z.heap h86 := extWr O83_ W86 rc65_16
            have F86 := Fld.same W86 f85
            refine Go.step (fun _ kt_ => XS.iload X86.here hx rfl (hb hby at_196) rfl kt_) ?_
            refine Go.step (fun _ kt_ => XS.ifNo X86.here hx rfl (hb hby at_198) rfl ((if0 _ _).trans (feq (by decide : ¬ ((3 : Int32) = (0 : Int32)))).1) kt_) ?_
            refine Go.step (fun _ kt_ => XS.aload X86.here hx rfl (hb hby at_201) rfl rfl kt_) ?_
            refine Go.step (fun _ kt_ => XS.aload X86.here hx rfl (hb hby at_203) rfl rfl kt_) ?_
            have f87 := (Exa.wr W86 (Exa.wr W83 ((Exa.ext E66 rc65_17).keep Kq67)))
            have f88 := (Exa.wr W86 (Exa.wr W83 (A66.keep Kq67)))
            have f89 := (Fld.other W86 (Fld.other W83 p67_0 (Or.inr (Ne.symm (sn_293 hw)))) (Or.inl (Ne.symm (Nat.ne_of_lt (Nat.lt_of_lt_of_le rc65_14.lt (Nat.le_of_eq hb66.symm))))))
            have f90 := (Fld.other W86 (Fld.other W83 p67_5 (Or.inr (Ne.symm (sn_290 hw)))) (Or.inl (Ne.symm (Nat.ne_of_lt (Nat.lt_of_lt_of_le rc65_14.lt (Nat.le_of_eq hb66.symm))))))
            have f91 := (Fld.other W86 (Fld.other W83 p67_6 (Or.inr (Ne.symm (sn_300 hw)))) (Or.inl (Ne.symm (Nat.ne_of_lt (Nat.lt_of_lt_of_le rc65_14.lt (Nat.le_of_eq hb66.symm))))))
            have f92 := (Fld.other W86 (Fld.other W83 ((Fld.ext E66 rc65_21).keep Kq67 (ninS (Nat.ne_of_lt (Nat.lt_of_lt_of_le rc65_17.lt (Nat.le_of_eq hb66.symm))) nin0)) (Or.inl (Nat.ne_of_lt (Nat.lt_of_lt_of_le rc65_17.lt (Nat.le_of_eq hb66.symm))))) (Or.inl rc65_19))
            have f93 := (Fld.other W86 (Fld.other W83 ((Fld.ext E66 rc65_18).keep Kq67 (ninS (Nat.ne_of_lt (Nat.lt_of_lt_of_le rc65_17.lt (Nat.le_of_eq hb66.symm))) nin0)) (Or.inl (Nat.ne_of_lt (Nat.lt_of_lt_of_le rc65_17.lt (Nat.le_of_eq hb66.symm))))) (Or.inl rc65_19))
            have f94 := (Fld.other W86 (Fld.other W83 ((Fld.ext E66 rc65_22).keep Kq67 (ninS (Nat.ne_of_lt (Nat.lt_of_lt_of_le rc65_17.lt (Nat.le_of_eq hb66.symm))) nin0)) (Or.inl (Nat.ne_of_lt (Nat.lt_of_lt_of_le rc65_17.lt (Nat.le_of_eq hb66.symm))))) (Or.inl rc65_19))
            have f95 := (Fld.other W86 (Fld.other W83 ((Fld.ext E66 rc65_23).keep Kq67 (ninS (Nat.ne_of_lt (Nat.lt_of_lt_of_le rc65_17.lt (Nat.le_of_eq hb66.symm))) nin0)) (Or.inl (Nat.ne_of_lt (Nat.lt_of_lt_of_le rc65_17.lt (Nat.le_of_eq hb66.symm))))) (Or.inl rc65_19))
            obtain ⟨cq96, kq96, q96a, q96b, q96c⟩ := isOf hZc65 e86 f87
            obtain ⟨_, _, ⟨T96, L96, k96, n96⟩, -, X96, ⟨Lc96, hQ96, l96, y96, z96⟩, st96⟩ := X86.virtualBack hx (y := (⟨"org/matchstone/engine/BookSide$Walk", "step", "(Lorg/matchstone/engine/BookSide$Order;)V"⟩ : MethodName)) (z := (⟨"org/matchstone/engine/BookSide$Walk", "step", "(Lorg/matchstone/engine/BookSide$Order;)V"⟩ : MethodName)) hownc65 (mvT hZc65 (wd hw 362 rfl)) (mvT hZc65 (wd hw 363 rfl)) (notFace_of_selects (args := #[]) (mvT hZc65 (wd hw 365 rfl))) (mvT hZc65 (wd hw 365 rfl)) (mvT hZc65 (wd hw 364 rfl)) (by decide) (backOf (W := 0) (rm_a38_1 l Z a0 hw []  b1q37 b66 (((wc65_3 &&& (1 : Int32)) &&& 1)) (100 : Int64) (1 : Int64) wc47_1 h86 O86_ f89 rc65_20 f90 f91 f87 f92 g_b1q37 (Ne.symm (Nat.ne_of_lt (Nat.lt_of_lt_of_le rc65_17.lt (Nat.le_of_eq hb66.symm)))) f93 f94 f95) hZc65 (wd hw 366 rfl) (wd hw 139 rfl) (by decide) (by decide)) q96a q96c (g := (mkF m 205 #[.val (.long x0), .second, .val (.long x1), .second, .val (.long x2), .second, .val (.int x3), .val (.int (3 : Int32)), .val (.int yc47_8), .val (.int sg), .val (.long q), .second, .val (.ref b34), .val (.ref b1q37), .val (.ref yc47_14), .val (.ref yc47_15), .val (.ref yc65_16), .val (.ref b66), .unset, .unset] [(.ref b66), (.ref b1q37)])) rfl (by rw [hml]; rfl) (Steps.refl _) (argsL := [(.ref b66)]) (rest := []) (lenOf pd_LLorg_matchstone_engine_BookSideSOrder_RV rfl) rfl (by show 2 * 0 + _ ≤ _; exact Nat.le_of_eq rfl) (hb hby at_205) (fun _ _ => ⟨rfl, e86, (by decide : 59 + 1 ≤ _), (by decide : 4023 + 2 ≤ _)⟩)
            dsimp only [Pt.U, Pt.locs, Pt.cells, Pt.slots] at X96 l96 y96 z96 st96 hQ96
            subst y96 z96
            obtain ⟨b1q2q96, rfl, Nq96, Kq96, p96_0, p96_1, p96_2, p96_3, p96_4, p96_5⟩ := hQ96
            have O96_ : Ext Z.heap T96.heap := extKeep O86_ Kq96 (allS g_b1q37 all0)
            have N96_ : Fr Z.heap.size L96 := by rw [l96]; exact Fr.app N86_ Nq96
            have g_b1q2q96 : Z.heap.size ≤ b1q2q96 := Nat.le_trans O86_.1 p96_4
            refine Go.trans st96 ?_
            refine Go.step (fun _ kt_ => XS.aload X96.here hx rfl (hb hby at_208) rfl rfl kt_) ?_
            refine Go.step (fun _ kt_ => XS.lloadN X96.here hx rfl (hb hby at_210) rfl kt_) ?_
            show Go _ _ _ _ _ _ _ _ T96 (mkF m 211 #[.val (.long x0), .second, .val (.long x1), .second, .val (.long x2), .second, .val (.int x3), .val (.int (3 : Int32)), .val (.int yc47_8), .val (.int sg), .val (.long q), .second, .val (.ref b34), .val (.ref b1q37), .val (.ref yc47_14), .val (.ref yc47_15), .val (.ref yc65_16), .val (.ref b66), .unset, .unset] [(.long x0), (.ref b1q37)])
            by_cases hlt : (lcmpW x1 x0) < (0 : Int32)
            · show Go _ _ _ _ _ _ _ _ T96 (mkF m 211 #[.val (.long x0), .second, .val (.long x1), .second, .val (.long x2), .second, .val (.int x3), .val (.int (3 : Int32)), .val (.int yc47_8), .val (.int sg), .val (.long q), .second, .val (.ref b34), .val (.ref b1q37), .val (.ref yc47_14), .val (.ref yc47_15), .val (.ref yc65_16), .val (.ref b66), .unset, .unset] [(.long x0), (.ref b1q37)])
              have f97 := ((Fld.other W86 F83 (Or.inl (Ne.symm (Nat.ne_of_lt (Nat.lt_of_lt_of_le rc65_14.lt (Nat.le_of_eq hb66.symm)))))).keep Kq96 (ninS (Ne.symm (Nat.ne_of_lt (Nat.lt_of_lt_of_le rc65_17.lt (Nat.le_of_eq hb66.symm)))) nin0))
              have f98 := (Fld.other W86 (Fld.other W83 ((Fld.ext E66 rc65_24).keep Kq67 (ninS (Nat.ne_of_lt (Nat.lt_of_lt_of_le rc65_14.lt (Nat.le_of_eq hb66.symm))) nin0)) (Or.inl (Nat.ne_of_lt (Nat.lt_of_lt_of_le rc65_14.lt (Nat.le_of_eq hb66.symm))))) (Or.inr (Ne.symm (sn_319 hw))))
              have f99 := (f98.keep Kq96 (ninS (Ne.symm rc65_19) nin0))
              obtain ⟨cq100, kq100, q100a, q100b, q100c⟩ := isOf hZc65 rfl (f87.keep Kq96)
              obtain ⟨_, _, ⟨T100, L100, k100, n100⟩, -, X100, ⟨Lc100, hQ100, l100, y100, z100⟩, st100⟩ := X96.virtualBack hx (y := (⟨"org/matchstone/engine/BookSide$Walk", "nextBehind", "(J)Lorg/matchstone/engine/BookSide$Order;"⟩ : MethodName)) (z := (⟨"org/matchstone/engine/BookSide$Walk", "nextBehind", "(J)Lorg/matchstone/engine/BookSide$Order;"⟩ : MethodName)) hownc65 (mvT hZc65 (wd hw 390 rfl)) (mvT hZc65 (wd hw 391 rfl)) (notFace_of_selects (args := #[]) (mvT hZc65 (wd hw 393 rfl))) (mvT hZc65 (wd hw 393 rfl)) (mvT hZc65 (wd hw 392 rfl)) (by decide) (backOf (W := 0) (rm_a41_4 l Z a0 hw []  b1q37 x0 b66 yc47_15 q T96.heap O96_ p96_1 f97 f99 (fun z => hq0 ((lw_eq _ _).mp z))) hZc65 (wd hw 394 rfl) (wd hw 139 rfl) (by decide) (by decide)) q100a q100c (g := (mkF m 211 #[.val (.long x0), .second, .val (.long x1), .second, .val (.long x2), .second, .val (.int x3), .val (.int (3 : Int32)), .val (.int yc47_8), .val (.int sg), .val (.long q), .second, .val (.ref b34), .val (.ref b1q37), .val (.ref yc47_14), .val (.ref yc47_15), .val (.ref yc65_16), .val (.ref b66), .unset, .unset] [(.long x0), (.ref b1q37)])) rfl (by rw [hml]; rfl) (Steps.refl _) (argsL := [(.long x0)]) (rest := []) (lenOf pd_LJRLorg_matchstone_engine_BookSideSOrder_ rfl) rfl (by show 2 * 0 + _ ≤ _; exact Nat.le_of_eq rfl) (hb hby at_211) (fun _ _ => ⟨rfl, rfl, (by decide : 60 + 0 ≤ _), (by decide : 4025 + 0 ≤ _)⟩)
              dsimp only [Pt.U, Pt.locs, Pt.cells, Pt.slots] at X100 l100 y100 z100 st100 hQ100
              subst y100 z100
              obtain ⟨rfl, Nq100, e100⟩ := hQ100
              have N100_ : Fr Z.heap.size L100 := by rw [l100]; exact Fr.app N96_ Nq100
              refine Go.trans st100 ?_
              refine Go.step (fun _ kt_ => XS.astore X100.here hx rfl (hb hby at_214) rfl rfl (l' := #[.val (.long x0), .second, .val (.long x1), .second, .val (.long x2), .second, .val (.int x3), .val (.int (3 : Int32)), .val (.int yc47_8), .val (.int sg), .val (.long q), .second, .val (.ref b34), .val (.ref b1q37), .val (.ref yc47_14), .val (.ref yc47_15), .val (.ref yc65_16), .val (.ref b66), .val .null, .unset]) rfl kt_) ?_
              refine Go.step (fun _ kt_ => XS.aconstNull X100.here hx rfl (hb hby at_216)  kt_) ?_
              refine Go.step (fun _ kt_ => XS.astore X100.here hx rfl (hb hby at_217) rfl rfl (l' := #[.val (.long x0), .second, .val (.long x1), .second, .val (.long x2), .second, .val (.int x3), .val (.int (3 : Int32)), .val (.int yc47_8), .val (.int sg), .val (.long q), .second, .val (.ref b34), .val (.ref b1q37), .val (.ref yc47_14), .val (.ref yc47_15), .val (.ref yc65_16), .val (.ref b66), .val .null, .val .null]) rfl kt_) ?_
              refine Go.step (fun _ kt_ => XS.iload X100.here hx rfl (hb hby at_219) rfl kt_) ?_
              refine Go.step (fun _ kt_ => XS.iconst X100.here hx rfl (hb hby at_221)  kt_) ?_
              refine Go.step (fun _ kt_ => XS.icmpNo X100.here hx rfl (hb hby at_222) rfl (teq (by decide : (3 : Int32) = (3 : Int32))).2 kt_) ?_
              refine Go.step (fun _ kt_ => XS.iload X100.here hx rfl (hb hby at_225) rfl kt_) ?_
              refine Go.step (fun _ kt_ => XS.ifYes X100.here hx rfl (pc0 := 227) (pc' := 240) rfl (hb hby at_227) rfl ((if0 _ _).trans (feq rc65_25).2) (by decide) (by decide) kt_) ?_
              refine Go.step (fun _ kt_ => XS.aload X100.here hx rfl (hb hby at_240) rfl rfl kt_) ?_
              refine Go.step (fun _ kt_ => XS.aload X100.here hx rfl (hb hby at_242) rfl rfl kt_) ?_
              show Go _ _ _ _ _ _ _ _ T100 (mkF m 244 #[.val (.long x0), .second, .val (.long x1), .second, .val (.long x2), .second, .val (.int x3), .val (.int (3 : Int32)), .val (.int yc47_8), .val (.int sg), .val (.long q), .second, .val (.ref b34), .val (.ref b1q37), .val (.ref yc47_14), .val (.ref yc47_15), .val (.ref yc65_16), .val (.ref b66), .val .null, .val .null] [.null, .null])
              refine Go.step (fun _ kt_ => Jvm.RoadKit.acmp (g := (mkF m 244 #[.val (.long x0), .second, .val (.long x1), .second, .val (.long x2), .second, .val (.int x3), .val (.int (3 : Int32)), .val (.int yc47_8), .val (.int sg), .val (.long q), .second, .val (.ref b34), .val (.ref b1q37), .val (.ref yc47_14), .val (.ref yc47_15), .val (.ref yc65_16), .val (.ref b66), .val .null, .val .null] [.null, .null])) X100 hx rfl rfl rfl (pc0 := 244) (pc' := 247) (same := true) rfl (hb hby at_244) rfl (decide_eq_true rfl) (by decide) (by decide) kt_) ?_
              show Go _ _ _ _ _ _ _ _ T100 (mkF m 247 #[.val (.long x0), .second, .val (.long x1), .second, .val (.long x2), .second, .val (.int x3), .val (.int (3 : Int32)), .val (.int yc47_8), .val (.int sg), .val (.long q), .second, .val (.ref b34), .val (.ref b1q37), .val (.ref yc47_14), .val (.ref yc47_15), .val (.ref yc65_16), .val (.ref b66), .val .null, .val .null] [])
              refine Go.step (fun _ kt_ => XS.iconst X100.here hx rfl (hb hby at_247)  kt_) ?_
              refine Go.step (fun _ kt_ => XS.goto X100.here hx rfl (pc0 := 248) (pc' := 252) rfl (hb hby at_248) (by decide) (by decide) kt_) ?_
              exact Go.retNW X100 Sc65 (by rw [e100]; exact (Nat.le_trans (Nat.le_trans (Nat.le_trans (Nat.le_trans (Nat.le_trans kkc65 E66.1) Kq67.1) (Keep.of_wr W83).1) (Keep.of_wr W86).1) Kq96.1)) hx (t := .boolean) hret (by simp) hlk (hb hby at_252) (by decide) (by decide) ⟨rfl, N100_, trivial⟩
            · show Go _ _ _ _ _ _ _ _ T96 (mkF m 211 #[.val (.long x0), .second, .val (.long x1), .second, .val (.long x2), .second, .val (.int x3), .val (.int (3 : Int32)), .val (.int yc47_8), .val (.int sg), .val (.long q), .second, .val (.ref b34), .val (.ref b1q37), .val (.ref yc47_14), .val (.ref yc47_15), .val (.ref yc65_16), .val (.ref b66), .unset, .unset] [(.long x0), (.ref b1q37)])
              have f101 := ((Fld.other W86 F83 (Or.inl (Ne.symm (Nat.ne_of_lt (Nat.lt_of_lt_of_le rc65_14.lt (Nat.le_of_eq hb66.symm)))))).keep Kq96 (ninS (Ne.symm (Nat.ne_of_lt (Nat.lt_of_lt_of_le rc65_17.lt (Nat.le_of_eq hb66.symm)))) nin0))
              have f102 := (Fld.other W86 (Fld.other W83 ((Fld.ext E66 rc65_24).keep Kq67 (ninS (Nat.ne_of_lt (Nat.lt_of_lt_of_le rc65_14.lt (Nat.le_of_eq hb66.symm))) nin0)) (Or.inl (Nat.ne_of_lt (Nat.lt_of_lt_of_le rc65_14.lt (Nat.le_of_eq hb66.symm))))) (Or.inr (Ne.symm (sn_319 hw))))
              have f103 := (f102.keep Kq96 (ninS (Ne.symm rc65_19) nin0))
              obtain ⟨cq104, kq104, q104a, q104b, q104c⟩ := isOf hZc65 rfl (f87.keep Kq96)
              obtain ⟨_, _, ⟨T104, L104, k104, n104⟩, -, X104, ⟨Lc104, hQ104, l104, y104, z104⟩, st104⟩ := X96.virtualBack hx (y := (⟨"org/matchstone/engine/BookSide$Walk", "nextBehind", "(J)Lorg/matchstone/engine/BookSide$Order;"⟩ : MethodName)) (z := (⟨"org/matchstone/engine/BookSide$Walk", "nextBehind", "(J)Lorg/matchstone/engine/BookSide$Order;"⟩ : MethodName)) hownc65 (mvT hZc65 (wd hw 390 rfl)) (mvT hZc65 (wd hw 391 rfl)) (notFace_of_selects (args := #[]) (mvT hZc65 (wd hw 393 rfl))) (mvT hZc65 (wd hw 393 rfl)) (mvT hZc65 (wd hw 392 rfl)) (by decide) (backOf (W := 0) (rm_a41_4 l Z a0 hw []  b1q37 x0 b66 yc47_15 q T96.heap O96_ p96_1 f101 f103 (fun z => hq0 ((lw_eq _ _).mp z))) hZc65 (wd hw 394 rfl) (wd hw 139 rfl) (by decide) (by decide)) q104a q104c (g := (mkF m 211 #[.val (.long x0), .second, .val (.long x1), .second, .val (.long x2), .second, .val (.int x3), .val (.int (3 : Int32)), .val (.int yc47_8), .val (.int sg), .val (.long q), .second, .val (.ref b34), .val (.ref b1q37), .val (.ref yc47_14), .val (.ref yc47_15), .val (.ref yc65_16), .val (.ref b66), .unset, .unset] [(.long x0), (.ref b1q37)])) rfl (by rw [hml]; rfl) (Steps.refl _) (argsL := [(.long x0)]) (rest := []) (lenOf pd_LJRLorg_matchstone_engine_BookSideSOrder_ rfl) rfl (by show 2 * 0 + _ ≤ _; exact Nat.le_of_eq rfl) (hb hby at_211) (fun _ _ => ⟨rfl, rfl, (by decide : 60 + 0 ≤ _), (by decide : 4025 + 0 ≤ _)⟩)
              dsimp only [Pt.U, Pt.locs, Pt.cells, Pt.slots] at X104 l104 y104 z104 st104 hQ104
              subst y104 z104
              obtain ⟨rfl, Nq104, e104⟩ := hQ104
              have N104_ : Fr Z.heap.size L104 := by rw [l104]; exact Fr.app N96_ Nq104
              refine Go.trans st104 ?_
              refine Go.step (fun _ kt_ => XS.astore X104.here hx rfl (hb hby at_214) rfl rfl (l' := #[.val (.long x0), .second, .val (.long x1), .second, .val (.long x2), .second, .val (.int x3), .val (.int (3 : Int32)), .val (.int yc47_8), .val (.int sg), .val (.long q), .second, .val (.ref b34), .val (.ref b1q37), .val (.ref yc47_14), .val (.ref yc47_15), .val (.ref yc65_16), .val (.ref b66), .val .null, .unset]) rfl kt_) ?_
              refine Go.step (fun _ kt_ => XS.aconstNull X104.here hx rfl (hb hby at_216)  kt_) ?_
              refine Go.step (fun _ kt_ => XS.astore X104.here hx rfl (hb hby at_217) rfl rfl (l' := #[.val (.long x0), .second, .val (.long x1), .second, .val (.long x2), .second, .val (.int x3), .val (.int (3 : Int32)), .val (.int yc47_8), .val (.int sg), .val (.long q), .second, .val (.ref b34), .val (.ref b1q37), .val (.ref yc47_14), .val (.ref yc47_15), .val (.ref yc65_16), .val (.ref b66), .val .null, .val .null]) rfl kt_) ?_
              refine Go.step (fun _ kt_ => XS.iload X104.here hx rfl (hb hby at_219) rfl kt_) ?_
              refine Go.step (fun _ kt_ => XS.iconst X104.here hx rfl (hb hby at_221)  kt_) ?_
              refine Go.step (fun _ kt_ => XS.icmpNo X104.here hx rfl (hb hby at_222) rfl (teq (by decide : (3 : Int32) = (3 : Int32))).2 kt_) ?_
              refine Go.step (fun _ kt_ => XS.iload X104.here hx rfl (hb hby at_225) rfl kt_) ?_
              refine Go.step (fun _ kt_ => XS.ifYes X104.here hx rfl (pc0 := 227) (pc' := 240) rfl (hb hby at_227) rfl ((if0 _ _).trans (feq rc65_25).2) (by decide) (by decide) kt_) ?_
              refine Go.step (fun _ kt_ => XS.aload X104.here hx rfl (hb hby at_240) rfl rfl kt_) ?_
              refine Go.step (fun _ kt_ => XS.aload X104.here hx rfl (hb hby at_242) rfl rfl kt_) ?_
              show Go _ _ _ _ _ _ _ _ T104 (mkF m 244 #[.val (.long x0), .second, .val (.long x1), .second, .val (.long x2), .second, .val (.int x3), .val (.int (3 : Int32)), .val (.int yc47_8), .val (.int sg), .val (.long q), .second, .val (.ref b34), .val (.ref b1q37), .val (.ref yc47_14), .val (.ref yc47_15), .val (.ref yc65_16), .val (.ref b66), .val .null, .val .null] [.null, .null])
              refine Go.step (fun _ kt_ => Jvm.RoadKit.acmp (g := (mkF m 244 #[.val (.long x0), .second, .val (.long x1), .second, .val (.long x2), .second, .val (.int x3), .val (.int (3 : Int32)), .val (.int yc47_8), .val (.int sg), .val (.long q), .second, .val (.ref b34), .val (.ref b1q37), .val (.ref yc47_14), .val (.ref yc47_15), .val (.ref yc65_16), .val (.ref b66), .val .null, .val .null] [.null, .null])) X104 hx rfl rfl rfl (pc0 := 244) (pc' := 247) (same := true) rfl (hb hby at_244) rfl (decide_eq_true rfl) (by decide) (by decide) kt_) ?_
              show Go _ _ _ _ _ _ _ _ T104 (mkF m 247 #[.val (.long x0), .second, .val (.long x1), .second, .val (.long x2), .second, .val (.int x3), .val (.int (3 : Int32)), .val (.int yc47_8), .val (.int sg), .val (.long q), .second, .val (.ref b34), .val (.ref b1q37), .val (.ref yc47_14), .val (.ref yc47_15), .val (.ref yc65_16), .val (.ref b66), .val .null, .val .null] [])
              refine Go.step (fun _ kt_ => XS.iconst X104.here hx rfl (hb hby at_247)  kt_) ?_
              refine Go.step (fun _ kt_ => XS.goto X104.here hx rfl (pc0 := 248) (pc' := 252) rfl (hb hby at_248) (by decide) (by decide) kt_) ?_
              exact Go.retNW X104 Sc65 (by rw [e104]; exact (Nat.le_trans (Nat.le_trans (Nat.le_trans (Nat.le_trans (Nat.le_trans kkc65 E66.1) Kq67.1) (Keep.of_wr W83).1) (Keep.of_wr W86).1) Kq96.1)) hx (t := .boolean) hret (by simp) hlk (hb hby at_252) (by decide) (by decide) ⟨rfl, N104_, trivial⟩
        obtain ⟨a48, T48, h48, k48, X48, e48, E48, S48, kq48, hZ48, hown48, st48⟩ := ldcS Xc47 hx hZc47 hownc47 (wd hw 361 rfl) wS ec47 Sc47 kkc47 (g := (mkF m 131 #[.val (.long x0), .second, .val (.long x1), .second, .val (.long x2), .second, .val (.int x3), .val (.int k), .val (.int yc47_8), .val (.int sg), .val (.long q), .second, .val (.ref b34), .val (.ref b1q37), .val (.ref yc47_14), .val (.ref yc47_15), .unset, .unset, .unset, .unset] [])) rfl (hb hby at_131) (n := 4) (by decide) (by decide) (by decide) (by decide)
        have O48_ : Ext Z.heap h48 := extTr Oc47 E48
        refine Go.step st48 ?_
        obtain ⟨T49, X49, e49, st49⟩ := getS2 X48 hx hZ48 hown48 (host := "") (Or.inl (wd hw 4 rfl)) Via.refl e48 (Sta.ext O48_ S_B) (g := (mkF m 133 #[.val (.long x0), .second, .val (.long x1), .second, .val (.long x2), .second, .val (.int x3), .val (.int k), .val (.int yc47_8), .val (.int sg), .val (.long q), .second, .val (.ref b34), .val (.ref b1q37), .val (.ref yc47_14), .val (.ref yc47_15), .unset, .unset, .unset, .unset] [(.ref a48)])) rfl (hb hby at_133)
        refine Go.step st49 ?_
        refine Go.step (fun _ kt_ => XS.lconst X49.here hx rfl (hb hby at_136)  kt_) ?_
        refine Go.step (X49.ldc2Long hx hown48 (mvT hZ48 (wd hw 154 rfl)) (g := (mkF m 137 #[.val (.long x0), .second, .val (.long x1), .second, .val (.long x2), .second, .val (.int x3), .val (.int k), .val (.int yc47_8), .val (.int sg), .val (.long q), .second, .val (.ref b34), .val (.ref b1q37), .val (.ref yc47_14), .val (.ref yc47_15), .unset, .unset, .unset, .unset] [(.long (1 : Int64)), (.ref bA), (.ref a48)])) rfl (hb hby at_137)) ?_
        obtain ⟨_, _, ⟨T50, L50, k50, n50⟩, -, X50, Sq50, gq50, ⟨Lc50, hQ50, l50, y50, z50⟩, st50⟩ := callSS X49 hx (y := (⟨"org/matchstone/engine/NewOrder", "limit", "(Ljava/lang/String;Lorg/matchstone/engine/Side;JJ)Lorg/matchstone/engine/NewOrder;"⟩ : MethodName)) hown48 (mvT hZ48 (wd hw 155 rfl)) (mvT hZ48 (wd hw 156 rfl)) (mvT hZ48 (wd hw 157 rfl)) (mvT hZ48 (wd hw 158 rfl)) (by decide) (backOfS (W := 0) (rm_a18_0 l Z a0 hw []  a48 bA (1 : Int64) (100 : Int64) dA h48 O48_ S_D) hZ48 (wd hw 158 rfl) (wd hw 157 rfl) (by decide) (by decide)) (g := (mkF m 140 #[.val (.long x0), .second, .val (.long x1), .second, .val (.long x2), .second, .val (.int x3), .val (.int k), .val (.int yc47_8), .val (.int sg), .val (.long q), .second, .val (.ref b34), .val (.ref b1q37), .val (.ref yc47_14), .val (.ref yc47_15), .unset, .unset, .unset, .unset] [(.long (100 : Int64)), (.long (1 : Int64)), (.ref bA), (.ref a48)])) rfl (by rw [hml]; rfl) (argsL := [(.ref a48), (.ref bA), (.long (1 : Int64)), (.long (100 : Int64))]) (rest := []) (lenOf pd_LLjava_lang_String_Lorg_matchstone_engine_Side_JJRLorg_matchstone_engine_NewOrder_ rfl) rfl (by show 2 * 0 + _ ≤ _; exact Nat.le_of_eq rfl) (hb hby at_140) (fun _ _ => ⟨rfl, e49, (by decide : 42 + 8 ≤ _), (by decide : 2008 + 104 ≤ _)⟩)
        dsimp only [Pt.U, Pt.locs, Pt.cells, Pt.slots] at X50 l50 y50 z50 st50 hQ50 Sq50 gq50
        subst y50 z50
        obtain ⟨X50, S50, hZ50, hown50⟩ := rebS S48 ((congrArg Array.size e49).symm ▸ kq48) X50 Sq50 gq50 hZ48 hown48
        obtain ⟨b1q3q50, rfl, Nq50, Kq50, p50_0, p50_1, p50_2, p50_3, p50_4, p50_5, p50_6, p50_7, p50_8, p50_9, p50_10, p50_11, p50_12, p50_13⟩ := hQ50
        have O50_ : Ext Z.heap T50.heap := extKeep O48_ Kq50 all0
        have N50_ : Fr Z.heap.size L50 := by rw [l50]; exact Fr.app Nc47 Nq50
        have g_b1q3q50 : Z.heap.size ≤ b1q3q50 := Nat.le_trans O48_.1 p50_0
        refine Go.trans st50 ?_
        refine Go.step (fun _ kt_ => XS.iload X50.here hx rfl (hb hby at_143) rfl kt_) ?_
        refine Go.step (fun _ kt_ => XS.iconst X50.here hx rfl (hb hby at_145)  kt_) ?_
        by_cases hc146_51 : k = (1 : Int32)
        · refine Go.step (fun _ kt_ => XS.icmpNo X50.here hx rfl (hb hby at_146) rfl (teq hc146_51).2 kt_) ?_
          refine Go.step (fun _ kt_ => XS.iconst X50.here hx rfl (hb hby at_149)  kt_) ?_
          refine Go.step (fun _ kt_ => XS.goto X50.here hx rfl (pc0 := 150) (pc' := 154) rfl (hb hby at_150) (by decide) (by decide) kt_) ?_
          obtain ⟨cq52, kq52, q52a, q52b, q52c⟩ := isOf hZ50 rfl p50_1
          obtain ⟨_, _, ⟨T52, L52, k52, n52⟩, -, X52, Sq52, gq52, ⟨Lc52, hQ52, l52, y52, z52⟩, st52⟩ := X50.virtualBackS hx (y := (⟨"org/matchstone/engine/NewOrder", "withDisplayed", "(Z)Lorg/matchstone/engine/NewOrder;"⟩ : MethodName)) (z := (⟨"org/matchstone/engine/NewOrder", "withDisplayed", "(Z)Lorg/matchstone/engine/NewOrder;"⟩ : MethodName)) hown50 (mvT hZ50 (wd hw 240 rfl)) (mvT hZ50 (wd hw 241 rfl)) (notFace_of_selects (args := #[]) (mvT hZ50 (wd hw 243 rfl))) (mvT hZ50 (wd hw 243 rfl)) (mvT hZ50 (wd hw 242 rfl)) (by decide) (backOfS (W := 0) (rm_a24_1 l Z a0 hw []  b1q3q50 a48 bA dA T50.heap O50_ p50_2 p50_3 p50_4 p50_5 S_D p50_6 p50_7 p50_8 p50_9 p50_10 p50_11 p50_12 p50_13) hZ50 (wd hw 244 rfl) (wd hw 157 rfl) (by decide) (by decide)) q52a q52c (g := (mkF m 154 #[.val (.long x0), .second, .val (.long x1), .second, .val (.long x2), .second, .val (.int x3), .val (.int k), .val (.int yc47_8), .val (.int sg), .val (.long q), .second, .val (.ref b34), .val (.ref b1q37), .val (.ref yc47_14), .val (.ref yc47_15), .unset, .unset, .unset, .unset] [(.int (1 : Int32)), (.ref b1q3q50)])) rfl (by rw [hml]; rfl) (Steps.refl _) (argsL := [(.int (1 : Int32))]) (rest := []) (lenOf pd_LZRLorg_matchstone_engine_NewOrder_ rfl) rfl (by show 2 * 0 + _ ≤ _; exact Nat.le_of_eq rfl) (hb hby at_154) (fun _ _ => ⟨rfl, rfl, (by decide : 50 + 8 ≤ _), (by decide : 2112 + 104 ≤ _)⟩)
          dsimp only [Pt.U, Pt.locs, Pt.cells, Pt.slots] at X52 l52 y52 z52 st52 hQ52 Sq52 gq52
          subst y52 z52
          obtain ⟨X52, S52, hZ52, hown52⟩ := rebS S50 ((Nat.le_refl _)) X52 Sq52 gq52 hZ50 hown50
          obtain ⟨b1q5q52, rfl, Nq52, Kq52, p52_0, p52_1, p52_2, p52_3, p52_4, p52_5, p52_6, p52_7, p52_8, p52_9, p52_10, p52_11, p52_12, p52_13⟩ := hQ52
          have O52_ : Ext Z.heap T52.heap := extKeep O50_ Kq52 all0
          have N52_ : Fr Z.heap.size L52 := by rw [l52]; exact Fr.app N50_ Nq52
          have g_b1q5q52 : Z.heap.size ≤ b1q5q52 := Nat.le_trans O50_.1 p52_0
          refine Go.trans st52 ?_
          refine Go.step (fun _ kt_ => XS.astore X52.here hx rfl (hb hby at_157) rfl rfl (l' := #[.val (.long x0), .second, .val (.long x1), .second, .val (.long x2), .second, .val (.int x3), .val (.int k), .val (.int yc47_8), .val (.int sg), .val (.long q), .second, .val (.ref b34), .val (.ref b1q37), .val (.ref yc47_14), .val (.ref yc47_15), .val (.ref b1q5q52), .unset, .unset, .unset]) rfl kt_) ?_
          show Go _ _ _ _ _ _ _ _ T52 (mkF m 159 #[.val (.long x0), .second, .val (.long x1), .second, .val (.long x2), .second, .val (.int x3), .val (.int k), .val (.int yc47_8), .val (.int sg), .val (.long q), .second, .val (.ref b34), .val (.ref b1q37), .val (.ref yc47_14), .val (.ref yc47_15), .val (.ref b1q5q52), .unset, .unset, .unset] [])
          have f54 := (((Fld.ext E48 r2).keep Kq50 nin0).keep Kq52 nin0)
          have f55 := (((Fld.ext E48 r5).keep Kq50 nin0).keep Kq52 nin0)
          have f56 := (((Fld.ext E48 r7).keep Kq50 nin0).keep Kq52 nin0)
          have f57 := (((Fld.ext E48 r8).keep Kq50 nin0).keep Kq52 nin0)
          have f58 := (((Fld.ext E48 r9).keep Kq50 nin0).keep Kq52 nin0)
          have f59 := (((Fld.ext E48 r2).keep Kq50 nin0).keep Kq52 nin0)
          have f60 := (((Fld.ext E48 r5).keep Kq50 nin0).keep Kq52 nin0)
          have f61 := (((Fld.ext E48 r7).keep Kq50 nin0).keep Kq52 nin0)
          have f62 := (((Fld.ext E48 r8).keep Kq50 nin0).keep Kq52 nin0)
          have f63 := (((Fld.ext E48 r9).keep Kq50 nin0).keep Kq52 nin0)
          exact cont159_11 T52 _ _ _ (X52.more (by decide) (by decide)) rfl O52_ N52_ hZ52 hown52 _ S52 (Nat.le_refl _) b1q5q52 a48 (100 : Int64) (1 : Int32) (0 : Int32) (0 : Int32) (0 : Int32) (1 : Int64) p52_1 p52_2 p52_3 p52_5 p52_12 p52_8 p52_9 p52_10 p52_11 p52_6 r0 p52_13 p52_4 hc146_51 (((Exa.ext E48 r1).keep Kq50).keep Kq52) f59 r3 (((Exa.ext E48 r4).keep Kq50).keep Kq52) (by decide) f60 r6 f61 f62 f63
        · refine Go.step (fun _ kt_ => XS.icmpYes X50.here hx rfl (pc0 := 146) (pc' := 153) rfl (hb hby at_146) rfl (feq hc146_51).2 (by decide) (by decide) kt_) ?_
          refine Go.step (fun _ kt_ => XS.iconst X50.here hx rfl (hb hby at_153)  kt_) ?_
          obtain ⟨cq64, kq64, q64a, q64b, q64c⟩ := isOf hZ50 rfl p50_1
          obtain ⟨_, _, ⟨T64, L64, k64, n64⟩, -, X64, Sq64, gq64, ⟨Lc64, hQ64, l64, y64, z64⟩, st64⟩ := X50.virtualBackS hx (y := (⟨"org/matchstone/engine/NewOrder", "withDisplayed", "(Z)Lorg/matchstone/engine/NewOrder;"⟩ : MethodName)) (z := (⟨"org/matchstone/engine/NewOrder", "withDisplayed", "(Z)Lorg/matchstone/engine/NewOrder;"⟩ : MethodName)) hown50 (mvT hZ50 (wd hw 240 rfl)) (mvT hZ50 (wd hw 241 rfl)) (notFace_of_selects (args := #[]) (mvT hZ50 (wd hw 243 rfl))) (mvT hZ50 (wd hw 243 rfl)) (mvT hZ50 (wd hw 242 rfl)) (by decide) (backOfS (W := 0) (rm_a24_0 l Z a0 hw []  b1q3q50 a48 bA (1 : Int64) dA T50.heap O50_ p50_2 p50_3 p50_4 p50_5 S_D p50_6 p50_7 p50_8 p50_9 p50_10 p50_11 p50_12 p50_13) hZ50 (wd hw 244 rfl) (wd hw 157 rfl) (by decide) (by decide)) q64a q64c (g := (mkF m 154 #[.val (.long x0), .second, .val (.long x1), .second, .val (.long x2), .second, .val (.int x3), .val (.int k), .val (.int yc47_8), .val (.int sg), .val (.long q), .second, .val (.ref b34), .val (.ref b1q37), .val (.ref yc47_14), .val (.ref yc47_15), .unset, .unset, .unset, .unset] [(.int (0 : Int32)), (.ref b1q3q50)])) rfl (by rw [hml]; rfl) (Steps.refl _) (argsL := [(.int (0 : Int32))]) (rest := []) (lenOf pd_LZRLorg_matchstone_engine_NewOrder_ rfl) rfl (by show 2 * 0 + _ ≤ _; exact Nat.le_of_eq rfl) (hb hby at_154) (fun _ _ => ⟨rfl, rfl, (by decide : 50 + 8 ≤ _), (by decide : 2112 + 104 ≤ _)⟩)
          dsimp only [Pt.U, Pt.locs, Pt.cells, Pt.slots] at X64 l64 y64 z64 st64 hQ64 Sq64 gq64
          subst y64 z64
          obtain ⟨X64, S64, hZ64, hown64⟩ := rebS S50 ((Nat.le_refl _)) X64 Sq64 gq64 hZ50 hown50
          obtain ⟨b1q5q64, rfl, Nq64, Kq64, p64_0, p64_1, p64_2, p64_3, p64_4, p64_5, p64_6, p64_7, p64_8, p64_9, p64_10, p64_11, p64_12, p64_13⟩ := hQ64
          have O64_ : Ext Z.heap T64.heap := extKeep O50_ Kq64 all0
          have N64_ : Fr Z.heap.size L64 := by rw [l64]; exact Fr.app N50_ Nq64
          have g_b1q5q64 : Z.heap.size ≤ b1q5q64 := Nat.le_trans O50_.1 p64_0
          refine Go.trans st64 ?_
          refine Go.step (fun _ kt_ => XS.astore X64.here hx rfl (hb hby at_157) rfl rfl (l' := #[.val (.long x0), .second, .val (.long x1), .second, .val (.long x2), .second, .val (.int x3), .val (.int k), .val (.int yc47_8), .val (.int sg), .val (.long q), .second, .val (.ref b34), .val (.ref b1q37), .val (.ref yc47_14), .val (.ref yc47_15), .val (.ref b1q5q64), .unset, .unset, .unset]) rfl kt_) ?_
          show Go _ _ _ _ _ _ _ _ T64 (mkF m 159 #[.val (.long x0), .second, .val (.long x1), .second, .val (.long x2), .second, .val (.int x3), .val (.int k), .val (.int yc47_8), .val (.int sg), .val (.long q), .second, .val (.ref b34), .val (.ref b1q37), .val (.ref yc47_14), .val (.ref yc47_15), .val (.ref b1q5q64), .unset, .unset, .unset] [])
          have f66 := (((Fld.ext E48 r2).keep Kq50 nin0).keep Kq64 nin0)
          have f67 := (((Fld.ext E48 r7).keep Kq50 nin0).keep Kq64 nin0)
          have f68 := (((Fld.ext E48 r5).keep Kq50 nin0).keep Kq64 nin0)
          have f69 := (((Fld.ext E48 r8).keep Kq50 nin0).keep Kq64 nin0)
          have f70 := (((Fld.ext E48 r9).keep Kq50 nin0).keep Kq64 nin0)
          have f71 := (((Fld.ext E48 r10).keep Kq50 nin0).keep Kq64 nin0)
          have f72 := (((Fld.ext E48 r2).keep Kq50 nin0).keep Kq64 nin0)
          have f73 := (((Fld.ext E48 r7).keep Kq50 nin0).keep Kq64 nin0)
          have f74 := (((Fld.ext E48 r5).keep Kq50 nin0).keep Kq64 nin0)
          have f75 := (((Fld.ext E48 r8).keep Kq50 nin0).keep Kq64 nin0)
          have f76 := (((Fld.ext E48 r9).keep Kq50 nin0).keep Kq64 nin0)
          have f77 := (((Fld.ext E48 r10).keep Kq50 nin0).keep Kq64 nin0)
          exact cont159_10 T64 _ _ _ (X64.more (by decide) (by decide)) rfl O64_ N64_ hZ64 hown64 _ S64 (Nat.le_refl _) b1q5q64 a48 (100 : Int64) (0 : Int32) (0 : Int32) (0 : Int32) (0 : Int32) (1 : Int64) p64_1 p64_2 p64_3 p64_5 p64_12 p64_8 p64_9 p64_10 p64_11 p64_6 r0 p64_13 p64_4 hc146_51 (((Exa.ext E48 r1).keep Kq50).keep Kq64) f72 r3 (((Exa.ext E48 r4).keep Kq50).keep Kq64) f73 r6 (by decide) f74 f75 f76 f77 r11
      refine Go.step (fun _ kt_ => XS.iload X41.here hx rfl (hb hby at_82) rfl kt_) ?_
      refine Go.step (fun _ kt_ => XS.ifNo X41.here hx rfl (hb hby at_84) rfl ((if0 _ _).trans (feq (by decide : ¬ ((1 : Int32) = (0 : Int32)))).1) kt_) ?_
      refine Go.step (fun _ kt_ => XS.aload X41.here hx rfl (hb hby at_87) rfl rfl kt_) ?_
      refine Go.step (fun _ kt_ => XS.iload X41.here hx rfl (hb hby at_89) rfl kt_) ?_
      by_cases hc91_42 : sg = (0 : Int32)
      · refine Go.step (fun _ kt_ => XS.ifYes X41.here hx rfl (pc0 := 91) (pc' := 102) rfl (hb hby at_91) rfl ((if0 _ _).trans (teq hc91_42).1) (by decide) (by decide) kt_) ?_
        refine Go.step (fun _ kt_ => XS.lload X41.here hx rfl (hb hby at_102) rfl kt_) ?_
        obtain ⟨_, _, ⟨T43, L43, k43, n43⟩, -, X43, ⟨Lc43, hQ43, l43, y43, z43⟩, st43⟩ := Jvm.LawKit.callS X41 hx (y := (⟨"org/matchstone/engine/MinQuantity", "aggregated", "(J)Lorg/matchstone/engine/MinQuantity;"⟩ : MethodName)) hown41 (mvT hZ41 (wd hw 400 rfl)) (mvT hZ41 (wd hw 401 rfl)) (mvT hZ41 (wd hw 402 rfl)) (mvT hZ41 (wd hw 403 rfl)) (by decide) (backOf (W := 1) (rm_a42_0 l Z a0 hw []  q T41.heap O41_ ) hZ41 (wd hw 403 rfl) (wd hw 402 rfl) (by decide) (by decide)) (g := (mkF m 104 #[.val (.long x0), .second, .val (.long x1), .second, .val (.long x2), .second, .val (.int x3), .val (.int k), .val (.int (1 : Int32)), .val (.int sg), .val (.long q), .second, .val (.ref b34), .val (.ref b1q37), .val (.ref b1q5q41), .unset, .unset, .unset, .unset, .unset] [(.long q), (.ref b1q5q41)])) rfl (by rw [hml]; rfl) (argsL := [(.long q)]) (rest := [(.ref b1q5q41)]) (lenOf pd_LJRLorg_matchstone_engine_MinQuantity_ rfl) rfl (by show 2 * 0 + _ ≤ _; exact Nat.le_of_eq rfl) (hb hby at_104) (fun _ _ => ⟨rfl, rfl, (by decide : 28 + 1 ≤ _), (by decide : 266 + 2 ≤ _)⟩)
        dsimp only [Pt.U, Pt.locs, Pt.cells, Pt.slots] at X43 l43 y43 z43 st43 hQ43
        subst y43 z43
        obtain ⟨b1q43, rfl, Nq43, Kq43, p43_0, p43_1, p43_2, p43_3⟩ := hQ43
        have O43_ : Ext Z.heap T43.heap := extKeep O41_ Kq43 all0
        have N43_ : Fr Z.heap.size L43 := by rw [l43]; exact Fr.app N41_ Nq43
        have g_b1q43 : Z.heap.size ≤ b1q43 := Nat.le_trans O41_.1 p43_0
        refine Go.step st43 ?_
        obtain ⟨cq44, kq44, q44a, q44b, q44c⟩ := isOf hZ41 rfl (p41_1.keep Kq43)
        obtain ⟨_, _, ⟨T44, L44, k44, n44⟩, -, X44, Sq44, gq44, ⟨Lc44, hQ44, l44, y44, z44⟩, st44⟩ := X43.virtualBackS hx (y := (⟨"org/matchstone/engine/NewOrder", "withMinQuantity", "(Lorg/matchstone/engine/MinQuantity;)Lorg/matchstone/engine/NewOrder;"⟩ : MethodName)) (z := (⟨"org/matchstone/engine/NewOrder", "withMinQuantity", "(Lorg/matchstone/engine/MinQuantity;)Lorg/matchstone/engine/NewOrder;"⟩ : MethodName)) hown41 (mvT hZ41 (wd hw 414 rfl)) (mvT hZ41 (wd hw 415 rfl)) (notFace_of_selects (args := #[]) (mvT hZ41 (wd hw 417 rfl))) (mvT hZ41 (wd hw 417 rfl)) (mvT hZ41 (wd hw 416 rfl)) (by decide) (backOfS (W := 0) (rm_a44_0 l Z a0 hw []  b1q5q41 b1q43 a38 bA x1 (100 : Int64) dA (0 : Int32) (0 : Int32) (0 : Int32) (0 : Int32) T43.heap O43_ (p41_2.keep Kq43 nin0) (p41_3.keep Kq43 nin0) (p41_4.keep Kq43 nin0) (p41_5.keep Kq43 nin0) S_D (p41_6.keep Kq43 nin0) (p41_7.keep Kq43 nin0) (p41_8.keep Kq43 nin0) (p41_9.keep Kq43 nin0) (p41_10.keep Kq43 nin0) (p41_11.keep Kq43 nin0) (p41_12.keep Kq43 nin0) (p41_13.keep Kq43 nin0)) hZ41 (wd hw 418 rfl) (wd hw 157 rfl) (by decide) (by decide)) q44a q44c (g := (mkF m 107 #[.val (.long x0), .second, .val (.long x1), .second, .val (.long x2), .second, .val (.int x3), .val (.int k), .val (.int (1 : Int32)), .val (.int sg), .val (.long q), .second, .val (.ref b34), .val (.ref b1q37), .val (.ref b1q5q41), .unset, .unset, .unset, .unset, .unset] [(.ref b1q43), (.ref b1q5q41)])) rfl (by rw [hml]; rfl) (Steps.refl _) (argsL := [(.ref b1q43)]) (rest := []) (lenOf pd_LLorg_matchstone_engine_MinQuantity_RLorg_matchstone_engine_NewOrder_ rfl) rfl (by show 2 * 0 + _ ≤ _; exact Nat.le_of_eq rfl) (hb hby at_107) (fun _ _ => ⟨rfl, rfl, (by decide : 29 + 8 ≤ _), (by decide : 268 + 104 ≤ _)⟩)
        dsimp only [Pt.U, Pt.locs, Pt.cells, Pt.slots] at X44 l44 y44 z44 st44 hQ44 Sq44 gq44
        subst y44 z44
        obtain ⟨X44, S44, hZ44, hown44⟩ := rebS S41 ((Nat.le_trans (Nat.le_refl _) Kq43.1)) X44 Sq44 gq44 hZ41 hown41
        obtain ⟨b1q15q44, rfl, Nq44, Kq44, p44_0, p44_1, p44_2, p44_3, p44_4, p44_5, p44_6, p44_7, p44_8, p44_9, p44_10, p44_11, p44_12, p44_13⟩ := hQ44
        have O44_ : Ext Z.heap T44.heap := extKeep O43_ Kq44 all0
        have N44_ : Fr Z.heap.size L44 := by rw [l44]; exact Fr.app N43_ Nq44
        have g_b1q15q44 : Z.heap.size ≤ b1q15q44 := Nat.le_trans O43_.1 p44_0
        refine Go.trans st44 ?_
        refine Go.step (fun _ kt_ => XS.astore X44.here hx rfl (hb hby at_110) rfl rfl (l' := #[.val (.long x0), .second, .val (.long x1), .second, .val (.long x2), .second, .val (.int x3), .val (.int k), .val (.int (1 : Int32)), .val (.int sg), .val (.long q), .second, .val (.ref b34), .val (.ref b1q37), .val (.ref b1q15q44), .unset, .unset, .unset, .unset, .unset]) rfl kt_) ?_
        obtain ⟨T45, h45, X45, e45, E45, A45, D45, U45, st45⟩ := newO X44 hx hZ44 hown44 (wd hw 262 rfl) (wd hw 263 rfl) (wd hw 264 rfl) rfl (g := (mkF m 112 #[.val (.long x0), .second, .val (.long x1), .second, .val (.long x2), .second, .val (.int x3), .val (.int k), .val (.int (1 : Int32)), .val (.int sg), .val (.long q), .second, .val (.ref b34), .val (.ref b1q37), .val (.ref b1q15q44), .unset, .unset, .unset, .unset, .unset] [])) rfl (hb hby at_112) (by decide) (by decide)
        obtain ⟨b45, hb45⟩ : ∃ z, z = T44.heap.size := ⟨_, rfl⟩
        rw [← hb45] at A45 D45 U45 st45
        refine Go.step st45 ?_
        have g_b45 : Z.heap.size ≤ b45 := Nat.le_trans O44_.1 (Nat.le_of_eq hb45.symm)
        have O45_ : Ext Z.heap h45 := extTr O44_ E45
        have F45_id : fl_35 Z h45 b45 .null := D45 (Or.inr (wd hw 276 rfl)) (ty := (.object "java/lang/String")) pf_Ljava_lang_String_
        have F45_side : fl_36 Z h45 b45 .null := D45 (Or.inr (wd hw 283 rfl)) (ty := (.object "org/matchstone/engine/Side")) pf_Lorg_matchstone_engine_Side_
        have F45_price : fl_33 Z h45 b45 (.long (0 : Int64)) := D45 (Or.inl (wd hw 285 rfl)) (ty := .long) pf_J
        have F45_limit : fl_37 Z h45 b45 (.long (0 : Int64)) := D45 (Or.inr (wd hw 292 rfl)) (ty := .long) pf_J
        have F45_peg : fl_38 Z h45 b45 .null := D45 (Or.inr (wd hw 299 rfl)) (ty := (.object "org/matchstone/engine/Peg")) pf_Lorg_matchstone_engine_Peg_
        have F45_displayed : fl_28 Z h45 b45 (.int (0 : Int32)) := D45 (Or.inr (wd hw 306 rfl)) (ty := .boolean) pf_Z
        have F45_postOnly : fl_39 Z h45 b45 (.int (0 : Int32)) := D45 (Or.inr (wd hw 313 rfl)) (ty := .boolean) pf_Z
        have F45_swap : fl_40 Z h45 b45 (.int (0 : Int32)) := D45 (Or.inr (wd hw 320 rfl)) (ty := .boolean) pf_Z
        have F45_superAggressive : fl_41 Z h45 b45 (.int (0 : Int32)) := D45 (Or.inr (wd hw 327 rfl)) (ty := .boolean) pf_Z
        have F45_immediateOrCancel : fl_42 Z h45 b45 (.int (0 : Int32)) := D45 (Or.inr (wd hw 336 rfl)) (ty := .boolean) pf_Z
        have F45_start : fl_43 Z h45 b45 .null := D45 (Or.inr (wd hw 338 rfl)) (ty := (.object "java/time/LocalTime")) pf_Ljava_time_LocalTime_
        have F45_end : fl_44 Z h45 b45 .null := D45 (Or.inr (wd hw 340 rfl)) (ty := (.object "java/time/LocalTime")) pf_Ljava_time_LocalTime_
        have F45_priority : fl_34 Z h45 b45 (.long (0 : Int64)) := D45 (Or.inl (wd hw 342 rfl)) (ty := .long) pf_J
        have F45_entered : fl_45 Z h45 b45 (.long (0 : Int64)) := D45 (Or.inr (wd hw 344 rfl)) (ty := .long) pf_J
        have F45_minQuantity : fl_29 Z h45 b45 (.long (0 : Int64)) := D45 (Or.inr (wd hw 351 rfl)) (ty := .long) pf_J
        have F45_singleOrderMinimum : fl_46 Z h45 b45 (.int (0 : Int32)) := D45 (Or.inr (wd hw 353 rfl)) (ty := .boolean) pf_Z
        have F45_open : fl_31 Z h45 b45 (.long (0 : Int64)) := D45 (Or.inl (wd hw 360 rfl)) (ty := .long) pf_J
        have F45_next : fl_30 Z h45 b45 .null := D45 (Or.inl (wd hw 396 rfl)) (ty := (.object "org/matchstone/engine/BookSide$Order")) pf_Lorg_matchstone_engine_BookSideSOrder_
        have F45_previous : fl_32 Z h45 b45 .null := D45 (Or.inl (wd hw 399 rfl)) (ty := (.object "org/matchstone/engine/BookSide$Order")) pf_Lorg_matchstone_engine_BookSideSOrder_
        refine Go.step (fun _ kt_ => XS.dup X45.here hx rfl (hb hby at_115) rfl rfl kt_) ?_
        refine Go.step (fun _ kt_ => XS.aload X45.here hx rfl (hb hby at_116) rfl rfl kt_) ?_
        refine Go.step (X45.ldc2Long hx hown44 (mvT hZ44 (wd hw 154 rfl)) (g := (mkF m 118 #[.val (.long x0), .second, .val (.long x1), .second, .val (.long x2), .second, .val (.int x3), .val (.int k), .val (.int (1 : Int32)), .val (.int sg), .val (.long q), .second, .val (.ref b34), .val (.ref b1q37), .val (.ref b1q15q44), .unset, .unset, .unset, .unset, .unset] [(.ref b1q15q44), (.ref b45), (.ref b45)])) rfl (hb hby at_118)) ?_
        refine Go.step (fun _ kt_ => XS.aconstNull X45.here hx rfl (hb hby at_121)  kt_) ?_
        refine Go.step (fun _ kt_ => XS.aconstNull X45.here hx rfl (hb hby at_122)  kt_) ?_
        refine Go.step (X45.ldc2Long hx hown44 (mvT hZ44 (wd hw 265 rfl)) (g := (mkF m 123 #[.val (.long x0), .second, .val (.long x1), .second, .val (.long x2), .second, .val (.int x3), .val (.int k), .val (.int (1 : Int32)), .val (.int sg), .val (.long q), .second, .val (.ref b34), .val (.ref b1q37), .val (.ref b1q15q44), .unset, .unset, .unset, .unset, .unset] [.null, .null, (.long (100 : Int64)), (.ref b1q15q44), (.ref b45), (.ref b45)])) rfl (hb hby at_123)) ?_
        obtain ⟨_, _, ⟨T46, L46, k46, n46⟩, -, X46, ⟨Lc46, hQ46, l46, y46, z46⟩, st46⟩ := X45.specialBack hx (y := (⟨"org/matchstone/engine/BookSide$Order", "<init>", "(Lorg/matchstone/engine/NewOrder;JLjava/time/LocalTime;Ljava/time/LocalTime;J)V"⟩ : MethodName)) rfl hown44 (mvT hZ44 (wd hw 266 rfl)) (mvT hZ44 (wd hw 267 rfl)) (mvT hZ44 (wd hw 268 rfl)) (by decide) (backOf (W := 1) (rm_a26_1 l Z a0 hw []  b45 b1q15q44 (100 : Int64) (2 : Int64) a38 bA (0 : Int64) (100 : Int64) (0 : Int64) (0 : Int32) (0 : Int32) (0 : Int32) (0 : Int32) (0 : Int32) (0 : Int32) (0 : Int32) (0 : Int32) dA iA (0 : Int32) (0 : Int64) (0 : Int64) b1q43 q (0 : Int64) (0 : Int32) (0 : Int32) x1 (0 : Int64) h45 O45_ (Exa.ext E45 p44_1) (Fld.ext E45 p44_2) A45 F45_id g_b45 (Fld.ext E45 p44_3) (Nat.ne_of_lt (Nat.lt_of_lt_of_le p44_1.lt (Nat.le_of_eq hb45.symm))) F45_side F45_price (Fld.ext E45 p44_5) F45_limit (Fld.ext E45 p44_12) F45_peg (Fld.ext E45 p44_8) F45_displayed (Fld.ext E45 p44_9) F45_postOnly (Fld.ext E45 p44_10) F45_swap (Fld.ext E45 p44_11) F45_superAggressive (Fld.ext E45 p44_6) S_I hne F45_immediateOrCancel F45_start F45_end F45_priority F45_entered (Fld.ext E45 p44_13) (Exa.ext E45 (p43_1.keep Kq44)) (Fld.ext E45 (p43_2.keep Kq44 nin0)) (Nat.ne_of_lt (Nat.lt_of_lt_of_le (p43_1.keep Kq44).lt (Nat.le_of_eq hb45.symm))) F45_minQuantity (Fld.ext E45 (p43_3.keep Kq44 nin0)) F45_singleOrderMinimum (Fld.ext E45 p44_4) F45_open F45_next F45_previous) hZ44 (wd hw 268 rfl) (wd hw 264 rfl) (by decide) (by decide)) (g := (mkF m 126 #[.val (.long x0), .second, .val (.long x1), .second, .val (.long x2), .second, .val (.int x3), .val (.int k), .val (.int (1 : Int32)), .val (.int sg), .val (.long q), .second, .val (.ref b34), .val (.ref b1q37), .val (.ref b1q15q44), .unset, .unset, .unset, .unset, .unset] [(.long (2 : Int64)), .null, .null, (.long (100 : Int64)), (.ref b1q15q44), (.ref b45), (.ref b45)])) rfl (by rw [hml]; rfl) (Steps.refl _) (a := b45) (argsL := [(.ref b1q15q44), (.long (100 : Int64)), .null, .null, (.long (2 : Int64))]) (rest := [(.ref b45)]) (lenOf pd_LLorg_matchstone_engine_NewOrder_JLjava_time_LocalTime_Ljava_time_LocalTime_JRV rfl) rfl (by show 2 * 0 + _ ≤ _; exact Nat.le_of_eq rfl) (hb hby at_126) (fun _ _ => ⟨rfl, e45, (by decide : 38 + 0 ≤ _), (by decide : 395 + 0 ≤ _)⟩)
        dsimp only [Pt.U, Pt.locs, Pt.cells, Pt.slots] at X46 l46 y46 z46 st46 hQ46
        subst y46 z46
        obtain ⟨rfl, Nq46, Kq46, p46_0, p46_1, p46_2, p46_3, p46_4, p46_5, p46_6⟩ := hQ46
        have O46_ : Ext Z.heap T46.heap := extKeep O45_ Kq46 (allS g_b45 all0)
        have N46_ : Fr Z.heap.size L46 := by rw [l46]; exact Fr.app N44_ Nq46
        refine Go.trans st46 ?_
        refine Go.step (fun _ kt_ => XS.astore X46.here hx rfl (hb hby at_129) rfl rfl (l' := #[.val (.long x0), .second, .val (.long x1), .second, .val (.long x2), .second, .val (.int x3), .val (.int k), .val (.int (1 : Int32)), .val (.int sg), .val (.long q), .second, .val (.ref b34), .val (.ref b1q37), .val (.ref b1q15q44), .val (.ref b45), .unset, .unset, .unset, .unset]) rfl kt_) ?_
        show Go _ _ _ _ _ _ _ _ T46 (mkF m 131 #[.val (.long x0), .second, .val (.long x1), .second, .val (.long x2), .second, .val (.int x3), .val (.int k), .val (.int (1 : Int32)), .val (.int sg), .val (.long q), .second, .val (.ref b34), .val (.ref b1q37), .val (.ref b1q15q44), .val (.ref b45), .unset, .unset, .unset, .unset] [])
        have f48 := ((((Exa.ext E38 p37_1).keep Kq40).keep Kq41).keep Kq43)
        have f49 := ((Exa.ext E45 (f48.keep Kq44)).keep Kq46)
        have f50 := ((((Fld.ext E38 p37_2).keep Kq40 nin0).keep Kq41 nin0).keep Kq43 nin0)
        have f51 := ((Fld.ext E45 (f50.keep Kq44 nin0)).keep Kq46 (ninS (Nat.ne_of_lt (Nat.lt_of_lt_of_le (f48.keep Kq44).lt (Nat.le_of_eq hb45.symm))) nin0))
        have f52 := ((((Fld.ext E38 p37_3).keep Kq40 nin0).keep Kq41 nin0).keep Kq43 nin0)
        have f53 := ((Fld.ext E45 (f52.keep Kq44 nin0)).keep Kq46 (ninS (Nat.ne_of_lt (Nat.lt_of_lt_of_le (f48.keep Kq44).lt (Nat.le_of_eq hb45.symm))) nin0))
        have f54 := ((((Fld.ext E38 p37_4).keep Kq40 nin0).keep Kq41 nin0).keep Kq43 nin0)
        have f55 := ((Fld.ext E45 (f54.keep Kq44 nin0)).keep Kq46 (ninS (Nat.ne_of_lt (Nat.lt_of_lt_of_le (f48.keep Kq44).lt (Nat.le_of_eq hb45.symm))) nin0))
        have f56 := ((((Fld.ext E38 p37_5).keep Kq40 nin0).keep Kq41 nin0).keep Kq43 nin0)
        have f57 := ((Fld.ext E45 (f56.keep Kq44 nin0)).keep Kq46 (ninS (Nat.ne_of_lt (Nat.lt_of_lt_of_le (f48.keep Kq44).lt (Nat.le_of_eq hb45.symm))) nin0))
        have f58 := ((((Exa.ext E38 p37_1).keep Kq40).keep Kq41).keep Kq43)
        have f59 := ((Exa.ext E45 (f58.keep Kq44)).keep Kq46)
        have f60 := ((((Fld.ext E38 p37_2).keep Kq40 nin0).keep Kq41 nin0).keep Kq43 nin0)
        have f61 := ((Fld.ext E45 (f60.keep Kq44 nin0)).keep Kq46 (ninS (Nat.ne_of_lt (Nat.lt_of_lt_of_le (f58.keep Kq44).lt (Nat.le_of_eq hb45.symm))) nin0))
        have f62 := ((((Fld.ext E38 p37_3).keep Kq40 nin0).keep Kq41 nin0).keep Kq43 nin0)
        have f63 := ((Fld.ext E45 (f62.keep Kq44 nin0)).keep Kq46 (ninS (Nat.ne_of_lt (Nat.lt_of_lt_of_le (f58.keep Kq44).lt (Nat.le_of_eq hb45.symm))) nin0))
        have f64 := ((((Fld.ext E38 p37_4).keep Kq40 nin0).keep Kq41 nin0).keep Kq43 nin0)
        have f65 := ((Fld.ext E45 (f64.keep Kq44 nin0)).keep Kq46 (ninS (Nat.ne_of_lt (Nat.lt_of_lt_of_le (f58.keep Kq44).lt (Nat.le_of_eq hb45.symm))) nin0))
        have f66 := ((((Fld.ext E38 p37_5).keep Kq40 nin0).keep Kq41 nin0).keep Kq43 nin0)
        have f67 := ((Fld.ext E45 (f66.keep Kq44 nin0)).keep Kq46 (ninS (Nat.ne_of_lt (Nat.lt_of_lt_of_le (f58.keep Kq44).lt (Nat.le_of_eq hb45.symm))) nin0))
        exact cont131_1 T46 _ _ _ (X46.more (by decide) (by decide)) rfl O46_ N46_ hZ44 hown44 _ S44 (Nat.le_trans (Nat.le_trans (Nat.le_refl _) E45.1) Kq46.1) (1 : Int32) b1q15q44 b45 (0 : Int32) hne (A45.keep Kq46) p46_4 g_b45 f59 f61 (Nat.ne_of_lt (Nat.lt_of_lt_of_le (f58.keep Kq44).lt (Nat.le_of_eq hb45.symm))) f63 f65 f67 p46_1 (by decide)
      · refine Go.step (fun _ kt_ => XS.ifNo X41.here hx rfl (hb hby at_91) rfl ((if0 _ _).trans (feq hc91_42).1) kt_) ?_
        refine Go.step (fun _ kt_ => XS.lload X41.here hx rfl (hb hby at_94) rfl kt_) ?_
        obtain ⟨_, _, ⟨T68, L68, k68, n68⟩, -, X68, ⟨Lc68, hQ68, l68, y68, z68⟩, st68⟩ := Jvm.LawKit.callS X41 hx (y := (⟨"org/matchstone/engine/MinQuantity", "single", "(J)Lorg/matchstone/engine/MinQuantity;"⟩ : MethodName)) hown41 (mvT hZ41 (wd hw 431 rfl)) (mvT hZ41 (wd hw 432 rfl)) (mvT hZ41 (wd hw 402 rfl)) (mvT hZ41 (wd hw 433 rfl)) (by decide) (backOf (W := 1) (rm_a47_0 l Z a0 hw []  q T41.heap O41_ ) hZ41 (wd hw 433 rfl) (wd hw 402 rfl) (by decide) (by decide)) (g := (mkF m 96 #[.val (.long x0), .second, .val (.long x1), .second, .val (.long x2), .second, .val (.int x3), .val (.int k), .val (.int (1 : Int32)), .val (.int sg), .val (.long q), .second, .val (.ref b34), .val (.ref b1q37), .val (.ref b1q5q41), .unset, .unset, .unset, .unset, .unset] [(.long q), (.ref b1q5q41)])) rfl (by rw [hml]; rfl) (argsL := [(.long q)]) (rest := [(.ref b1q5q41)]) (lenOf pd_LJRLorg_matchstone_engine_MinQuantity_ rfl) rfl (by show 2 * 0 + _ ≤ _; exact Nat.le_of_eq rfl) (hb hby at_96) (fun _ _ => ⟨rfl, rfl, (by decide : 28 + 1 ≤ _), (by decide : 266 + 2 ≤ _)⟩)
        dsimp only [Pt.U, Pt.locs, Pt.cells, Pt.slots] at X68 l68 y68 z68 st68 hQ68
        subst y68 z68
        obtain ⟨b1q68, rfl, Nq68, Kq68, p68_0, p68_1, p68_2, p68_3⟩ := hQ68
        have O68_ : Ext Z.heap T68.heap := extKeep O41_ Kq68 all0
        have N68_ : Fr Z.heap.size L68 := by rw [l68]; exact Fr.app N41_ Nq68
        have g_b1q68 : Z.heap.size ≤ b1q68 := Nat.le_trans O41_.1 p68_0
        refine Go.step st68 ?_
        refine Go.step (fun _ kt_ => XS.goto X68.here hx rfl (pc0 := 99) (pc' := 107) rfl (hb hby at_99) (by decide) (by decide) kt_) ?_
        obtain ⟨cq69, kq69, q69a, q69b, q69c⟩ := isOf hZ41 rfl (p41_1.keep Kq68)
        obtain ⟨_, _, ⟨T69, L69, k69, n69⟩, -, X69, Sq69, gq69, ⟨Lc69, hQ69, l69, y69, z69⟩, st69⟩ := X68.virtualBackS hx (y := (⟨"org/matchstone/engine/NewOrder", "withMinQuantity", "(Lorg/matchstone/engine/MinQuantity;)Lorg/matchstone/engine/NewOrder;"⟩ : MethodName)) (z := (⟨"org/matchstone/engine/NewOrder", "withMinQuantity", "(Lorg/matchstone/engine/MinQuantity;)Lorg/matchstone/engine/NewOrder;"⟩ : MethodName)) hown41 (mvT hZ41 (wd hw 414 rfl)) (mvT hZ41 (wd hw 415 rfl)) (notFace_of_selects (args := #[]) (mvT hZ41 (wd hw 417 rfl))) (mvT hZ41 (wd hw 417 rfl)) (mvT hZ41 (wd hw 416 rfl)) (by decide) (backOfS (W := 0) (rm_a44_0 l Z a0 hw []  b1q5q41 b1q68 a38 bA x1 (100 : Int64) dA (0 : Int32) (0 : Int32) (0 : Int32) (0 : Int32) T68.heap O68_ (p41_2.keep Kq68 nin0) (p41_3.keep Kq68 nin0) (p41_4.keep Kq68 nin0) (p41_5.keep Kq68 nin0) S_D (p41_6.keep Kq68 nin0) (p41_7.keep Kq68 nin0) (p41_8.keep Kq68 nin0) (p41_9.keep Kq68 nin0) (p41_10.keep Kq68 nin0) (p41_11.keep Kq68 nin0) (p41_12.keep Kq68 nin0) (p41_13.keep Kq68 nin0)) hZ41 (wd hw 418 rfl) (wd hw 157 rfl) (by decide) (by decide)) q69a q69c (g := (mkF m 107 #[.val (.long x0), .second, .val (.long x1), .second, .val (.long x2), .second, .val (.int x3), .val (.int k), .val (.int (1 : Int32)), .val (.int sg), .val (.long q), .second, .val (.ref b34), .val (.ref b1q37), .val (.ref b1q5q41), .unset, .unset, .unset, .unset, .unset] [(.ref b1q68), (.ref b1q5q41)])) rfl (by rw [hml]; rfl) (Steps.refl _) (argsL := [(.ref b1q68)]) (rest := []) (lenOf pd_LLorg_matchstone_engine_MinQuantity_RLorg_matchstone_engine_NewOrder_ rfl) rfl (by show 2 * 0 + _ ≤ _; exact Nat.le_of_eq rfl) (hb hby at_107) (fun _ _ => ⟨rfl, rfl, (by decide : 29 + 8 ≤ _), (by decide : 268 + 104 ≤ _)⟩)
        dsimp only [Pt.U, Pt.locs, Pt.cells, Pt.slots] at X69 l69 y69 z69 st69 hQ69 Sq69 gq69
        subst y69 z69
        obtain ⟨X69, S69, hZ69, hown69⟩ := rebS S41 ((Nat.le_trans (Nat.le_refl _) Kq68.1)) X69 Sq69 gq69 hZ41 hown41
        obtain ⟨b1q15q69, rfl, Nq69, Kq69, p69_0, p69_1, p69_2, p69_3, p69_4, p69_5, p69_6, p69_7, p69_8, p69_9, p69_10, p69_11, p69_12, p69_13⟩ := hQ69
        have O69_ : Ext Z.heap T69.heap := extKeep O68_ Kq69 all0
        have N69_ : Fr Z.heap.size L69 := by rw [l69]; exact Fr.app N68_ Nq69
        have g_b1q15q69 : Z.heap.size ≤ b1q15q69 := Nat.le_trans O68_.1 p69_0
        refine Go.trans st69 ?_
        refine Go.step (fun _ kt_ => XS.astore X69.here hx rfl (hb hby at_110) rfl rfl (l' := #[.val (.long x0), .second, .val (.long x1), .second, .val (.long x2), .second, .val (.int x3), .val (.int k), .val (.int (1 : Int32)), .val (.int sg), .val (.long q), .second, .val (.ref b34), .val (.ref b1q37), .val (.ref b1q15q69), .unset, .unset, .unset, .unset, .unset]) rfl kt_) ?_
        obtain ⟨T70, h70, X70, e70, E70, A70, D70, U70, st70⟩ := newO X69 hx hZ69 hown69 (wd hw 262 rfl) (wd hw 263 rfl) (wd hw 264 rfl) rfl (g := (mkF m 112 #[.val (.long x0), .second, .val (.long x1), .second, .val (.long x2), .second, .val (.int x3), .val (.int k), .val (.int (1 : Int32)), .val (.int sg), .val (.long q), .second, .val (.ref b34), .val (.ref b1q37), .val (.ref b1q15q69), .unset, .unset, .unset, .unset, .unset] [])) rfl (hb hby at_112) (by decide) (by decide)
        obtain ⟨b70, hb70⟩ : ∃ z, z = T69.heap.size := ⟨_, rfl⟩
        rw [← hb70] at A70 D70 U70 st70
        refine Go.step st70 ?_
        have g_b70 : Z.heap.size ≤ b70 := Nat.le_trans O69_.1 (Nat.le_of_eq hb70.symm)
        have O70_ : Ext Z.heap h70 := extTr O69_ E70
        have F70_id : fl_35 Z h70 b70 .null := D70 (Or.inr (wd hw 276 rfl)) (ty := (.object "java/lang/String")) pf_Ljava_lang_String_
        have F70_side : fl_36 Z h70 b70 .null := D70 (Or.inr (wd hw 283 rfl)) (ty := (.object "org/matchstone/engine/Side")) pf_Lorg_matchstone_engine_Side_
        have F70_price : fl_33 Z h70 b70 (.long (0 : Int64)) := D70 (Or.inl (wd hw 285 rfl)) (ty := .long) pf_J
        have F70_limit : fl_37 Z h70 b70 (.long (0 : Int64)) := D70 (Or.inr (wd hw 292 rfl)) (ty := .long) pf_J
        have F70_peg : fl_38 Z h70 b70 .null := D70 (Or.inr (wd hw 299 rfl)) (ty := (.object "org/matchstone/engine/Peg")) pf_Lorg_matchstone_engine_Peg_
        have F70_displayed : fl_28 Z h70 b70 (.int (0 : Int32)) := D70 (Or.inr (wd hw 306 rfl)) (ty := .boolean) pf_Z
        have F70_postOnly : fl_39 Z h70 b70 (.int (0 : Int32)) := D70 (Or.inr (wd hw 313 rfl)) (ty := .boolean) pf_Z
        have F70_swap : fl_40 Z h70 b70 (.int (0 : Int32)) := D70 (Or.inr (wd hw 320 rfl)) (ty := .boolean) pf_Z
        have F70_superAggressive : fl_41 Z h70 b70 (.int (0 : Int32)) := D70 (Or.inr (wd hw 327 rfl)) (ty := .boolean) pf_Z
        have F70_immediateOrCancel : fl_42 Z h70 b70 (.int (0 : Int32)) := D70 (Or.inr (wd hw 336 rfl)) (ty := .boolean) pf_Z
        have F70_start : fl_43 Z h70 b70 .null := D70 (Or.inr (wd hw 338 rfl)) (ty := (.object "java/time/LocalTime")) pf_Ljava_time_LocalTime_
        have F70_end : fl_44 Z h70 b70 .null := D70 (Or.inr (wd hw 340 rfl)) (ty := (.object "java/time/LocalTime")) pf_Ljava_time_LocalTime_
        have F70_priority : fl_34 Z h70 b70 (.long (0 : Int64)) := D70 (Or.inl (wd hw 342 rfl)) (ty := .long) pf_J
        have F70_entered : fl_45 Z h70 b70 (.long (0 : Int64)) := D70 (Or.inr (wd hw 344 rfl)) (ty := .long) pf_J
        have F70_minQuantity : fl_29 Z h70 b70 (.long (0 : Int64)) := D70 (Or.inr (wd hw 351 rfl)) (ty := .long) pf_J
        have F70_singleOrderMinimum : fl_46 Z h70 b70 (.int (0 : Int32)) := D70 (Or.inr (wd hw 353 rfl)) (ty := .boolean) pf_Z
        have F70_open : fl_31 Z h70 b70 (.long (0 : Int64)) := D70 (Or.inl (wd hw 360 rfl)) (ty := .long) pf_J
        have F70_next : fl_30 Z h70 b70 .null := D70 (Or.inl (wd hw 396 rfl)) (ty := (.object "org/matchstone/engine/BookSide$Order")) pf_Lorg_matchstone_engine_BookSideSOrder_
        have F70_previous : fl_32 Z h70 b70 .null := D70 (Or.inl (wd hw 399 rfl)) (ty := (.object "org/matchstone/engine/BookSide$Order")) pf_Lorg_matchstone_engine_BookSideSOrder_
        refine Go.step (fun _ kt_ => XS.dup X70.here hx rfl (hb hby at_115) rfl rfl kt_) ?_
        refine Go.step (fun _ kt_ => XS.aload X70.here hx rfl (hb hby at_116) rfl rfl kt_) ?_
        refine Go.step (X70.ldc2Long hx hown69 (mvT hZ69 (wd hw 154 rfl)) (g := (mkF m 118 #[.val (.long x0), .second, .val (.long x1), .second, .val (.long x2), .second, .val (.int x3), .val (.int k), .val (.int (1 : Int32)), .val (.int sg), .val (.long q), .second, .val (.ref b34), .val (.ref b1q37), .val (.ref b1q15q69), .unset, .unset, .unset, .unset, .unset] [(.ref b1q15q69), (.ref b70), (.ref b70)])) rfl (hb hby at_118)) ?_
        refine Go.step (fun _ kt_ => XS.aconstNull X70.here hx rfl (hb hby at_121)  kt_) ?_
        refine Go.step (fun _ kt_ => XS.aconstNull X70.here hx rfl (hb hby at_122)  kt_) ?_
        refine Go.step (X70.ldc2Long hx hown69 (mvT hZ69 (wd hw 265 rfl)) (g := (mkF m 123 #[.val (.long x0), .second, .val (.long x1), .second, .val (.long x2), .second, .val (.int x3), .val (.int k), .val (.int (1 : Int32)), .val (.int sg), .val (.long q), .second, .val (.ref b34), .val (.ref b1q37), .val (.ref b1q15q69), .unset, .unset, .unset, .unset, .unset] [.null, .null, (.long (100 : Int64)), (.ref b1q15q69), (.ref b70), (.ref b70)])) rfl (hb hby at_123)) ?_
        obtain ⟨_, _, ⟨T71, L71, k71, n71⟩, -, X71, ⟨Lc71, hQ71, l71, y71, z71⟩, st71⟩ := X70.specialBack hx (y := (⟨"org/matchstone/engine/BookSide$Order", "<init>", "(Lorg/matchstone/engine/NewOrder;JLjava/time/LocalTime;Ljava/time/LocalTime;J)V"⟩ : MethodName)) rfl hown69 (mvT hZ69 (wd hw 266 rfl)) (mvT hZ69 (wd hw 267 rfl)) (mvT hZ69 (wd hw 268 rfl)) (by decide) (backOf (W := 1) (rm_a26_1 l Z a0 hw []  b70 b1q15q69 (100 : Int64) (2 : Int64) a38 bA (0 : Int64) (100 : Int64) (0 : Int64) (0 : Int32) (0 : Int32) (0 : Int32) (0 : Int32) (0 : Int32) (0 : Int32) (0 : Int32) (0 : Int32) dA iA (0 : Int32) (0 : Int64) (0 : Int64) b1q68 q (0 : Int64) (1 : Int32) (0 : Int32) x1 (0 : Int64) h70 O70_ (Exa.ext E70 p69_1) (Fld.ext E70 p69_2) A70 F70_id g_b70 (Fld.ext E70 p69_3) (Nat.ne_of_lt (Nat.lt_of_lt_of_le p69_1.lt (Nat.le_of_eq hb70.symm))) F70_side F70_price (Fld.ext E70 p69_5) F70_limit (Fld.ext E70 p69_12) F70_peg (Fld.ext E70 p69_8) F70_displayed (Fld.ext E70 p69_9) F70_postOnly (Fld.ext E70 p69_10) F70_swap (Fld.ext E70 p69_11) F70_superAggressive (Fld.ext E70 p69_6) S_I hne F70_immediateOrCancel F70_start F70_end F70_priority F70_entered (Fld.ext E70 p69_13) (Exa.ext E70 (p68_1.keep Kq69)) (Fld.ext E70 (p68_2.keep Kq69 nin0)) (Nat.ne_of_lt (Nat.lt_of_lt_of_le (p68_1.keep Kq69).lt (Nat.le_of_eq hb70.symm))) F70_minQuantity (Fld.ext E70 (p68_3.keep Kq69 nin0)) F70_singleOrderMinimum (Fld.ext E70 p69_4) F70_open F70_next F70_previous) hZ69 (wd hw 268 rfl) (wd hw 264 rfl) (by decide) (by decide)) (g := (mkF m 126 #[.val (.long x0), .second, .val (.long x1), .second, .val (.long x2), .second, .val (.int x3), .val (.int k), .val (.int (1 : Int32)), .val (.int sg), .val (.long q), .second, .val (.ref b34), .val (.ref b1q37), .val (.ref b1q15q69), .unset, .unset, .unset, .unset, .unset] [(.long (2 : Int64)), .null, .null, (.long (100 : Int64)), (.ref b1q15q69), (.ref b70), (.ref b70)])) rfl (by rw [hml]; rfl) (Steps.refl _) (a := b70) (argsL := [(.ref b1q15q69), (.long (100 : Int64)), .null, .null, (.long (2 : Int64))]) (rest := [(.ref b70)]) (lenOf pd_LLorg_matchstone_engine_NewOrder_JLjava_time_LocalTime_Ljava_time_LocalTime_JRV rfl) rfl (by show 2 * 0 + _ ≤ _; exact Nat.le_of_eq rfl) (hb hby at_126) (fun _ _ => ⟨rfl, e70, (by decide : 38 + 0 ≤ _), (by decide : 395 + 0 ≤ _)⟩)
        dsimp only [Pt.U, Pt.locs, Pt.cells, Pt.slots] at X71 l71 y71 z71 st71 hQ71
        subst y71 z71
        obtain ⟨rfl, Nq71, Kq71, p71_0, p71_1, p71_2, p71_3, p71_4, p71_5, p71_6⟩ := hQ71
        have O71_ : Ext Z.heap T71.heap := extKeep O70_ Kq71 (allS g_b70 all0)
        have N71_ : Fr Z.heap.size L71 := by rw [l71]; exact Fr.app N69_ Nq71
        refine Go.trans st71 ?_
        refine Go.step (fun _ kt_ => XS.astore X71.here hx rfl (hb hby at_129) rfl rfl (l' := #[.val (.long x0), .second, .val (.long x1), .second, .val (.long x2), .second, .val (.int x3), .val (.int k), .val (.int (1 : Int32)), .val (.int sg), .val (.long q), .second, .val (.ref b34), .val (.ref b1q37), .val (.ref b1q15q69), .val (.ref b70), .unset, .unset, .unset, .unset]) rfl kt_) ?_
        show Go _ _ _ _ _ _ _ _ T71 (mkF m 131 #[.val (.long x0), .second, .val (.long x1), .second, .val (.long x2), .second, .val (.int x3), .val (.int k), .val (.int (1 : Int32)), .val (.int sg), .val (.long q), .second, .val (.ref b34), .val (.ref b1q37), .val (.ref b1q15q69), .val (.ref b70), .unset, .unset, .unset, .unset] [])
        have f72 := ((((Exa.ext E38 p37_1).keep Kq40).keep Kq41).keep Kq68)
        have f73 := ((Exa.ext E70 (f72.keep Kq69)).keep Kq71)
        have f74 := ((((Fld.ext E38 p37_2).keep Kq40 nin0).keep Kq41 nin0).keep Kq68 nin0)
        have f75 := ((Fld.ext E70 (f74.keep Kq69 nin0)).keep Kq71 (ninS (Nat.ne_of_lt (Nat.lt_of_lt_of_le (f72.keep Kq69).lt (Nat.le_of_eq hb70.symm))) nin0))
        have f76 := ((((Fld.ext E38 p37_3).keep Kq40 nin0).keep Kq41 nin0).keep Kq68 nin0)
        have f77 := ((Fld.ext E70 (f76.keep Kq69 nin0)).keep Kq71 (ninS (Nat.ne_of_lt (Nat.lt_of_lt_of_le (f72.keep Kq69).lt (Nat.le_of_eq hb70.symm))) nin0))
        have f78 := ((((Fld.ext E38 p37_4).keep Kq40 nin0).keep Kq41 nin0).keep Kq68 nin0)
        have f79 := ((Fld.ext E70 (f78.keep Kq69 nin0)).keep Kq71 (ninS (Nat.ne_of_lt (Nat.lt_of_lt_of_le (f72.keep Kq69).lt (Nat.le_of_eq hb70.symm))) nin0))
        have f80 := ((((Fld.ext E38 p37_5).keep Kq40 nin0).keep Kq41 nin0).keep Kq68 nin0)
        have f81 := ((Fld.ext E70 (f80.keep Kq69 nin0)).keep Kq71 (ninS (Nat.ne_of_lt (Nat.lt_of_lt_of_le (f72.keep Kq69).lt (Nat.le_of_eq hb70.symm))) nin0))
        exact cont131_1 T71 _ _ _ (X71.more (by decide) (by decide)) rfl O71_ N71_ hZ69 hown69 _ S69 (Nat.le_trans (Nat.le_trans (Nat.le_refl _) E70.1) Kq71.1) (1 : Int32) b1q15q69 b70 (0 : Int32) hne (A70.keep Kq71) p71_4 g_b70 f73 f75 (Nat.ne_of_lt (Nat.lt_of_lt_of_le (f72.keep Kq69).lt (Nat.le_of_eq hb70.symm))) f77 f79 f81 p71_1 (by decide)
    refine Go.step (fun _ kt_ => XS.iload X0.here hx rfl (hb hby at_20) rfl kt_) ?_
    refine Go.step (fun _ kt_ => XS.bipush X0.here hx rfl (hb hby at_22)  kt_) ?_
    refine Go.step (fun _ kt_ => XS.iand X0.here hx rfl (hb hby at_24) rfl kt_) ?_
    by_cases hc25_82 : (x3 &&& (8 : Int32)) = (0 : Int32)
    · refine Go.step (fun _ kt_ => XS.ifYes X0.here hx rfl (pc0 := 25) (pc' := 32) rfl (hb hby at_25) rfl ((if0 _ _).trans (teq hc25_82).1) (by decide) (by decide) kt_) ?_
      refine Go.step (fun _ kt_ => XS.iconst X0.here hx rfl (hb hby at_32)  kt_) ?_
      refine Go.step (fun _ kt_ => XS.istore X0.here hx rfl (hb hby at_33) rfl (l' := #[.val (.long x0), .second, .val (.long x1), .second, .val (.long x2), .second, .val (.int x3), .val (.int k), .val (.int (1 : Int32)), .val (.int (0 : Int32)), .unset, .unset, .unset, .unset, .unset, .unset, .unset, .unset, .unset, .unset]) rfl kt_) ?_
      exact cut35 s₁ _ _ X0 e0 N0 hZ hown _ S0 kk0 (0 : Int32) 
    · refine Go.step (fun _ kt_ => XS.ifNo X0.here hx rfl (hb hby at_25) rfl ((if0 _ _).trans (feq hc25_82).1) kt_) ?_
      refine Go.step (fun _ kt_ => XS.iconst X0.here hx rfl (hb hby at_28)  kt_) ?_
      refine Go.step (fun _ kt_ => XS.goto X0.here hx rfl (pc0 := 29) (pc' := 33) rfl (hb hby at_29) (by decide) (by decide) kt_) ?_
      refine Go.step (fun _ kt_ => XS.istore X0.here hx rfl (hb hby at_33) rfl (l' := #[.val (.long x0), .second, .val (.long x1), .second, .val (.long x2), .second, .val (.int x3), .val (.int k), .val (.int (1 : Int32)), .val (.int (1 : Int32)), .unset, .unset, .unset, .unset, .unset, .unset, .unset, .unset, .unset, .unset]) rfl kt_) ?_
      exact cut35 s₁ _ _ X0 e0 N0 hZ hown _ S0 kk0 (1 : Int32) 
set_option maxRecDepth 65536 in
set_option maxHeartbeats 40000000 in
theorem comes_1 {Post : Tables → Env → Array Value → State → Outcome → State → Prop} (hpost : ∀ tb e args s v u, (limb_1_1.after args s (.returned v) u = true ∧ limb_1_2.after args s (.returned v) u = true ∧ True) → ReturnedEndW s (.returned v) u (Jvm.fieldLocs frame_1_writes args s ++ Jvm.arrayLocs frame_1_arrays args s ++ Jvm.staticLocs frame_1_statics s) 72 5696 → Post tb e args s (.returned v) u) :
    ArmFor flags0 classFile x code maxLocals ret World_1 tables_1 room_1 Calls_1 rest_1 Pre_1 Post := by
  intro l hfl _ _ p e ha hc hk s m args below hf hA hF happ hP
  obtain ⟨hcalls, hrest, hpre⟩ := hP
  obtain ⟨-, -, -, hnamed, -, -, -, hat⟩ := (Spec.applies_iff hf).mp happ
  obtain ⟨hg, hn⟩ := and_e (Cond.before_iff.mp (show (Jvm.Cond.and given_1 narrow_1).before args s = true from hpre))
  obtain ⟨hcount, gr0⟩ := and_e hg
  obtain ⟨ga0, gr1⟩ := and_e gr0
  obtain ⟨ga1, gr2⟩ := and_e gr1
  obtain ⟨ga2, gr3⟩ := and_e gr2
  have ga3 := gr3
  obtain ⟨w0, w1, w2, w3, rfl⟩ : ∃ w0 w1 w2 w3 : Value, args = #[w0, w1, w2, w3] := by
    have hs : args.size = 4 := by simpa [Cond.value, given_1] using hcount
    obtain ⟨L⟩ := args
    match L, hs with
    | [w0, w1, w2, w3], _ => exact ⟨w0, w1, w2, w3, rfl⟩
  have hw := fun d (hd : d ∈ tables_1) => atoms_spec (ws := Jvm.Cond.code x code maxLocals ret :: tables_1) hat d (List.mem_cons_of_mem _ hd)
  have hfit : Fit s := fun {y c} hc i hi => by
    obtain ⟨ha, rfl⟩ := Array.getElem?_eq_some_iff.mp hc
    have q := List.all_eq_true.mp ((Array.all_eq_true_iff_forall_mem.mp hF) _ (Array.getElem_mem ha)) i (List.mem_range.mpr hi)
    simpa [Array.getElem?_eq_getElem hi] using q
  obtain ⟨hsets, hown0⟩ := atoms_of _ (rest_1_c_eq ▸ (show rest_1_c.before _ s = true from hrest))
  have hr0 := Cond.before_iff.mp hown0
  obtain ⟨i0, ei0⟩ := isL_v ga0
  obtain rfl : w0 = (.long i0) := Option.some.inj ei0
  obtain ⟨i1, ei1⟩ := isL_v ga1
  obtain rfl : w1 = (.long i1) := Option.some.inj ei1
  obtain ⟨i2, ei2⟩ := isL_v ga2
  obtain rfl : w2 = (.long i2) := Option.some.inj ei2
  obtain ⟨i3, ei3⟩ := is_v ga3
  obtain rfl : w3 = (.int i3) := Option.some.inj ei3
  obtain ⟨nw0, nr0⟩ := and_e hn
  obtain ⟨nw1, nr1⟩ := and_e nr0
  obtain ⟨nw2, nr2⟩ := and_e nr1
  obtain ⟨nw3, nr3⟩ := and_e nr2
  have nw4 := nr3
  obtain ⟨a_0, ev_0⟩ := exa_v nw0
  have S_0 : Sta s s.heap "org/matchstone/engine/Side" "BUY" "Lorg/matchstone/engine/Side;" (.ref a_0) := Sta.start ev_0 (Or.inr ⟨(wd hw 5 rfl), (wd hw 6 rfl)⟩)
  have X_0 : Exa s s.heap a_0 "org/matchstone/engine/Side" := Exa.start ev_0 nw0
  obtain ⟨a_1, ev_1⟩ := exa_v nw1
  have S_1 : Sta s s.heap "org/matchstone/engine/TimeInForce" "DAY" "Lorg/matchstone/engine/TimeInForce;" (.ref a_1) := Sta.start ev_1 (Or.inr ⟨(wd hw 167 rfl), (wd hw 168 rfl)⟩)
  have X_1 : Exa s s.heap a_1 "org/matchstone/engine/TimeInForce" := Exa.start ev_1 nw1
  obtain ⟨a_2, ev_2⟩ := exa_v nw2
  have S_2 : Sta s s.heap "org/matchstone/engine/TimeInForce" "IOC" "Lorg/matchstone/engine/TimeInForce;" (.ref a_2) := Sta.start ev_2 (Or.inr ⟨(wd hw 167 rfl), (wd hw 334 rfl)⟩)
  have X_2 : Exa s s.heap a_2 "org/matchstone/engine/TimeInForce" := Exa.start ev_2 nw2
  have F_3 : Fld s s.heap a_1 "java/lang/Enum" "ordinal" "I" (.int (0 : Int32)) := fldStart ev_1 nw3
  have F_4 : Fld s s.heap a_2 "java/lang/Enum" "ordinal" "I" (.int (6 : Int32)) := fldStart ev_2 nw4
  obtain ⟨rA, evr⟩ := exa_v (Cond.before_iff.mp (hsets _ (List.mem_of_getElem? (i := 2) rfl)))
  have S_RO : Sta s s.heap "java/util/Collections$ReverseComparator" "REVERSE_ORDER" "Ljava/util/Collections$ReverseComparator;" (.ref rA) := Sta.start evr (Or.inl (hsets _ (List.mem_of_getElem? (i := 1) rfl)))
  obtain ⟨n, o, h1, h2, h3, _, L, rfl, ⟨rfl, N, -⟩, hq⟩ := rm_0 l s _ hw tables_1 i0 i1 i2 i3 a_0 a_1 a_2 rA s.heap (extRfl _) S_0 S_1 S_2 X_0 X_1 X_2 (Fld.ne F_3 F_4 (by decide)) S_RO p e ha hc hk s m _ below hf ((Spec.applies_iff_loose hf).mp happ).1 ⟨rfl, State.Warmed39.refl s, rfl⟩ trivial
  refine ⟨n, _, h1, h2, h3, hpost _ _ _ _ _ _ ⟨Cond.after_iff.mpr rfl, Cond.after_iff.mpr (eq_i res_at (Term.int_eval (1)) rfl), trivial⟩ ⟨hq.1, hq.2.1, hq.2.2.1, (hq.2.2.2.sift fun y hy => Or.inr (N y hy)).mono (by decide) (by decide)⟩⟩
theorem main_1_1 : Claimed_1_1 := comes_1 fun _ _ _ _ _ _ h hF => ⟨h.1, hF⟩
theorem main_1_2 : Claimed_1_2 := comes_1 fun _ _ _ _ _ _ h hF => ⟨h.2.1, hF⟩
end Jvm.Pilot.@@N@@
namespace Jvm.Pilot.@@N@@
open Jvm Jvm.ClassFile Sem Op Lib Jvm.Free Jvm.Stand Jvm.Pilot.@@N@@.Jvm.D
/-! MADE BY PROGRAM (witnessworld.py) out of the Statement's table words and the real class files: 49 classes; the members and pool entries that the words name. The judged class is class 1, her method 1. -/
namespace start1
open Jvm.ClassFile
def u (s : String) : CpInfo := .utf8 (stringToUtf16 s)
/-- a pool by its gaps: so many unusable entries, then the entry; so many at the end -/
def gap : Nat → List CpInfo → List CpInfo
  | 0, r => r
  | n + 1, r => .unusable :: gap n r
def poolList (es : List (Nat × CpInfo)) (last : Nat) : List CpInfo := es.foldr (fun e r => gap e.1 (e.2 :: r)) (gap last [])
def pool (es : List (Nat × CpInfo)) (last : Nat) : Array CpInfo := ⟨poolList es last⟩
def fileOf (pool : Array CpInfo) (this : Nat) (attrs : Array Attribute := #[]) (ms : Array MethodInfo := #[]) (fl : Nat := 33) (sup : Nat := 0) (ifs : Array Nat := #[]) (fds : Array FieldInfo := #[]) : ClassFile where
  minorVersion := 0
  majorVersion := 65
  constantPool := pool
  accessFlags := fl
  thisClass := this
  superClass := sup
  interfaces := ifs
  fields := fds
  methods := ms
  attributes := attrs
def plain (name : String) (sup : Option ClassId) : Class where
  name := name
  kind := .ordinary
  loader := none
  accessFlags := 33
  super := sup
  interfaces := #[]
  cf := none
  fields := #[]
  methods := #[]
  instanceTypes := #[]
  staticTypes := #[]
  resolved := #[]
  callSites := []
  init := .initialized
  statics := none
  mirror := none

def pool0 : Array CpInfo := pool [(5, u "<init>"), (0, u "()V"), (1, .class_ 10), (1, u "java/lang/Object")] 113

def k0c0 : Code := { maxStack := 0, maxLocals := 1, code := object_method_1_code, exceptionTable := #[], attributes := #[] }
def k0m0 : Method := { name := "<init>", desc := "()V", sig := { parameters := [], returnType := none }, accessFlags := 1, code := some k0c0 }
/-- java/lang/Object -/
def k0 : Class := { plain "java/lang/Object" none with
  accessFlags := 33
  interfaces := #[]
  cf := some (fileOf pool0 8 #[] #[{ accessFlags := 1, nameIndex := 5, descriptorIndex := 6, attributes := #[] }] 33 0 #[] #[])
  fields := #[]
  methods := #[k0m0]
  instanceTypes := #[]
  staticTypes := #[]
  resolved := Array.replicate 124 none
  statics := none }

def pool1 : Array CpInfo := pool [(2, .class_ 4), (1, u "java/lang/Object"), (0, u "<init>"), (0, u "()V"), (0, .long 4611686018427387903), (1, .class_ 10), (0, u "org/matchstone/engine/BookSide"), (0, .fieldref 12 13), (0, .class_ 14), (0, .nameAndType 15 16), (0, u "org/matchstone/engine/Side"), (0, u "BUY"), (0, u "Lorg/matchstone/engine/Side;"), (0, .methodref 9 18), (0, .nameAndType 5 19), (0, u "(Lorg/matchstone/engine/Side;)V"), (0, .methodref 9 21), (0, .nameAndType 22 23), (0, u "walk"), (0, u "()Lorg/matchstone/engine/BookSide$Walk;"), (0, .string 25), (0, u "n"), (0, .long 100), (1, .methodref 29 30), (0, .class_ 31), (0, .nameAndType 32 33), (0, u "org/matchstone/engine/NewOrder"), (0, u "limit"), (0, u "(Ljava/lang/String;Lorg/matchstone/engine/Side;JJ)Lorg/matchstone/engine/NewOrder;"), (0, .methodref 29 35), (0, .nameAndType 36 37), (0, u "withDisplayed"), (0, u "(Z)Lorg/matchstone/engine/NewOrder;"), (0, .methodref 39 40), (0, .class_ 41), (0, .nameAndType 42 43), (0, u "org/matchstone/engine/MinQuantity"), (0, u "single"), (0, u "(J)Lorg/matchstone/engine/MinQuantity;"), (0, .methodref 39 45), (0, .nameAndType 46 43), (0, u "aggregated"), (0, .methodref 29 48), (0, .nameAndType 49 50), (0, u "withMinQuantity"), (0, u "(Lorg/matchstone/engine/MinQuantity;)Lorg/matchstone/engine/NewOrder;"), (0, .class_ 52), (0, u "org/matchstone/engine/BookSide$Order"), (0, .long 2), (1, .methodref 51 56), (0, .nameAndType 5 57), (0, u "(Lorg/matchstone/engine/NewOrder;JLjava/time/LocalTime;Ljava/time/LocalTime;J)V"), (0, .string 59), (0, u "h"), (0, .fieldref 51 61), (0, .nameAndType 62 63), (0, u "next"), (0, u "Lorg/matchstone/engine/BookSide$Order;"), (0, .fieldref 51 65), (0, .nameAndType 66 63), (0, u "previous"), (0, .methodref 68 69), (0, .class_ 70), (0, .nameAndType 71 72), (0, u "org/matchstone/engine/BookSide$Walk"), (0, u "step"), (0, u "(Lorg/matchstone/engine/BookSide$Order;)V"), (0, .methodref 68 74), (0, .nameAndType 75 76), (0, u "nextBehind"), (0, u "(J)Lorg/matchstone/engine/BookSide$Order;"), (0, .class_ 78), (0, u "org/matchstone/engine/WalkNextBehindPinLaw"), (2, u "law"), (0, u "(JJJI)Z")] 6

def k1m0 : Method := { name := "<init>", desc := "()V", sig := { parameters := [], returnType := none }, accessFlags := 1, code := none }
def k1c1 : Code := { maxStack := 9, maxLocals := 20, code := code, exceptionTable := #[], attributes := #[] }
def k1m1 : Method := { name := "law", desc := "(JJJI)Z", sig := { parameters := [.long, .long, .long, .int], returnType := some .boolean }, accessFlags := 9, code := some k1c1 }
/-- org/matchstone/engine/WalkNextBehindPinLaw -/
def k1 : Class := { plain "org/matchstone/engine/WalkNextBehindPinLaw" (some 0) with
  accessFlags := 49
  interfaces := #[]
  cf := some (fileOf pool1 77 #[] #[{ accessFlags := 1, nameIndex := 5, descriptorIndex := 6, attributes := #[] }, { accessFlags := 9, nameIndex := 81, descriptorIndex := 82, attributes := #[] }] 49 2 #[] #[])
  fields := #[]
  methods := #[k1m0, k1m1]
  instanceTypes := #[]
  staticTypes := #[]
  resolved := Array.replicate 89 none
  statics := none }

def pool2 : Array CpInfo := pool [(1, .methodref 2 3), (0, .class_ 4), (0, .nameAndType 5 6), (0, u "java/lang/Object"), (0, u "<init>"), (0, u "()V"), (0, .fieldref 8 9), (0, .class_ 10), (0, .nameAndType 11 12), (0, u "org/matchstone/engine/BookSide"), (0, u "side"), (0, u "Lorg/matchstone/engine/Side;"), (0, .class_ 14), (0, u "org/matchstone/engine/Ladder"), (0, .methodref 13 16), (0, .nameAndType 5 17), (0, u "(Lorg/matchstone/engine/Side;)V"), (0, .fieldref 8 19), (0, .nameAndType 20 21), (0, u "levels"), (0, u "Lorg/matchstone/engine/Ladder;"), (0, .class_ 23), (0, u "org/matchstone/engine/MinimumIndex"), (0, .methodref 22 16), (0, .fieldref 8 26), (0, .nameAndType 27 28), (0, u "hiddenOrders"), (0, u "Lorg/matchstone/engine/MinimumIndex;"), (0, .class_ 30), (0, u "org/matchstone/engine/BookSide$Walk"), (0, .methodref 29 32), (0, .nameAndType 5 33), (0, u "(Lorg/matchstone/engine/BookSide;)V"), (1, .class_ 37), (1, u "org/matchstone/engine/BookSide$Order"), (35, .class_ 75), (1, u "org/matchstone/engine/BookSide$Place"), (22, .class_ 99), (0, u "org/matchstone/engine/BookSide$UnheldSearch"), (182, u "walk"), (0, u "()Lorg/matchstone/engine/BookSide$Walk;"), (25, .class_ 310), (0, u "org/matchstone/engine/BookSide$Stretch")] 34

def k2c0 : Code := { maxStack := 4, maxLocals := 2, code := prog_6_method_1_code, exceptionTable := #[], attributes := #[] }
def k2m0 : Method := { name := "<init>", desc := "(Lorg/matchstone/engine/Side;)V", sig := { parameters := [(.object "org/matchstone/engine/Side")], returnType := none }, accessFlags := 0, code := some k2c0 }
def k2c1 : Code := { maxStack := 3, maxLocals := 1, code := prog_6_method_2_code, exceptionTable := #[], attributes := #[] }
def k2m1 : Method := { name := "walk", desc := "()Lorg/matchstone/engine/BookSide$Walk;", sig := { parameters := [], returnType := some (.object "org/matchstone/engine/BookSide$Walk") }, accessFlags := 0, code := some k2c1 }
/-- org/matchstone/engine/BookSide -/
def k2 : Class := { plain "org/matchstone/engine/BookSide" (some 0) with
  accessFlags := 48
  interfaces := #[]
  cf := some (fileOf pool2 8 #[.nestMembers #[98, 309, 29, 73, 35]] #[{ accessFlags := 0, nameIndex := 5, descriptorIndex := 17, attributes := #[] }, { accessFlags := 0, nameIndex := 282, descriptorIndex := 283, attributes := #[] }] 48 2 #[] #[{ accessFlags := 18, nameIndex := 20, descriptorIndex := 21, attributes := #[] }, { accessFlags := 18, nameIndex := 27, descriptorIndex := 28, attributes := #[] }, { accessFlags := 18, nameIndex := 11, descriptorIndex := 12, attributes := #[] }])
  fields := #[{ name := "levels", type := (.object "org/matchstone/engine/Ladder"), accessFlags := 18, slot := 0, constantValue := 0 }, { name := "hiddenOrders", type := (.object "org/matchstone/engine/MinimumIndex"), accessFlags := 18, slot := 1, constantValue := 0 }, { name := "side", type := (.object "org/matchstone/engine/Side"), accessFlags := 18, slot := 2, constantValue := 0 }]
  methods := #[k2m0, k2m1]
  instanceTypes := #[(.object "org/matchstone/engine/Ladder"), (.object "org/matchstone/engine/MinimumIndex"), (.object "org/matchstone/engine/Side")]
  staticTypes := #[]
  resolved := Array.replicate 345 none
  statics := none }

def pool3 : Array CpInfo := pool [(1, .class_ 2), (0, u "java/lang/constant/Constable"), (0, .class_ 4), (0, u "java/lang/Object")] 6

/-- java/lang/constant/Constable -/
def k3 : Class := { plain "java/lang/constant/Constable" (some 0) with
  accessFlags := 1537
  interfaces := #[]
  cf := some (fileOf pool3 1 #[] #[] 1537 3 #[] #[])
  fields := #[]
  methods := #[]
  instanceTypes := #[]
  staticTypes := #[]
  resolved := Array.replicate 11 none
  statics := none }

def pool4 : Array CpInfo := pool [(1, .class_ 2), (0, u "java/lang/Comparable"), (0, .class_ 4), (0, u "java/lang/Object")] 7

/-- java/lang/Comparable -/
def k4 : Class := { plain "java/lang/Comparable" (some 0) with
  accessFlags := 1537
  interfaces := #[]
  cf := some (fileOf pool4 1 #[] #[] 1537 3 #[] #[])
  fields := #[]
  methods := #[]
  instanceTypes := #[]
  staticTypes := #[]
  resolved := Array.replicate 12 none
  statics := none }

def pool5 : Array CpInfo := pool [(1, .class_ 2), (0, u "java/io/Serializable"), (0, .class_ 4), (0, u "java/lang/Object")] 2

/-- java/io/Serializable -/
def k5 : Class := { plain "java/io/Serializable" (some 0) with
  accessFlags := 1537
  interfaces := #[]
  cf := some (fileOf pool5 1 #[] #[] 1537 3 #[] #[])
  fields := #[]
  methods := #[]
  instanceTypes := #[]
  staticTypes := #[]
  resolved := Array.replicate 7 none
  statics := none }

def pool6 : Array CpInfo := pool [(2, .class_ 4), (1, u "java/lang/Enum"), (0, u "name"), (0, u "Ljava/lang/String;"), (2, u "ordinal"), (0, u "I"), (1, .class_ 14), (1, u "java/lang/Object"), (4, u "hash"), (86, .class_ 108), (1, u "java/lang/Enum$EnumDesc"), (2, .class_ 112), (0, u "java/lang/constant/Constable"), (0, .class_ 114), (0, u "java/lang/Comparable"), (0, .class_ 116), (0, u "java/io/Serializable")] 87

/-- java/lang/Enum -/
def k6 : Class := { plain "java/lang/Enum" (some 0) with
  accessFlags := 1057
  interfaces := #[3, 4, 5]
  cf := some (fileOf pool6 2 #[.nestMembers #[106]] #[] 1057 12 #[111, 113, 115] #[{ accessFlags := 18, nameIndex := 5, descriptorIndex := 6, attributes := #[] }, { accessFlags := 18, nameIndex := 9, descriptorIndex := 10, attributes := #[] }, { accessFlags := 2, nameIndex := 19, descriptorIndex := 10, attributes := #[] }])
  fields := #[{ name := "name", type := (.object "java/lang/String"), accessFlags := 18, slot := 0, constantValue := 0 }, { name := "ordinal", type := .int, accessFlags := 18, slot := 1, constantValue := 0 }, { name := "hash", type := .int, accessFlags := 2, slot := 2, constantValue := 0 }]
  methods := #[]
  instanceTypes := #[(.object "java/lang/String"), .int, .int]
  staticTypes := #[]
  resolved := Array.replicate 204 none
  statics := none }

def pool7 : Array CpInfo := pool [(1, .class_ 2), (0, u "org/matchstone/engine/Side"), (2, u "BUY"), (0, u "Lorg/matchstone/engine/Side;"), (2, u "SELL"), (2, u "$VALUES"), (0, u "[Lorg/matchstone/engine/Side;"), (6, .class_ 22), (1, u "java/lang/Enum"), (8, u "code"), (0, u "Ljava/lang/String;")] 31

/-- org/matchstone/engine/Side -/
def k7 : Class := { plain "org/matchstone/engine/Side" (some 6) with
  accessFlags := 16433
  interfaces := #[]
  cf := some (fileOf pool7 1 #[] #[] 16433 20 #[] #[{ accessFlags := 16409, nameIndex := 5, descriptorIndex := 6, attributes := #[] }, { accessFlags := 16409, nameIndex := 9, descriptorIndex := 6, attributes := #[] }, { accessFlags := 18, nameIndex := 31, descriptorIndex := 32, attributes := #[] }, { accessFlags := 4122, nameIndex := 12, descriptorIndex := 13, attributes := #[] }])
  fields := #[{ name := "BUY", type := (.object "org/matchstone/engine/Side"), accessFlags := 16409, slot := 0, constantValue := 0 }, { name := "SELL", type := (.object "org/matchstone/engine/Side"), accessFlags := 16409, slot := 1, constantValue := 0 }, { name := "code", type := (.object "java/lang/String"), accessFlags := 18, slot := 3, constantValue := 0 }, { name := "$VALUES", type := (.array (.object "org/matchstone/engine/Side")), accessFlags := 4122, slot := 2, constantValue := 0 }]
  methods := #[]
  instanceTypes := #[(.object "java/lang/String"), .int, .int, (.object "java/lang/String")]
  staticTypes := #[(.object "org/matchstone/engine/Side"), (.object "org/matchstone/engine/Side"), (.array (.object "org/matchstone/engine/Side"))]
  resolved := Array.replicate 64 none
  statics := some 0 }

def pool8 : Array CpInfo := pool [(1, .class_ 2), (0, u "org/matchstone/engine/Ladder"), (0, .methodref 4 5), (0, .class_ 6), (0, .nameAndType 7 8), (0, u "java/lang/Object"), (0, u "<init>"), (0, u "()V"), (0, .fieldref 1 10), (0, .nameAndType 11 12), (0, u "bestDisplayedKnown"), (0, u "Z"), (0, .fieldref 1 14), (0, .nameAndType 15 16), (0, u "side"), (0, u "Lorg/matchstone/engine/Side;"), (0, .fieldref 18 19), (0, .class_ 20), (0, .nameAndType 21 16), (0, u "org/matchstone/engine/Side"), (0, u "BUY"), (0, .interfaceMethodref 23 24), (0, .class_ 25), (0, .nameAndType 26 27), (0, u "java/util/Comparator"), (0, u "reverseOrder"), (0, u "()Ljava/util/Comparator;"), (3, .class_ 32), (0, u "java/util/TreeMap"), (0, .methodref 31 34), (0, .nameAndType 7 35), (0, u "(Ljava/util/Comparator;)V"), (0, .fieldref 1 37), (0, .nameAndType 38 39), (0, u "deep"), (0, u "Ljava/util/TreeMap;"), (0, .class_ 41), (0, u "java/util/TreeSet"), (0, .methodref 40 34), (0, .fieldref 1 44), (0, .nameAndType 45 46), (0, u "deepDisplayed"), (0, u "Ljava/util/TreeSet;"), (2, u "best"), (0, u "Lorg/matchstone/engine/Level;"), (12, u "nearWorst"), (33, u "nearCount"), (0, u "I"), (24, u "bestDisplayed"), (23, u "NEAR_MAX"), (2, u "NEAR_MIN"), (1, u "REFILL_TO"), (4, u "(Lorg/matchstone/engine/Side;)V")] 14

def k8c0 : Code := { maxStack := 4, maxLocals := 3, code := prog_14_method_1_code, exceptionTable := #[], attributes := #[] }
def k8m0 : Method := { name := "<init>", desc := "(Lorg/matchstone/engine/Side;)V", sig := { parameters := [(.object "org/matchstone/engine/Side")], returnType := none }, accessFlags := 0, code := some k8c0 }
/-- org/matchstone/engine/Ladder -/
def k8 : Class := { plain "org/matchstone/engine/Ladder" (some 0) with
  accessFlags := 48
  interfaces := #[]
  cf := some (fileOf pool8 1 #[] #[{ accessFlags := 0, nameIndex := 7, descriptorIndex := 157, attributes := #[] }] 48 4 #[] #[{ accessFlags := 24, nameIndex := 147, descriptorIndex := 98, attributes := #[] }, { accessFlags := 26, nameIndex := 150, descriptorIndex := 98, attributes := #[] }, { accessFlags := 26, nameIndex := 152, descriptorIndex := 98, attributes := #[] }, { accessFlags := 18, nameIndex := 15, descriptorIndex := 16, attributes := #[] }, { accessFlags := 2, nameIndex := 49, descriptorIndex := 50, attributes := #[] }, { accessFlags := 2, nameIndex := 63, descriptorIndex := 50, attributes := #[] }, { accessFlags := 2, nameIndex := 97, descriptorIndex := 98, attributes := #[] }, { accessFlags := 18, nameIndex := 38, descriptorIndex := 39, attributes := #[] }, { accessFlags := 18, nameIndex := 45, descriptorIndex := 46, attributes := #[] }, { accessFlags := 2, nameIndex := 123, descriptorIndex := 50, attributes := #[] }, { accessFlags := 2, nameIndex := 11, descriptorIndex := 12, attributes := #[] }])
  fields := #[{ name := "NEAR_MAX", type := .int, accessFlags := 24, slot := 0, constantValue := 0 }, { name := "NEAR_MIN", type := .int, accessFlags := 26, slot := 1, constantValue := 0 }, { name := "REFILL_TO", type := .int, accessFlags := 26, slot := 2, constantValue := 0 }, { name := "side", type := (.object "org/matchstone/engine/Side"), accessFlags := 18, slot := 0, constantValue := 0 }, { name := "best", type := (.object "org/matchstone/engine/Level"), accessFlags := 2, slot := 1, constantValue := 0 }, { name := "nearWorst", type := (.object "org/matchstone/engine/Level"), accessFlags := 2, slot := 2, constantValue := 0 }, { name := "nearCount", type := .int, accessFlags := 2, slot := 3, constantValue := 0 }, { name := "deep", type := (.object "java/util/TreeMap"), accessFlags := 18, slot := 4, constantValue := 0 }, { name := "deepDisplayed", type := (.object "java/util/TreeSet"), accessFlags := 18, slot := 5, constantValue := 0 }, { name := "bestDisplayed", type := (.object "org/matchstone/engine/Level"), accessFlags := 2, slot := 6, constantValue := 0 }, { name := "bestDisplayedKnown", type := .boolean, accessFlags := 2, slot := 7, constantValue := 0 }]
  methods := #[k8m0]
  instanceTypes := #[(.object "org/matchstone/engine/Side"), (.object "org/matchstone/engine/Level"), (.object "org/matchstone/engine/Level"), .int, (.object "java/util/TreeMap"), (.object "java/util/TreeSet"), (.object "org/matchstone/engine/Level"), .boolean]
  staticTypes := #[.int, .int, .int]
  resolved := Array.replicate 172 none
  statics := none }

def pool9 : Array CpInfo := pool [(2, .class_ 4), (1, u "java/util/Collections"), (0, u "reverseOrder"), (13, .class_ 20), (0, u "java/util/Comparator"), (22, .methodref 2 44), (0, .nameAndType 5 45), (0, u "()Ljava/util/Comparator;"), (59, .class_ 106), (0, u "java/lang/Object")] 181

def k9c0 : Code := { maxStack := 1, maxLocals := 0, code := jdk_2515_method_10_code, exceptionTable := #[], attributes := #[] }
def k9m0 : Method := { name := "reverseOrder", desc := "()Ljava/util/Comparator;", sig := { parameters := [], returnType := some (.object "java/util/Comparator") }, accessFlags := 9, code := some k9c0 }
/-- java/util/Comparator -/
def k9 : Class := { plain "java/util/Comparator" (some 0) with
  accessFlags := 1537
  interfaces := #[]
  cf := some (fileOf pool9 19 #[] #[{ accessFlags := 9, nameIndex := 5, descriptorIndex := 45, attributes := #[] }] 1537 105 #[] #[])
  fields := #[]
  methods := #[k9m0]
  instanceTypes := #[]
  staticTypes := #[]
  resolved := Array.replicate 288 none
  statics := none }

def pool10 : Array CpInfo := pool [(2, .class_ 4), (1, u "java/lang/Object"), (0, u "<init>"), (0, u "()V"), (12, .class_ 20), (0, u "java/util/Collections"), (63, u "r"), (0, u "Ljava/util/Random;"), (80, .class_ 167), (0, u "java/util/Collections$UnmodifiableCollection"), (6, .class_ 175), (0, u "java/util/Collections$UnmodifiableSequencedCollection"), (6, .class_ 183), (0, u "java/util/Collections$UnmodifiableSet"), (6, .class_ 191), (0, u "java/util/Collections$UnmodifiableSequencedSet"), (6, .class_ 199), (0, u "java/util/Collections$UnmodifiableSortedSet"), (6, .class_ 207), (0, u "java/util/Collections$UnmodifiableNavigableSet"), (4, .class_ 213), (0, u "java/util/Collections$UnmodifiableList"), (1, .class_ 216), (0, u "java/util/Collections$UnmodifiableRandomAccessList"), (6, .class_ 224), (0, u "java/util/Collections$UnmodifiableMap"), (6, .class_ 232), (0, u "java/util/Collections$UnmodifiableSequencedMap"), (4, .class_ 238), (0, u "java/util/Collections$UnmodifiableSortedMap"), (6, .class_ 246), (0, u "java/util/Collections$UnmodifiableNavigableMap"), (3, .class_ 251), (0, u "java/util/Collections$SynchronizedCollection"), (4, .class_ 257), (0, u "java/util/Collections$SynchronizedSet"), (4, .class_ 263), (0, u "java/util/Collections$SynchronizedSortedSet"), (1, .class_ 266), (0, u "java/util/Collections$SynchronizedNavigableSet"), (1, .class_ 269), (0, u "java/util/Collections$SynchronizedRandomAccessList"), (1, .class_ 272), (0, u "java/util/Collections$SynchronizedList"), (5, .class_ 279), (0, u "java/util/Collections$SynchronizedMap"), (1, .class_ 282), (0, u "java/util/Collections$SynchronizedSortedMap"), (1, .class_ 285), (0, u "java/util/Collections$SynchronizedNavigableMap"), (1, .class_ 288), (0, u "java/util/Collections$CheckedCollection"), (11, .class_ 301), (0, u "java/util/Collections$CheckedQueue"), (3, .class_ 306), (0, u "java/util/Collections$CheckedSet"), (3, .class_ 311), (0, u "java/util/Collections$CheckedSortedSet"), (3, .class_ 316), (0, u "java/util/Collections$CheckedNavigableSet"), (3, .class_ 321), (0, u "java/util/Collections$CheckedRandomAccessList"), (3, .class_ 326), (0, u "java/util/Collections$CheckedList"), (1, .class_ 329), (0, u "java/util/Collections$CheckedMap"), (3, .class_ 334), (0, u "java/util/Collections$CheckedSortedMap"), (3, .class_ 339), (0, u "java/util/Collections$CheckedNavigableMap"), (4, .class_ 346), (1, u "java/util/Collections$EmptyIterator"), (3, .class_ 352), (1, u "java/util/Collections$EmptyListIterator"), (2, .class_ 357), (1, u "java/util/Collections$EmptyEnumeration"), (4, u "EMPTY_SET"), (0, u "Ljava/util/Set;"), (6, u "EMPTY_LIST"), (0, u "Ljava/util/List;"), (2, u "EMPTY_MAP"), (0, u "Ljava/util/Map;"), (4, .class_ 381), (0, u "java/util/Collections$SingletonSet"), (2, .class_ 385), (0, u "java/util/Collections$1"), (1, .class_ 388), (0, u "java/util/Collections$2"), (1, .class_ 391), (0, u "java/util/Collections$SingletonList"), (1, .class_ 394), (0, u "java/util/Collections$SingletonMap"), (22, .class_ 418), (0, u "java/util/Collections$CopiesList"), (3, .fieldref 423 424), (0, .class_ 425), (0, .nameAndType 426 427), (0, u "java/util/Collections$ReverseComparator"), (0, u "REVERSE_ORDER"), (0, u "Ljava/util/Collections$ReverseComparator;"), (6, .class_ 435), (0, u "java/util/Collections$ReverseComparator2"), (6, .class_ 443), (0, u "java/util/Collections$3"), (25, .class_ 470), (0, u "java/util/Collections$SetFromMap"), (2, .class_ 474), (0, u "java/util/Collections$SequencedSetFromMap"), (3, .class_ 479), (0, u "java/util/Collections$AsLIFOQueue"), (11, .class_ 492), (0, u "java/util/Collections$EmptySet"), (1, .class_ 495), (0, u "java/util/Collections$EmptyList"), (1, .class_ 498), (0, u "java/util/Collections$EmptyMap"), (1, u "BINARYSEARCH_THRESHOLD"), (0, u "I"), (2, u "REVERSE_THRESHOLD"), (1, u "SHUFFLE_THRESHOLD"), (1, u "FILL_THRESHOLD"), (1, u "ROTATE_THRESHOLD"), (1, u "COPY_THRESHOLD"), (1, u "REPLACEALL_THRESHOLD"), (1, u "INDEXOFSUBLIST_THRESHOLD"), (277, u "reverseOrder"), (0, u "()Ljava/util/Comparator;"), (54, .class_ 851), (0, u "java/util/Collections$CheckedMap$CheckedEntrySet"), (0, .class_ 853), (0, u "java/util/Collections$CheckedMap$CheckedEntrySet$CheckedEntry"), (0, .class_ 855), (0, u "java/util/Collections$CheckedMap$CheckedEntrySet$1"), (0, .class_ 857), (0, u "java/util/Collections$CheckedList$1"), (0, .class_ 859), (0, u "java/util/Collections$CheckedCollection$1"), (0, .class_ 861), (0, u "java/util/Collections$UnmodifiableNavigableMap$EmptyNavigableMap"), (0, .class_ 863), (0, u "java/util/Collections$UnmodifiableMap$UnmodifiableEntrySet"), (0, .class_ 865), (0, u "java/util/Collections$UnmodifiableMap$UnmodifiableEntrySet$UnmodifiableEntry"), (0, .class_ 867), (0, u "java/util/Collections$UnmodifiableMap$UnmodifiableEntrySet$UnmodifiableEntrySetSpliterator"), (0, .class_ 869), (0, u "java/util/Collections$UnmodifiableMap$UnmodifiableEntrySet$1"), (0, .class_ 871), (0, u "java/util/Collections$UnmodifiableList$1"), (0, .class_ 873), (0, u "java/util/Collections$UnmodifiableNavigableSet$EmptyNavigableSet"), (0, .class_ 875), (0, u "java/util/Collections$UnmodifiableCollection$1")] 57

def k10m0 : Method := { name := "<init>", desc := "()V", sig := { parameters := [], returnType := none }, accessFlags := 2, code := none }
def k10c1 : Code := { maxStack := 1, maxLocals := 0, code := jdk_79_method_77_code, exceptionTable := #[], attributes := #[] }
def k10m1 : Method := { name := "reverseOrder", desc := "()Ljava/util/Comparator;", sig := { parameters := [], returnType := some (.object "java/util/Comparator") }, accessFlags := 9, code := some k10c1 }
/-- java/util/Collections -/
def k10 : Class := { plain "java/util/Collections" (some 0) with
  accessFlags := 33
  interfaces := #[]
  cf := some (fileOf pool10 19 #[.nestMembers #[478, 473, 469, 434, 423, 417, 393, 390, 380, 497, 494, 491, 355, 350, 344, 338, 333, 328, 850, 852, 854, 320, 325, 856, 315, 310, 305, 300, 287, 858, 284, 281, 278, 268, 271, 265, 262, 256, 250, 245, 860, 237, 231, 223, 862, 864, 866, 868, 215, 212, 870, 206, 872, 198, 190, 182, 174, 166, 874, 442, 387, 384]] #[{ accessFlags := 2, nameIndex := 5, descriptorIndex := 6, attributes := #[] }, { accessFlags := 9, nameIndex := 794, descriptorIndex := 795, attributes := #[] }] 33 2 #[] #[{ accessFlags := 26, nameIndex := 500, descriptorIndex := 501, attributes := #[] }, { accessFlags := 26, nameIndex := 504, descriptorIndex := 501, attributes := #[] }, { accessFlags := 26, nameIndex := 506, descriptorIndex := 501, attributes := #[] }, { accessFlags := 26, nameIndex := 508, descriptorIndex := 501, attributes := #[] }, { accessFlags := 26, nameIndex := 510, descriptorIndex := 501, attributes := #[] }, { accessFlags := 26, nameIndex := 512, descriptorIndex := 501, attributes := #[] }, { accessFlags := 26, nameIndex := 514, descriptorIndex := 501, attributes := #[] }, { accessFlags := 26, nameIndex := 516, descriptorIndex := 501, attributes := #[] }, { accessFlags := 10, nameIndex := 84, descriptorIndex := 85, attributes := #[] }, { accessFlags := 25, nameIndex := 362, descriptorIndex := 363, attributes := #[] }, { accessFlags := 25, nameIndex := 370, descriptorIndex := 371, attributes := #[] }, { accessFlags := 25, nameIndex := 374, descriptorIndex := 375, attributes := #[] }])
  fields := #[{ name := "BINARYSEARCH_THRESHOLD", type := .int, accessFlags := 26, slot := 0, constantValue := 0 }, { name := "REVERSE_THRESHOLD", type := .int, accessFlags := 26, slot := 1, constantValue := 0 }, { name := "SHUFFLE_THRESHOLD", type := .int, accessFlags := 26, slot := 2, constantValue := 0 }, { name := "FILL_THRESHOLD", type := .int, accessFlags := 26, slot := 3, constantValue := 0 }, { name := "ROTATE_THRESHOLD", type := .int, accessFlags := 26, slot := 4, constantValue := 0 }, { name := "COPY_THRESHOLD", type := .int, accessFlags := 26, slot := 5, constantValue := 0 }, { name := "REPLACEALL_THRESHOLD", type := .int, accessFlags := 26, slot := 6, constantValue := 0 }, { name := "INDEXOFSUBLIST_THRESHOLD", type := .int, accessFlags := 26, slot := 7, constantValue := 0 }, { name := "r", type := (.object "java/util/Random"), accessFlags := 10, slot := 8, constantValue := 0 }, { name := "EMPTY_SET", type := (.object "java/util/Set"), accessFlags := 25, slot := 9, constantValue := 0 }, { name := "EMPTY_LIST", type := (.object "java/util/List"), accessFlags := 25, slot := 10, constantValue := 0 }, { name := "EMPTY_MAP", type := (.object "java/util/Map"), accessFlags := 25, slot := 11, constantValue := 0 }]
  methods := #[k10m0, k10m1]
  instanceTypes := #[]
  staticTypes := #[.int, .int, .int, .int, .int, .int, .int, .int, (.object "java/util/Random"), (.object "java/util/Set"), (.object "java/util/List"), (.object "java/util/Map")]
  resolved := Array.replicate 933 none
  statics := none }

def pool11 : Array CpInfo := pool [(2, .class_ 4), (1, u "java/lang/Object"), (0, u "<init>"), (0, u "()V"), (7, .class_ 16), (1, u "java/util/Collections"), (3, .class_ 22), (1, u "java/util/Comparator"), (2, .class_ 27), (1, u "java/util/Collections$ReverseComparator"), (5, u "REVERSE_ORDER"), (0, u "Ljava/util/Collections$ReverseComparator;"), (0, .class_ 36), (0, u "java/io/Serializable"), (0, u "serialVersionUID"), (0, u "J")] 27

def k11m0 : Method := { name := "<init>", desc := "()V", sig := { parameters := [], returnType := none }, accessFlags := 2, code := none }
/-- java/util/Collections$ReverseComparator -/
def k11 : Class := { plain "java/util/Collections$ReverseComparator" (some 0) with
  accessFlags := 32
  interfaces := #[9, 5]
  cf := some (fileOf pool11 25 #[.nestHost 14] #[{ accessFlags := 2, nameIndex := 5, descriptorIndex := 6, attributes := #[] }] 32 2 #[20, 35] #[{ accessFlags := 26, nameIndex := 37, descriptorIndex := 38, attributes := #[] }, { accessFlags := 24, nameIndex := 33, descriptorIndex := 34, attributes := #[] }])
  fields := #[{ name := "serialVersionUID", type := .long, accessFlags := 26, slot := 0, constantValue := 0 }, { name := "REVERSE_ORDER", type := (.object "java/util/Collections$ReverseComparator"), accessFlags := 24, slot := 1, constantValue := 0 }]
  methods := #[k11m0]
  instanceTypes := #[]
  staticTypes := #[.long, (.object "java/util/Collections$ReverseComparator")]
  resolved := Array.replicate 66 none
  statics := some 1 }

def pool12 : Array CpInfo := pool [(2, .class_ 4), (1, u "java/util/Map"), (31, .class_ 37), (0, u "java/util/Map$Entry"), (55, .class_ 94), (0, u "java/lang/Object")] 168

/-- java/util/Map -/
def k12 : Class := { plain "java/util/Map" (some 0) with
  accessFlags := 1537
  interfaces := #[]
  cf := some (fileOf pool12 2 #[.nestMembers #[36]] #[] 1537 93 #[] #[])
  fields := #[]
  methods := #[]
  instanceTypes := #[]
  staticTypes := #[]
  resolved := Array.replicate 263 none
  statics := none }

def pool13 : Array CpInfo := pool [(1, .methodref 2 3), (0, .class_ 4), (0, .nameAndType 5 6), (0, u "java/lang/Object"), (0, u "<init>"), (0, u "()V"), (1, .class_ 10), (1, u "java/util/AbstractMap"), (42, .class_ 54), (0, u "java/util/Map"), (9, u "keySet"), (0, u "Ljava/util/Set;"), (0, .class_ 67), (0, u "java/util/AbstractMap$1"), (5, u "values"), (0, u "Ljava/util/Collection;"), (0, .class_ 76), (0, u "java/util/AbstractMap$2"), (104, .class_ 182), (0, u "java/util/AbstractMap$ViewCollection"), (0, .class_ 184), (0, u "java/util/AbstractMap$SimpleImmutableEntry"), (0, .class_ 186), (0, u "java/util/AbstractMap$SimpleEntry"), (0, .class_ 188), (0, u "java/util/AbstractMap$2$1"), (0, .class_ 190), (0, u "java/util/AbstractMap$1$1")] 5

def k13c0 : Code := { maxStack := 1, maxLocals := 1, code := jdk_71_method_1_code, exceptionTable := #[], attributes := #[] }
def k13m0 : Method := { name := "<init>", desc := "()V", sig := { parameters := [], returnType := none }, accessFlags := 4, code := some k13c0 }
/-- java/util/AbstractMap -/
def k13 : Class := { plain "java/util/AbstractMap" (some 0) with
  accessFlags := 1057
  interfaces := #[12]
  cf := some (fileOf pool13 8 #[.nestMembers #[181, 183, 185, 75, 187, 66, 189]] #[{ accessFlags := 4, nameIndex := 5, descriptorIndex := 6, attributes := #[] }] 1057 2 #[53] #[{ accessFlags := 128, nameIndex := 64, descriptorIndex := 65, attributes := #[] }, { accessFlags := 128, nameIndex := 73, descriptorIndex := 74, attributes := #[] }])
  fields := #[{ name := "keySet", type := (.object "java/util/Set"), accessFlags := 128, slot := 0, constantValue := 0 }, { name := "values", type := (.object "java/util/Collection"), accessFlags := 128, slot := 1, constantValue := 0 }]
  methods := #[k13m0]
  instanceTypes := #[(.object "java/util/Set"), (.object "java/util/Collection")]
  staticTypes := #[]
  resolved := Array.replicate 196 none
  statics := none }

def pool14 : Array CpInfo := pool [(2, .class_ 4), (1, u "java/util/SequencedMap"), (38, .class_ 44), (0, u "java/util/SequencedMap$1SeqKeySet"), (3, .class_ 49), (0, u "java/util/SequencedMap$1SeqValues"), (1, .class_ 52), (0, u "java/util/SequencedMap$1SeqEntrySet"), (1, .class_ 55), (0, u "java/lang/Object"), (0, .class_ 57), (0, u "java/util/Map")] 48

/-- java/util/SequencedMap -/
def k14 : Class := { plain "java/util/SequencedMap" (some 0) with
  accessFlags := 1537
  interfaces := #[12]
  cf := some (fileOf pool14 2 #[.nestMembers #[51, 48, 43]] #[] 1537 54 #[56] #[])
  fields := #[]
  methods := #[]
  instanceTypes := #[]
  staticTypes := #[]
  resolved := Array.replicate 106 none
  statics := none }

def pool15 : Array CpInfo := pool [(14, .class_ 16), (1, u "java/util/SortedMap"), (2, .class_ 20), (0, u "java/lang/Object"), (0, .class_ 22), (0, u "java/util/SequencedMap")] 50

/-- java/util/SortedMap -/
def k15 : Class := { plain "java/util/SortedMap" (some 0) with
  accessFlags := 1537
  interfaces := #[14]
  cf := some (fileOf pool15 14 #[] #[] 1537 19 #[21] #[])
  fields := #[]
  methods := #[]
  instanceTypes := #[]
  staticTypes := #[]
  resolved := Array.replicate 73 none
  statics := none }

def pool16 : Array CpInfo := pool [(2, .class_ 4), (1, u "java/util/NavigableMap"), (5, .class_ 11), (0, u "java/lang/Object"), (0, .class_ 13), (0, u "java/util/SortedMap")] 53

/-- java/util/NavigableMap -/
def k16 : Class := { plain "java/util/NavigableMap" (some 0) with
  accessFlags := 1537
  interfaces := #[15]
  cf := some (fileOf pool16 2 #[] #[] 1537 10 #[12] #[])
  fields := #[]
  methods := #[]
  instanceTypes := #[]
  staticTypes := #[]
  resolved := Array.replicate 67 none
  statics := none }

def pool17 : Array CpInfo := pool [(1, .class_ 2), (0, u "java/lang/Cloneable"), (0, .class_ 4), (0, u "java/lang/Object")] 2

/-- java/lang/Cloneable -/
def k17 : Class := { plain "java/lang/Cloneable" (some 0) with
  accessFlags := 1537
  interfaces := #[]
  cf := some (fileOf pool17 1 #[] #[] 1537 3 #[] #[])
  fields := #[]
  methods := #[]
  instanceTypes := #[]
  staticTypes := #[]
  resolved := Array.replicate 7 none
  statics := none }

def pool18 : Array CpInfo := pool [(1, .methodref 2 3), (0, .class_ 4), (0, .nameAndType 5 6), (0, u "java/util/AbstractMap"), (0, u "<init>"), (0, u "()V"), (0, .fieldref 8 9), (0, .class_ 10), (0, .nameAndType 11 12), (0, u "java/util/TreeMap"), (0, u "size"), (0, u "I"), (0, .fieldref 8 14), (0, .nameAndType 15 12), (0, u "modCount"), (0, .fieldref 8 17), (0, .nameAndType 18 19), (0, u "comparator"), (0, u "Ljava/util/Comparator;"), (14, u "entrySet"), (24, .class_ 61), (1, u "java/util/TreeMap$Entry"), (1, u "Ljava/lang/Object;"), (39, u "root"), (0, u "Ljava/util/TreeMap$Entry;"), (85, u "Ljava/util/TreeMap$EntrySet;"), (2, u "navigableKeySet"), (0, u "Ljava/util/TreeMap$KeySet;"), (2, u "descendingMap"), (0, u "Ljava/util/NavigableMap;"), (23, .class_ 223), (0, u "java/util/TreeMap$KeySet"), (7, .class_ 232), (0, u "java/util/NavigableMap"), (4, .class_ 238), (0, u "java/util/TreeMap$Values"), (3, .class_ 243), (0, u "java/util/TreeMap$EntrySet"), (1, .class_ 246), (0, u "java/util/TreeMap$DescendingSubMap"), (3, .class_ 251), (0, u "java/util/TreeMap$AscendingSubMap"), (17, .class_ 270), (0, u "java/util/TreeMap$KeyIterator"), (3, .class_ 275), (0, u "java/util/TreeMap$DescendingKeyIterator"), (17, u "Z"), (94, .class_ 389), (0, u "java/util/TreeMap$NavigableSubMap"), (1, .class_ 392), (0, u "java/util/TreeMap$KeySpliterator"), (3, .class_ 397), (0, u "java/util/TreeMap$DescendingKeySpliterator"), (4, u "UNBOUNDED"), (0, .class_ 404), (0, u "java/lang/Cloneable"), (0, .class_ 406), (0, u "java/io/Serializable"), (6, u "RED"), (2, u "BLACK"), (1, u "serialVersionUID"), (0, u "J"), (8, u "(Ljava/util/Comparator;)V"), (205, .class_ 635), (0, u "java/util/TreeMap$EntrySpliterator"), (0, .class_ 637), (0, u "java/util/TreeMap$ValueSpliterator"), (0, .class_ 639), (0, u "java/util/TreeMap$TreeMapSpliterator"), (0, .class_ 641), (0, u "java/util/TreeMap$SubMap"), (0, .class_ 643), (0, u "java/util/TreeMap$DescendingSubMap$DescendingEntrySetView"), (0, .class_ 645), (0, u "java/util/TreeMap$AscendingSubMap$AscendingEntrySetView"), (0, .class_ 647), (0, u "java/util/TreeMap$NavigableSubMap$DescendingSubMapKeyIterator"), (0, .class_ 649), (0, u "java/util/TreeMap$NavigableSubMap$SubMapKeyIterator"), (0, .class_ 651), (0, u "java/util/TreeMap$NavigableSubMap$DescendingSubMapEntryIterator"), (0, .class_ 653), (0, u "java/util/TreeMap$NavigableSubMap$SubMapEntryIterator"), (0, .class_ 655), (0, u "java/util/TreeMap$NavigableSubMap$SubMapIterator"), (0, .class_ 657), (0, u "java/util/TreeMap$NavigableSubMap$EntrySetView"), (0, .class_ 659), (0, u "java/util/TreeMap$ValueIterator"), (0, .class_ 661), (0, u "java/util/TreeMap$EntryIterator"), (0, .class_ 663), (0, u "java/util/TreeMap$PrivateEntryIterator")] 28

def k18m0 : Method := { name := "<init>", desc := "()V", sig := { parameters := [], returnType := none }, accessFlags := 1, code := none }
def k18c1 : Code := { maxStack := 2, maxLocals := 2, code := jdk_2729_method_2_code, exceptionTable := #[], attributes := #[] }
def k18m1 : Method := { name := "<init>", desc := "(Ljava/util/Comparator;)V", sig := { parameters := [(.object "java/util/Comparator")], returnType := none }, accessFlags := 1, code := some k18c1 }
/-- java/util/TreeMap -/
def k18 : Class := { plain "java/util/TreeMap" (some 13) with
  accessFlags := 33
  interfaces := #[16, 17, 5]
  cf := some (fileOf pool18 8 #[.nestMembers #[634, 636, 396, 391, 638, 59, 640, 245, 642, 250, 644, 388, 646, 648, 650, 652, 654, 656, 274, 269, 658, 660, 662, 222, 242, 237]] #[{ accessFlags := 1, nameIndex := 5, descriptorIndex := 6, attributes := #[] }, { accessFlags := 1, nameIndex := 5, descriptorIndex := 428, attributes := #[] }] 33 2 #[231, 403, 405] #[{ accessFlags := 18, nameIndex := 18, descriptorIndex := 19, attributes := #[] }, { accessFlags := 130, nameIndex := 103, descriptorIndex := 104, attributes := #[] }, { accessFlags := 130, nameIndex := 11, descriptorIndex := 12, attributes := #[] }, { accessFlags := 130, nameIndex := 15, descriptorIndex := 12, attributes := #[] }, { accessFlags := 130, nameIndex := 34, descriptorIndex := 190, attributes := #[] }, { accessFlags := 130, nameIndex := 193, descriptorIndex := 194, attributes := #[] }, { accessFlags := 130, nameIndex := 197, descriptorIndex := 198, attributes := #[] }, { accessFlags := 26, nameIndex := 402, descriptorIndex := 63, attributes := #[] }, { accessFlags := 26, nameIndex := 413, descriptorIndex := 293, attributes := #[] }, { accessFlags := 26, nameIndex := 416, descriptorIndex := 293, attributes := #[] }, { accessFlags := 26, nameIndex := 418, descriptorIndex := 419, attributes := #[] }])
  fields := #[{ name := "comparator", type := (.object "java/util/Comparator"), accessFlags := 18, slot := 2, constantValue := 0 }, { name := "root", type := (.object "java/util/TreeMap$Entry"), accessFlags := 130, slot := 3, constantValue := 0 }, { name := "size", type := .int, accessFlags := 130, slot := 4, constantValue := 0 }, { name := "modCount", type := .int, accessFlags := 130, slot := 5, constantValue := 0 }, { name := "entrySet", type := (.object "java/util/TreeMap$EntrySet"), accessFlags := 130, slot := 6, constantValue := 0 }, { name := "navigableKeySet", type := (.object "java/util/TreeMap$KeySet"), accessFlags := 130, slot := 7, constantValue := 0 }, { name := "descendingMap", type := (.object "java/util/NavigableMap"), accessFlags := 130, slot := 8, constantValue := 0 }, { name := "UNBOUNDED", type := (.object "java/lang/Object"), accessFlags := 26, slot := 0, constantValue := 0 }, { name := "RED", type := .boolean, accessFlags := 26, slot := 1, constantValue := 0 }, { name := "BLACK", type := .boolean, accessFlags := 26, slot := 2, constantValue := 0 }, { name := "serialVersionUID", type := .long, accessFlags := 26, slot := 3, constantValue := 0 }]
  methods := #[k18m0, k18m1]
  instanceTypes := #[(.object "java/util/Set"), (.object "java/util/Collection"), (.object "java/util/Comparator"), (.object "java/util/TreeMap$Entry"), .int, .int, (.object "java/util/TreeMap$EntrySet"), (.object "java/util/TreeMap$KeySet"), (.object "java/util/NavigableMap")]
  staticTypes := #[(.object "java/lang/Object"), .boolean, .boolean, .long]
  resolved := Array.replicate 692 none
  statics := none }

def pool19 : Array CpInfo := pool [(8, .class_ 10), (1, u "java/lang/Iterable"), (24, .class_ 36), (0, u "java/lang/Object")] 25

/-- java/lang/Iterable -/
def k19 : Class := { plain "java/lang/Iterable" (some 0) with
  accessFlags := 1537
  interfaces := #[]
  cf := some (fileOf pool19 8 #[] #[] 1537 35 #[] #[])
  fields := #[]
  methods := #[]
  instanceTypes := #[]
  staticTypes := #[]
  resolved := Array.replicate 62 none
  statics := none }

def pool20 : Array CpInfo := pool [(10, .class_ 12), (1, u "java/util/Collection"), (47, .class_ 61), (0, u "java/lang/Object"), (0, .class_ 63), (0, u "java/lang/Iterable")] 51

/-- java/util/Collection -/
def k20 : Class := { plain "java/util/Collection" (some 0) with
  accessFlags := 1537
  interfaces := #[19]
  cf := some (fileOf pool20 10 #[] #[] 1537 60 #[62] #[])
  fields := #[]
  methods := #[]
  instanceTypes := #[]
  staticTypes := #[]
  resolved := Array.replicate 115 none
  statics := none }

def pool21 : Array CpInfo := pool [(1, .methodref 2 3), (0, .class_ 4), (0, .nameAndType 5 6), (0, u "java/lang/Object"), (0, u "<init>"), (0, u "()V"), (1, .class_ 10), (1, u "java/util/AbstractCollection"), (66, .class_ 78), (0, u "java/util/Collection")] 81

def k21c0 : Code := { maxStack := 1, maxLocals := 1, code := jdk_22_method_1_code, exceptionTable := #[], attributes := #[] }
def k21m0 : Method := { name := "<init>", desc := "()V", sig := { parameters := [], returnType := none }, accessFlags := 4, code := some k21c0 }
/-- java/util/AbstractCollection -/
def k21 : Class := { plain "java/util/AbstractCollection" (some 0) with
  accessFlags := 1057
  interfaces := #[20]
  cf := some (fileOf pool21 8 #[] #[{ accessFlags := 4, nameIndex := 5, descriptorIndex := 6, attributes := #[] }] 1057 2 #[77] #[])
  fields := #[]
  methods := #[k21m0]
  instanceTypes := #[]
  staticTypes := #[]
  resolved := Array.replicate 160 none
  statics := none }

def pool22 : Array CpInfo := pool [(26, .class_ 27), (0, u "java/lang/Object"), (5, .class_ 34), (0, u "java/util/Set"), (1, .class_ 38), (1, u "java/util/Collection")] 105

/-- java/util/Set -/
def k22 : Class := { plain "java/util/Set" (some 0) with
  accessFlags := 1537
  interfaces := #[20]
  cf := some (fileOf pool22 33 #[] #[] 1537 26 #[36] #[])
  fields := #[]
  methods := #[]
  instanceTypes := #[]
  staticTypes := #[]
  resolved := Array.replicate 144 none
  statics := none }

def pool23 : Array CpInfo := pool [(1, .methodref 2 3), (0, .class_ 4), (0, .nameAndType 5 6), (0, u "java/util/AbstractCollection"), (0, u "<init>"), (0, u "()V"), (0, .class_ 8), (0, u "java/util/Set"), (7, .class_ 17), (0, u "java/util/AbstractSet")] 78

def k23c0 : Code := { maxStack := 1, maxLocals := 1, code := jdk_91_method_1_code, exceptionTable := #[], attributes := #[] }
def k23m0 : Method := { name := "<init>", desc := "()V", sig := { parameters := [], returnType := none }, accessFlags := 4, code := some k23c0 }
/-- java/util/AbstractSet -/
def k23 : Class := { plain "java/util/AbstractSet" (some 21) with
  accessFlags := 1057
  interfaces := #[22]
  cf := some (fileOf pool23 16 #[] #[{ accessFlags := 4, nameIndex := 5, descriptorIndex := 6, attributes := #[] }] 1057 2 #[7] #[])
  fields := #[]
  methods := #[k23m0]
  instanceTypes := #[]
  staticTypes := #[]
  resolved := Array.replicate 96 none
  statics := none }

def pool24 : Array CpInfo := pool [(8, .class_ 10), (1, u "java/util/SequencedCollection"), (15, .class_ 27), (0, u "java/lang/Object"), (0, .class_ 29), (0, u "java/util/Collection")] 27

/-- java/util/SequencedCollection -/
def k24 : Class := { plain "java/util/SequencedCollection" (some 0) with
  accessFlags := 1537
  interfaces := #[20]
  cf := some (fileOf pool24 8 #[] #[] 1537 26 #[28] #[])
  fields := #[]
  methods := #[]
  instanceTypes := #[]
  staticTypes := #[]
  resolved := Array.replicate 57 none
  statics := none }

def pool25 : Array CpInfo := pool [(2, .class_ 4), (1, u "java/util/SequencedSet"), (2, .class_ 8), (0, u "java/lang/Object"), (0, .class_ 10), (0, u "java/util/SequencedCollection"), (0, .class_ 12), (0, u "java/util/Set")] 13

/-- java/util/SequencedSet -/
def k25 : Class := { plain "java/util/SequencedSet" (some 0) with
  accessFlags := 1537
  interfaces := #[24, 22]
  cf := some (fileOf pool25 2 #[] #[] 1537 7 #[9, 11] #[])
  fields := #[]
  methods := #[]
  instanceTypes := #[]
  staticTypes := #[]
  resolved := Array.replicate 26 none
  statics := none }

def pool26 : Array CpInfo := pool [(1, .class_ 2), (0, u "java/util/SortedSet$1"), (12, .class_ 17), (1, u "java/util/SortedSet"), (19, .class_ 38), (0, u "java/lang/Object"), (0, .class_ 40), (0, u "java/util/Set"), (0, .class_ 42), (0, u "java/util/SequencedSet")] 41

/-- java/util/SortedSet -/
def k26 : Class := { plain "java/util/SortedSet" (some 0) with
  accessFlags := 1537
  interfaces := #[22, 25]
  cf := some (fileOf pool26 15 #[.nestMembers #[1]] #[] 1537 37 #[39, 41] #[])
  fields := #[]
  methods := #[]
  instanceTypes := #[]
  staticTypes := #[]
  resolved := Array.replicate 84 none
  statics := none }

def pool27 : Array CpInfo := pool [(2, .class_ 4), (1, u "java/util/NavigableSet"), (22, .class_ 28), (0, u "java/lang/Object"), (0, .class_ 30), (0, u "java/util/SortedSet")] 40

/-- java/util/NavigableSet -/
def k27 : Class := { plain "java/util/NavigableSet" (some 0) with
  accessFlags := 1537
  interfaces := #[26]
  cf := some (fileOf pool27 2 #[] #[] 1537 27 #[29] #[])
  fields := #[]
  methods := #[]
  instanceTypes := #[]
  staticTypes := #[]
  resolved := Array.replicate 71 none
  statics := none }

def pool28 : Array CpInfo := pool [(1, .methodref 2 3), (0, .class_ 4), (0, .nameAndType 5 6), (0, u "java/util/AbstractSet"), (0, u "<init>"), (0, u "()V"), (0, .fieldref 8 9), (0, .class_ 10), (0, .nameAndType 11 12), (0, u "java/util/TreeSet"), (0, u "m"), (0, u "Ljava/util/NavigableMap;"), (0, .class_ 14), (0, u "java/util/TreeMap"), (1, .methodref 8 17), (0, .nameAndType 5 18), (0, u "(Ljava/util/NavigableMap;)V"), (0, .methodref 13 20), (0, .nameAndType 5 21), (0, u "(Ljava/util/Comparator;)V"), (19, .class_ 43), (1, u "java/util/NavigableSet"), (23, u "PRESENT"), (0, u "Ljava/lang/Object;"), (148, .class_ 218), (0, u "java/lang/Cloneable"), (0, .class_ 220), (0, u "java/io/Serializable"), (2, u "serialVersionUID"), (0, u "J")] 92

def k28c0 : Code := { maxStack := 2, maxLocals := 2, code := jdk_2756_method_1_code, exceptionTable := #[], attributes := #[] }
def k28m0 : Method := { name := "<init>", desc := "(Ljava/util/NavigableMap;)V", sig := { parameters := [(.object "java/util/NavigableMap")], returnType := none }, accessFlags := 0, code := some k28c0 }
def k28m1 : Method := { name := "<init>", desc := "()V", sig := { parameters := [], returnType := none }, accessFlags := 1, code := none }
def k28c2 : Code := { maxStack := 4, maxLocals := 2, code := jdk_2756_method_3_code, exceptionTable := #[], attributes := #[] }
def k28m2 : Method := { name := "<init>", desc := "(Ljava/util/Comparator;)V", sig := { parameters := [(.object "java/util/Comparator")], returnType := none }, accessFlags := 1, code := some k28c2 }
/-- java/util/TreeSet -/
def k28 : Class := { plain "java/util/TreeSet" (some 23) with
  accessFlags := 33
  interfaces := #[27, 17, 5]
  cf := some (fileOf pool28 8 #[] #[{ accessFlags := 0, nameIndex := 5, descriptorIndex := 18, attributes := #[] }, { accessFlags := 1, nameIndex := 5, descriptorIndex := 6, attributes := #[] }, { accessFlags := 1, nameIndex := 5, descriptorIndex := 21, attributes := #[] }] 33 2 #[41, 217, 219] #[{ accessFlags := 130, nameIndex := 11, descriptorIndex := 12, attributes := #[] }, { accessFlags := 26, nameIndex := 67, descriptorIndex := 68, attributes := #[] }, { accessFlags := 26, nameIndex := 223, descriptorIndex := 224, attributes := #[] }])
  fields := #[{ name := "m", type := (.object "java/util/NavigableMap"), accessFlags := 130, slot := 0, constantValue := 0 }, { name := "PRESENT", type := (.object "java/lang/Object"), accessFlags := 26, slot := 0, constantValue := 0 }, { name := "serialVersionUID", type := .long, accessFlags := 26, slot := 1, constantValue := 0 }]
  methods := #[k28m0, k28m1, k28m2]
  instanceTypes := #[(.object "java/util/NavigableMap")]
  staticTypes := #[(.object "java/lang/Object"), .long]
  resolved := Array.replicate 317 none
  statics := none }

def pool29 : Array CpInfo := pool [(1, .methodref 2 3), (0, .class_ 4), (0, .nameAndType 5 6), (0, u "java/lang/Object"), (0, u "<init>"), (0, u "()V"), (0, .fieldref 8 9), (0, .class_ 10), (0, .nameAndType 11 12), (0, u "org/matchstone/engine/MinimumIndex"), (0, u "side"), (0, u "Lorg/matchstone/engine/Side;"), (0, .class_ 14), (0, u "org/matchstone/engine/OrderTree"), (0, .methodref 13 16), (0, .nameAndType 5 17), (0, u "(Lorg/matchstone/engine/Side;)V"), (0, .fieldref 8 19), (0, .nameAndType 20 21), (0, u "withoutMinimum"), (0, u "Lorg/matchstone/engine/OrderTree;"), (0, .class_ 23), (0, u "org/matchstone/engine/MinimumIndex$Bucket"), (0, .methodref 22 16), (0, .fieldref 8 26), (0, .nameAndType 27 28), (0, u "withMinimum"), (0, u "Lorg/matchstone/engine/MinimumIndex$Bucket;")] 171

def k29c0 : Code := { maxStack := 4, maxLocals := 2, code := prog_19_method_1_code, exceptionTable := #[], attributes := #[] }
def k29m0 : Method := { name := "<init>", desc := "(Lorg/matchstone/engine/Side;)V", sig := { parameters := [(.object "org/matchstone/engine/Side")], returnType := none }, accessFlags := 0, code := some k29c0 }
/-- org/matchstone/engine/MinimumIndex -/
def k29 : Class := { plain "org/matchstone/engine/MinimumIndex" (some 0) with
  accessFlags := 48
  interfaces := #[]
  cf := some (fileOf pool29 8 #[.nestMembers #[22]] #[{ accessFlags := 0, nameIndex := 5, descriptorIndex := 17, attributes := #[] }] 48 2 #[] #[{ accessFlags := 18, nameIndex := 11, descriptorIndex := 12, attributes := #[] }, { accessFlags := 18, nameIndex := 20, descriptorIndex := 21, attributes := #[] }, { accessFlags := 18, nameIndex := 27, descriptorIndex := 28, attributes := #[] }])
  fields := #[{ name := "side", type := (.object "org/matchstone/engine/Side"), accessFlags := 18, slot := 0, constantValue := 0 }, { name := "withoutMinimum", type := (.object "org/matchstone/engine/OrderTree"), accessFlags := 18, slot := 1, constantValue := 0 }, { name := "withMinimum", type := (.object "org/matchstone/engine/MinimumIndex$Bucket"), accessFlags := 18, slot := 2, constantValue := 0 }]
  methods := #[k29m0]
  instanceTypes := #[(.object "org/matchstone/engine/Side"), (.object "org/matchstone/engine/OrderTree"), (.object "org/matchstone/engine/MinimumIndex$Bucket")]
  staticTypes := #[]
  resolved := Array.replicate 200 none
  statics := none }

def pool30 : Array CpInfo := pool [(1, .methodref 2 3), (0, .class_ 4), (0, .nameAndType 5 6), (0, u "java/lang/Object"), (0, u "<init>"), (0, u "()V"), (1, .class_ 10), (1, u "org/matchstone/engine/BalancedTree"), (0, u "root"), (0, u "Lorg/matchstone/engine/BalancedTree$Node;"), (17, .class_ 32), (1, u "org/matchstone/engine/BalancedTree$Node")] 88

def k30c0 : Code := { maxStack := 1, maxLocals := 1, code := prog_3_method_1_code, exceptionTable := #[], attributes := #[] }
def k30m0 : Method := { name := "<init>", desc := "()V", sig := { parameters := [], returnType := none }, accessFlags := 0, code := some k30c0 }
/-- org/matchstone/engine/BalancedTree -/
def k30 : Class := { plain "org/matchstone/engine/BalancedTree" (some 0) with
  accessFlags := 1056
  interfaces := #[]
  cf := some (fileOf pool30 8 #[.nestMembers #[30]] #[{ accessFlags := 0, nameIndex := 5, descriptorIndex := 6, attributes := #[] }] 1056 2 #[] #[{ accessFlags := 0, nameIndex := 11, descriptorIndex := 12, attributes := #[] }])
  fields := #[{ name := "root", type := (.object "org/matchstone/engine/BalancedTree$Node"), accessFlags := 0, slot := 0, constantValue := 0 }]
  methods := #[k30m0]
  instanceTypes := #[(.object "org/matchstone/engine/BalancedTree$Node")]
  staticTypes := #[]
  resolved := Array.replicate 121 none
  statics := none }

def pool31 : Array CpInfo := pool [(1, .methodref 2 3), (0, .class_ 4), (0, .nameAndType 5 6), (0, u "org/matchstone/engine/BalancedTree"), (0, u "<init>"), (0, u "()V"), (0, .fieldref 8 9), (0, .class_ 10), (0, .nameAndType 11 12), (0, u "org/matchstone/engine/OrderTree"), (0, u "side"), (0, u "Lorg/matchstone/engine/Side;"), (0, .class_ 14), (0, u "org/matchstone/engine/OrderTree$Node"), (95, u "(Lorg/matchstone/engine/Side;)V")] 24

def k31c0 : Code := { maxStack := 2, maxLocals := 2, code := prog_29_method_1_code, exceptionTable := #[], attributes := #[] }
def k31m0 : Method := { name := "<init>", desc := "(Lorg/matchstone/engine/Side;)V", sig := { parameters := [(.object "org/matchstone/engine/Side")], returnType := none }, accessFlags := 0, code := some k31c0 }
/-- org/matchstone/engine/OrderTree -/
def k31 : Class := { plain "org/matchstone/engine/OrderTree" (some 30) with
  accessFlags := 48
  interfaces := #[]
  cf := some (fileOf pool31 8 #[.nestMembers #[13]] #[{ accessFlags := 0, nameIndex := 5, descriptorIndex := 110, attributes := #[] }] 48 2 #[] #[{ accessFlags := 18, nameIndex := 11, descriptorIndex := 12, attributes := #[] }])
  fields := #[{ name := "side", type := (.object "org/matchstone/engine/Side"), accessFlags := 18, slot := 1, constantValue := 0 }]
  methods := #[k31m0]
  instanceTypes := #[(.object "org/matchstone/engine/BalancedTree$Node"), (.object "org/matchstone/engine/Side")]
  staticTypes := #[]
  resolved := Array.replicate 135 none
  statics := none }

def pool32 : Array CpInfo := pool [(1, .methodref 2 3), (0, .class_ 4), (0, .nameAndType 5 6), (0, u "java/lang/Object"), (0, u "<init>"), (0, u "()V"), (0, .fieldref 8 9), (0, .class_ 10), (0, .nameAndType 11 12), (0, u "org/matchstone/engine/MinimumIndex$Bucket"), (0, u "bit"), (0, u "I"), (0, .class_ 14), (0, u "org/matchstone/engine/OrderTree"), (0, .methodref 13 16), (0, .nameAndType 5 17), (0, u "(Lorg/matchstone/engine/Side;)V"), (0, .fieldref 8 19), (0, .nameAndType 20 21), (0, u "orders"), (0, u "Lorg/matchstone/engine/OrderTree;"), (0, u "held"), (0, u "base"), (0, u "J"), (0, u "floor"), (0, u "changes"), (0, u "low"), (0, u "Lorg/matchstone/engine/MinimumIndex$Bucket;"), (0, u "high"), (5, .class_ 36), (0, u "org/matchstone/engine/MinimumIndex")] 2

def k32c0 : Code := { maxStack := 4, maxLocals := 2, code := prog_20_method_1_code, exceptionTable := #[], attributes := #[] }
def k32m0 : Method := { name := "<init>", desc := "(Lorg/matchstone/engine/Side;)V", sig := { parameters := [(.object "org/matchstone/engine/Side")], returnType := none }, accessFlags := 0, code := some k32c0 }
/-- org/matchstone/engine/MinimumIndex$Bucket -/
def k32 : Class := { plain "org/matchstone/engine/MinimumIndex$Bucket" (some 0) with
  accessFlags := 48
  interfaces := #[]
  cf := some (fileOf pool32 8 #[.nestHost 35] #[{ accessFlags := 0, nameIndex := 5, descriptorIndex := 17, attributes := #[] }] 48 2 #[] #[{ accessFlags := 16, nameIndex := 20, descriptorIndex := 21, attributes := #[] }, { accessFlags := 0, nameIndex := 22, descriptorIndex := 12, attributes := #[] }, { accessFlags := 0, nameIndex := 11, descriptorIndex := 12, attributes := #[] }, { accessFlags := 0, nameIndex := 23, descriptorIndex := 24, attributes := #[] }, { accessFlags := 0, nameIndex := 25, descriptorIndex := 12, attributes := #[] }, { accessFlags := 0, nameIndex := 26, descriptorIndex := 12, attributes := #[] }, { accessFlags := 0, nameIndex := 27, descriptorIndex := 28, attributes := #[] }, { accessFlags := 0, nameIndex := 29, descriptorIndex := 28, attributes := #[] }])
  fields := #[{ name := "orders", type := (.object "org/matchstone/engine/OrderTree"), accessFlags := 16, slot := 0, constantValue := 0 }, { name := "held", type := .int, accessFlags := 0, slot := 1, constantValue := 0 }, { name := "bit", type := .int, accessFlags := 0, slot := 2, constantValue := 0 }, { name := "base", type := .long, accessFlags := 0, slot := 3, constantValue := 0 }, { name := "floor", type := .int, accessFlags := 0, slot := 4, constantValue := 0 }, { name := "changes", type := .int, accessFlags := 0, slot := 5, constantValue := 0 }, { name := "low", type := (.object "org/matchstone/engine/MinimumIndex$Bucket"), accessFlags := 0, slot := 6, constantValue := 0 }, { name := "high", type := (.object "org/matchstone/engine/MinimumIndex$Bucket"), accessFlags := 0, slot := 7, constantValue := 0 }]
  methods := #[k32m0]
  instanceTypes := #[(.object "org/matchstone/engine/OrderTree"), .int, .int, .long, .int, .int, (.object "org/matchstone/engine/MinimumIndex$Bucket"), (.object "org/matchstone/engine/MinimumIndex$Bucket")]
  staticTypes := #[]
  resolved := Array.replicate 39 none
  statics := none }

def pool33 : Array CpInfo := pool [(1, .fieldref 2 3), (0, .class_ 4), (0, .nameAndType 5 6), (0, u "org/matchstone/engine/BookSide$Walk"), (0, u "this$0"), (0, u "Lorg/matchstone/engine/BookSide;"), (0, .methodref 8 9), (0, .class_ 10), (0, .nameAndType 11 12), (0, u "java/lang/Object"), (0, u "<init>"), (0, u "()V"), (0, .fieldref 2 14), (0, .nameAndType 15 16), (0, u "place"), (0, u "Lorg/matchstone/engine/BookSide$Place;"), (0, .fieldref 2 18), (0, .nameAndType 19 20), (0, u "displayedKnown"), (0, u "Z"), (0, .fieldref 2 22), (0, .nameAndType 23 24), (0, u "displayed"), (0, u "Lorg/matchstone/engine/BookSide$Order;"), (1, .class_ 28), (1, u "org/matchstone/engine/BookSide"), (2, .fieldref 2 32), (0, .nameAndType 33 24), (0, u "hidden"), (0, .fieldref 35 36), (0, .class_ 37), (0, .nameAndType 38 24), (0, u "org/matchstone/engine/BookSide$Order"), (0, u "next"), (0, .fieldref 35 40), (0, .nameAndType 41 42), (0, u "minQuantity"), (0, u "J"), (0, .fieldref 35 44), (0, .nameAndType 45 42), (0, u "open"), (0, .fieldref 35 47), (0, .nameAndType 23 20), (0, .fieldref 35 49), (0, .nameAndType 50 42), (0, u "price"), (0, .methodref 52 53), (0, .class_ 54), (0, .nameAndType 55 56), (0, u "org/matchstone/engine/BookSide$Place"), (0, u "at"), (0, u "(J)Lorg/matchstone/engine/BookSide$Place;"), (0, .methodref 52 58), (0, .nameAndType 59 60), (0, u "behind"), (0, u "(Lorg/matchstone/engine/BookSide$Order;)Lorg/matchstone/engine/BookSide$Place;"), (16, u "(Lorg/matchstone/engine/BookSide;)V"), (6, u "nextBehind"), (0, u "(J)Lorg/matchstone/engine/BookSide$Order;"), (0, u "step"), (0, u "(Lorg/matchstone/engine/BookSide$Order;)V")] 9

def k33c0 : Code := { maxStack := 2, maxLocals := 2, code := prog_11_method_1_code, exceptionTable := #[], attributes := #[] }
def k33m0 : Method := { name := "<init>", desc := "(Lorg/matchstone/engine/BookSide;)V", sig := { parameters := [(.object "org/matchstone/engine/BookSide")], returnType := none }, accessFlags := 0, code := some k33c0 }
def k33c1 : Code := { maxStack := 4, maxLocals := 4, code := prog_11_method_4_code, exceptionTable := #[], attributes := #[] }
def k33m1 : Method := { name := "nextBehind", desc := "(J)Lorg/matchstone/engine/BookSide$Order;", sig := { parameters := [.long], returnType := some (.object "org/matchstone/engine/BookSide$Order") }, accessFlags := 0, code := some k33c1 }
def k33c2 : Code := { maxStack := 3, maxLocals := 2, code := prog_11_method_5_code, exceptionTable := #[], attributes := #[] }
def k33m2 : Method := { name := "step", desc := "(Lorg/matchstone/engine/BookSide$Order;)V", sig := { parameters := [(.object "org/matchstone/engine/BookSide$Order")], returnType := none }, accessFlags := 0, code := some k33c2 }
/-- org/matchstone/engine/BookSide$Walk -/
def k33 : Class := { plain "org/matchstone/engine/BookSide$Walk" (some 0) with
  accessFlags := 48
  interfaces := #[]
  cf := some (fileOf pool33 2 #[.nestHost 26] #[{ accessFlags := 0, nameIndex := 11, descriptorIndex := 77, attributes := #[] }, { accessFlags := 0, nameIndex := 84, descriptorIndex := 85, attributes := #[] }, { accessFlags := 0, nameIndex := 86, descriptorIndex := 87, attributes := #[] }] 48 8 #[] #[{ accessFlags := 2, nameIndex := 15, descriptorIndex := 16, attributes := #[] }, { accessFlags := 2, nameIndex := 33, descriptorIndex := 24, attributes := #[] }, { accessFlags := 2, nameIndex := 23, descriptorIndex := 24, attributes := #[] }, { accessFlags := 2, nameIndex := 19, descriptorIndex := 20, attributes := #[] }, { accessFlags := 4112, nameIndex := 5, descriptorIndex := 6, attributes := #[] }])
  fields := #[{ name := "place", type := (.object "org/matchstone/engine/BookSide$Place"), accessFlags := 2, slot := 0, constantValue := 0 }, { name := "hidden", type := (.object "org/matchstone/engine/BookSide$Order"), accessFlags := 2, slot := 1, constantValue := 0 }, { name := "displayed", type := (.object "org/matchstone/engine/BookSide$Order"), accessFlags := 2, slot := 2, constantValue := 0 }, { name := "displayedKnown", type := .boolean, accessFlags := 2, slot := 3, constantValue := 0 }, { name := "this$0", type := (.object "org/matchstone/engine/BookSide"), accessFlags := 4112, slot := 4, constantValue := 0 }]
  methods := #[k33m0, k33m1, k33m2]
  instanceTypes := #[(.object "org/matchstone/engine/BookSide$Place"), (.object "org/matchstone/engine/BookSide$Order"), (.object "org/matchstone/engine/BookSide$Order"), .boolean, (.object "org/matchstone/engine/BookSide")]
  staticTypes := #[]
  resolved := Array.replicate 97 none
  statics := none }

def pool34 : Array CpInfo := pool [(2, .class_ 4), (1, u "java/lang/CharSequence"), (42, .class_ 48), (0, u "java/lang/CharSequence$1CodePointIterator"), (10, .class_ 60), (0, u "java/lang/CharSequence$1CharIterator"), (5, .class_ 67), (0, u "java/lang/Object")] 63

/-- java/lang/CharSequence -/
def k34 : Class := { plain "java/lang/CharSequence" (some 0) with
  accessFlags := 1537
  interfaces := #[]
  cf := some (fileOf pool34 2 #[.nestMembers #[47, 59]] #[] 1537 66 #[] #[])
  fields := #[]
  methods := #[]
  instanceTypes := #[]
  staticTypes := #[]
  resolved := Array.replicate 131 none
  statics := none }

def pool35 : Array CpInfo := pool [(1, .class_ 2), (0, u "java/lang/constant/ConstantDesc"), (0, .class_ 4), (0, u "java/lang/Object")] 32

/-- java/lang/constant/ConstantDesc -/
def k35 : Class := { plain "java/lang/constant/ConstantDesc" (some 0) with
  accessFlags := 1537
  interfaces := #[]
  cf := some (fileOf pool35 1 #[] #[] 1537 3 #[] #[])
  fields := #[]
  methods := #[]
  instanceTypes := #[]
  staticTypes := #[]
  resolved := Array.replicate 37 none
  statics := none }

def pool36 : Array CpInfo := pool [(2, .class_ 4), (1, u "java/lang/Object"), (0, u "<init>"), (0, u "()V"), (3, .class_ 12), (1, u "java/lang/String"), (0, u "value"), (0, u "[B"), (2, u "coder"), (0, u "B"), (2, u "hash"), (0, u "I"), (2, u "hashIsZero"), (0, u "Z"), (13, u "COMPACT_STRINGS"), (534, .class_ 576), (0, u "java/lang/CharSequence"), (22, u "CASE_INSENSITIVE_ORDER"), (0, u "Ljava/util/Comparator;"), (500, u "serialPersistentFields"), (0, u "[Ljava/io/ObjectStreamField;"), (0, .class_ 1104), (0, u "java/lang/String$CaseInsensitiveComparator"), (1, .class_ 1107), (0, u "java/io/Serializable"), (0, .class_ 1109), (0, u "java/lang/Comparable"), (0, .class_ 1111), (0, u "java/lang/constant/Constable"), (0, .class_ 1113), (0, u "java/lang/constant/ConstantDesc"), (2, u "serialVersionUID"), (0, u "J"), (3, u "REPL"), (0, u "C"), (2, u "LATIN1"), (1, u "UTF16")] 323

def k36m0 : Method := { name := "<init>", desc := "()V", sig := { parameters := [], returnType := none }, accessFlags := 1, code := none }
/-- java/lang/String -/
def k36 : Class := { plain "java/lang/String" (some 0) with
  accessFlags := 49
  interfaces := #[5, 4, 34, 3, 35]
  cf := some (fileOf pool36 10 #[.nestMembers #[1103]] #[{ accessFlags := 1, nameIndex := 5, descriptorIndex := 6, attributes := #[] }] 49 2 #[1106, 1108, 575, 1110, 1112] #[{ accessFlags := 18, nameIndex := 13, descriptorIndex := 14, attributes := #[] }, { accessFlags := 18, nameIndex := 17, descriptorIndex := 18, attributes := #[] }, { accessFlags := 2, nameIndex := 21, descriptorIndex := 22, attributes := #[] }, { accessFlags := 2, nameIndex := 25, descriptorIndex := 26, attributes := #[] }, { accessFlags := 26, nameIndex := 1116, descriptorIndex := 1117, attributes := #[] }, { accessFlags := 24, nameIndex := 40, descriptorIndex := 26, attributes := #[] }, { accessFlags := 26, nameIndex := 1101, descriptorIndex := 1102, attributes := #[] }, { accessFlags := 26, nameIndex := 1121, descriptorIndex := 1122, attributes := #[] }, { accessFlags := 25, nameIndex := 599, descriptorIndex := 600, attributes := #[] }, { accessFlags := 24, nameIndex := 1125, descriptorIndex := 18, attributes := #[] }, { accessFlags := 24, nameIndex := 1127, descriptorIndex := 18, attributes := #[] }])
  fields := #[{ name := "value", type := (.array .byte), accessFlags := 18, slot := 0, constantValue := 0 }, { name := "coder", type := .byte, accessFlags := 18, slot := 1, constantValue := 0 }, { name := "hash", type := .int, accessFlags := 2, slot := 2, constantValue := 0 }, { name := "hashIsZero", type := .boolean, accessFlags := 2, slot := 3, constantValue := 0 }, { name := "serialVersionUID", type := .long, accessFlags := 26, slot := 0, constantValue := 0 }, { name := "COMPACT_STRINGS", type := .boolean, accessFlags := 24, slot := 1, constantValue := 0 }, { name := "serialPersistentFields", type := (.array (.object "java/io/ObjectStreamField")), accessFlags := 26, slot := 2, constantValue := 0 }, { name := "REPL", type := .char, accessFlags := 26, slot := 3, constantValue := 0 }, { name := "CASE_INSENSITIVE_ORDER", type := (.object "java/util/Comparator"), accessFlags := 25, slot := 4, constantValue := 0 }, { name := "LATIN1", type := .byte, accessFlags := 24, slot := 5, constantValue := 0 }, { name := "UTF16", type := .byte, accessFlags := 24, slot := 6, constantValue := 0 }]
  methods := #[k36m0]
  instanceTypes := #[(.array .byte), .byte, .int, .boolean]
  staticTypes := #[.long, .boolean, (.array (.object "java/io/ObjectStreamField")), .char, (.object "java/util/Comparator"), .byte, .byte]
  resolved := Array.replicate 1451 none
  statics := none }

def pool37 : Array CpInfo := pool [(1, .methodref 2 3), (0, .class_ 4), (0, .nameAndType 5 6), (0, u "java/lang/Object"), (0, u "<init>"), (0, u "()V"), (0, .class_ 8), (0, u "java/lang/Record")] 13

def k37c0 : Code := { maxStack := 1, maxLocals := 1, code := jdk_30_method_1_code, exceptionTable := #[], attributes := #[] }
def k37m0 : Method := { name := "<init>", desc := "()V", sig := { parameters := [], returnType := none }, accessFlags := 4, code := some k37c0 }
/-- java/lang/Record -/
def k37 : Class := { plain "java/lang/Record" (some 0) with
  accessFlags := 1057
  interfaces := #[]
  cf := some (fileOf pool37 7 #[] #[{ accessFlags := 4, nameIndex := 5, descriptorIndex := 6, attributes := #[] }] 1057 2 #[] #[])
  fields := #[]
  methods := #[k37m0]
  instanceTypes := #[]
  staticTypes := #[]
  resolved := Array.replicate 22 none
  statics := none }

def pool38 : Array CpInfo := pool [(1, .methodref 2 3), (0, .class_ 4), (0, .nameAndType 5 6), (0, u "java/lang/Record"), (0, u "<init>"), (0, u "()V"), (0, .string 8), (0, u "id"), (0, .methodref 10 11), (0, .class_ 12), (0, .nameAndType 13 14), (0, u "java/util/Objects"), (0, u "requireNonNull"), (0, u "(Ljava/lang/Object;Ljava/lang/String;)Ljava/lang/Object;"), (0, .string 16), (0, u "side"), (0, .string 18), (0, u "timeInForce"), (0, .fieldref 20 21), (0, .class_ 22), (0, .nameAndType 8 23), (0, u "org/matchstone/engine/NewOrder"), (0, u "Ljava/lang/String;"), (0, .fieldref 20 25), (0, .nameAndType 16 26), (0, u "Lorg/matchstone/engine/Side;"), (0, .fieldref 20 28), (0, .nameAndType 29 30), (0, u "quantity"), (0, u "J"), (0, .fieldref 20 32), (0, .nameAndType 33 30), (0, u "price"), (0, .fieldref 20 35), (0, .nameAndType 18 36), (0, u "Lorg/matchstone/engine/TimeInForce;"), (0, .fieldref 20 38), (0, .nameAndType 39 40), (0, u "expireTime"), (0, u "Ljava/time/LocalTime;"), (0, .fieldref 20 42), (0, .nameAndType 43 44), (0, u "displayed"), (0, u "Z"), (0, .fieldref 20 46), (0, .nameAndType 47 44), (0, u "postOnly"), (0, .fieldref 20 49), (0, .nameAndType 50 44), (0, u "swap"), (0, .fieldref 20 52), (0, .nameAndType 53 44), (0, u "superAggressive"), (0, .fieldref 20 55), (0, .nameAndType 56 57), (0, u "peg"), (0, u "Lorg/matchstone/engine/Peg;"), (0, .fieldref 20 59), (0, .nameAndType 60 61), (0, u "minQuantity"), (0, u "Lorg/matchstone/engine/MinQuantity;"), (0, .class_ 63), (0, u "org/matchstone/engine/NewOrder$Draft"), (0, .methodref 62 65), (0, .nameAndType 5 66), (0, u "(Ljava/lang/String;Lorg/matchstone/engine/Side;JJ)V"), (0, .methodref 62 68), (0, .nameAndType 69 70), (0, u "order"), (0, u "()Lorg/matchstone/engine/NewOrder;"), (0, .methodref 62 72), (0, .nameAndType 5 73), (0, u "(Lorg/matchstone/engine/NewOrder;)V"), (2, .fieldref 62 42), (4, .fieldref 62 59), (12, u "(Ljava/lang/String;Lorg/matchstone/engine/Side;JJLorg/matchstone/engine/TimeInForce;Ljava/time/LocalTime;ZZZZLorg/matchstone/engine/Peg;Lorg/matchstone/engine/MinQuantity;)V"), (3, u "limit"), (0, u "(Ljava/lang/String;Lorg/matchstone/engine/Side;JJ)Lorg/matchstone/engine/NewOrder;"), (4, u "withDisplayed"), (0, u "(Z)Lorg/matchstone/engine/NewOrder;"), (5, u "withMinQuantity"), (0, u "(Lorg/matchstone/engine/MinQuantity;)Lorg/matchstone/engine/NewOrder;"), (0, u "()Ljava/lang/String;"), (2, u "()Lorg/matchstone/engine/Side;"), (0, u "()J"), (0, u "()Lorg/matchstone/engine/TimeInForce;"), (1, u "()Z"), (0, u "()Lorg/matchstone/engine/Peg;"), (0, u "()Lorg/matchstone/engine/MinQuantity;")] 33

def k38c0 : Code := { maxStack := 3, maxLocals := 15, code := prog_22_method_1_code, exceptionTable := #[], attributes := #[] }
def k38m0 : Method := { name := "<init>", desc := "(Ljava/lang/String;Lorg/matchstone/engine/Side;JJLorg/matchstone/engine/TimeInForce;Ljava/time/LocalTime;ZZZZLorg/matchstone/engine/Peg;Lorg/matchstone/engine/MinQuantity;)V", sig := { parameters := [(.object "java/lang/String"), (.object "org/matchstone/engine/Side"), .long, .long, (.object "org/matchstone/engine/TimeInForce"), (.object "java/time/LocalTime"), .boolean, .boolean, .boolean, .boolean, (.object "org/matchstone/engine/Peg"), (.object "org/matchstone/engine/MinQuantity")], returnType := none }, accessFlags := 1, code := some k38c0 }
def k38c1 : Code := { maxStack := 8, maxLocals := 6, code := prog_22_method_2_code, exceptionTable := #[], attributes := #[] }
def k38m1 : Method := { name := "limit", desc := "(Ljava/lang/String;Lorg/matchstone/engine/Side;JJ)Lorg/matchstone/engine/NewOrder;", sig := { parameters := [(.object "java/lang/String"), (.object "org/matchstone/engine/Side"), .long, .long], returnType := some (.object "org/matchstone/engine/NewOrder") }, accessFlags := 9, code := some k38c1 }
def k38c2 : Code := { maxStack := 3, maxLocals := 3, code := prog_22_method_5_code, exceptionTable := #[], attributes := #[] }
def k38m2 : Method := { name := "withDisplayed", desc := "(Z)Lorg/matchstone/engine/NewOrder;", sig := { parameters := [.boolean], returnType := some (.object "org/matchstone/engine/NewOrder") }, accessFlags := 1, code := some k38c2 }
def k38c3 : Code := { maxStack := 3, maxLocals := 3, code := prog_22_method_10_code, exceptionTable := #[], attributes := #[] }
def k38m3 : Method := { name := "withMinQuantity", desc := "(Lorg/matchstone/engine/MinQuantity;)Lorg/matchstone/engine/NewOrder;", sig := { parameters := [(.object "org/matchstone/engine/MinQuantity")], returnType := some (.object "org/matchstone/engine/NewOrder") }, accessFlags := 1, code := some k38c3 }
def k38c4 : Code := { maxStack := 1, maxLocals := 1, code := prog_22_method_14_code, exceptionTable := #[], attributes := #[] }
def k38m4 : Method := { name := "id", desc := "()Ljava/lang/String;", sig := { parameters := [], returnType := some (.object "java/lang/String") }, accessFlags := 1, code := some k38c4 }
def k38c5 : Code := { maxStack := 1, maxLocals := 1, code := prog_22_method_15_code, exceptionTable := #[], attributes := #[] }
def k38m5 : Method := { name := "side", desc := "()Lorg/matchstone/engine/Side;", sig := { parameters := [], returnType := some (.object "org/matchstone/engine/Side") }, accessFlags := 1, code := some k38c5 }
def k38c6 : Code := { maxStack := 2, maxLocals := 1, code := prog_22_method_16_code, exceptionTable := #[], attributes := #[] }
def k38m6 : Method := { name := "quantity", desc := "()J", sig := { parameters := [], returnType := some .long }, accessFlags := 1, code := some k38c6 }
def k38c7 : Code := { maxStack := 2, maxLocals := 1, code := prog_22_method_17_code, exceptionTable := #[], attributes := #[] }
def k38m7 : Method := { name := "price", desc := "()J", sig := { parameters := [], returnType := some .long }, accessFlags := 1, code := some k38c7 }
def k38c8 : Code := { maxStack := 1, maxLocals := 1, code := prog_22_method_18_code, exceptionTable := #[], attributes := #[] }
def k38m8 : Method := { name := "timeInForce", desc := "()Lorg/matchstone/engine/TimeInForce;", sig := { parameters := [], returnType := some (.object "org/matchstone/engine/TimeInForce") }, accessFlags := 1, code := some k38c8 }
def k38c9 : Code := { maxStack := 1, maxLocals := 1, code := prog_22_method_20_code, exceptionTable := #[], attributes := #[] }
def k38m9 : Method := { name := "displayed", desc := "()Z", sig := { parameters := [], returnType := some .boolean }, accessFlags := 1, code := some k38c9 }
def k38c10 : Code := { maxStack := 1, maxLocals := 1, code := prog_22_method_21_code, exceptionTable := #[], attributes := #[] }
def k38m10 : Method := { name := "postOnly", desc := "()Z", sig := { parameters := [], returnType := some .boolean }, accessFlags := 1, code := some k38c10 }
def k38c11 : Code := { maxStack := 1, maxLocals := 1, code := prog_22_method_22_code, exceptionTable := #[], attributes := #[] }
def k38m11 : Method := { name := "swap", desc := "()Z", sig := { parameters := [], returnType := some .boolean }, accessFlags := 1, code := some k38c11 }
def k38c12 : Code := { maxStack := 1, maxLocals := 1, code := prog_22_method_23_code, exceptionTable := #[], attributes := #[] }
def k38m12 : Method := { name := "superAggressive", desc := "()Z", sig := { parameters := [], returnType := some .boolean }, accessFlags := 1, code := some k38c12 }
def k38c13 : Code := { maxStack := 1, maxLocals := 1, code := prog_22_method_24_code, exceptionTable := #[], attributes := #[] }
def k38m13 : Method := { name := "peg", desc := "()Lorg/matchstone/engine/Peg;", sig := { parameters := [], returnType := some (.object "org/matchstone/engine/Peg") }, accessFlags := 1, code := some k38c13 }
def k38c14 : Code := { maxStack := 1, maxLocals := 1, code := prog_22_method_25_code, exceptionTable := #[], attributes := #[] }
def k38m14 : Method := { name := "minQuantity", desc := "()Lorg/matchstone/engine/MinQuantity;", sig := { parameters := [], returnType := some (.object "org/matchstone/engine/MinQuantity") }, accessFlags := 1, code := some k38c14 }
/-- org/matchstone/engine/NewOrder -/
def k38 : Class := { plain "org/matchstone/engine/NewOrder" (some 37) with
  accessFlags := 49
  interfaces := #[]
  cf := some (fileOf pool38 20 #[.nestMembers #[62]] #[{ accessFlags := 1, nameIndex := 5, descriptorIndex := 94, attributes := #[] }, { accessFlags := 9, nameIndex := 98, descriptorIndex := 99, attributes := #[] }, { accessFlags := 1, nameIndex := 104, descriptorIndex := 105, attributes := #[] }, { accessFlags := 1, nameIndex := 111, descriptorIndex := 112, attributes := #[] }, { accessFlags := 1, nameIndex := 8, descriptorIndex := 113, attributes := #[] }, { accessFlags := 1, nameIndex := 16, descriptorIndex := 116, attributes := #[] }, { accessFlags := 1, nameIndex := 29, descriptorIndex := 117, attributes := #[] }, { accessFlags := 1, nameIndex := 33, descriptorIndex := 117, attributes := #[] }, { accessFlags := 1, nameIndex := 18, descriptorIndex := 118, attributes := #[] }, { accessFlags := 1, nameIndex := 43, descriptorIndex := 120, attributes := #[] }, { accessFlags := 1, nameIndex := 47, descriptorIndex := 120, attributes := #[] }, { accessFlags := 1, nameIndex := 50, descriptorIndex := 120, attributes := #[] }, { accessFlags := 1, nameIndex := 53, descriptorIndex := 120, attributes := #[] }, { accessFlags := 1, nameIndex := 56, descriptorIndex := 121, attributes := #[] }, { accessFlags := 1, nameIndex := 60, descriptorIndex := 122, attributes := #[] }] 49 2 #[] #[{ accessFlags := 18, nameIndex := 8, descriptorIndex := 23, attributes := #[] }, { accessFlags := 18, nameIndex := 16, descriptorIndex := 26, attributes := #[] }, { accessFlags := 18, nameIndex := 29, descriptorIndex := 30, attributes := #[] }, { accessFlags := 18, nameIndex := 33, descriptorIndex := 30, attributes := #[] }, { accessFlags := 18, nameIndex := 18, descriptorIndex := 36, attributes := #[] }, { accessFlags := 18, nameIndex := 39, descriptorIndex := 40, attributes := #[] }, { accessFlags := 18, nameIndex := 43, descriptorIndex := 44, attributes := #[] }, { accessFlags := 18, nameIndex := 47, descriptorIndex := 44, attributes := #[] }, { accessFlags := 18, nameIndex := 50, descriptorIndex := 44, attributes := #[] }, { accessFlags := 18, nameIndex := 53, descriptorIndex := 44, attributes := #[] }, { accessFlags := 18, nameIndex := 56, descriptorIndex := 57, attributes := #[] }, { accessFlags := 18, nameIndex := 60, descriptorIndex := 61, attributes := #[] }])
  fields := #[{ name := "id", type := (.object "java/lang/String"), accessFlags := 18, slot := 0, constantValue := 0 }, { name := "side", type := (.object "org/matchstone/engine/Side"), accessFlags := 18, slot := 1, constantValue := 0 }, { name := "quantity", type := .long, accessFlags := 18, slot := 2, constantValue := 0 }, { name := "price", type := .long, accessFlags := 18, slot := 3, constantValue := 0 }, { name := "timeInForce", type := (.object "org/matchstone/engine/TimeInForce"), accessFlags := 18, slot := 4, constantValue := 0 }, { name := "expireTime", type := (.object "java/time/LocalTime"), accessFlags := 18, slot := 5, constantValue := 0 }, { name := "displayed", type := .boolean, accessFlags := 18, slot := 6, constantValue := 0 }, { name := "postOnly", type := .boolean, accessFlags := 18, slot := 7, constantValue := 0 }, { name := "swap", type := .boolean, accessFlags := 18, slot := 8, constantValue := 0 }, { name := "superAggressive", type := .boolean, accessFlags := 18, slot := 9, constantValue := 0 }, { name := "peg", type := (.object "org/matchstone/engine/Peg"), accessFlags := 18, slot := 10, constantValue := 0 }, { name := "minQuantity", type := (.object "org/matchstone/engine/MinQuantity"), accessFlags := 18, slot := 11, constantValue := 0 }]
  methods := #[k38m0, k38m1, k38m2, k38m3, k38m4, k38m5, k38m6, k38m7, k38m8, k38m9, k38m10, k38m11, k38m12, k38m13, k38m14]
  instanceTypes := #[(.object "java/lang/String"), (.object "org/matchstone/engine/Side"), .long, .long, (.object "org/matchstone/engine/TimeInForce"), (.object "java/time/LocalTime"), .boolean, .boolean, .boolean, .boolean, (.object "org/matchstone/engine/Peg"), (.object "org/matchstone/engine/MinQuantity")]
  staticTypes := #[]
  resolved := ((Array.replicate 156 none).setIfInBounds 76 (some (.field 39 6))).setIfInBounds 81 (some (.field 39 11))
  statics := none }

def pool39 : Array CpInfo := pool [(1, .methodref 2 3), (0, .class_ 4), (0, .nameAndType 5 6), (0, u "java/lang/Object"), (0, u "<init>"), (0, u "()V"), (0, .fieldref 8 9), (0, .class_ 10), (0, .nameAndType 11 12), (0, u "org/matchstone/engine/TimeInForce"), (0, u "DAY"), (0, u "Lorg/matchstone/engine/TimeInForce;"), (0, .fieldref 14 15), (0, .class_ 16), (0, .nameAndType 17 12), (0, u "org/matchstone/engine/NewOrder$Draft"), (0, u "timeInForce"), (0, .fieldref 14 19), (0, .nameAndType 20 21), (0, u "displayed"), (0, u "Z"), (0, .fieldref 14 23), (0, .nameAndType 24 25), (0, u "id"), (0, u "Ljava/lang/String;"), (0, .fieldref 14 27), (0, .nameAndType 28 29), (0, u "side"), (0, u "Lorg/matchstone/engine/Side;"), (0, .fieldref 14 31), (0, .nameAndType 32 33), (0, u "quantity"), (0, u "J"), (0, .fieldref 14 35), (0, .nameAndType 36 33), (0, u "price"), (0, .fieldref 38 23), (0, .class_ 39), (0, u "org/matchstone/engine/NewOrder"), (0, .fieldref 38 27), (0, .fieldref 38 31), (0, .fieldref 38 35), (0, .methodref 14 44), (0, .nameAndType 5 45), (0, u "(Ljava/lang/String;Lorg/matchstone/engine/Side;JJ)V"), (0, .fieldref 38 15), (0, .fieldref 38 48), (0, .nameAndType 49 50), (0, u "expireTime"), (0, u "Ljava/time/LocalTime;"), (0, .fieldref 14 48), (0, .fieldref 38 19), (0, .fieldref 38 54), (0, .nameAndType 55 21), (0, u "postOnly"), (0, .fieldref 14 54), (0, .fieldref 38 58), (0, .nameAndType 59 21), (0, u "swap"), (0, .fieldref 14 58), (0, .fieldref 38 62), (0, .nameAndType 63 21), (0, u "superAggressive"), (0, .fieldref 14 62), (0, .fieldref 38 66), (0, .nameAndType 67 68), (0, u "peg"), (0, u "Lorg/matchstone/engine/Peg;"), (0, .fieldref 14 66), (0, .fieldref 38 71), (0, .nameAndType 72 73), (0, u "minQuantity"), (0, u "Lorg/matchstone/engine/MinQuantity;"), (0, .fieldref 14 71), (0, .methodref 38 76), (0, .nameAndType 5 77), (0, u "(Ljava/lang/String;Lorg/matchstone/engine/Side;JJLorg/matchstone/engine/TimeInForce;Ljava/time/LocalTime;ZZZZLorg/matchstone/engine/Peg;Lorg/matchstone/engine/MinQuantity;)V"), (2, u "(Lorg/matchstone/engine/NewOrder;)V"), (0, u "order"), (0, u "()Lorg/matchstone/engine/NewOrder;")] 5

def k39c0 : Code := { maxStack := 3, maxLocals := 7, code := prog_23_method_1_code, exceptionTable := #[], attributes := #[] }
def k39m0 : Method := { name := "<init>", desc := "(Ljava/lang/String;Lorg/matchstone/engine/Side;JJ)V", sig := { parameters := [(.object "java/lang/String"), (.object "org/matchstone/engine/Side"), .long, .long], returnType := none }, accessFlags := 0, code := some k39c0 }
def k39c1 : Code := { maxStack := 7, maxLocals := 2, code := prog_23_method_2_code, exceptionTable := #[], attributes := #[] }
def k39m1 : Method := { name := "<init>", desc := "(Lorg/matchstone/engine/NewOrder;)V", sig := { parameters := [(.object "org/matchstone/engine/NewOrder")], returnType := none }, accessFlags := 0, code := some k39c1 }
def k39c2 : Code := { maxStack := 16, maxLocals := 1, code := prog_23_method_3_code, exceptionTable := #[], attributes := #[] }
def k39m2 : Method := { name := "order", desc := "()Lorg/matchstone/engine/NewOrder;", sig := { parameters := [], returnType := some (.object "org/matchstone/engine/NewOrder") }, accessFlags := 0, code := some k39c2 }
/-- org/matchstone/engine/NewOrder$Draft -/
def k39 : Class := { plain "org/matchstone/engine/NewOrder$Draft" (some 0) with
  accessFlags := 48
  interfaces := #[]
  cf := some (fileOf pool39 14 #[.nestHost 38] #[{ accessFlags := 0, nameIndex := 5, descriptorIndex := 45, attributes := #[] }, { accessFlags := 0, nameIndex := 5, descriptorIndex := 80, attributes := #[] }, { accessFlags := 0, nameIndex := 81, descriptorIndex := 82, attributes := #[] }] 48 2 #[] #[{ accessFlags := 18, nameIndex := 24, descriptorIndex := 25, attributes := #[] }, { accessFlags := 18, nameIndex := 28, descriptorIndex := 29, attributes := #[] }, { accessFlags := 18, nameIndex := 32, descriptorIndex := 33, attributes := #[] }, { accessFlags := 18, nameIndex := 36, descriptorIndex := 33, attributes := #[] }, { accessFlags := 2, nameIndex := 17, descriptorIndex := 12, attributes := #[] }, { accessFlags := 2, nameIndex := 49, descriptorIndex := 50, attributes := #[] }, { accessFlags := 2, nameIndex := 20, descriptorIndex := 21, attributes := #[] }, { accessFlags := 2, nameIndex := 55, descriptorIndex := 21, attributes := #[] }, { accessFlags := 2, nameIndex := 59, descriptorIndex := 21, attributes := #[] }, { accessFlags := 2, nameIndex := 63, descriptorIndex := 21, attributes := #[] }, { accessFlags := 2, nameIndex := 67, descriptorIndex := 68, attributes := #[] }, { accessFlags := 2, nameIndex := 72, descriptorIndex := 73, attributes := #[] }])
  fields := #[{ name := "id", type := (.object "java/lang/String"), accessFlags := 18, slot := 0, constantValue := 0 }, { name := "side", type := (.object "org/matchstone/engine/Side"), accessFlags := 18, slot := 1, constantValue := 0 }, { name := "quantity", type := .long, accessFlags := 18, slot := 2, constantValue := 0 }, { name := "price", type := .long, accessFlags := 18, slot := 3, constantValue := 0 }, { name := "timeInForce", type := (.object "org/matchstone/engine/TimeInForce"), accessFlags := 2, slot := 4, constantValue := 0 }, { name := "expireTime", type := (.object "java/time/LocalTime"), accessFlags := 2, slot := 5, constantValue := 0 }, { name := "displayed", type := .boolean, accessFlags := 2, slot := 6, constantValue := 0 }, { name := "postOnly", type := .boolean, accessFlags := 2, slot := 7, constantValue := 0 }, { name := "swap", type := .boolean, accessFlags := 2, slot := 8, constantValue := 0 }, { name := "superAggressive", type := .boolean, accessFlags := 2, slot := 9, constantValue := 0 }, { name := "peg", type := (.object "org/matchstone/engine/Peg"), accessFlags := 2, slot := 10, constantValue := 0 }, { name := "minQuantity", type := (.object "org/matchstone/engine/MinQuantity"), accessFlags := 2, slot := 11, constantValue := 0 }]
  methods := #[k39m0, k39m1, k39m2]
  instanceTypes := #[(.object "java/lang/String"), (.object "org/matchstone/engine/Side"), .long, .long, (.object "org/matchstone/engine/TimeInForce"), (.object "java/time/LocalTime"), .boolean, .boolean, .boolean, .boolean, (.object "org/matchstone/engine/Peg"), (.object "org/matchstone/engine/MinQuantity")]
  staticTypes := #[]
  resolved := Array.replicate 88 none
  statics := none }

def pool40 : Array CpInfo := pool [(1, .class_ 2), (0, u "org/matchstone/engine/TimeInForce"), (2, u "DAY"), (0, u "Lorg/matchstone/engine/TimeInForce;"), (2, u "RHO"), (2, u "PTD"), (2, u "GTX"), (2, u "PTX"), (2, u "GTD"), (2, u "IOC"), (2, u "$VALUES"), (0, u "[Lorg/matchstone/engine/TimeInForce;"), (6, .class_ 37), (1, u "java/lang/Enum"), (8, u "code"), (0, u "Ljava/lang/String;"), (2, u "start"), (0, u "Ljava/util/function/Function;"), (2, u "end")] 107

/-- org/matchstone/engine/TimeInForce -/
def k40 : Class := { plain "org/matchstone/engine/TimeInForce" (some 6) with
  accessFlags := 16433
  interfaces := #[]
  cf := some (fileOf pool40 1 #[] #[] 16433 35 #[] #[{ accessFlags := 16409, nameIndex := 5, descriptorIndex := 6, attributes := #[] }, { accessFlags := 16409, nameIndex := 9, descriptorIndex := 6, attributes := #[] }, { accessFlags := 16409, nameIndex := 12, descriptorIndex := 6, attributes := #[] }, { accessFlags := 16409, nameIndex := 15, descriptorIndex := 6, attributes := #[] }, { accessFlags := 16409, nameIndex := 18, descriptorIndex := 6, attributes := #[] }, { accessFlags := 16409, nameIndex := 21, descriptorIndex := 6, attributes := #[] }, { accessFlags := 16409, nameIndex := 24, descriptorIndex := 6, attributes := #[] }, { accessFlags := 18, nameIndex := 46, descriptorIndex := 47, attributes := #[] }, { accessFlags := 18, nameIndex := 50, descriptorIndex := 51, attributes := #[] }, { accessFlags := 18, nameIndex := 54, descriptorIndex := 51, attributes := #[] }, { accessFlags := 4122, nameIndex := 27, descriptorIndex := 28, attributes := #[] }])
  fields := #[{ name := "DAY", type := (.object "org/matchstone/engine/TimeInForce"), accessFlags := 16409, slot := 0, constantValue := 0 }, { name := "RHO", type := (.object "org/matchstone/engine/TimeInForce"), accessFlags := 16409, slot := 1, constantValue := 0 }, { name := "PTD", type := (.object "org/matchstone/engine/TimeInForce"), accessFlags := 16409, slot := 2, constantValue := 0 }, { name := "GTX", type := (.object "org/matchstone/engine/TimeInForce"), accessFlags := 16409, slot := 3, constantValue := 0 }, { name := "PTX", type := (.object "org/matchstone/engine/TimeInForce"), accessFlags := 16409, slot := 4, constantValue := 0 }, { name := "GTD", type := (.object "org/matchstone/engine/TimeInForce"), accessFlags := 16409, slot := 5, constantValue := 0 }, { name := "IOC", type := (.object "org/matchstone/engine/TimeInForce"), accessFlags := 16409, slot := 6, constantValue := 0 }, { name := "code", type := (.object "java/lang/String"), accessFlags := 18, slot := 3, constantValue := 0 }, { name := "start", type := (.object "java/util/function/Function"), accessFlags := 18, slot := 4, constantValue := 0 }, { name := "end", type := (.object "java/util/function/Function"), accessFlags := 18, slot := 5, constantValue := 0 }, { name := "$VALUES", type := (.array (.object "org/matchstone/engine/TimeInForce")), accessFlags := 4122, slot := 7, constantValue := 0 }]
  methods := #[]
  instanceTypes := #[(.object "java/lang/String"), .int, .int, (.object "java/lang/String"), (.object "java/util/function/Function"), (.object "java/util/function/Function")]
  staticTypes := #[(.object "org/matchstone/engine/TimeInForce"), (.object "org/matchstone/engine/TimeInForce"), (.object "org/matchstone/engine/TimeInForce"), (.object "org/matchstone/engine/TimeInForce"), (.object "org/matchstone/engine/TimeInForce"), (.object "org/matchstone/engine/TimeInForce"), (.object "org/matchstone/engine/TimeInForce"), (.array (.object "org/matchstone/engine/TimeInForce"))]
  resolved := Array.replicate 162 none
  statics := some 2 }

def pool41 : Array CpInfo := pool [(2, .class_ 4), (1, u "java/lang/Object"), (0, u "<init>"), (0, u "()V"), (35, .class_ 44), (1, u "java/util/Objects"), (0, u "requireNonNull"), (48, u "(Ljava/lang/Object;Ljava/lang/String;)Ljava/lang/Object;")] 89

def k41m0 : Method := { name := "<init>", desc := "()V", sig := { parameters := [], returnType := none }, accessFlags := 2, code := none }
def k41c1 : Code := { maxStack := 3, maxLocals := 2, code := jdk_31_method_11_code, exceptionTable := #[], attributes := #[] }
def k41m1 : Method := { name := "requireNonNull", desc := "(Ljava/lang/Object;Ljava/lang/String;)Ljava/lang/Object;", sig := { parameters := [(.object "java/lang/Object"), (.object "java/lang/String")], returnType := some (.object "java/lang/Object") }, accessFlags := 9, code := some k41c1 }
/-- java/util/Objects -/
def k41 : Class := { plain "java/util/Objects" (some 0) with
  accessFlags := 49
  interfaces := #[]
  cf := some (fileOf pool41 42 #[] #[{ accessFlags := 2, nameIndex := 5, descriptorIndex := 6, attributes := #[] }, { accessFlags := 9, nameIndex := 45, descriptorIndex := 94, attributes := #[] }] 49 2 #[] #[])
  fields := #[]
  methods := #[k41m0, k41m1]
  instanceTypes := #[]
  staticTypes := #[]
  resolved := Array.replicate 184 none
  statics := none }

def pool42 : Array CpInfo := pool [(1, .methodref 2 3), (0, .class_ 4), (0, .nameAndType 5 6), (0, u "java/lang/Object"), (0, u "<init>"), (0, u "()V"), (0, .methodref 8 9), (0, .class_ 10), (0, .nameAndType 11 12), (0, u "org/matchstone/engine/NewOrder"), (0, u "id"), (0, u "()Ljava/lang/String;"), (0, .fieldref 14 15), (0, .class_ 16), (0, .nameAndType 11 17), (0, u "org/matchstone/engine/BookSide$Order"), (0, u "Ljava/lang/String;"), (0, .methodref 8 19), (0, .nameAndType 20 21), (0, u "side"), (0, u "()Lorg/matchstone/engine/Side;"), (0, .fieldref 14 23), (0, .nameAndType 20 24), (0, u "Lorg/matchstone/engine/Side;"), (0, .fieldref 14 26), (0, .nameAndType 27 28), (0, u "price"), (0, u "J"), (0, .methodref 8 30), (0, .nameAndType 27 31), (0, u "()J"), (0, .fieldref 14 33), (0, .nameAndType 34 28), (0, u "limit"), (0, .methodref 8 36), (0, .nameAndType 37 38), (0, u "peg"), (0, u "()Lorg/matchstone/engine/Peg;"), (0, .fieldref 14 40), (0, .nameAndType 37 41), (0, u "Lorg/matchstone/engine/Peg;"), (0, .methodref 8 43), (0, .nameAndType 44 45), (0, u "displayed"), (0, u "()Z"), (0, .fieldref 14 47), (0, .nameAndType 44 48), (0, u "Z"), (0, .methodref 8 50), (0, .nameAndType 51 45), (0, u "postOnly"), (0, .fieldref 14 53), (0, .nameAndType 51 48), (0, .methodref 8 55), (0, .nameAndType 56 45), (0, u "swap"), (0, .fieldref 14 58), (0, .nameAndType 56 48), (0, .methodref 8 60), (0, .nameAndType 61 45), (0, u "superAggressive"), (0, .fieldref 14 63), (0, .nameAndType 61 48), (0, .methodref 8 65), (0, .nameAndType 66 67), (0, u "timeInForce"), (0, u "()Lorg/matchstone/engine/TimeInForce;"), (0, .fieldref 69 70), (0, .class_ 71), (0, .nameAndType 72 73), (0, u "org/matchstone/engine/TimeInForce"), (0, u "IOC"), (0, u "Lorg/matchstone/engine/TimeInForce;"), (0, .fieldref 14 75), (0, .nameAndType 76 48), (0, u "immediateOrCancel"), (0, .fieldref 14 78), (0, .nameAndType 79 80), (0, u "start"), (0, u "Ljava/time/LocalTime;"), (0, .fieldref 14 82), (0, .nameAndType 83 80), (0, u "end"), (0, .fieldref 14 85), (0, .nameAndType 86 28), (0, u "priority"), (0, .fieldref 14 88), (0, .nameAndType 89 28), (0, u "entered"), (0, .methodref 8 91), (0, .nameAndType 92 93), (0, u "minQuantity"), (0, u "()Lorg/matchstone/engine/MinQuantity;"), (0, .methodref 95 96), (0, .class_ 97), (0, .nameAndType 98 31), (0, u "org/matchstone/engine/MinQuantity"), (0, u "quantity"), (0, .fieldref 14 100), (0, .nameAndType 92 28), (0, .methodref 95 102), (0, .nameAndType 103 45), (0, u "singleOrder"), (0, .fieldref 14 105), (0, .nameAndType 106 48), (0, u "singleOrderMinimum"), (0, .methodref 8 96), (0, .fieldref 14 109), (0, .nameAndType 110 28), (0, u "open"), (15, u "waiting"), (0, u "waitingPlace"), (0, u "Lorg/matchstone/engine/TimeQueue$Place;"), (0, u "expiringPlace"), (0, u "level"), (0, u "Lorg/matchstone/engine/Level;"), (0, u "previous"), (0, u "Lorg/matchstone/engine/BookSide$Order;"), (0, u "next"), (0, u "(Lorg/matchstone/engine/NewOrder;JLjava/time/LocalTime;Ljava/time/LocalTime;J)V"), (13, .class_ 150), (0, u "org/matchstone/engine/BookSide")] 7

def k42c0 : Code := { maxStack := 3, maxLocals := 9, code := prog_7_method_1_code, exceptionTable := #[], attributes := #[] }
def k42m0 : Method := { name := "<init>", desc := "(Lorg/matchstone/engine/NewOrder;JLjava/time/LocalTime;Ljava/time/LocalTime;J)V", sig := { parameters := [(.object "org/matchstone/engine/NewOrder"), .long, (.object "java/time/LocalTime"), (.object "java/time/LocalTime"), .long], returnType := none }, accessFlags := 0, code := some k42c0 }
/-- org/matchstone/engine/BookSide$Order -/
def k42 : Class := { plain "org/matchstone/engine/BookSide$Order" (some 0) with
  accessFlags := 48
  interfaces := #[]
  cf := some (fileOf pool42 14 #[.nestHost 149] #[{ accessFlags := 0, nameIndex := 5, descriptorIndex := 135, attributes := #[] }] 48 2 #[] #[{ accessFlags := 16, nameIndex := 11, descriptorIndex := 17, attributes := #[] }, { accessFlags := 16, nameIndex := 20, descriptorIndex := 24, attributes := #[] }, { accessFlags := 0, nameIndex := 27, descriptorIndex := 28, attributes := #[] }, { accessFlags := 16, nameIndex := 34, descriptorIndex := 28, attributes := #[] }, { accessFlags := 16, nameIndex := 37, descriptorIndex := 41, attributes := #[] }, { accessFlags := 16, nameIndex := 44, descriptorIndex := 48, attributes := #[] }, { accessFlags := 16, nameIndex := 51, descriptorIndex := 48, attributes := #[] }, { accessFlags := 16, nameIndex := 56, descriptorIndex := 48, attributes := #[] }, { accessFlags := 16, nameIndex := 61, descriptorIndex := 48, attributes := #[] }, { accessFlags := 16, nameIndex := 76, descriptorIndex := 48, attributes := #[] }, { accessFlags := 16, nameIndex := 79, descriptorIndex := 80, attributes := #[] }, { accessFlags := 16, nameIndex := 83, descriptorIndex := 80, attributes := #[] }, { accessFlags := 0, nameIndex := 86, descriptorIndex := 28, attributes := #[] }, { accessFlags := 16, nameIndex := 89, descriptorIndex := 28, attributes := #[] }, { accessFlags := 0, nameIndex := 126, descriptorIndex := 48, attributes := #[] }, { accessFlags := 0, nameIndex := 127, descriptorIndex := 128, attributes := #[] }, { accessFlags := 0, nameIndex := 129, descriptorIndex := 128, attributes := #[] }, { accessFlags := 16, nameIndex := 92, descriptorIndex := 28, attributes := #[] }, { accessFlags := 16, nameIndex := 106, descriptorIndex := 48, attributes := #[] }, { accessFlags := 0, nameIndex := 110, descriptorIndex := 28, attributes := #[] }, { accessFlags := 2, nameIndex := 130, descriptorIndex := 131, attributes := #[] }, { accessFlags := 0, nameIndex := 132, descriptorIndex := 133, attributes := #[] }, { accessFlags := 0, nameIndex := 134, descriptorIndex := 133, attributes := #[] }])
  fields := #[{ name := "id", type := (.object "java/lang/String"), accessFlags := 16, slot := 0, constantValue := 0 }, { name := "side", type := (.object "org/matchstone/engine/Side"), accessFlags := 16, slot := 1, constantValue := 0 }, { name := "price", type := .long, accessFlags := 0, slot := 2, constantValue := 0 }, { name := "limit", type := .long, accessFlags := 16, slot := 3, constantValue := 0 }, { name := "peg", type := (.object "org/matchstone/engine/Peg"), accessFlags := 16, slot := 4, constantValue := 0 }, { name := "displayed", type := .boolean, accessFlags := 16, slot := 5, constantValue := 0 }, { name := "postOnly", type := .boolean, accessFlags := 16, slot := 6, constantValue := 0 }, { name := "swap", type := .boolean, accessFlags := 16, slot := 7, constantValue := 0 }, { name := "superAggressive", type := .boolean, accessFlags := 16, slot := 8, constantValue := 0 }, { name := "immediateOrCancel", type := .boolean, accessFlags := 16, slot := 9, constantValue := 0 }, { name := "start", type := (.object "java/time/LocalTime"), accessFlags := 16, slot := 10, constantValue := 0 }, { name := "end", type := (.object "java/time/LocalTime"), accessFlags := 16, slot := 11, constantValue := 0 }, { name := "priority", type := .long, accessFlags := 0, slot := 12, constantValue := 0 }, { name := "entered", type := .long, accessFlags := 16, slot := 13, constantValue := 0 }, { name := "waiting", type := .boolean, accessFlags := 0, slot := 14, constantValue := 0 }, { name := "waitingPlace", type := (.object "org/matchstone/engine/TimeQueue$Place"), accessFlags := 0, slot := 15, constantValue := 0 }, { name := "expiringPlace", type := (.object "org/matchstone/engine/TimeQueue$Place"), accessFlags := 0, slot := 16, constantValue := 0 }, { name := "minQuantity", type := .long, accessFlags := 16, slot := 17, constantValue := 0 }, { name := "singleOrderMinimum", type := .boolean, accessFlags := 16, slot := 18, constantValue := 0 }, { name := "open", type := .long, accessFlags := 0, slot := 19, constantValue := 0 }, { name := "level", type := (.object "org/matchstone/engine/Level"), accessFlags := 2, slot := 20, constantValue := 0 }, { name := "previous", type := (.object "org/matchstone/engine/BookSide$Order"), accessFlags := 0, slot := 21, constantValue := 0 }, { name := "next", type := (.object "org/matchstone/engine/BookSide$Order"), accessFlags := 0, slot := 22, constantValue := 0 }]
  methods := #[k42m0]
  instanceTypes := #[(.object "java/lang/String"), (.object "org/matchstone/engine/Side"), .long, .long, (.object "org/matchstone/engine/Peg"), .boolean, .boolean, .boolean, .boolean, .boolean, (.object "java/time/LocalTime"), (.object "java/time/LocalTime"), .long, .long, .boolean, (.object "org/matchstone/engine/TimeQueue$Place"), (.object "org/matchstone/engine/TimeQueue$Place"), .long, .boolean, .long, (.object "org/matchstone/engine/Level"), (.object "org/matchstone/engine/BookSide$Order"), (.object "org/matchstone/engine/BookSide$Order")]
  staticTypes := #[]
  resolved := Array.replicate 158 none
  statics := none }

def pool43 : Array CpInfo := pool [(1, .methodref 2 3), (0, .class_ 4), (0, .nameAndType 5 6), (0, u "java/lang/Record"), (0, u "<init>"), (0, u "()V"), (0, .fieldref 8 9), (0, .class_ 10), (0, .nameAndType 11 12), (0, u "org/matchstone/engine/BookSide$Place"), (0, u "price"), (0, u "J"), (0, .fieldref 8 14), (0, .nameAndType 15 12), (0, u "priority"), (2, .long 9223372036854775808), (1, .methodref 8 21), (0, .nameAndType 5 22), (0, u "(JJ)V"), (2, .fieldref 26 9), (0, .class_ 27), (0, u "org/matchstone/engine/BookSide$Order"), (0, .fieldref 26 14), (15, u "at"), (0, u "(J)Lorg/matchstone/engine/BookSide$Place;"), (1, u "behind"), (0, u "(Lorg/matchstone/engine/BookSide$Order;)Lorg/matchstone/engine/BookSide$Place;"), (7, .class_ 57), (0, u "org/matchstone/engine/BookSide")] 21

def k43c0 : Code := { maxStack := 3, maxLocals := 5, code := prog_8_method_1_code, exceptionTable := #[], attributes := #[] }
def k43m0 : Method := { name := "<init>", desc := "(JJ)V", sig := { parameters := [.long, .long], returnType := none }, accessFlags := 0, code := some k43c0 }
def k43c1 : Code := { maxStack := 6, maxLocals := 2, code := prog_8_method_2_code, exceptionTable := #[], attributes := #[] }
def k43m1 : Method := { name := "at", desc := "(J)Lorg/matchstone/engine/BookSide$Place;", sig := { parameters := [.long], returnType := some (.object "org/matchstone/engine/BookSide$Place") }, accessFlags := 8, code := some k43c1 }
def k43c2 : Code := { maxStack := 6, maxLocals := 1, code := prog_8_method_4_code, exceptionTable := #[], attributes := #[] }
def k43m2 : Method := { name := "behind", desc := "(Lorg/matchstone/engine/BookSide$Order;)Lorg/matchstone/engine/BookSide$Place;", sig := { parameters := [(.object "org/matchstone/engine/BookSide$Order")], returnType := some (.object "org/matchstone/engine/BookSide$Place") }, accessFlags := 8, code := some k43c2 }
/-- org/matchstone/engine/BookSide$Place -/
def k43 : Class := { plain "org/matchstone/engine/BookSide$Place" (some 37) with
  accessFlags := 48
  interfaces := #[]
  cf := some (fileOf pool43 8 #[.nestHost 56] #[{ accessFlags := 0, nameIndex := 5, descriptorIndex := 22, attributes := #[] }, { accessFlags := 8, nameIndex := 44, descriptorIndex := 45, attributes := #[] }, { accessFlags := 8, nameIndex := 47, descriptorIndex := 48, attributes := #[] }] 48 2 #[] #[{ accessFlags := 18, nameIndex := 11, descriptorIndex := 12, attributes := #[] }, { accessFlags := 18, nameIndex := 15, descriptorIndex := 12, attributes := #[] }])
  fields := #[{ name := "price", type := .long, accessFlags := 18, slot := 0, constantValue := 0 }, { name := "priority", type := .long, accessFlags := 18, slot := 1, constantValue := 0 }]
  methods := #[k43m0, k43m1, k43m2]
  instanceTypes := #[.long, .long]
  staticTypes := #[]
  resolved := Array.replicate 79 none
  statics := none }

def pool44 : Array CpInfo := pool [(1, .methodref 2 3), (0, .class_ 4), (0, .nameAndType 5 6), (0, u "java/lang/Record"), (0, u "<init>"), (0, u "()V"), (0, .fieldref 8 9), (0, .class_ 10), (0, .nameAndType 11 12), (0, u "org/matchstone/engine/MinQuantity"), (0, u "quantity"), (0, u "J"), (0, .fieldref 8 14), (0, .nameAndType 15 16), (0, u "singleOrder"), (0, u "Z"), (0, .methodref 8 18), (0, .nameAndType 5 19), (0, u "(JZ)V"), (15, u "aggregated"), (0, u "(J)Lorg/matchstone/engine/MinQuantity;"), (0, u "single"), (3, u "()J"), (0, u "()Z")] 21

def k44c0 : Code := { maxStack := 3, maxLocals := 4, code := prog_18_method_1_code, exceptionTable := #[], attributes := #[] }
def k44m0 : Method := { name := "<init>", desc := "(JZ)V", sig := { parameters := [.long, .boolean], returnType := none }, accessFlags := 1, code := some k44c0 }
def k44c1 : Code := { maxStack := 5, maxLocals := 2, code := prog_18_method_2_code, exceptionTable := #[], attributes := #[] }
def k44m1 : Method := { name := "aggregated", desc := "(J)Lorg/matchstone/engine/MinQuantity;", sig := { parameters := [.long], returnType := some (.object "org/matchstone/engine/MinQuantity") }, accessFlags := 9, code := some k44c1 }
def k44c2 : Code := { maxStack := 5, maxLocals := 2, code := prog_18_method_3_code, exceptionTable := #[], attributes := #[] }
def k44m2 : Method := { name := "single", desc := "(J)Lorg/matchstone/engine/MinQuantity;", sig := { parameters := [.long], returnType := some (.object "org/matchstone/engine/MinQuantity") }, accessFlags := 9, code := some k44c2 }
def k44c3 : Code := { maxStack := 2, maxLocals := 1, code := prog_18_method_7_code, exceptionTable := #[], attributes := #[] }
def k44m3 : Method := { name := "quantity", desc := "()J", sig := { parameters := [], returnType := some .long }, accessFlags := 1, code := some k44c3 }
def k44c4 : Code := { maxStack := 1, maxLocals := 1, code := prog_18_method_8_code, exceptionTable := #[], attributes := #[] }
def k44m4 : Method := { name := "singleOrder", desc := "()Z", sig := { parameters := [], returnType := some .boolean }, accessFlags := 1, code := some k44c4 }
/-- org/matchstone/engine/MinQuantity -/
def k44 : Class := { plain "org/matchstone/engine/MinQuantity" (some 37) with
  accessFlags := 49
  interfaces := #[]
  cf := some (fileOf pool44 8 #[] #[{ accessFlags := 1, nameIndex := 5, descriptorIndex := 19, attributes := #[] }, { accessFlags := 9, nameIndex := 35, descriptorIndex := 36, attributes := #[] }, { accessFlags := 9, nameIndex := 37, descriptorIndex := 36, attributes := #[] }, { accessFlags := 1, nameIndex := 11, descriptorIndex := 41, attributes := #[] }, { accessFlags := 1, nameIndex := 15, descriptorIndex := 42, attributes := #[] }] 49 2 #[] #[{ accessFlags := 18, nameIndex := 11, descriptorIndex := 12, attributes := #[] }, { accessFlags := 18, nameIndex := 15, descriptorIndex := 16, attributes := #[] }])
  fields := #[{ name := "quantity", type := .long, accessFlags := 18, slot := 0, constantValue := 0 }, { name := "singleOrder", type := .boolean, accessFlags := 18, slot := 1, constantValue := 0 }]
  methods := #[k44m0, k44m1, k44m2, k44m3, k44m4]
  instanceTypes := #[.long, .boolean]
  staticTypes := #[]
  resolved := Array.replicate 64 none
  statics := none }

/-- the primitive byte -/
def k45 : Class := { plain "byte" none with kind := .primitive 'B', accessFlags := 0x411 }
/-- [B -/
def k46 : Class := { plain "[B" (some 0) with kind := .array 45 .byte, interfaces := #[17, 5], accessFlags := 1041 }

/-- the primitive int -/
def k47 : Class := { plain "int" none with kind := .primitive 'I', accessFlags := 0x411 }
/-- [I -/
def k48 : Class := { plain "[I" (some 0) with kind := .array 47 .int, interfaces := #[17, 5], accessFlags := 1041 }

def heap : Heap := #[{ cls := 7, slots := #[.ref 3, .null, .null], vm := .statics 7 },
  { cls := 11, slots := #[.long 0, .ref 6], vm := .statics 11 },
  { cls := 40, slots := #[.ref 4, .null, .null, .null, .null, .null, .ref 5, .null], vm := .statics 40 },
  { cls := 7, slots := #[.null, .int 0, .int 0, .null], vm := .none },
  { cls := 40, slots := #[.null, .int 0, .int 0, .null, .null, .null], vm := .none },
  { cls := 40, slots := #[.null, .int 6, .int 0, .null, .null, .null], vm := .none },
  { cls := 11, slots := #[], vm := .none }]
def classes : Array Class := #[k0, k1, k2, k3, k4, k5, k6, k7, k8, k9, k10, k11, k12, k13, k14, k15, k16, k17, k18, k19, k20, k21, k22, k23, k24, k25, k26, k27, k28, k29, k30, k31, k32, k33, k34, k35, k36, k37, k38, k39, k40, k41, k42, k43, k44, k45, k46, k47, k48]
def interned : List (Array UInt16 × Addr) := []
def slotsUsed : Nat := 29
def theMethod : MethodId := ⟨1, 1⟩
def args0 : Array Value := #[.long 5, .long 6, .long 7, .int 3]
def aboutOver (below : List Frame) : State where
  vm := { classes := classes, interned := interned.toArray }
  heap := heap
  slotsUsed := slotsUsed
  threads := #[{ frames := .invoking theMethod args0 :: below }]
def below0 : List Frame := [.native { method := ⟨0, 0⟩, args := #[] }]
def about1 : State := aboutOver below0
def p0 : Program := .bare "" "" ""
def e0 : Env := launch0.env 0 0 0
theorem w_frames : about1.frames = Frame.invoking theMethod args0 :: below0 := rfl
set_option maxRecDepth 65536 in
theorem w_args : argsFit about1.vm theMethod args0 = true := by decide +kernel
set_option maxRecDepth 65536 in
theorem w_heap : heapFits about1 = true := by decide +kernel
set_option maxRecDepth 65536 in
theorem w_runnable : about1.curStatus? = some .runnable := by decide +kernel
set_option maxRecDepth 65536 in
theorem w_alone : about1.alone = true := by decide +kernel
set_option maxRecDepth 65536 in
theorem w_named : about1.methodNamed? x = some theMethod := by decide +kernel
set_option maxRecDepth 65536 in
theorem w_hears : about1.hears theMethod below0 = true := by decide +kernel
set_option maxRecDepth 65536 in
theorem w_ripe : about1.ripe theMethod args0 below0 = true := by decide +kernel
theorem w_running : about1.status = .running := rfl
set_option maxRecDepth 65536 in
theorem w_room : about1.hasRoom e0.platform room_1 = true :=
  launch0.hasRoom_least _ room_1 (by decide +kernel) (by decide +kernel) (by decide +kernel) (by decide +kernel) (by decide +kernel) (by decide +kernel)
theorem allAtoms_all (ts : List Jvm.Cond) (a : Array Jvm.Value) (st : Jvm.State) : (allAtoms ts).before a st = ts.all (fun c => c.before a st) := by
  induction ts with
  | nil => rfl
  | cons c t ih =>
    show (Jvm.Cond.and c (allAtoms t)).before a st = _
    rw [Jvm.Cond.before_and, ih, List.all_cons]
def words1 : List Jvm.Cond := Jvm.Cond.code x code maxLocals ret :: tables_1
/-- a 'code' word, met by the world's own term for the bytes: nothing is compared byte by byte -/
theorem code_word {y : MethodName} {bytes : ByteArray} {mx : Nat} {rt : Option FieldType} {a : Array Value} {s : State} {m : MethodId} {meth : Method} {c : Code} (h1 : s.methodNamed? y = some m) (h2 : s.vm.method? m = some meth) (h3 : meth.code = some c) (h4 : c.code = bytes)
    (h5 : (c.maxLocals == mx && c.exceptionTable.isEmpty && decide (c.maxStack ≤ mostOperands) && decide (meth.sig.returnType = rt) && !meth.locks && decide (parseMethodDescriptor y.desc = some meth.sig)) = true) : (Jvm.Cond.code y bytes mx rt).before a s = true := by
  simp only [Bool.and_eq_true, beq_iff_eq, Bool.not_eq_true', decide_eq_true_eq] at h5
  obtain ⟨⟨⟨⟨⟨g1, g2⟩, g3⟩, g4⟩, g5⟩, g6⟩ := h5
  simp [Cond.before, Cond.holds, Cond.value, h1, h2, h3, h4, g1, g2, g3, g4, g5, g6]
def isCode : Jvm.Cond → Bool
  | .code _ _ _ _ => true
  | _ => false
theorem all_split {L : List Jvm.Cond} {P : Jvm.Cond → Bool} (h1 : L.all (fun c => isCode c || P c) = true) (h2 : ∀ c ∈ L.filter isCode, P c = true) : L.all P = true := by
  refine List.all_eq_true.mpr fun c hc => ?_
  have h := List.all_eq_true.mp h1 c hc
  rcases Bool.eq_false_or_eq_true (isCode c) with hi | hi
  · exact h2 c (List.mem_filter.mpr ⟨hc, hi⟩)
  · simpa [hi] using h
set_option maxRecDepth 65536 in
theorem w_c0 : (Jvm.Cond.code x code maxLocals ret).before args0 about1 = true := code_word (m := ⟨1, 1⟩) (meth := k1m1) (c := k1c1) (by decide +kernel) rfl rfl rfl (by decide +kernel)
set_option maxRecDepth 65536 in
theorem w_c1 : (Jvm.Cond.code ({ cls := "org/matchstone/engine/BookSide", name := "<init>", desc := "(Lorg/matchstone/engine/Side;)V" } : Jvm.MethodName) prog_6_method_1_code (2 : Nat) (Option.none : Option Jvm.ClassFile.FieldType)).before args0 about1 = true := code_word (m := ⟨2, 0⟩) (meth := k2m0) (c := k2c0) (by decide +kernel) rfl rfl rfl (by decide +kernel)
set_option maxRecDepth 65536 in
theorem w_c2 : (Jvm.Cond.code ({ cls := "java/lang/Object", name := "<init>", desc := "()V" } : Jvm.MethodName) object_method_1_code (1 : Nat) (Option.none : Option Jvm.ClassFile.FieldType)).before args0 about1 = true := code_word (m := ⟨0, 0⟩) (meth := k0m0) (c := k0c0) (by decide +kernel) rfl rfl rfl (by decide +kernel)
set_option maxRecDepth 65536 in
theorem w_c3 : (Jvm.Cond.code ({ cls := "org/matchstone/engine/Ladder", name := "<init>", desc := "(Lorg/matchstone/engine/Side;)V" } : Jvm.MethodName) prog_14_method_1_code (3 : Nat) (Option.none : Option Jvm.ClassFile.FieldType)).before args0 about1 = true := code_word (m := ⟨8, 0⟩) (meth := k8m0) (c := k8c0) (by decide +kernel) rfl rfl rfl (by decide +kernel)
set_option maxRecDepth 65536 in
theorem w_c4 : (Jvm.Cond.code ({ cls := "java/util/Comparator", name := "reverseOrder", desc := "()Ljava/util/Comparator;" } : Jvm.MethodName) jdk_2515_method_10_code (0 : Nat) (Option.some (Jvm.ClassFile.FieldType.object "java/util/Comparator"))).before args0 about1 = true := code_word (m := ⟨9, 0⟩) (meth := k9m0) (c := k9c0) (by decide +kernel) rfl rfl rfl (by decide +kernel)
set_option maxRecDepth 65536 in
theorem w_c5 : (Jvm.Cond.code ({ cls := "java/util/Collections", name := "reverseOrder", desc := "()Ljava/util/Comparator;" } : Jvm.MethodName) jdk_79_method_77_code (0 : Nat) (Option.some (Jvm.ClassFile.FieldType.object "java/util/Comparator"))).before args0 about1 = true := code_word (m := ⟨10, 1⟩) (meth := k10m1) (c := k10c1) (by decide +kernel) rfl rfl rfl (by decide +kernel)
set_option maxRecDepth 65536 in
theorem w_c6 : (Jvm.Cond.code ({ cls := "java/util/TreeMap", name := "<init>", desc := "(Ljava/util/Comparator;)V" } : Jvm.MethodName) jdk_2729_method_2_code (2 : Nat) (Option.none : Option Jvm.ClassFile.FieldType)).before args0 about1 = true := code_word (m := ⟨18, 1⟩) (meth := k18m1) (c := k18c1) (by decide +kernel) rfl rfl rfl (by decide +kernel)
set_option maxRecDepth 65536 in
theorem w_c7 : (Jvm.Cond.code ({ cls := "java/util/AbstractMap", name := "<init>", desc := "()V" } : Jvm.MethodName) jdk_71_method_1_code (1 : Nat) (Option.none : Option Jvm.ClassFile.FieldType)).before args0 about1 = true := code_word (m := ⟨13, 0⟩) (meth := k13m0) (c := k13c0) (by decide +kernel) rfl rfl rfl (by decide +kernel)
set_option maxRecDepth 65536 in
theorem w_c8 : (Jvm.Cond.code ({ cls := "java/util/TreeSet", name := "<init>", desc := "(Ljava/util/Comparator;)V" } : Jvm.MethodName) jdk_2756_method_3_code (2 : Nat) (Option.none : Option Jvm.ClassFile.FieldType)).before args0 about1 = true := code_word (m := ⟨28, 2⟩) (meth := k28m2) (c := k28c2) (by decide +kernel) rfl rfl rfl (by decide +kernel)
set_option maxRecDepth 65536 in
theorem w_c9 : (Jvm.Cond.code ({ cls := "java/util/TreeSet", name := "<init>", desc := "(Ljava/util/NavigableMap;)V" } : Jvm.MethodName) jdk_2756_method_1_code (2 : Nat) (Option.none : Option Jvm.ClassFile.FieldType)).before args0 about1 = true := code_word (m := ⟨28, 0⟩) (meth := k28m0) (c := k28c0) (by decide +kernel) rfl rfl rfl (by decide +kernel)
set_option maxRecDepth 65536 in
theorem w_c10 : (Jvm.Cond.code ({ cls := "java/util/AbstractSet", name := "<init>", desc := "()V" } : Jvm.MethodName) jdk_91_method_1_code (1 : Nat) (Option.none : Option Jvm.ClassFile.FieldType)).before args0 about1 = true := code_word (m := ⟨23, 0⟩) (meth := k23m0) (c := k23c0) (by decide +kernel) rfl rfl rfl (by decide +kernel)
set_option maxRecDepth 65536 in
theorem w_c11 : (Jvm.Cond.code ({ cls := "java/util/AbstractCollection", name := "<init>", desc := "()V" } : Jvm.MethodName) jdk_22_method_1_code (1 : Nat) (Option.none : Option Jvm.ClassFile.FieldType)).before args0 about1 = true := code_word (m := ⟨21, 0⟩) (meth := k21m0) (c := k21c0) (by decide +kernel) rfl rfl rfl (by decide +kernel)
set_option maxRecDepth 65536 in
theorem w_c12 : (Jvm.Cond.code ({ cls := "org/matchstone/engine/MinimumIndex", name := "<init>", desc := "(Lorg/matchstone/engine/Side;)V" } : Jvm.MethodName) prog_19_method_1_code (2 : Nat) (Option.none : Option Jvm.ClassFile.FieldType)).before args0 about1 = true := code_word (m := ⟨29, 0⟩) (meth := k29m0) (c := k29c0) (by decide +kernel) rfl rfl rfl (by decide +kernel)
set_option maxRecDepth 65536 in
theorem w_c13 : (Jvm.Cond.code ({ cls := "org/matchstone/engine/OrderTree", name := "<init>", desc := "(Lorg/matchstone/engine/Side;)V" } : Jvm.MethodName) prog_29_method_1_code (2 : Nat) (Option.none : Option Jvm.ClassFile.FieldType)).before args0 about1 = true := code_word (m := ⟨31, 0⟩) (meth := k31m0) (c := k31c0) (by decide +kernel) rfl rfl rfl (by decide +kernel)
set_option maxRecDepth 65536 in
theorem w_c14 : (Jvm.Cond.code ({ cls := "org/matchstone/engine/BalancedTree", name := "<init>", desc := "()V" } : Jvm.MethodName) prog_3_method_1_code (1 : Nat) (Option.none : Option Jvm.ClassFile.FieldType)).before args0 about1 = true := code_word (m := ⟨30, 0⟩) (meth := k30m0) (c := k30c0) (by decide +kernel) rfl rfl rfl (by decide +kernel)
set_option maxRecDepth 65536 in
theorem w_c15 : (Jvm.Cond.code ({ cls := "org/matchstone/engine/MinimumIndex$Bucket", name := "<init>", desc := "(Lorg/matchstone/engine/Side;)V" } : Jvm.MethodName) prog_20_method_1_code (2 : Nat) (Option.none : Option Jvm.ClassFile.FieldType)).before args0 about1 = true := code_word (m := ⟨32, 0⟩) (meth := k32m0) (c := k32c0) (by decide +kernel) rfl rfl rfl (by decide +kernel)
set_option maxRecDepth 65536 in
theorem w_c16 : (Jvm.Cond.code ({ cls := "org/matchstone/engine/BookSide", name := "walk", desc := "()Lorg/matchstone/engine/BookSide$Walk;" } : Jvm.MethodName) prog_6_method_2_code (1 : Nat) (Option.some (Jvm.ClassFile.FieldType.object "org/matchstone/engine/BookSide$Walk"))).before args0 about1 = true := code_word (m := ⟨2, 1⟩) (meth := k2m1) (c := k2c1) (by decide +kernel) rfl rfl rfl (by decide +kernel)
set_option maxRecDepth 65536 in
theorem w_c17 : (Jvm.Cond.code ({ cls := "org/matchstone/engine/BookSide$Walk", name := "<init>", desc := "(Lorg/matchstone/engine/BookSide;)V" } : Jvm.MethodName) prog_11_method_1_code (2 : Nat) (Option.none : Option Jvm.ClassFile.FieldType)).before args0 about1 = true := code_word (m := ⟨33, 0⟩) (meth := k33m0) (c := k33c0) (by decide +kernel) rfl rfl rfl (by decide +kernel)
set_option maxRecDepth 65536 in
theorem w_c18 : (Jvm.Cond.code ({ cls := "org/matchstone/engine/NewOrder", name := "limit", desc := "(Ljava/lang/String;Lorg/matchstone/engine/Side;JJ)Lorg/matchstone/engine/NewOrder;" } : Jvm.MethodName) prog_22_method_2_code (6 : Nat) (Option.some (Jvm.ClassFile.FieldType.object "org/matchstone/engine/NewOrder"))).before args0 about1 = true := code_word (m := ⟨38, 1⟩) (meth := k38m1) (c := k38c1) (by decide +kernel) rfl rfl rfl (by decide +kernel)
set_option maxRecDepth 65536 in
theorem w_c19 : (Jvm.Cond.code ({ cls := "org/matchstone/engine/NewOrder$Draft", name := "<init>", desc := "(Ljava/lang/String;Lorg/matchstone/engine/Side;JJ)V" } : Jvm.MethodName) prog_23_method_1_code (7 : Nat) (Option.none : Option Jvm.ClassFile.FieldType)).before args0 about1 = true := code_word (m := ⟨39, 0⟩) (meth := k39m0) (c := k39c0) (by decide +kernel) rfl rfl rfl (by decide +kernel)
set_option maxRecDepth 65536 in
theorem w_c20 : (Jvm.Cond.code ({ cls := "org/matchstone/engine/NewOrder$Draft", name := "order", desc := "()Lorg/matchstone/engine/NewOrder;" } : Jvm.MethodName) prog_23_method_3_code (1 : Nat) (Option.some (Jvm.ClassFile.FieldType.object "org/matchstone/engine/NewOrder"))).before args0 about1 = true := code_word (m := ⟨39, 2⟩) (meth := k39m2) (c := k39c2) (by decide +kernel) rfl rfl rfl (by decide +kernel)
set_option maxRecDepth 65536 in
theorem w_c21 : (Jvm.Cond.code ({ cls := "org/matchstone/engine/NewOrder", name := "<init>", desc := "(Ljava/lang/String;Lorg/matchstone/engine/Side;JJLorg/matchstone/engine/TimeInForce;Ljava/time/LocalTime;ZZZZLorg/matchstone/engine/Peg;Lorg/matchstone/engine/MinQuantity;)V" } : Jvm.MethodName) prog_22_method_1_code (15 : Nat) (Option.none : Option Jvm.ClassFile.FieldType)).before args0 about1 = true := code_word (m := ⟨38, 0⟩) (meth := k38m0) (c := k38c0) (by decide +kernel) rfl rfl rfl (by decide +kernel)
set_option maxRecDepth 65536 in
theorem w_c22 : (Jvm.Cond.code ({ cls := "java/lang/Record", name := "<init>", desc := "()V" } : Jvm.MethodName) jdk_30_method_1_code (1 : Nat) (Option.none : Option Jvm.ClassFile.FieldType)).before args0 about1 = true := code_word (m := ⟨37, 0⟩) (meth := k37m0) (c := k37c0) (by decide +kernel) rfl rfl rfl (by decide +kernel)
set_option maxRecDepth 65536 in
theorem w_c23 : (Jvm.Cond.code ({ cls := "java/util/Objects", name := "requireNonNull", desc := "(Ljava/lang/Object;Ljava/lang/String;)Ljava/lang/Object;" } : Jvm.MethodName) jdk_31_method_11_code (2 : Nat) (Option.some (Jvm.ClassFile.FieldType.object "java/lang/Object"))).before args0 about1 = true := code_word (m := ⟨41, 1⟩) (meth := k41m1) (c := k41c1) (by decide +kernel) rfl rfl rfl (by decide +kernel)
set_option maxRecDepth 65536 in
theorem w_c24 : (Jvm.Cond.code ({ cls := "org/matchstone/engine/NewOrder", name := "withDisplayed", desc := "(Z)Lorg/matchstone/engine/NewOrder;" } : Jvm.MethodName) prog_22_method_5_code (3 : Nat) (Option.some (Jvm.ClassFile.FieldType.object "org/matchstone/engine/NewOrder"))).before args0 about1 = true := code_word (m := ⟨38, 2⟩) (meth := k38m2) (c := k38c2) (by decide +kernel) rfl rfl rfl (by decide +kernel)
set_option maxRecDepth 65536 in
theorem w_c25 : (Jvm.Cond.code ({ cls := "org/matchstone/engine/NewOrder$Draft", name := "<init>", desc := "(Lorg/matchstone/engine/NewOrder;)V" } : Jvm.MethodName) prog_23_method_2_code (2 : Nat) (Option.none : Option Jvm.ClassFile.FieldType)).before args0 about1 = true := code_word (m := ⟨39, 1⟩) (meth := k39m1) (c := k39c1) (by decide +kernel) rfl rfl rfl (by decide +kernel)
set_option maxRecDepth 65536 in
theorem w_c26 : (Jvm.Cond.code ({ cls := "org/matchstone/engine/BookSide$Order", name := "<init>", desc := "(Lorg/matchstone/engine/NewOrder;JLjava/time/LocalTime;Ljava/time/LocalTime;J)V" } : Jvm.MethodName) prog_7_method_1_code (9 : Nat) (Option.none : Option Jvm.ClassFile.FieldType)).before args0 about1 = true := code_word (m := ⟨42, 0⟩) (meth := k42m0) (c := k42c0) (by decide +kernel) rfl rfl rfl (by decide +kernel)
set_option maxRecDepth 65536 in
theorem w_c27 : (Jvm.Cond.code ({ cls := "org/matchstone/engine/NewOrder", name := "id", desc := "()Ljava/lang/String;" } : Jvm.MethodName) prog_22_method_14_code (1 : Nat) (Option.some (Jvm.ClassFile.FieldType.object "java/lang/String"))).before args0 about1 = true := code_word (m := ⟨38, 4⟩) (meth := k38m4) (c := k38c4) (by decide +kernel) rfl rfl rfl (by decide +kernel)
set_option maxRecDepth 65536 in
theorem w_c28 : (Jvm.Cond.code ({ cls := "org/matchstone/engine/NewOrder", name := "side", desc := "()Lorg/matchstone/engine/Side;" } : Jvm.MethodName) prog_22_method_15_code (1 : Nat) (Option.some (Jvm.ClassFile.FieldType.object "org/matchstone/engine/Side"))).before args0 about1 = true := code_word (m := ⟨38, 5⟩) (meth := k38m5) (c := k38c5) (by decide +kernel) rfl rfl rfl (by decide +kernel)
set_option maxRecDepth 65536 in
theorem w_c29 : (Jvm.Cond.code ({ cls := "org/matchstone/engine/NewOrder", name := "price", desc := "()J" } : Jvm.MethodName) prog_22_method_17_code (1 : Nat) (Option.some Jvm.ClassFile.FieldType.long)).before args0 about1 = true := code_word (m := ⟨38, 7⟩) (meth := k38m7) (c := k38c7) (by decide +kernel) rfl rfl rfl (by decide +kernel)
set_option maxRecDepth 65536 in
theorem w_c30 : (Jvm.Cond.code ({ cls := "org/matchstone/engine/NewOrder", name := "peg", desc := "()Lorg/matchstone/engine/Peg;" } : Jvm.MethodName) prog_22_method_24_code (1 : Nat) (Option.some (Jvm.ClassFile.FieldType.object "org/matchstone/engine/Peg"))).before args0 about1 = true := code_word (m := ⟨38, 13⟩) (meth := k38m13) (c := k38c13) (by decide +kernel) rfl rfl rfl (by decide +kernel)
set_option maxRecDepth 65536 in
theorem w_c31 : (Jvm.Cond.code ({ cls := "org/matchstone/engine/NewOrder", name := "displayed", desc := "()Z" } : Jvm.MethodName) prog_22_method_20_code (1 : Nat) (Option.some Jvm.ClassFile.FieldType.boolean)).before args0 about1 = true := code_word (m := ⟨38, 9⟩) (meth := k38m9) (c := k38c9) (by decide +kernel) rfl rfl rfl (by decide +kernel)
set_option maxRecDepth 65536 in
theorem w_c32 : (Jvm.Cond.code ({ cls := "org/matchstone/engine/NewOrder", name := "postOnly", desc := "()Z" } : Jvm.MethodName) prog_22_method_21_code (1 : Nat) (Option.some Jvm.ClassFile.FieldType.boolean)).before args0 about1 = true := code_word (m := ⟨38, 10⟩) (meth := k38m10) (c := k38c10) (by decide +kernel) rfl rfl rfl (by decide +kernel)
set_option maxRecDepth 65536 in
theorem w_c33 : (Jvm.Cond.code ({ cls := "org/matchstone/engine/NewOrder", name := "swap", desc := "()Z" } : Jvm.MethodName) prog_22_method_22_code (1 : Nat) (Option.some Jvm.ClassFile.FieldType.boolean)).before args0 about1 = true := code_word (m := ⟨38, 11⟩) (meth := k38m11) (c := k38c11) (by decide +kernel) rfl rfl rfl (by decide +kernel)
set_option maxRecDepth 65536 in
theorem w_c34 : (Jvm.Cond.code ({ cls := "org/matchstone/engine/NewOrder", name := "superAggressive", desc := "()Z" } : Jvm.MethodName) prog_22_method_23_code (1 : Nat) (Option.some Jvm.ClassFile.FieldType.boolean)).before args0 about1 = true := code_word (m := ⟨38, 12⟩) (meth := k38m12) (c := k38c12) (by decide +kernel) rfl rfl rfl (by decide +kernel)
set_option maxRecDepth 65536 in
theorem w_c35 : (Jvm.Cond.code ({ cls := "org/matchstone/engine/NewOrder", name := "timeInForce", desc := "()Lorg/matchstone/engine/TimeInForce;" } : Jvm.MethodName) prog_22_method_18_code (1 : Nat) (Option.some (Jvm.ClassFile.FieldType.object "org/matchstone/engine/TimeInForce"))).before args0 about1 = true := code_word (m := ⟨38, 8⟩) (meth := k38m8) (c := k38c8) (by decide +kernel) rfl rfl rfl (by decide +kernel)
set_option maxRecDepth 65536 in
theorem w_c36 : (Jvm.Cond.code ({ cls := "org/matchstone/engine/NewOrder", name := "minQuantity", desc := "()Lorg/matchstone/engine/MinQuantity;" } : Jvm.MethodName) prog_22_method_25_code (1 : Nat) (Option.some (Jvm.ClassFile.FieldType.object "org/matchstone/engine/MinQuantity"))).before args0 about1 = true := code_word (m := ⟨38, 14⟩) (meth := k38m14) (c := k38c14) (by decide +kernel) rfl rfl rfl (by decide +kernel)
set_option maxRecDepth 65536 in
theorem w_c37 : (Jvm.Cond.code ({ cls := "org/matchstone/engine/NewOrder", name := "quantity", desc := "()J" } : Jvm.MethodName) prog_22_method_16_code (1 : Nat) (Option.some Jvm.ClassFile.FieldType.long)).before args0 about1 = true := code_word (m := ⟨38, 6⟩) (meth := k38m6) (c := k38c6) (by decide +kernel) rfl rfl rfl (by decide +kernel)
set_option maxRecDepth 65536 in
theorem w_c38 : (Jvm.Cond.code ({ cls := "org/matchstone/engine/BookSide$Walk", name := "step", desc := "(Lorg/matchstone/engine/BookSide$Order;)V" } : Jvm.MethodName) prog_11_method_5_code (2 : Nat) (Option.none : Option Jvm.ClassFile.FieldType)).before args0 about1 = true := code_word (m := ⟨33, 2⟩) (meth := k33m2) (c := k33c2) (by decide +kernel) rfl rfl rfl (by decide +kernel)
set_option maxRecDepth 65536 in
theorem w_c39 : (Jvm.Cond.code ({ cls := "org/matchstone/engine/BookSide$Place", name := "behind", desc := "(Lorg/matchstone/engine/BookSide$Order;)Lorg/matchstone/engine/BookSide$Place;" } : Jvm.MethodName) prog_8_method_4_code (1 : Nat) (Option.some (Jvm.ClassFile.FieldType.object "org/matchstone/engine/BookSide$Place"))).before args0 about1 = true := code_word (m := ⟨43, 2⟩) (meth := k43m2) (c := k43c2) (by decide +kernel) rfl rfl rfl (by decide +kernel)
set_option maxRecDepth 65536 in
theorem w_c40 : (Jvm.Cond.code ({ cls := "org/matchstone/engine/BookSide$Place", name := "<init>", desc := "(JJ)V" } : Jvm.MethodName) prog_8_method_1_code (5 : Nat) (Option.none : Option Jvm.ClassFile.FieldType)).before args0 about1 = true := code_word (m := ⟨43, 0⟩) (meth := k43m0) (c := k43c0) (by decide +kernel) rfl rfl rfl (by decide +kernel)
set_option maxRecDepth 65536 in
theorem w_c41 : (Jvm.Cond.code ({ cls := "org/matchstone/engine/BookSide$Walk", name := "nextBehind", desc := "(J)Lorg/matchstone/engine/BookSide$Order;" } : Jvm.MethodName) prog_11_method_4_code (4 : Nat) (Option.some (Jvm.ClassFile.FieldType.object "org/matchstone/engine/BookSide$Order"))).before args0 about1 = true := code_word (m := ⟨33, 1⟩) (meth := k33m1) (c := k33c1) (by decide +kernel) rfl rfl rfl (by decide +kernel)
set_option maxRecDepth 65536 in
theorem w_c42 : (Jvm.Cond.code ({ cls := "org/matchstone/engine/MinQuantity", name := "aggregated", desc := "(J)Lorg/matchstone/engine/MinQuantity;" } : Jvm.MethodName) prog_18_method_2_code (2 : Nat) (Option.some (Jvm.ClassFile.FieldType.object "org/matchstone/engine/MinQuantity"))).before args0 about1 = true := code_word (m := ⟨44, 1⟩) (meth := k44m1) (c := k44c1) (by decide +kernel) rfl rfl rfl (by decide +kernel)
set_option maxRecDepth 65536 in
theorem w_c43 : (Jvm.Cond.code ({ cls := "org/matchstone/engine/MinQuantity", name := "<init>", desc := "(JZ)V" } : Jvm.MethodName) prog_18_method_1_code (4 : Nat) (Option.none : Option Jvm.ClassFile.FieldType)).before args0 about1 = true := code_word (m := ⟨44, 0⟩) (meth := k44m0) (c := k44c0) (by decide +kernel) rfl rfl rfl (by decide +kernel)
set_option maxRecDepth 65536 in
theorem w_c44 : (Jvm.Cond.code ({ cls := "org/matchstone/engine/NewOrder", name := "withMinQuantity", desc := "(Lorg/matchstone/engine/MinQuantity;)Lorg/matchstone/engine/NewOrder;" } : Jvm.MethodName) prog_22_method_10_code (3 : Nat) (Option.some (Jvm.ClassFile.FieldType.object "org/matchstone/engine/NewOrder"))).before args0 about1 = true := code_word (m := ⟨38, 3⟩) (meth := k38m3) (c := k38c3) (by decide +kernel) rfl rfl rfl (by decide +kernel)
set_option maxRecDepth 65536 in
theorem w_c45 : (Jvm.Cond.code ({ cls := "org/matchstone/engine/MinQuantity", name := "quantity", desc := "()J" } : Jvm.MethodName) prog_18_method_7_code (1 : Nat) (Option.some Jvm.ClassFile.FieldType.long)).before args0 about1 = true := code_word (m := ⟨44, 3⟩) (meth := k44m3) (c := k44c3) (by decide +kernel) rfl rfl rfl (by decide +kernel)
set_option maxRecDepth 65536 in
theorem w_c46 : (Jvm.Cond.code ({ cls := "org/matchstone/engine/MinQuantity", name := "singleOrder", desc := "()Z" } : Jvm.MethodName) prog_18_method_8_code (1 : Nat) (Option.some Jvm.ClassFile.FieldType.boolean)).before args0 about1 = true := code_word (m := ⟨44, 4⟩) (meth := k44m4) (c := k44c4) (by decide +kernel) rfl rfl rfl (by decide +kernel)
set_option maxRecDepth 65536 in
theorem w_c47 : (Jvm.Cond.code ({ cls := "org/matchstone/engine/MinQuantity", name := "single", desc := "(J)Lorg/matchstone/engine/MinQuantity;" } : Jvm.MethodName) prog_18_method_3_code (2 : Nat) (Option.some (Jvm.ClassFile.FieldType.object "org/matchstone/engine/MinQuantity"))).before args0 about1 = true := code_word (m := ⟨44, 2⟩) (meth := k44m2) (c := k44c2) (by decide +kernel) rfl rfl rfl (by decide +kernel)
set_option maxRecDepth 65536 in
theorem w_c48 : (Jvm.Cond.code ({ cls := "org/matchstone/engine/BookSide$Place", name := "at", desc := "(J)Lorg/matchstone/engine/BookSide$Place;" } : Jvm.MethodName) prog_8_method_2_code (2 : Nat) (Option.some (Jvm.ClassFile.FieldType.object "org/matchstone/engine/BookSide$Place"))).before args0 about1 = true := code_word (m := ⟨43, 1⟩) (meth := k43m1) (c := k43c1) (by decide +kernel) rfl rfl rfl (by decide +kernel)
def codes1 : List Jvm.Cond := [Jvm.Cond.code x code maxLocals ret, Jvm.Cond.code ({ cls := "org/matchstone/engine/BookSide", name := "<init>", desc := "(Lorg/matchstone/engine/Side;)V" } : Jvm.MethodName) prog_6_method_1_code (2 : Nat) (Option.none : Option Jvm.ClassFile.FieldType), Jvm.Cond.code ({ cls := "java/lang/Object", name := "<init>", desc := "()V" } : Jvm.MethodName) object_method_1_code (1 : Nat) (Option.none : Option Jvm.ClassFile.FieldType), Jvm.Cond.code ({ cls := "org/matchstone/engine/Ladder", name := "<init>", desc := "(Lorg/matchstone/engine/Side;)V" } : Jvm.MethodName) prog_14_method_1_code (3 : Nat) (Option.none : Option Jvm.ClassFile.FieldType), Jvm.Cond.code ({ cls := "java/util/Comparator", name := "reverseOrder", desc := "()Ljava/util/Comparator;" } : Jvm.MethodName) jdk_2515_method_10_code (0 : Nat) (Option.some (Jvm.ClassFile.FieldType.object "java/util/Comparator")), Jvm.Cond.code ({ cls := "java/util/Collections", name := "reverseOrder", desc := "()Ljava/util/Comparator;" } : Jvm.MethodName) jdk_79_method_77_code (0 : Nat) (Option.some (Jvm.ClassFile.FieldType.object "java/util/Comparator")), Jvm.Cond.code ({ cls := "java/util/TreeMap", name := "<init>", desc := "(Ljava/util/Comparator;)V" } : Jvm.MethodName) jdk_2729_method_2_code (2 : Nat) (Option.none : Option Jvm.ClassFile.FieldType), Jvm.Cond.code ({ cls := "java/util/AbstractMap", name := "<init>", desc := "()V" } : Jvm.MethodName) jdk_71_method_1_code (1 : Nat) (Option.none : Option Jvm.ClassFile.FieldType), Jvm.Cond.code ({ cls := "java/util/TreeSet", name := "<init>", desc := "(Ljava/util/Comparator;)V" } : Jvm.MethodName) jdk_2756_method_3_code (2 : Nat) (Option.none : Option Jvm.ClassFile.FieldType), Jvm.Cond.code ({ cls := "java/util/TreeSet", name := "<init>", desc := "(Ljava/util/NavigableMap;)V" } : Jvm.MethodName) jdk_2756_method_1_code (2 : Nat) (Option.none : Option Jvm.ClassFile.FieldType), Jvm.Cond.code ({ cls := "java/util/AbstractSet", name := "<init>", desc := "()V" } : Jvm.MethodName) jdk_91_method_1_code (1 : Nat) (Option.none : Option Jvm.ClassFile.FieldType), Jvm.Cond.code ({ cls := "java/util/AbstractCollection", name := "<init>", desc := "()V" } : Jvm.MethodName) jdk_22_method_1_code (1 : Nat) (Option.none : Option Jvm.ClassFile.FieldType), Jvm.Cond.code ({ cls := "org/matchstone/engine/MinimumIndex", name := "<init>", desc := "(Lorg/matchstone/engine/Side;)V" } : Jvm.MethodName) prog_19_method_1_code (2 : Nat) (Option.none : Option Jvm.ClassFile.FieldType), Jvm.Cond.code ({ cls := "org/matchstone/engine/OrderTree", name := "<init>", desc := "(Lorg/matchstone/engine/Side;)V" } : Jvm.MethodName) prog_29_method_1_code (2 : Nat) (Option.none : Option Jvm.ClassFile.FieldType), Jvm.Cond.code ({ cls := "org/matchstone/engine/BalancedTree", name := "<init>", desc := "()V" } : Jvm.MethodName) prog_3_method_1_code (1 : Nat) (Option.none : Option Jvm.ClassFile.FieldType), Jvm.Cond.code ({ cls := "org/matchstone/engine/MinimumIndex$Bucket", name := "<init>", desc := "(Lorg/matchstone/engine/Side;)V" } : Jvm.MethodName) prog_20_method_1_code (2 : Nat) (Option.none : Option Jvm.ClassFile.FieldType), Jvm.Cond.code ({ cls := "org/matchstone/engine/BookSide", name := "walk", desc := "()Lorg/matchstone/engine/BookSide$Walk;" } : Jvm.MethodName) prog_6_method_2_code (1 : Nat) (Option.some (Jvm.ClassFile.FieldType.object "org/matchstone/engine/BookSide$Walk")), Jvm.Cond.code ({ cls := "org/matchstone/engine/BookSide$Walk", name := "<init>", desc := "(Lorg/matchstone/engine/BookSide;)V" } : Jvm.MethodName) prog_11_method_1_code (2 : Nat) (Option.none : Option Jvm.ClassFile.FieldType), Jvm.Cond.code ({ cls := "org/matchstone/engine/NewOrder", name := "limit", desc := "(Ljava/lang/String;Lorg/matchstone/engine/Side;JJ)Lorg/matchstone/engine/NewOrder;" } : Jvm.MethodName) prog_22_method_2_code (6 : Nat) (Option.some (Jvm.ClassFile.FieldType.object "org/matchstone/engine/NewOrder")), Jvm.Cond.code ({ cls := "org/matchstone/engine/NewOrder$Draft", name := "<init>", desc := "(Ljava/lang/String;Lorg/matchstone/engine/Side;JJ)V" } : Jvm.MethodName) prog_23_method_1_code (7 : Nat) (Option.none : Option Jvm.ClassFile.FieldType), Jvm.Cond.code ({ cls := "org/matchstone/engine/NewOrder$Draft", name := "order", desc := "()Lorg/matchstone/engine/NewOrder;" } : Jvm.MethodName) prog_23_method_3_code (1 : Nat) (Option.some (Jvm.ClassFile.FieldType.object "org/matchstone/engine/NewOrder")), Jvm.Cond.code ({ cls := "org/matchstone/engine/NewOrder", name := "<init>", desc := "(Ljava/lang/String;Lorg/matchstone/engine/Side;JJLorg/matchstone/engine/TimeInForce;Ljava/time/LocalTime;ZZZZLorg/matchstone/engine/Peg;Lorg/matchstone/engine/MinQuantity;)V" } : Jvm.MethodName) prog_22_method_1_code (15 : Nat) (Option.none : Option Jvm.ClassFile.FieldType), Jvm.Cond.code ({ cls := "java/lang/Record", name := "<init>", desc := "()V" } : Jvm.MethodName) jdk_30_method_1_code (1 : Nat) (Option.none : Option Jvm.ClassFile.FieldType), Jvm.Cond.code ({ cls := "java/util/Objects", name := "requireNonNull", desc := "(Ljava/lang/Object;Ljava/lang/String;)Ljava/lang/Object;" } : Jvm.MethodName) jdk_31_method_11_code (2 : Nat) (Option.some (Jvm.ClassFile.FieldType.object "java/lang/Object")), Jvm.Cond.code ({ cls := "org/matchstone/engine/NewOrder", name := "withDisplayed", desc := "(Z)Lorg/matchstone/engine/NewOrder;" } : Jvm.MethodName) prog_22_method_5_code (3 : Nat) (Option.some (Jvm.ClassFile.FieldType.object "org/matchstone/engine/NewOrder")), Jvm.Cond.code ({ cls := "org/matchstone/engine/NewOrder$Draft", name := "<init>", desc := "(Lorg/matchstone/engine/NewOrder;)V" } : Jvm.MethodName) prog_23_method_2_code (2 : Nat) (Option.none : Option Jvm.ClassFile.FieldType), Jvm.Cond.code ({ cls := "org/matchstone/engine/BookSide$Order", name := "<init>", desc := "(Lorg/matchstone/engine/NewOrder;JLjava/time/LocalTime;Ljava/time/LocalTime;J)V" } : Jvm.MethodName) prog_7_method_1_code (9 : Nat) (Option.none : Option Jvm.ClassFile.FieldType), Jvm.Cond.code ({ cls := "org/matchstone/engine/NewOrder", name := "id", desc := "()Ljava/lang/String;" } : Jvm.MethodName) prog_22_method_14_code (1 : Nat) (Option.some (Jvm.ClassFile.FieldType.object "java/lang/String")), Jvm.Cond.code ({ cls := "org/matchstone/engine/NewOrder", name := "side", desc := "()Lorg/matchstone/engine/Side;" } : Jvm.MethodName) prog_22_method_15_code (1 : Nat) (Option.some (Jvm.ClassFile.FieldType.object "org/matchstone/engine/Side")), Jvm.Cond.code ({ cls := "org/matchstone/engine/NewOrder", name := "price", desc := "()J" } : Jvm.MethodName) prog_22_method_17_code (1 : Nat) (Option.some Jvm.ClassFile.FieldType.long), Jvm.Cond.code ({ cls := "org/matchstone/engine/NewOrder", name := "peg", desc := "()Lorg/matchstone/engine/Peg;" } : Jvm.MethodName) prog_22_method_24_code (1 : Nat) (Option.some (Jvm.ClassFile.FieldType.object "org/matchstone/engine/Peg")), Jvm.Cond.code ({ cls := "org/matchstone/engine/NewOrder", name := "displayed", desc := "()Z" } : Jvm.MethodName) prog_22_method_20_code (1 : Nat) (Option.some Jvm.ClassFile.FieldType.boolean), Jvm.Cond.code ({ cls := "org/matchstone/engine/NewOrder", name := "postOnly", desc := "()Z" } : Jvm.MethodName) prog_22_method_21_code (1 : Nat) (Option.some Jvm.ClassFile.FieldType.boolean), Jvm.Cond.code ({ cls := "org/matchstone/engine/NewOrder", name := "swap", desc := "()Z" } : Jvm.MethodName) prog_22_method_22_code (1 : Nat) (Option.some Jvm.ClassFile.FieldType.boolean), Jvm.Cond.code ({ cls := "org/matchstone/engine/NewOrder", name := "superAggressive", desc := "()Z" } : Jvm.MethodName) prog_22_method_23_code (1 : Nat) (Option.some Jvm.ClassFile.FieldType.boolean), Jvm.Cond.code ({ cls := "org/matchstone/engine/NewOrder", name := "timeInForce", desc := "()Lorg/matchstone/engine/TimeInForce;" } : Jvm.MethodName) prog_22_method_18_code (1 : Nat) (Option.some (Jvm.ClassFile.FieldType.object "org/matchstone/engine/TimeInForce")), Jvm.Cond.code ({ cls := "org/matchstone/engine/NewOrder", name := "minQuantity", desc := "()Lorg/matchstone/engine/MinQuantity;" } : Jvm.MethodName) prog_22_method_25_code (1 : Nat) (Option.some (Jvm.ClassFile.FieldType.object "org/matchstone/engine/MinQuantity")), Jvm.Cond.code ({ cls := "org/matchstone/engine/NewOrder", name := "quantity", desc := "()J" } : Jvm.MethodName) prog_22_method_16_code (1 : Nat) (Option.some Jvm.ClassFile.FieldType.long), Jvm.Cond.code ({ cls := "org/matchstone/engine/BookSide$Walk", name := "step", desc := "(Lorg/matchstone/engine/BookSide$Order;)V" } : Jvm.MethodName) prog_11_method_5_code (2 : Nat) (Option.none : Option Jvm.ClassFile.FieldType), Jvm.Cond.code ({ cls := "org/matchstone/engine/BookSide$Place", name := "behind", desc := "(Lorg/matchstone/engine/BookSide$Order;)Lorg/matchstone/engine/BookSide$Place;" } : Jvm.MethodName) prog_8_method_4_code (1 : Nat) (Option.some (Jvm.ClassFile.FieldType.object "org/matchstone/engine/BookSide$Place")), Jvm.Cond.code ({ cls := "org/matchstone/engine/BookSide$Place", name := "<init>", desc := "(JJ)V" } : Jvm.MethodName) prog_8_method_1_code (5 : Nat) (Option.none : Option Jvm.ClassFile.FieldType), Jvm.Cond.code ({ cls := "org/matchstone/engine/BookSide$Walk", name := "nextBehind", desc := "(J)Lorg/matchstone/engine/BookSide$Order;" } : Jvm.MethodName) prog_11_method_4_code (4 : Nat) (Option.some (Jvm.ClassFile.FieldType.object "org/matchstone/engine/BookSide$Order")), Jvm.Cond.code ({ cls := "org/matchstone/engine/MinQuantity", name := "aggregated", desc := "(J)Lorg/matchstone/engine/MinQuantity;" } : Jvm.MethodName) prog_18_method_2_code (2 : Nat) (Option.some (Jvm.ClassFile.FieldType.object "org/matchstone/engine/MinQuantity")), Jvm.Cond.code ({ cls := "org/matchstone/engine/MinQuantity", name := "<init>", desc := "(JZ)V" } : Jvm.MethodName) prog_18_method_1_code (4 : Nat) (Option.none : Option Jvm.ClassFile.FieldType), Jvm.Cond.code ({ cls := "org/matchstone/engine/NewOrder", name := "withMinQuantity", desc := "(Lorg/matchstone/engine/MinQuantity;)Lorg/matchstone/engine/NewOrder;" } : Jvm.MethodName) prog_22_method_10_code (3 : Nat) (Option.some (Jvm.ClassFile.FieldType.object "org/matchstone/engine/NewOrder")), Jvm.Cond.code ({ cls := "org/matchstone/engine/MinQuantity", name := "quantity", desc := "()J" } : Jvm.MethodName) prog_18_method_7_code (1 : Nat) (Option.some Jvm.ClassFile.FieldType.long), Jvm.Cond.code ({ cls := "org/matchstone/engine/MinQuantity", name := "singleOrder", desc := "()Z" } : Jvm.MethodName) prog_18_method_8_code (1 : Nat) (Option.some Jvm.ClassFile.FieldType.boolean), Jvm.Cond.code ({ cls := "org/matchstone/engine/MinQuantity", name := "single", desc := "(J)Lorg/matchstone/engine/MinQuantity;" } : Jvm.MethodName) prog_18_method_3_code (2 : Nat) (Option.some (Jvm.ClassFile.FieldType.object "org/matchstone/engine/MinQuantity")), Jvm.Cond.code ({ cls := "org/matchstone/engine/BookSide$Place", name := "at", desc := "(J)Lorg/matchstone/engine/BookSide$Place;" } : Jvm.MethodName) prog_8_method_2_code (2 : Nat) (Option.some (Jvm.ClassFile.FieldType.object "org/matchstone/engine/BookSide$Place"))]
set_option maxRecDepth 65536 in
theorem codes_eq : words1.filter isCode = codes1 := rfl
theorem w_codes : ∀ c ∈ words1.filter isCode, c.before args0 about1 = true := by
  rw [codes_eq]
  intro c hc
  simp only [codes1, List.mem_cons, List.not_mem_nil, or_false] at hc
  rcases hc with rfl | rfl | rfl | rfl | rfl | rfl | rfl | rfl | rfl | rfl | rfl | rfl | rfl | rfl | rfl | rfl | rfl | rfl | rfl | rfl | rfl | rfl | rfl | rfl | rfl | rfl | rfl | rfl | rfl | rfl | rfl | rfl | rfl | rfl | rfl | rfl | rfl | rfl | rfl | rfl | rfl | rfl | rfl | rfl | rfl | rfl | rfl | rfl | rfl
  · exact w_c0
  · exact w_c1
  · exact w_c2
  · exact w_c3
  · exact w_c4
  · exact w_c5
  · exact w_c6
  · exact w_c7
  · exact w_c8
  · exact w_c9
  · exact w_c10
  · exact w_c11
  · exact w_c12
  · exact w_c13
  · exact w_c14
  · exact w_c15
  · exact w_c16
  · exact w_c17
  · exact w_c18
  · exact w_c19
  · exact w_c20
  · exact w_c21
  · exact w_c22
  · exact w_c23
  · exact w_c24
  · exact w_c25
  · exact w_c26
  · exact w_c27
  · exact w_c28
  · exact w_c29
  · exact w_c30
  · exact w_c31
  · exact w_c32
  · exact w_c33
  · exact w_c34
  · exact w_c35
  · exact w_c36
  · exact w_c37
  · exact w_c38
  · exact w_c39
  · exact w_c40
  · exact w_c41
  · exact w_c42
  · exact w_c43
  · exact w_c44
  · exact w_c45
  · exact w_c46
  · exact w_c47
  · exact w_c48
set_option maxRecDepth 65536 in
theorem w_t1 : (words1.take 24).all (fun c => isCode c || c.before args0 about1) = true := by decide +kernel
set_option maxRecDepth 65536 in
theorem w_t2 : ((words1.drop 24).take 24).all (fun c => isCode c || c.before args0 about1) = true := by decide +kernel
set_option maxRecDepth 65536 in
theorem w_t3 : (((words1.drop 24).drop 24).take 24).all (fun c => isCode c || c.before args0 about1) = true := by decide +kernel
set_option maxRecDepth 65536 in
theorem w_t4 : ((((words1.drop 24).drop 24).drop 24).take 24).all (fun c => isCode c || c.before args0 about1) = true := by decide +kernel
set_option maxRecDepth 65536 in
theorem w_t5 : (((((words1.drop 24).drop 24).drop 24).drop 24).take 24).all (fun c => isCode c || c.before args0 about1) = true := by decide +kernel
set_option maxRecDepth 65536 in
theorem w_t6 : ((((((words1.drop 24).drop 24).drop 24).drop 24).drop 24).take 24).all (fun c => isCode c || c.before args0 about1) = true := by decide +kernel
set_option maxRecDepth 65536 in
theorem w_t7 : (((((((words1.drop 24).drop 24).drop 24).drop 24).drop 24).drop 24).take 24).all (fun c => isCode c || c.before args0 about1) = true := by decide +kernel
set_option maxRecDepth 65536 in
theorem w_t8 : ((((((((words1.drop 24).drop 24).drop 24).drop 24).drop 24).drop 24).drop 24).take 24).all (fun c => isCode c || c.before args0 about1) = true := by decide +kernel
set_option maxRecDepth 65536 in
theorem w_t9 : (((((((((words1.drop 24).drop 24).drop 24).drop 24).drop 24).drop 24).drop 24).drop 24).take 24).all (fun c => isCode c || c.before args0 about1) = true := by decide +kernel
set_option maxRecDepth 65536 in
theorem w_t10 : ((((((((((words1.drop 24).drop 24).drop 24).drop 24).drop 24).drop 24).drop 24).drop 24).drop 24).take 24).all (fun c => isCode c || c.before args0 about1) = true := by decide +kernel
set_option maxRecDepth 65536 in
theorem w_t11 : (((((((((((words1.drop 24).drop 24).drop 24).drop 24).drop 24).drop 24).drop 24).drop 24).drop 24).drop 24).take 24).all (fun c => isCode c || c.before args0 about1) = true := by decide +kernel
set_option maxRecDepth 65536 in
theorem w_t12 : ((((((((((((words1.drop 24).drop 24).drop 24).drop 24).drop 24).drop 24).drop 24).drop 24).drop 24).drop 24).drop 24).take 24).all (fun c => isCode c || c.before args0 about1) = true := by decide +kernel
set_option maxRecDepth 65536 in
theorem w_t13 : (((((((((((((words1.drop 24).drop 24).drop 24).drop 24).drop 24).drop 24).drop 24).drop 24).drop 24).drop 24).drop 24).drop 24).take 24).all (fun c => isCode c || c.before args0 about1) = true := by decide +kernel
set_option maxRecDepth 65536 in
theorem w_t14 : ((((((((((((((words1.drop 24).drop 24).drop 24).drop 24).drop 24).drop 24).drop 24).drop 24).drop 24).drop 24).drop 24).drop 24).drop 24).take 24).all (fun c => isCode c || c.before args0 about1) = true := by decide +kernel
set_option maxRecDepth 65536 in
theorem w_t15 : (((((((((((((((words1.drop 24).drop 24).drop 24).drop 24).drop 24).drop 24).drop 24).drop 24).drop 24).drop 24).drop 24).drop 24).drop 24).drop 24).take 24).all (fun c => isCode c || c.before args0 about1) = true := by decide +kernel
set_option maxRecDepth 65536 in
theorem w_t16 : ((((((((((((((((words1.drop 24).drop 24).drop 24).drop 24).drop 24).drop 24).drop 24).drop 24).drop 24).drop 24).drop 24).drop 24).drop 24).drop 24).drop 24).take 24).all (fun c => isCode c || c.before args0 about1) = true := by decide +kernel
set_option maxRecDepth 65536 in
theorem w_t17 : (((((((((((((((((words1.drop 24).drop 24).drop 24).drop 24).drop 24).drop 24).drop 24).drop 24).drop 24).drop 24).drop 24).drop 24).drop 24).drop 24).drop 24).drop 24).take 24).all (fun c => isCode c || c.before args0 about1) = true := by decide +kernel
set_option maxRecDepth 65536 in
theorem w_t18 : ((((((((((((((((((words1.drop 24).drop 24).drop 24).drop 24).drop 24).drop 24).drop 24).drop 24).drop 24).drop 24).drop 24).drop 24).drop 24).drop 24).drop 24).drop 24).drop 24).take 24).all (fun c => isCode c || c.before args0 about1) = true := by decide +kernel
set_option maxRecDepth 65536 in
theorem w_t19 : ((((((((((((((((((words1.drop 24).drop 24).drop 24).drop 24).drop 24).drop 24).drop 24).drop 24).drop 24).drop 24).drop 24).drop 24).drop 24).drop 24).drop 24).drop 24).drop 24).drop 24).all (fun c => isCode c || c.before args0 about1) = true := by decide +kernel
theorem w_tables : (allAtoms (Jvm.Cond.code x code maxLocals ret :: tables_1)).before args0 about1 = true := by
  rw [allAtoms_all]
  show words1.all (fun c => c.before args0 about1) = true
  refine all_split ?_ w_codes
  rw [← List.take_append_drop 24 words1, List.all_append, w_t1, ← List.take_append_drop 24 (words1.drop 24), List.all_append, w_t2, ← List.take_append_drop 24 ((words1.drop 24).drop 24), List.all_append, w_t3, ← List.take_append_drop 24 (((words1.drop 24).drop 24).drop 24), List.all_append, w_t4, ← List.take_append_drop 24 ((((words1.drop 24).drop 24).drop 24).drop 24), List.all_append, w_t5, ← List.take_append_drop 24 (((((words1.drop 24).drop 24).drop 24).drop 24).drop 24), List.all_append, w_t6, ← List.take_append_drop 24 ((((((words1.drop 24).drop 24).drop 24).drop 24).drop 24).drop 24), List.all_append, w_t7, ← List.take_append_drop 24 (((((((words1.drop 24).drop 24).drop 24).drop 24).drop 24).drop 24).drop 24), List.all_append, w_t8, ← List.take_append_drop 24 ((((((((words1.drop 24).drop 24).drop 24).drop 24).drop 24).drop 24).drop 24).drop 24), List.all_append, w_t9, ← List.take_append_drop 24 (((((((((words1.drop 24).drop 24).drop 24).drop 24).drop 24).drop 24).drop 24).drop 24).drop 24), List.all_append, w_t10, ← List.take_append_drop 24 ((((((((((words1.drop 24).drop 24).drop 24).drop 24).drop 24).drop 24).drop 24).drop 24).drop 24).drop 24), List.all_append, w_t11, ← List.take_append_drop 24 (((((((((((words1.drop 24).drop 24).drop 24).drop 24).drop 24).drop 24).drop 24).drop 24).drop 24).drop 24).drop 24), List.all_append, w_t12, ← List.take_append_drop 24 ((((((((((((words1.drop 24).drop 24).drop 24).drop 24).drop 24).drop 24).drop 24).drop 24).drop 24).drop 24).drop 24).drop 24), List.all_append, w_t13, ← List.take_append_drop 24 (((((((((((((words1.drop 24).drop 24).drop 24).drop 24).drop 24).drop 24).drop 24).drop 24).drop 24).drop 24).drop 24).drop 24).drop 24), List.all_append, w_t14, ← List.take_append_drop 24 ((((((((((((((words1.drop 24).drop 24).drop 24).drop 24).drop 24).drop 24).drop 24).drop 24).drop 24).drop 24).drop 24).drop 24).drop 24).drop 24), List.all_append, w_t15, ← List.take_append_drop 24 (((((((((((((((words1.drop 24).drop 24).drop 24).drop 24).drop 24).drop 24).drop 24).drop 24).drop 24).drop 24).drop 24).drop 24).drop 24).drop 24).drop 24), List.all_append, w_t16, ← List.take_append_drop 24 ((((((((((((((((words1.drop 24).drop 24).drop 24).drop 24).drop 24).drop 24).drop 24).drop 24).drop 24).drop 24).drop 24).drop 24).drop 24).drop 24).drop 24).drop 24), List.all_append, w_t17, ← List.take_append_drop 24 (((((((((((((((((words1.drop 24).drop 24).drop 24).drop 24).drop 24).drop 24).drop 24).drop 24).drop 24).drop 24).drop 24).drop 24).drop 24).drop 24).drop 24).drop 24).drop 24), List.all_append, w_t18, w_t19]
  rfl
set_option maxRecDepth 65536 in
theorem w_rest : rest_1_c.before args0 about1 = true := by decide +kernel
set_option maxRecDepth 65536 in
theorem w_case : (Jvm.Cond.and given_1 narrow_1).before args0 about1 = true := by decide +kernel
theorem w_applies : (headSpec (Jvm.Cond.code x code maxLocals ret :: tables_1) room_1).applies x e0.platform about1 = true :=
  (Spec.applies_iff w_frames).mpr ⟨w_running, w_runnable, w_alone, w_named, w_hears, w_ripe, w_room, w_tables⟩
set_option maxRecDepth 65536 in
theorem atStart : AtStart classFile x code maxLocals ret World_1 tables_1 room_1 Calls_1 rest_1 Pre_1 launch0 p0 e0 about1 theMethod args0 below0 :=
  ⟨lists_1, trivial, launch0.admits_env _ _ _, launch0.least_env, fairChoices_fair.cas, fairChoices_fair.clock, w_frames, w_args, w_heap, w_applies, trivial, w_rest, w_case⟩
end start1
theorem witness_1 : WitnessClaimed_1 := ⟨start1.p0, start1.e0, start1.about1, start1.theMethod, start1.args0, start1.below0, start1.atStart⟩
end Jvm.Pilot.@@N@@
