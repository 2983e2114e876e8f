import JvmDerived
import JvmDerived.Pilot.@@N@@Statement
import JvmDerived.Pilot.@@N@@Code
set_option linter.unusedVariables false
set_option linter.unusedSimpArgs false
namespace Jvm.Pilot.@@N@@
open Jvm Jvm.ClassFile Sem Op Lib Jvm.Free Jvm.Stand Jvm.LawKit Jvm.RoadKit Bundle Jvm.Pilot.@@N@@.Jvm.D
set_option maxRecDepth 65536
set_option maxHeartbeats 40000000
abbrev HW (Z : State) (a0 : Array Value) : Prop := ∀ d ∈ tables_1, d.before a0 Z = true
theorem mg {α : Type} {L : List α} {i : Nat} {a : α} (h : L[i]? = some a) : a ∈ L := List.mem_of_getElem? h
theorem wd {Z : State} {a0 : Array Value} (hw : HW Z a0) (i : Nat) {d : Jvm.Cond} (h : tables_1[i]? = some d) : d.before a0 Z = true := hw d (mg h)
/-! the walk in continuation form: 'Go' says that from here the body comes to its end with Q -/
def Go (EN : State → Outcome → State → List Loc → Nat → Nat → Prop) (p : Program) (e : Env) (below : List Frame) (s : State) (kc ks : Nat) (Q : Option Value → Heap → List Loc → Prop) (T : State) (g : JFrame) : Prop :=
  ∃ s₂ o, Steps p.tables e below (T.setTop g) s₂ ∧ s₂.status = .running ∧ Ended s₂ below o ∧ ∃ v L, o = .returned v ∧ Q v s₂.heap L ∧ EN s o s₂ L kc ks
section GoLaws
variable {p : Program} {l : Launch} {e : Env} {R : Room} {s : State} {m : MethodId} {args : Array Value} {below : List Frame} {meth : Method} {c : Code} {T T' : State} {locs : List Loc} {cells slots kc ks : Nat} {Q : Option Value → Heap → List Loc → Prop} {g g' : JFrame} {EN : State → Outcome → State → List Loc → Nat → Nat → Prop}
theorem Go.step (st : ∀ t, Steps p.tables e below (T'.setTop g') t → Steps p.tables e below (T.setTop g) t) (k : Go EN p e below s kc ks Q T' g') : Go EN p e below s kc ks Q T g := by
  obtain ⟨a, b, h1, h2⟩ := k
  exact ⟨a, b, st _ h1, h2⟩
theorem Go.trans (st : Steps p.tables e below (T.setTop g) (T'.setTop g')) (k : Go EN p e below s kc ks Q T' g') : Go EN p e below s kc ks Q T g := by
  obtain ⟨a, b, h1, h2⟩ := k
  exact ⟨a, b, st.trans h1, h2⟩
theorem Go.cast (q : g = g') (k : Go EN p e below s kc ks Q T g') : Go EN p e below s kc ks Q T g := q ▸ k
theorem Go.retN (X : Stand p l e R s m args below meth c T locs cells slots) (hx : p.tables.exec = Jvm.exec) {pc : Nat} {Ls : Array Slot} {z : Int32} {t : FieldType} {rest : List Value} (hret : meth.sig.returnType = some t) (ht : t = .boolean ∨ t = .byte ∨ t = .char ∨ t = .short) (hlk : meth.locks = false)
    (hd : decode c.code pc = .ok (.ireturn, 1)) (hc : cells ≤ kc) (hs : slots ≤ ks) (q : Q (some (.int (nar t z))) T.heap locs) : Go FrameEnd p e below s kc ks Q T (mkF m pc Ls (.int z :: rest)) := by
  obtain ⟨fs, hr, hrun, hended, hW, hsame⟩ := X.leave (v := some (.int (nar t z))) (fun h => by rw [hret] at h; cases h) hlk
  exact ⟨_, _, RoadKit.retN X hx hret ht hd hr, hrun, hended, _, _, rfl, q, ⟨_, rfl⟩, hW, hsame.mono hc hs⟩
theorem Go.retI (X : Stand p l e R s m args below meth c T locs cells slots) (hx : p.tables.exec = Jvm.exec) {pc : Nat} {Ls : Array Slot} {z : Int32} {rest : List Value} (hret : meth.sig.returnType = some .int) (hlk : meth.locks = false)
    (hd : decode c.code pc = .ok (.ireturn, 1)) (hc : cells ≤ kc) (hs : slots ≤ ks) (q : Q (some (.int z)) T.heap locs) : Go FrameEnd p e below s kc ks Q T (mkF m pc Ls (.int z :: rest)) := by
  obtain ⟨fs, hr, hrun, hended, hW, hsame⟩ := X.leave (v := some (.int z)) (fun h => by rw [hret] at h; cases h) hlk
  exact ⟨_, _, RoadKit.retOut X hx hret rfl (Or.inl ⟨rfl, Or.inl rfl, _, rfl⟩) hd hr, hrun, hended, _, _, rfl, q, ⟨_, rfl⟩, hW, hsame.mono hc hs⟩
theorem Go.retJ (X : Stand p l e R s m args below meth c T locs cells slots) (hx : p.tables.exec = Jvm.exec) {pc : Nat} {Ls : Array Slot} {z : Int64} {rest : List Value} (hret : meth.sig.returnType = some .long) (hlk : meth.locks = false)
    (hd : decode c.code pc = .ok (.lreturn, 1)) (hc : cells ≤ kc) (hs : slots ≤ ks) (q : Q (some (.long z)) T.heap locs) : Go FrameEnd p e below s kc ks Q T (mkF m pc Ls (.long z :: rest)) := by
  obtain ⟨fs, hr, hrun, hended, hW, hsame⟩ := X.leave (v := some (.long z)) (fun h => by rw [hret] at h; cases h) hlk
  exact ⟨_, _, RoadKit.retOut X hx hret rfl (Or.inr (Or.inl ⟨rfl, rfl, _, rfl⟩)) hd hr, hrun, hended, _, _, rfl, q, ⟨_, rfl⟩, hW, hsame.mono hc hs⟩
theorem Go.retA (X : Stand p l e R s m args below meth c T locs cells slots) (hx : p.tables.exec = Jvm.exec) {pc : Nat} {Ls : Array Slot} {z : Value} {t : FieldType} {rest : List Value} (hret : meth.sig.returnType = some t) (ht : t.isReference = true) (hz : z.isRef = true) (hlk : meth.locks = false)
    (hd : decode c.code pc = .ok (.areturn, 1)) (hc : cells ≤ kc) (hs : slots ≤ ks) (q : Q (some z) T.heap locs) : Go FrameEnd p e below s kc ks Q T (mkF m pc Ls (z :: rest)) := by
  obtain ⟨fs, hr, hrun, hended, hW, hsame⟩ := X.leave (v := some z) (fun h => by rw [hret] at h; cases h) hlk
  exact ⟨_, _, RoadKit.retOut X hx hret (by cases t <;> cases z <;> first | rfl | (cases ht; done) | (cases hz; done)) (Or.inr (Or.inr (Or.inr (Or.inr ⟨rfl, ht, hz⟩)))) hd hr, hrun, hended, _, _, rfl, q, ⟨_, rfl⟩, hW, hsame.mono hc hs⟩
theorem Go.retV (X : Stand p l e R s m args below meth c T locs cells slots) (hx : p.tables.exec = Jvm.exec) {pc : Nat} {Ls : Array Slot} (hret : meth.sig.returnType = none) (hlk : meth.locks = false)
    (hd : decode c.code pc = .ok (.return_, 1)) (hc : cells ≤ kc) (hs : slots ≤ ks) (q : Q none T.heap locs) : Go FrameEnd p e below s kc ks Q T (mkF m pc Ls []) := by
  obtain ⟨fs, hr, hrun, hended, hW, hsame⟩ := X.leave (v := none) (fun _ => rfl) hlk
  exact ⟨_, _, X.returnOut hx hret hd hr, hrun, hended, _, _, rfl, q, ⟨_, rfl⟩, hW, hsame.mono hc hs⟩
theorem rewMono {s t : State} {o : Outcome} {L : List Loc} {k n k' n' : Nat} (h : ReturnedEndW s o t L k n) (hk : k ≤ k') (hn : n ≤ n') : ReturnedEndW s o t L k' n' := ⟨h.1, h.2.1, h.2.2.1, h.2.2.2.mono hk hn⟩
theorem Go.retNW {vm0 : Vm} {k0 : Nat} (X : Stand p l e R (s.setVm vm0) m args below meth c T locs cells slots) (hS : s.Since vm0 k0) (hk : k0 ≤ T.heap.size) (hx : p.tables.exec = Jvm.exec) {pc : Nat} {Ls : Array Slot} {z : Int32} {t : FieldType} {rest : List Value} (hret : meth.sig.returnType = some t) (ht : t = .boolean ∨ t = .byte ∨ t = .char ∨ t = .short) (hlk : meth.locks = false)
    (hd : decode c.code pc = .ok (.ireturn, 1)) (hc : cells ≤ kc) (hs : slots ≤ ks) (q : Q (some (.int (nar t z))) T.heap locs) : Go ReturnedEndW p e below s kc ks Q T (mkF m pc Ls (.int z :: rest)) := by
  obtain ⟨fs, hr, hrun, hended, hW⟩ := X.leaveW hS hk (v := some (.int (nar t z))) (fun h => by rw [hret] at h; cases h) hlk
  exact ⟨_, _, RoadKit.retN X hx hret ht hd hr, hrun, hended, _, _, rfl, q, rewMono hW hc hs⟩
theorem Go.retIW {vm0 : Vm} {k0 : Nat} (X : Stand p l e R (s.setVm vm0) m args below meth c T locs cells slots) (hS : s.Since vm0 k0) (hk : k0 ≤ T.heap.size) (hx : p.tables.exec = Jvm.exec) {pc : Nat} {Ls : Array Slot} {z : Int32} {rest : List Value} (hret : meth.sig.returnType = some .int) (hlk : meth.locks = false)
    (hd : decode c.code pc = .ok (.ireturn, 1)) (hc : cells ≤ kc) (hs : slots ≤ ks) (q : Q (some (.int z)) T.heap locs) : Go ReturnedEndW p e below s kc ks Q T (mkF m pc Ls (.int z :: rest)) := by
  obtain ⟨fs, hr, hrun, hended, hW⟩ := X.leaveW hS hk (v := some (.int z)) (fun h => by rw [hret] at h; cases h) hlk
  exact ⟨_, _, RoadKit.retOut X hx hret rfl (Or.inl ⟨rfl, Or.inl rfl, _, rfl⟩) hd hr, hrun, hended, _, _, rfl, q, rewMono hW hc hs⟩
theorem Go.retJW {vm0 : Vm} {k0 : Nat} (X : Stand p l e R (s.setVm vm0) m args below meth c T locs cells slots) (hS : s.Since vm0 k0) (hk : k0 ≤ T.heap.size) (hx : p.tables.exec = Jvm.exec) {pc : Nat} {Ls : Array Slot} {z : Int64} {rest : List Value} (hret : meth.sig.returnType = some .long) (hlk : meth.locks = false)
    (hd : decode c.code pc = .ok (.lreturn, 1)) (hc : cells ≤ kc) (hs : slots ≤ ks) (q : Q (some (.long z)) T.heap locs) : Go ReturnedEndW p e below s kc ks Q T (mkF m pc Ls (.long z :: rest)) := by
  obtain ⟨fs, hr, hrun, hended, hW⟩ := X.leaveW hS hk (v := some (.long z)) (fun h => by rw [hret] at h; cases h) hlk
  exact ⟨_, _, RoadKit.retOut X hx hret rfl (Or.inr (Or.inl ⟨rfl, rfl, _, rfl⟩)) hd hr, hrun, hended, _, _, rfl, q, rewMono hW hc hs⟩
theorem Go.retAW {vm0 : Vm} {k0 : Nat} (X : Stand p l e R (s.setVm vm0) m args below meth c T locs cells slots) (hS : s.Since vm0 k0) (hk : k0 ≤ T.heap.size) (hx : p.tables.exec = Jvm.exec) {pc : Nat} {Ls : Array Slot} {z : Value} {t : FieldType} {rest : List Value} (hret : meth.sig.returnType = some t) (ht : t.isReference = true) (hz : z.isRef = true) (hlk : meth.locks = false)
    (hd : decode c.code pc = .ok (.areturn, 1)) (hc : cells ≤ kc) (hs : slots ≤ ks) (q : Q (some z) T.heap locs) : Go ReturnedEndW p e below s kc ks Q T (mkF m pc Ls (z :: rest)) := by
  obtain ⟨fs, hr, hrun, hended, hW⟩ := X.leaveW hS hk (v := some z) (fun h => by rw [hret] at h; cases h) hlk
  exact ⟨_, _, RoadKit.retOut X hx hret (by cases t <;> cases z <;> first | rfl | (cases ht; done) | (cases hz; done)) (Or.inr (Or.inr (Or.inr (Or.inr ⟨rfl, ht, hz⟩)))) hd hr, hrun, hended, _, _, rfl, q, rewMono hW hc hs⟩
theorem Go.retVW {vm0 : Vm} {k0 : Nat} (X : Stand p l e R (s.setVm vm0) m args below meth c T locs cells slots) (hS : s.Since vm0 k0) (hk : k0 ≤ T.heap.size) (hx : p.tables.exec = Jvm.exec) {pc : Nat} {Ls : Array Slot} (hret : meth.sig.returnType = none) (hlk : meth.locks = false)
    (hd : decode c.code pc = .ok (.return_, 1)) (hc : cells ≤ kc) (hs : slots ≤ ks) (q : Q none T.heap locs) : Go ReturnedEndW p e below s kc ks Q T (mkF m pc Ls []) := by
  obtain ⟨fs, hr, hrun, hended, hW⟩ := X.leaveW hS hk (v := none) (fun _ => rfl) hlk
  exact ⟨_, _, X.returnOut hx hret hd hr, hrun, hended, _, _, rfl, q, rewMono hW hc hs⟩
abbrev Met (EN : State → Outcome → State → List Loc → Nat → Nat → Prop) (l : Launch) (y : MethodName) (bytes : ByteArray) (ml : Nat) (rt : Option FieldType) (ws : List Jvm.Cond) (R : Room) (Z : State) (h0 : Heap) (A : Array Value) (Q : Option Value → Heap → List Loc → Prop) : Prop :=
  MetFree l y (head1 (Jvm.Cond.code y bytes ml rt :: ws) R) (fun a U => a = A ∧ Z.Warmed39 U.vm ∧ U.heap = h0) (fun _ _ _ _ _ => True) (fun _ U o U' => ∃ v L, o = .returned v ∧ Q v U'.heap L ∧ EN U o U' L R.cells R.slots)
theorem own_met {y : MethodName} {bytes : ByteArray} {ml : Nat} {rt : Option FieldType} {ws : List Jvm.Cond} {Z : State} {h0 : Heap} {A : Array Value} (own : String) (hpl : plainFor y = true) (hc : y.cls = own) (Ls : Array Slot) (ef : ∀ m, entryFrame m A ml = mkF m 0 Ls [])
    (k : ∀ (p : Program) (e : Env) (s : State) (m : MethodId) (below : List Frame) (meth : Method) (c : Code) (s₁ : State), p.tables.exec = Jvm.exec → c.code = bytes → meth.locks = false → meth.sig.returnType = rt → c.maxLocals = ml → Z.Warmed39 s.vm → s.vm.findClass own = some m.cls → meth.name = y.name → Stand p l e R s m A below meth c s₁ [] 0 0 → s₁.heap = h0 → Go EN p e below s R.cells R.slots Q s₁ (mkF m 0 Ls [])) :
    Met EN l y bytes ml rt ws R Z h0 A Q := by
  refine MetFree.of_bodySF hpl hisR ?_
  intro p e s m args below meth c s₁ Bd hml0 hP hK
  obtain ⟨rfl, hZ, hh⟩ := hP
  exact Go.cast (ef m) (k p e s m below meth c s₁ Bd.exec Bd.bytes Bd.notSynchronized Bd.returns hml0 hZ (hc ▸ findClass_of_methodNamed Bd.named) (name_of_methodNamed Bd.named Bd.method).1 (Stand.of_body Bd) (by rw [← hh, Bd.state]; rfl))
theorem own_metW {y : MethodName} {bytes : ByteArray} {ml : Nat} {rt : Option FieldType} {ws : List Jvm.Cond} {Z : State} {h0 : Heap} {A : Array Value} (own : String) (hpl : plainFor y = true) (hc : y.cls = own) (Ls : Array Slot) (ef : ∀ m, entryFrame m A ml = mkF m 0 Ls [])
    (k : ∀ (p : Program) (e : Env) (s : State) (m : MethodId) (below : List Frame) (meth : Method) (c : Code) (s₁ : State), p.tables.exec = Jvm.exec → c.code = bytes → meth.locks = false → meth.sig.returnType = rt → c.maxLocals = ml → Z.Warmed39 s.vm → s.vm.findClass own = some m.cls → meth.name = y.name → Stand p l e R (s.setVm s.vm) m A below meth c s₁ [] 0 0 → s₁.heap = h0 → s.Since s.vm 0 → 0 ≤ h0.size → Go EN p e below s R.cells R.slots Q s₁ (mkF m 0 Ls [])) :
    Met EN l y bytes ml rt ws R Z h0 A Q :=
  own_met own hpl hc Ls ef fun p e s m below meth c s₁ h1 h2 h3 h4 h5 h6 h7 h8 h9 h10 => k p e s m below meth c s₁ h1 h2 h3 h4 h5 h6 h7 h8 h9 h10 (State.WarmedH.since (State.WarmedH.refl s) 0) (Nat.zero_le _)
abbrev MetC (EN : State → Outcome → State → List Loc → Nat → Nat → Prop) (l : Launch) (y : MethodName) (bytes : ByteArray) (ml : Nat) (rt : Option FieldType) (hs : List (Nat × Nat × Nat × Nat)) (ws : List Jvm.Cond) (R : Room) (Z : State) (h0 : Heap) (A : Array Value) (Q : Option Value → Heap → List Loc → Prop) : Prop :=
  MetFree l y (head1 (Jvm.Cond.codeWith y bytes ml rt hs :: ws) R) (fun a U => a = A ∧ Z.Warmed39 U.vm ∧ U.heap = h0) (fun _ _ _ _ _ => True) (fun _ U o U' => ∃ v L, o = .returned v ∧ Q v U'.heap L ∧ EN U o U' L R.cells R.slots)
theorem own_metC {y : MethodName} {bytes : ByteArray} {ml : Nat} {rt : Option FieldType} {hs : List (Nat × Nat × Nat × Nat)} {ws : List Jvm.Cond} {Z : State} {h0 : Heap} {A : Array Value} (own : String) (hpl : plainFor y = true) (hc : y.cls = own) (Ls : Array Slot) (ef : ∀ m, entryFrame m A ml = mkF m 0 Ls [])
    (k : ∀ (p : Program) (e : Env) (s : State) (m : MethodId) (below : List Frame) (meth : Method) (c : Code) (s₁ : State), p.tables.exec = Jvm.exec → c.code = bytes → meth.locks = false → meth.sig.returnType = rt → c.maxLocals = ml → Z.Warmed39 s.vm → s.vm.findClass own = some m.cls → meth.name = y.name → Stand p l e R s m A below meth c s₁ [] 0 0 → s₁.heap = h0 → Go EN p e below s R.cells R.slots Q s₁ (mkF m 0 Ls [])) :
    MetC EN l y bytes ml rt hs ws R Z h0 A Q := by
  refine MetFree.of_bodySF hpl hisWith ?_
  intro p e s m args below meth c s₁ Bd hml0 hP hK
  obtain ⟨rfl, hZ, hh⟩ := hP
  exact Go.cast (ef m) (k p e s m below meth c s₁ Bd.exec Bd.bytes Bd.notSynchronized Bd.returns hml0 hZ (hc ▸ findClass_of_methodNamed Bd.named) (name_of_methodNamed Bd.named Bd.method).1 (Stand.of_body Bd) (by rw [← hh, Bd.state]; rfl))
theorem extRfl (h : Heap) : Ext h h := ⟨Nat.le_refl _, fun _ _ q => q⟩
theorem extTr {h1 h2 h3 : Heap} (A : Ext h1 h2) (B : Ext h2 h3) : Ext h1 h3 := ⟨Nat.le_trans A.1 B.1, fun a c q => B.2 a c (A.2 a c q)⟩
theorem extKeep {h1 h2 h3 : Heap} {ws : List Addr} (A : Ext h1 h2) (K : Keep h2 h3 ws) (q : ∀ x ∈ ws, h1.size ≤ x) : Ext h1 h3 := ⟨Nat.le_trans A.1 K.1, fun a c r => K.2.1 a c (A.2 a c r) fun z => absurd (Array.getElem?_eq_some_iff.mp r).1 (Nat.not_lt.mpr (q a z))⟩
theorem extWr {h1 h2 h3 : Heap} {a : Addr} {sl : Nat} {v : Value} (A : Ext h1 h2) (W : Wr h2 h3 a sl v) (q : h1.size ≤ a) : Ext h1 h3 := extKeep A (Keep.of_wr W) (allS q all0)
end GoLaws
theorem fldStart {Z : State} {args : Array Value} {t : Jvm.Term} {a : Addr} {C n d : String} {k : Int32} (ev : t.eval args Z none [] Z = some (.ref a)) (h : (Jvm.Cond.eq (.field t C n d) (.int k)).value args Z none Z [] = some true) : Fld Z Z.heap a C n d (.int k) :=
  Fld.start ((fld_at ev).symm.trans (eqv_i (Term.int_eval k) h))
/-- putfield through an entry that the sheet says resolved -/
theorem putRdy {p : Program} {l : Launch} {e : Env} {R : Room} {s : State} {m : MethodId} {args : Array Value} {below : List Frame} {meth : Method} {c : Code} {T : State} {locs : List Loc} {cells slots : Nat} {Z : State} {a0 : Array Value} {h : Heap}
    (X : Stand p l e R s m args below meth c T locs cells slots) (hx : p.tables.exec = Jvm.exec) (hZ : Z.Warmed39 s.vm) {own O n d C : String} {index kk : Nat} {ty : FieldType} (hown : s.vm.findClass own = some m.cls) (w : (Jvm.Cond.fieldRef own index O n d).before a0 Z = true)
    (eT : T.heap = h) {a : Addr} {v old : Value} (F : Fld Z h a O n d old) (E : Exa Z h a C) (L : (Jvm.Cond.lays C O n d).before a0 Z = true) (wi : (Jvm.Cond.instantiable C kk).before a0 Z = true)
    (hty : parseFieldDescriptor d = some ty) (hn : narrow ty v = v) (hf : fits ty v = true) {g : JFrame} (hg : g.method = m) {rest : List Value} (hs : g.stack = v :: .ref a :: rest) (hd : decode c.code g.pc = .ok (.putfield index, 3)) :
    ∃ T' h', Stand p l e R s m args below meth c T' (locs ++ [⟨a, Jvm.RoadKit.slotOf Z O n d⟩]) cells slots ∧ T'.heap = h' ∧ Wr h h' a (Jvm.RoadKit.slotOf Z O n d) v ∧ ∀ target, Steps p.tables e below (T'.setTop { g with pc := g.pc + 3, stack := rest }) target → Steps p.tables e below (T.setTop g) target := by
  have hT : Z.Warmed39 T.vm := wtrans hZ X.warmed
  obtain ⟨cell, cf, k, i, f, h1, h2, h3, h4, h5, -, h7⟩ := F
  obtain ⟨cell', kc, e1, e2, e3, -⟩ := E
  cases h1.symm.trans e1
  obtain ⟨c1, k1, cf1, kf1, i1, f1, a1, a2, a3, -, -, a6, -⟩ := Laid.spec (Or.inl L)
  cases h2.symm.trans a3
  cases e2.symm.trans a1
  obtain ⟨c2, k2, i1, i2, i3, -⟩ := Cond.instantiable_spec wi
  cases e2.symm.trans i1
  cases a2.symm.trans i2
  have ht := (State.fieldFound?_type h2 hty).2
  have hfit : Z.fitsSlot cell.cls cell.vm f.slot v = true := by
    have q : Z.slotType? cell.cls cell.vm f.slot = some ty := by
      simp only [State.slotType?, a2, Option.bind_eq_bind, Option.bind_some, i3]
      cases hq : cell.vm <;> first | (rw [hq] at h5; exact Bool.noConfusion h5) | (rw [a6, ht])
    simp [State.fitsSlot, q, hf]
  have hfitT : T.fitsSlot cell.cls cell.vm f.slot v = true := by rw [← State.fitsSlot_setVm hT.alike] at hfit; exact hfit
  obtain ⟨_, _, _, _, _, _, -, -, b3, -, b5, -⟩ := Cond.lays_spec L
  cases h2.symm.trans b3
  have hcur : (Z.setVm T.vm).vm.findClass own = some m.cls := by
    show T.vm.findClass own = _
    rw [hT.alike.findClass, ← hZ.alike.findClass]; exact hown
  obtain ⟨cq, kq, iq, fq, q1, q2⟩ := Cond.fieldRef_spec hcur (Cond.fieldRef_warmed39 hT w)
  obtain ⟨k', q3, -⟩ := State.fieldFound?_setVm (s := Z) hT.alike h2
  cases q1.symm.trans q3
  have hlt := (Array.getElem?_eq_some_iff.mp h7).1
  have es : Jvm.RoadKit.slotOf Z O n d = f.slot := by simp [Jvm.RoadKit.slotOf, h2]
  rw [es]
  obtain ⟨X', st⟩ := X.putfieldReady hx q2 h3 (Or.inl b5) (by rw [eT]; exact h1) h4 hlt (by rw [ht]; exact hn) hfitT hg hs hd
  exact ⟨_, _, X', rfl, ⟨cell, h1, h5, hlt, by rw [← eT]; rfl⟩, st⟩
/-! single steps in continuation form, the frame in normal form -/
section Short
variable {p : Program} {l : Launch} {e : Env} {R : Room} {s s' : State} {m : MethodId} {args : Array Value} {below : List Frame} {meth : Method} {c : Code} {T : State} {locs : List Loc} {cells slots kc ks : Nat} {Q : Option Value → Heap → List Loc → Prop} {EN : State → Outcome → State → List Loc → Nat → Nat → Prop} {b : ByteArray} {pc : Nat} {Ls l' : Array Slot} {S : List Value} {v : Value} {x y : Int32} {i j : Int64} {k : Nat} {n : Fin 4} {o : Int} {cd : ClassFile.Cond}
theorem q_aN (X : Stand p l e R s' m args below meth c T locs cells slots) (hx : p.tables.exec = Jvm.exec) (hby : c.code = b) (d : decode b pc = .ok (.aload_n n, 1)) (h : Ls[n.val]? = some (.val v)) (r : v.isRef = true) (K : Go EN p e below s kc ks Q T (mkF m (pc + 1) Ls (v :: S))) : Go EN p e below s kc ks Q T (mkF m pc Ls (S)) := Go.step (fun _ kt => XS.aloadN X.here hx rfl (hb hby d) h r kt) K
theorem q_aL (X : Stand p l e R s' m args below meth c T locs cells slots) (hx : p.tables.exec = Jvm.exec) (hby : c.code = b) (d : decode b pc = .ok (.aload k, 2)) (h : Ls[k]? = some (.val v)) (r : v.isRef = true) (K : Go EN p e below s kc ks Q T (mkF m (pc + 2) Ls (v :: S))) : Go EN p e below s kc ks Q T (mkF m pc Ls (S)) := Go.step (fun _ kt => XS.aload X.here hx rfl (hb hby d) h r kt) K
theorem q_iN (X : Stand p l e R s' m args below meth c T locs cells slots) (hx : p.tables.exec = Jvm.exec) (hby : c.code = b) (d : decode b pc = .ok (.iload_n n, 1)) (h : Ls[n.val]? = some (.val (.int x))) (K : Go EN p e below s kc ks Q T (mkF m (pc + 1) Ls (.int x :: S))) : Go EN p e below s kc ks Q T (mkF m pc Ls (S)) := Go.step (fun _ kt => XS.iloadN X.here hx rfl (hb hby d) h kt) K
theorem q_iL (X : Stand p l e R s' m args below meth c T locs cells slots) (hx : p.tables.exec = Jvm.exec) (hby : c.code = b) (d : decode b pc = .ok (.iload k, 2)) (h : Ls[k]? = some (.val (.int x))) (K : Go EN p e below s kc ks Q T (mkF m (pc + 2) Ls (.int x :: S))) : Go EN p e below s kc ks Q T (mkF m pc Ls (S)) := Go.step (fun _ kt => XS.iload X.here hx rfl (hb hby d) h kt) K
theorem q_lN (X : Stand p l e R s' m args below meth c T locs cells slots) (hx : p.tables.exec = Jvm.exec) (hby : c.code = b) (d : decode b pc = .ok (.lload_n n, 1)) (h : Ls[n.val]? = some (.val (.long i))) (K : Go EN p e below s kc ks Q T (mkF m (pc + 1) Ls (.long i :: S))) : Go EN p e below s kc ks Q T (mkF m pc Ls (S)) := Go.step (fun _ kt => XS.lloadN X.here hx rfl (hb hby d) h kt) K
theorem q_lL (X : Stand p l e R s' m args below meth c T locs cells slots) (hx : p.tables.exec = Jvm.exec) (hby : c.code = b) (d : decode b pc = .ok (.lload k, 2)) (h : Ls[k]? = some (.val (.long i))) (K : Go EN p e below s kc ks Q T (mkF m (pc + 2) Ls (.long i :: S))) : Go EN p e below s kc ks Q T (mkF m pc Ls (S)) := Go.step (fun _ kt => XS.lload X.here hx rfl (hb hby d) h kt) K
theorem q_iC (X : Stand p l e R s' m args below meth c T locs cells slots) (hx : p.tables.exec = Jvm.exec) (hby : c.code = b) (d : decode b pc = .ok (.iconst o, 1)) (K : Go EN p e below s kc ks Q T (mkF m (pc + 1) Ls (.int (Int32.ofInt o) :: S))) : Go EN p e below s kc ks Q T (mkF m pc Ls (S)) := Go.step (fun _ kt => XS.iconst X.here hx rfl (hb hby d)  kt) K
theorem q_bP (X : Stand p l e R s' m args below meth c T locs cells slots) (hx : p.tables.exec = Jvm.exec) (hby : c.code = b) (d : decode b pc = .ok (.bipush o, 2)) (K : Go EN p e below s kc ks Q T (mkF m (pc + 2) Ls (.int (Int8.ofInt o).toInt32 :: S))) : Go EN p e below s kc ks Q T (mkF m pc Ls (S)) := Go.step (fun _ kt => XS.bipush X.here hx rfl (hb hby d)  kt) K
theorem q_nl (X : Stand p l e R s' m args below meth c T locs cells slots) (hx : p.tables.exec = Jvm.exec) (hby : c.code = b) (d : decode b pc = .ok (.aconst_null, 1)) (K : Go EN p e below s kc ks Q T (mkF m (pc + 1) Ls (.null :: S))) : Go EN p e below s kc ks Q T (mkF m pc Ls (S)) := Go.step (fun _ kt => XS.aconstNull X.here hx rfl (hb hby d)  kt) K
theorem q_pop (X : Stand p l e R s' m args below meth c T locs cells slots) (hx : p.tables.exec = Jvm.exec) (hby : c.code = b) (d : decode b pc = .ok (.pop, 1)) (h : v.category = 1) (K : Go EN p e below s kc ks Q T (mkF m (pc + 1) Ls (S))) : Go EN p e below s kc ks Q T (mkF m pc Ls (v :: S)) := Go.step (fun _ kt => XS.pop X.here hx rfl (hb hby d) rfl h kt) K
theorem q_dup (X : Stand p l e R s' m args below meth c T locs cells slots) (hx : p.tables.exec = Jvm.exec) (hby : c.code = b) (d : decode b pc = .ok (.dup, 1)) (h : v.category = 1) (K : Go EN p e below s kc ks Q T (mkF m (pc + 1) Ls (v :: v :: S))) : Go EN p e below s kc ks Q T (mkF m pc Ls (v :: S)) := Go.step (fun _ kt => XS.dup X.here hx rfl (hb hby d) rfl h kt) K
theorem q_isN (X : Stand p l e R s' m args below meth c T locs cells slots) (hx : p.tables.exec = Jvm.exec) (hby : c.code = b) (d : decode b pc = .ok (.istore_n n, 1)) (h : storeLocals Ls n.val (.int x) = some l') (K : Go EN p e below s kc ks Q T (mkF m (pc + 1) l' (S))) : Go EN p e below s kc ks Q T (mkF m pc Ls (.int x :: S)) := Go.step (fun _ kt => XS.istoreN X.here hx rfl (hb hby d) rfl h kt) K
theorem q_isL (X : Stand p l e R s' m args below meth c T locs cells slots) (hx : p.tables.exec = Jvm.exec) (hby : c.code = b) (d : decode b pc = .ok (.istore k, 2)) (h : storeLocals Ls k (.int x) = some l') (K : Go EN p e below s kc ks Q T (mkF m (pc + 2) l' (S))) : Go EN p e below s kc ks Q T (mkF m pc Ls (.int x :: S)) := Go.step (fun _ kt => XS.istore X.here hx rfl (hb hby d) rfl h kt) K
theorem q_asN (X : Stand p l e R s' m args below meth c T locs cells slots) (hx : p.tables.exec = Jvm.exec) (hby : c.code = b) (d : decode b pc = .ok (.astore_n n, 1)) (r : v.isRef = true) (h : storeLocals Ls n.val v = some l') (K : Go EN p e below s kc ks Q T (mkF m (pc + 1) l' (S))) : Go EN p e below s kc ks Q T (mkF m pc Ls (v :: S)) := Go.step (fun _ kt => XS.astoreN X.here hx rfl (hb hby d) rfl r h kt) K
theorem q_asL (X : Stand p l e R s' m args below meth c T locs cells slots) (hx : p.tables.exec = Jvm.exec) (hby : c.code = b) (d : decode b pc = .ok (.astore k, 2)) (r : v.isRef = true) (h : storeLocals Ls k v = some l') (K : Go EN p e below s kc ks Q T (mkF m (pc + 2) l' (S))) : Go EN p e below s kc ks Q T (mkF m pc Ls (v :: S)) := Go.step (fun _ kt => XS.astore X.here hx rfl (hb hby d) rfl r h kt) K
theorem q_iadd (X : Stand p l e R s' m args below meth c T locs cells slots) (hx : p.tables.exec = Jvm.exec) (hby : c.code = b) (d : decode b pc = .ok (.iadd, 1)) (K : Go EN p e below s kc ks Q T (mkF m (pc + 1) Ls (.int (x + y) :: S))) : Go EN p e below s kc ks Q T (mkF m pc Ls (.int y :: .int x :: S)) := Go.step (fun _ kt => XS.iadd X.here hx rfl (hb hby d) rfl kt) K
theorem q_isub (X : Stand p l e R s' m args below meth c T locs cells slots) (hx : p.tables.exec = Jvm.exec) (hby : c.code = b) (d : decode b pc = .ok (.isub, 1)) (K : Go EN p e below s kc ks Q T (mkF m (pc + 1) Ls (.int (x - y) :: S))) : Go EN p e below s kc ks Q T (mkF m pc Ls (.int y :: .int x :: S)) := Go.step (fun _ kt => XS.isub X.here hx rfl (hb hby d) rfl kt) K
theorem q_iand (X : Stand p l e R s' m args below meth c T locs cells slots) (hx : p.tables.exec = Jvm.exec) (hby : c.code = b) (d : decode b pc = .ok (.iand, 1)) (K : Go EN p e below s kc ks Q T (mkF m (pc + 1) Ls (.int (x &&& y) :: S))) : Go EN p e below s kc ks Q T (mkF m pc Ls (.int y :: .int x :: S)) := Go.step (fun _ kt => XS.iand X.here hx rfl (hb hby d) rfl kt) K
theorem q_inc (X : Stand p l e R s' m args below meth c T locs cells slots) (hx : p.tables.exec = Jvm.exec) (hby : c.code = b) (d : decode b pc = .ok (.iinc k o, 3)) (g : Ls[k]? = some (.val (.int x))) (h : storeLocals Ls k (.int (x + Int32.ofInt o)) = some l') (K : Go EN p e below s kc ks Q T (mkF m (pc + 3) l' (S))) : Go EN p e below s kc ks Q T (mkF m pc Ls (S)) := Go.step (fun _ kt => XS.iinc X.here hx rfl (hb hby d) g h kt) K
theorem q_go (pc0 pc' : Nat) (X : Stand p l e R s' m args below meth c T locs cells slots) (hx : p.tables.exec = Jvm.exec) (hby : c.code = b) (hpc : pc = pc0) (d : decode b pc0 = .ok (.goto o, 3)) (ho : 0 ≤ (pc0 : Int) + o) (hp : ((pc0 : Int) + o).toNat = pc') (K : Go EN p e below s kc ks Q T (mkF m pc' Ls (S))) : Go EN p e below s kc ks Q T (mkF m pc Ls (S)) := by
  subst hpc
  exact Go.step (fun _ kt => XS.goto X.here hx rfl (pc0 := pc) rfl (hb hby d)  ho hp kt) K
theorem q_ifY (pc0 pc' : Nat) (X : Stand p l e R s' m args below meth c T locs cells slots) (hx : p.tables.exec = Jvm.exec) (hby : c.code = b) (hpc : pc = pc0) (d : decode b pc0 = .ok (.ifCond cd o, 3)) (h : ifCond.holds cd x = true) (ho : 0 ≤ (pc0 : Int) + o) (hp : ((pc0 : Int) + o).toNat = pc') (K : Go EN p e below s kc ks Q T (mkF m pc' Ls (S))) : Go EN p e below s kc ks Q T (mkF m pc Ls (.int x :: S)) := by
  subst hpc
  exact Go.step (fun _ kt => XS.ifYes X.here hx rfl (pc0 := pc) rfl (hb hby d) rfl h ho hp kt) K
theorem q_icY (pc0 pc' : Nat) (X : Stand p l e R s' m args below meth c T locs cells slots) (hx : p.tables.exec = Jvm.exec) (hby : c.code = b) (hpc : pc = pc0) (d : decode b pc0 = .ok (.if_icmp cd o, 3)) (h : if_icmp.holds cd x y = true) (ho : 0 ≤ (pc0 : Int) + o) (hp : ((pc0 : Int) + o).toNat = pc') (K : Go EN p e below s kc ks Q T (mkF m pc' Ls (S))) : Go EN p e below s kc ks Q T (mkF m pc Ls (.int y :: .int x :: S)) := by
  subst hpc
  exact Go.step (fun _ kt => XS.icmpYes X.here hx rfl (pc0 := pc) rfl (hb hby d) rfl h ho hp kt) K
theorem q_ifN (X : Stand p l e R s' m args below meth c T locs cells slots) (hx : p.tables.exec = Jvm.exec) (hby : c.code = b) (d : decode b pc = .ok (.ifCond cd o, 3)) (h : ifCond.holds cd x = false) (K : Go EN p e below s kc ks Q T (mkF m (pc + 3) Ls (S))) : Go EN p e below s kc ks Q T (mkF m pc Ls (.int x :: S)) := Go.step (fun _ kt => XS.ifNo X.here hx rfl (hb hby d) rfl h kt) K
theorem q_icN (X : Stand p l e R s' m args below meth c T locs cells slots) (hx : p.tables.exec = Jvm.exec) (hby : c.code = b) (d : decode b pc = .ok (.if_icmp cd o, 3)) (h : if_icmp.holds cd x y = false) (K : Go EN p e below s kc ks Q T (mkF m (pc + 3) Ls (S))) : Go EN p e below s kc ks Q T (mkF m pc Ls (.int y :: .int x :: S)) := Go.step (fun _ kt => XS.icmpNo X.here hx rfl (hb hby d) rfl h kt) K
end Short
/-! calls and field reads in continuation form -/
section CallsShort
variable {p : Program} {l : Launch} {e : Env} {R : Room} {s s' : State} {m : MethodId} {args : Array Value} {below : List Frame} {meth : Method} {c : Code} {T : State} {locs : List Loc} {cells slots kc ks : Nat} {Q : Option Value → Heap → List Loc → Prop} {EN : State → Outcome → State → List Loc → Nat → Nat → Prop} {b : ByteArray} {pc : Nat} {Ls : Array Slot} {S : List Value} {Z : State} {a0 : Array Value} {h : Heap} {a : Addr} {v : Value} {own C : String} {index : Nat} {y z : MethodName} {bytes : ByteArray} {maxL nl : Nat} {ret : Option FieldType} {rm : Room} {Q' : Option Value → Heap → List Loc → Prop} {ps : List FieldType} {rt : Option FieldType}
theorem q_gF (X : Stand p l e R s' m args below meth c T locs cells slots) (hx : p.tables.exec = Jvm.exec) (hZ : Z.Warmed39 s'.vm) (hown : s'.vm.findClass own = some m.cls) {O n d : String} (w : (Jvm.Cond.fieldLink own index O n d).before a0 Z = true) (eT : T.heap = h) (F : Fld Z h a O n d v) (hby : c.code = b) (dd : decode b pc = .ok (.getfield index, 3))
    (K : ∀ T', Stand p l e R s' m args below meth c T' locs cells slots → T'.heap = h → Go EN p e below s kc ks Q T' (mkF m (pc + 3) Ls (v :: S))) : Go EN p e below s kc ks Q T (mkF m pc Ls (.ref a :: S)) := by
  obtain ⟨T', X', e', st⟩ := getF X hx hZ hown (host := "") (Or.inl w) Via.refl eT F (g := mkF m pc Ls (.ref a :: S)) rfl rfl (hb hby dd)
  exact Go.step st (K T' X' e')
theorem q_gS (X : Stand p l e R s' m args below meth c T locs cells slots) (hx : p.tables.exec = Jvm.exec) (hZ : Z.Warmed39 s'.vm) (hown : s'.vm.findClass own = some m.cls) {O n d : String} (w : (Jvm.Cond.fieldLink own index O n d).before a0 Z = true) (eT : T.heap = h) (F : Sta Z h O n d v) (hby : c.code = b) (dd : decode b pc = .ok (.getstatic index, 3))
    (K : ∀ T', Stand p l e R s' m args below meth c T' locs cells slots → T'.heap = h → Go EN p e below s kc ks Q T' (mkF m (pc + 3) Ls (v :: S))) : Go EN p e below s kc ks Q T (mkF m pc Ls S) := by
  obtain ⟨T', X', e', st⟩ := getS2 X hx hZ hown (host := "") (Or.inl w) Via.refl eT F (g := mkF m pc Ls S) rfl (hb hby dd)
  exact Go.step st (K T' X' e')
theorem q_cV (argsL rest : List Value) (W : Nat) (X : Stand p l e R s' m args below meth c T locs cells slots) (hx : p.tables.exec = Jvm.exec) (hZ : Z.Warmed39 s'.vm) (hown : s'.vm.findClass own = some m.cls) (w1 : (Jvm.Cond.methodLink own index z).before a0 Z = true) (w2 : (Jvm.Cond.declares z).before a0 Z = true) (w3 : (Jvm.Cond.selects C z z).before a0 Z = true) (w4 : (Jvm.Cond.instanceMethod z).before a0 Z = true) (w5 : (Jvm.Cond.code z bytes maxL ret).before a0 Z = true) (w6 : (Jvm.Cond.initialized z.cls).before a0 Z = true) (hy : z.cls ≠ "java/lang/invoke/MethodHandle" ∧ z.cls ≠ "java/lang/invoke/VarHandle")
    (eT : T.heap = h) (E : Exa Z h a C) (hM : Met FrameEnd l z bytes maxL ret [] rm Z h (.ref a :: argsL).toArray Q') (hby : c.code = b) (hml : c.maxLocals = nl) (hsz : Ls.size = nl) (d : decode b pc = .ok (.invokevirtual index, 3)) (pd : parseMethodDescriptor z.desc = some ⟨ps, rt⟩) (hl : argsL.length = ps.length) (hW : (rest.map fun v => v.category).sum = W) (fr : rm.frames + 1 ≤ R.frames) (lo : W + (maxL + 11) + rm.locals ≤ R.locals) (cc : cells + rm.cells ≤ R.cells) (ss : slots + rm.slots ≤ R.slots)
    (K : ∀ (v : Option Value) (T' : State) (L' Lc : List Loc), Stand p l e R s' m args below meth c T' L' (cells + rm.cells) (slots + rm.slots) → Q' v T'.heap Lc → L' = locs ++ Lc → Go EN p e below s kc ks Q T' (mkF m (pc + 3) Ls (v.toList ++ rest))) : Go EN p e below s kc ks Q T (mkF m pc Ls (argsL.reverse ++ .ref a :: rest)) := by
  obtain ⟨cB, kB, i1, i2, i3⟩ := isOf hZ eT E
  obtain ⟨v, _, ⟨T', L', k', n'⟩, -, X', ⟨Lc, hQ, l1, y1, z1⟩, st⟩ := X.virtualBack hx (y := z) (z := z) hown (mvT hZ w1) (mvT hZ w2) (notFace_of_selects (args := #[]) (mvT hZ w3)) (mvT hZ w3) (mvT hZ w4) hy (backOf (W := W) hM hZ w5 w6 fr lo) i1 i3 (g := mkF m pc Ls (argsL.reverse ++ .ref a :: rest)) rfl (hsz.trans hml.symm) (Steps.refl _) (argsL := argsL) (rest := rest) (lenOf pd hl) rfl (by show 2 * 0 + _ ≤ _; omega) (hb hby d) (fun _ _ => ⟨rfl, eT, cc, ss⟩)
  dsimp only [Pt.U, Pt.locs, Pt.cells, Pt.slots] at X' l1 y1 z1 st hQ
  subst y1 z1
  exact Go.trans st (K v T' L' Lc X' hQ l1)
theorem q_cI (argsL rest : List Value) (W : Nat) (X : Stand p l e R s' m args below meth c T locs cells slots) (hx : p.tables.exec = Jvm.exec) (hZ : Z.Warmed39 s'.vm) (hown : s'.vm.findClass own = some m.cls) {count : Nat} (w1 : (Jvm.Cond.methodLink own index y).before a0 Z = true) (w2 : (Jvm.Cond.declares y).before a0 Z = true) (w7 : (Jvm.Cond.interfaceMethod y.cls y.cls y.name y.desc).before a0 Z = true) (w3 : (Jvm.Cond.selects C y z).before a0 Z = true) (w4 : (Jvm.Cond.instanceMethod z).before a0 Z = true) (w8 : (Jvm.Cond.publicMethod z).before a0 Z = true) (w9 : (Jvm.Cond.unhidden C y.name y.desc).before a0 Z = true) (w10 : (Jvm.Cond.castable C y.cls).before a0 Z = true) (w5 : (Jvm.Cond.code z bytes maxL ret).before a0 Z = true) (w6 : (Jvm.Cond.initialized z.cls).before a0 Z = true) (hy : y.cls ≠ "java/lang/invoke/MethodHandle" ∧ y.cls ≠ "java/lang/invoke/VarHandle")
    (eT : T.heap = h) (E : Exa Z h a C) (hM : Met FrameEnd l z bytes maxL ret [] rm Z h (.ref a :: argsL).toArray Q') (hby : c.code = b) (hml : c.maxLocals = nl) (hsz : Ls.size = nl) (d : decode b pc = .ok (.invokeinterface index count, 5)) (pd : parseMethodDescriptor y.desc = some ⟨ps, rt⟩) (hl : argsL.length = ps.length) (hW : (rest.map fun v => v.category).sum = W) (fr : rm.frames + 1 ≤ R.frames) (lo : W + (maxL + 11) + rm.locals ≤ R.locals) (cc : cells + rm.cells ≤ R.cells) (ss : slots + rm.slots ≤ R.slots)
    (K : ∀ (v : Option Value) (T' : State) (L' Lc : List Loc), Stand p l e R s' m args below meth c T' L' (cells + rm.cells) (slots + rm.slots) → Q' v T'.heap Lc → L' = locs ++ Lc → Go EN p e below s kc ks Q T' (mkF m (pc + 5) Ls (v.toList ++ rest))) : Go EN p e below s kc ks Q T (mkF m pc Ls (argsL.reverse ++ .ref a :: rest)) := by
  obtain ⟨cB, kB, i1, i2, i3⟩ := isOf hZ eT E
  obtain ⟨v, _, ⟨T', L', k', n'⟩, -, X', ⟨Lc, hQ, l1, y1, z1⟩, st⟩ := X.interfaceBack hx (xi := y) (y := z) hown (mvT hZ w1) (mvT hZ w2) (mvT hZ w7 (by simp [Cond.onTables, Cond.keepsFace, Cond.keeps, Cond.steady, Cond.faceAtom, hy.1, hy.2])) (mvT hZ w3) (mvT hZ w4) (mvT hZ w8) (mvT hZ w9) (mvT hZ w10) hy (backOf (W := W) hM hZ w5 w6 fr lo) i1 i2 i3 (g := mkF m pc Ls (argsL.reverse ++ .ref a :: rest)) rfl (hsz.trans hml.symm) (Steps.refl _) (argsL := argsL) (rest := rest) (lenOf pd hl) rfl (by show 2 * 0 + _ ≤ _; omega) (hb hby d) (fun _ _ => ⟨rfl, eT, cc, ss⟩)
  dsimp only [Pt.U, Pt.locs, Pt.cells, Pt.slots] at X' l1 y1 z1 st hQ
  subst y1 z1
  exact Go.trans st (K v T' L' Lc X' hQ l1)
theorem q_cN (argsL rest : List Value) (W : Nat) (X : Stand p l e R s' m args below meth c T locs cells slots) (hx : p.tables.exec = Jvm.exec) (hZ : Z.Warmed39 s'.vm) (hown : s'.vm.findClass own = some m.cls) (hn : z.name = "<init>") (w1 : (Jvm.Cond.methodLink own index z).before a0 Z = true) (w4 : (Jvm.Cond.instanceMethod z).before a0 Z = true) (w5 : (Jvm.Cond.code z bytes maxL none).before a0 Z = true) (w6 : (Jvm.Cond.initialized z.cls).before a0 Z = true) (hy : z.cls ≠ "java/lang/invoke/MethodHandle" ∧ z.cls ≠ "java/lang/invoke/VarHandle")
    (eT : T.heap = h) (hM : Met FrameEnd l z bytes maxL none [] rm Z h (.ref a :: argsL).toArray Q') (hby : c.code = b) (hml : c.maxLocals = nl) (hsz : Ls.size = nl) (d : decode b pc = .ok (.invokespecial index, 3)) (pd : parseMethodDescriptor z.desc = some ⟨ps, rt⟩) (hl : argsL.length = ps.length) (hW : (rest.map fun v => v.category).sum = W) (fr : rm.frames + 1 ≤ R.frames) (lo : W + (maxL + 11) + rm.locals ≤ R.locals) (cc : cells + rm.cells ≤ R.cells) (ss : slots + rm.slots ≤ R.slots)
    (K : ∀ (v : Option Value) (T' : State) (L' Lc : List Loc), Stand p l e R s' m args below meth c T' L' (cells + rm.cells) (slots + rm.slots) → Q' v T'.heap Lc → L' = locs ++ Lc → Go EN p e below s kc ks Q T' (mkF m (pc + 3) Ls (v.toList ++ rest))) : Go EN p e below s kc ks Q T (mkF m pc Ls (argsL.reverse ++ .ref a :: rest)) := by
  obtain ⟨v, _, ⟨T', L', k', n'⟩, -, X', ⟨Lc, hQ, l1, y1, z1⟩, st⟩ := X.specialBack hx (y := z) hn hown (mvT hZ w1) (mvT hZ w4) (mvT hZ w5) hy (backOf (W := W) hM hZ w5 w6 fr lo) (g := mkF m pc Ls (argsL.reverse ++ .ref a :: rest)) rfl (hsz.trans hml.symm) (Steps.refl _) (a := a) (argsL := argsL) (rest := rest) (lenOf pd hl) rfl (by show 2 * 0 + _ ≤ _; omega) (hb hby d) (fun _ _ => ⟨rfl, eT, cc, ss⟩)
  dsimp only [Pt.U, Pt.locs, Pt.cells, Pt.slots] at X' l1 y1 z1 st hQ
  subst y1 z1
  exact Go.trans st (K v T' L' Lc X' hQ l1)
theorem q_cS (argsL rest : List Value) (W : Nat) (X : Stand p l e R s' m args below meth c T locs cells slots) (hx : p.tables.exec = Jvm.exec) (hZ : Z.Warmed39 s'.vm) (hown : s'.vm.findClass own = some m.cls) (w1 : (Jvm.Cond.methodLink own index z).before a0 Z = true) (w4 : (Jvm.Cond.static z).before a0 Z = true) (w5 : (Jvm.Cond.code z bytes maxL ret).before a0 Z = true) (w6 : (Jvm.Cond.initialized z.cls).before a0 Z = true) (hy : z.cls ≠ "java/lang/invoke/MethodHandle" ∧ z.cls ≠ "java/lang/invoke/VarHandle")
    (eT : T.heap = h) (hM : Met FrameEnd l z bytes maxL ret [] rm Z h argsL.toArray Q') (hby : c.code = b) (hml : c.maxLocals = nl) (hsz : Ls.size = nl) (d : decode b pc = .ok (.invokestatic index, 3)) (pd : parseMethodDescriptor z.desc = some ⟨ps, rt⟩) (hl : argsL.length = ps.length) (hW : (rest.map fun v => v.category).sum = W) (fr : rm.frames + 1 ≤ R.frames) (lo : W + (maxL + 11) + rm.locals ≤ R.locals) (cc : cells + rm.cells ≤ R.cells) (ss : slots + rm.slots ≤ R.slots)
    (K : ∀ (v : Option Value) (T' : State) (L' Lc : List Loc), Stand p l e R s' m args below meth c T' L' (cells + rm.cells) (slots + rm.slots) → Q' v T'.heap Lc → L' = locs ++ Lc → Go EN p e below s kc ks Q T' (mkF m (pc + 3) Ls (v.toList ++ rest))) : Go EN p e below s kc ks Q T (mkF m pc Ls (argsL.reverse ++ rest)) := by
  obtain ⟨v, _, ⟨T', L', k', n'⟩, -, X', ⟨Lc, hQ, l1, y1, z1⟩, st⟩ := Jvm.LawKit.callS X hx (y := z) hown (mvT hZ w1) (mvT hZ w4) (mvT hZ w6) (mvT hZ w5) hy (backOf (W := W) hM hZ w5 w6 fr lo) (g := mkF m pc Ls (argsL.reverse ++ rest)) rfl (hsz.trans hml.symm) (argsL := argsL) (rest := rest) (lenOf pd hl) rfl (by show 2 * 0 + _ ≤ _; omega) (hb hby d) (fun _ _ => ⟨rfl, eT, cc, ss⟩)
  dsimp only [Pt.U, Pt.locs, Pt.cells, Pt.slots] at X' l1 y1 z1 st hQ
  subst y1 z1
  exact Go.step st (K v T' L' Lc X' hQ l1)
end CallsShort
/-! walks that intern, over the invariant of the booked constants -/
section HeldGo
variable {p : Program} {l : Launch} {e : Env} {R : Room} {s : State} {m : MethodId} {args : Array Value} {below : List Frame} {meth : Method} {c : Code} {T : State} {locs : List Loc} {cells slots kc ks : Nat} {Q : Option Value → Heap → List Loc → Prop} {Z : State} {a0 : Array Value} {EL : List (String × Nat)} {h h0 : Heap} {vm0 : Vm}
def ENH (Z : State) (EL : List (String × Nat)) (U : State) (o : Outcome) (U' : State) (L : List Loc) (k n : Nat) : Prop := CHr Z EL U.vm U.heap U'.vm U'.heap ∧ ReturnedEndW U o U' L k n
abbrev MetH (l : Launch) (y : MethodName) (bytes : ByteArray) (ml : Nat) (rt : Option FieldType) (ws : List Jvm.Cond) (R : Room) (Z : State) (EL : List (String × Nat)) (SF : List Addr) (h0 : Heap) (A : Array Value) (Q : Option Value → Heap → List Loc → Prop) : Prop :=
  MetFree l y (head1 (Jvm.Cond.code y bytes ml rt :: ws) R) (fun a U => a = A ∧ Z.Warmed39 U.vm ∧ U.heap = h0 ∧ CHv Z EL U.vm h0 ∧ ∀ x ∈ SF, Safe Z EL U.vm h0 x) (fun _ _ _ _ _ => True) (fun _ U o U' => ∃ v L, o = .returned v ∧ Q v U'.heap L ∧ CHr Z EL U.vm U.heap U'.vm U'.heap ∧ ReturnedEndW U o U' L R.cells R.slots)
theorem own_metH {y : MethodName} {bytes : ByteArray} {ml : Nat} {rt : Option FieldType} {ws : List Jvm.Cond} {A : Array Value} {SF : List Addr} (own : String) (hpl : plainFor y = true) (hc : y.cls = own) (Ls : Array Slot) (ef : ∀ m, entryFrame m A ml = mkF m 0 Ls [])
    (k : ∀ (p : Program) (e : Env) (s : State) (m : MethodId) (below : List Frame) (meth : Method) (c : Code) (s₁ : State), p.tables.exec = Jvm.exec → c.code = bytes → meth.locks = false → meth.sig.returnType = rt → c.maxLocals = ml → Z.Warmed39 s.vm → s.vm.findClass own = some m.cls → meth.name = y.name → Stand p l e R (s.setVm s.vm) m A below meth c s₁ [] 0 0 → s₁.heap = h0 → s.Since s.vm 0 → 0 ≤ h0.size → s.heap = h0 → CHv Z EL s.vm h0 → (∀ x ∈ SF, Safe Z EL s.vm h0 x) → Go (ENH Z EL) p e below s R.cells R.slots Q s₁ (mkF m 0 Ls [])) :
    MetH l y bytes ml rt ws R Z EL SF h0 A Q := by
  refine MetFree.of_bodySF hpl hisR ?_
  intro p e s m args below meth c s₁ Bd hml0 hP hK
  obtain ⟨rfl, hZ, hh, hH, hS⟩ := hP
  exact Go.cast (ef m) (k p e s m below meth c s₁ Bd.exec Bd.bytes Bd.notSynchronized Bd.returns hml0 hZ (hc ▸ findClass_of_methodNamed Bd.named) (name_of_methodNamed Bd.named Bd.method).1 (Stand.of_body Bd) (by rw [← hh, Bd.state]; rfl) (State.WarmedH.since (State.WarmedH.refl s) 0) (Nat.zero_le _) hh hH hS)
theorem sg0 : ∀ x ∈ ([] : List Addr), x < h.size ∧ Safe Z EL vm0 h x := fun _ q => nomatch q
theorem sgS {a : Addr} {ws : List Addr} (n : a < h.size) (f : Safe Z EL vm0 h a) (r : ∀ x ∈ ws, x < h.size ∧ Safe Z EL vm0 h x) : ∀ x ∈ a :: ws, x < h.size ∧ Safe Z EL vm0 h x := fun x q => by
  rcases List.mem_cons.mp q with rfl | q
  · exact ⟨n, f⟩
  · exact r x q
theorem own_backH {y : MethodName} {bytes : ByteArray} {maxL : Nat} {ret : Option FieldType} {rm : Room} {len W : Nat} {as' : Array Value} {SF : List Addr}
    (hM : MetH l y bytes maxL ret [] rm Z EL SF h as' Q) (hZ : Z.Warmed39 vm0) (wc : (Jvm.Cond.code y bytes maxL ret).before a0 Z = true) (wz : (Jvm.Cond.initialized y.cls).before a0 Z = true) (hf : rm.frames + 1 ≤ R.frames) (hl : W + (maxL + 11) + rm.locals ≤ R.locals) (hEL : EW Z a0 EL) (H : CHv Z EL vm0 h) (hsf : ∀ x ∈ SF, x < h.size ∧ Safe Z EL vm0 h x) :
    BackS l R p e below (s.setVm vm0) args y len W (fun A a => a = as' ∧ A.U.heap = h ∧ A.cells + rm.cells ≤ R.cells ∧ A.slots + rm.slots ≤ R.slots)
      (fun A _ v B => ∃ L, Q v B.U.heap L ∧ B.locs = A.locs ++ L ∧ B.cells = A.cells + rm.cells ∧ B.slots = A.slots + rm.slots ∧ CHr Z EL vm0 h B.U.vm B.U.heap) :=
  BackS.of_freeW (bytes := bytes) (maxL := maxL) (ret := ret) (E := fun _ first o t L k n => k = rm.cells ∧ n = rm.slots ∧ (∃ v, o = .returned v ∧ Q v t.heap L) ∧ CHr Z EL first.vm first.heap t.vm t.heap) hM hf hl
    (fun m meth c A a Y hp => have hU : Z.Warmed39 A.U.vm := wtrans (s := s.setVm vm0) hZ Y.warmed
      ⟨by show (Jvm.Cond.and _ .tt).before a A.U = true; rw [Cond.before_and, mv hU wc]; rfl, mv hU wc, mv hU wz, hp.2.2.1, hp.2.2.2⟩)
    (fun m meth c A a g mk Y hp => ⟨hp.1, wtrans (s := s.setVm vm0) hZ Y.warmed, hp.2.1, (CHv.at Y hZ hEL H).1, fun x q => (CHv.at Y hZ hEL H).safe (hsf x q).1 (hsf x q).2⟩) (fun _ _ _ _ _ _ _ _ _ => trivial)
    (fun _ _ _ _ ⟨v, L, h1, h2, h3, h4⟩ => ⟨L, _, _, h4, rfl, rfl, ⟨v, h1, h2⟩, h3⟩)
    (fun m meth c A a g mk v t L k n Y hp _ _ ⟨e1, e2, ⟨v', e3, e4⟩, e5⟩ => by
      cases e3; subst e1 e2
      refine ⟨L, e4, rfl, rfl, rfl, (CHv.at Y hZ hEL H).trans ?_⟩
      rw [← hp.2.1]; exact e5)
theorem endH (hh : s.heap = h0) (eT : T.heap = h) (X : Stand p l e R (s.setVm vm0) m args below meth c T locs cells slots) (hZ : Z.Warmed39 vm0) (hEL : EW Z a0 EL) (A : CHr Z EL s.vm h0 vm0 h) : CHr Z EL s.vm s.heap T.vm T.heap := by
  subst hh eT; exact A.trans (CHv.at X hZ hEL A.1)
theorem Go.retNH {k0 : Nat} (A : CHr Z EL s.vm s.heap T.vm T.heap) (X : Stand p l e R (s.setVm vm0) m args below meth c T locs cells slots) (hS : s.Since vm0 k0) (hk : k0 ≤ T.heap.size) (hx : p.tables.exec = Jvm.exec) {pc : Nat} {Ls : Array Slot} {z : Int32} {t : FieldType} {rest : List Value} (hret : meth.sig.returnType = some t) (ht : t = .boolean ∨ t = .byte ∨ t = .char ∨ t = .short) (hlk : meth.locks = false)
    (hd : decode c.code pc = .ok (.ireturn, 1)) (hc : cells ≤ kc) (hs : slots ≤ ks) (q : Q (some (.int (nar t z))) T.heap locs) : Go (ENH Z EL) p e below s kc ks Q T (mkF m pc Ls (.int z :: rest)) := by
  obtain ⟨fs, hr, hrun, hended, hW⟩ := X.leaveW hS hk (v := some (.int (nar t z))) (fun h => by rw [hret] at h; cases h) hlk
  exact ⟨_, _, RoadKit.retN X hx hret ht hd hr, hrun, hended, _, _, rfl, q, A, rewMono hW hc hs⟩
theorem Go.retIH {k0 : Nat} (A : CHr Z EL s.vm s.heap T.vm T.heap) (X : Stand p l e R (s.setVm vm0) m args below meth c T locs cells slots) (hS : s.Since vm0 k0) (hk : k0 ≤ T.heap.size) (hx : p.tables.exec = Jvm.exec) {pc : Nat} {Ls : Array Slot} {z : Int32} {rest : List Value} (hret : meth.sig.returnType = some .int) (hlk : meth.locks = false)
    (hd : decode c.code pc = .ok (.ireturn, 1)) (hc : cells ≤ kc) (hs : slots ≤ ks) (q : Q (some (.int z)) T.heap locs) : Go (ENH Z EL) p e below s kc ks Q T (mkF m pc Ls (.int z :: rest)) := by
  obtain ⟨fs, hr, hrun, hended, hW⟩ := X.leaveW hS hk (v := some (.int z)) (fun h => by rw [hret] at h; cases h) hlk
  exact ⟨_, _, RoadKit.retOut X hx hret rfl (Or.inl ⟨rfl, Or.inl rfl, _, rfl⟩) hd hr, hrun, hended, _, _, rfl, q, A, rewMono hW hc hs⟩
theorem Go.retAH {k0 : Nat} (A : CHr Z EL s.vm s.heap T.vm T.heap) (X : Stand p l e R (s.setVm vm0) m args below meth c T locs cells slots) (hS : s.Since vm0 k0) (hk : k0 ≤ T.heap.size) (hx : p.tables.exec = Jvm.exec) {pc : Nat} {Ls : Array Slot} {z : Value} {t : FieldType} {rest : List Value} (hret : meth.sig.returnType = some t) (ht : t.isReference = true) (hz : z.isRef = true) (hlk : meth.locks = false)
    (hd : decode c.code pc = .ok (.areturn, 1)) (hc : cells ≤ kc) (hs : slots ≤ ks) (q : Q (some z) T.heap locs) : Go (ENH Z EL) p e below s kc ks Q T (mkF m pc Ls (z :: rest)) := by
  obtain ⟨fs, hr, hrun, hended, hW⟩ := X.leaveW hS hk (v := some z) (fun h => by rw [hret] at h; cases h) hlk
  exact ⟨_, _, RoadKit.retOut X hx hret (by cases t <;> cases z <;> first | rfl | (cases ht; done) | (cases hz; done)) (Or.inr (Or.inr (Or.inr (Or.inr ⟨rfl, ht, hz⟩)))) hd hr, hrun, hended, _, _, rfl, q, A, rewMono hW hc hs⟩
theorem Go.retVH {k0 : Nat} (A : CHr Z EL s.vm s.heap T.vm T.heap) (X : Stand p l e R (s.setVm vm0) m args below meth c T locs cells slots) (hS : s.Since vm0 k0) (hk : k0 ≤ T.heap.size) (hx : p.tables.exec = Jvm.exec) {pc : Nat} {Ls : Array Slot} (hret : meth.sig.returnType = none) (hlk : meth.locks = false)
    (hd : decode c.code pc = .ok (.return_, 1)) (hc : cells ≤ kc) (hs : slots ≤ ks) (q : Q none T.heap locs) : Go (ENH Z EL) p e below s kc ks Q T (mkF m pc Ls []) := by
  obtain ⟨fs, hr, hrun, hended, hW⟩ := X.leaveW hS hk (v := none) (fun _ => rfl) hlk
  exact ⟨_, _, X.returnOut hx hret hd hr, hrun, hended, _, _, rfl, q, A, rewMono hW hc hs⟩
end HeldGo
abbrev fl_0 (Z : State) (h : Heap) (a : Addr) (v : Value) : Prop := Fld Z h a "java/lang/String" "value" "[B" v
abbrev fl_1 (Z : State) (h : Heap) (a : Addr) (v : Value) : Prop := Fld Z h a "java/lang/String" "coder" "B" v
theorem pf_AB : parseFieldDescriptor "[B" = some (.array .byte) := by decide
theorem pf_B : parseFieldDescriptor "B" = some .byte := by decide
section Slots
variable {Z : State} {a0 : Array Value} (hw : ∀ d ∈ tables_1, d.before a0 Z = true)
def sn_0 := slot_ne (Or.inr (wd hw 24 rfl)) (Or.inr (wd hw 23 rfl)) (by decide) pf_B pf_AB
end Slots
theorem own_wS {Z : State} {a0 : Array Value} (hw : ∀ d ∈ tables_1, d.before a0 Z = true) : ∀ a ∈ Bundle.stringAtoms, a.before a0 Z = true := by
  intro a ha
  simp only [Bundle.stringAtoms, List.mem_cons, List.not_mem_nil, or_false] at ha
  rcases ha with rfl | rfl | rfl | rfl | rfl | rfl | rfl
  · exact (wd hw 9 rfl)
  · exact (wd hw 8 rfl)
  · exact (wd hw 22 rfl)
  · exact (wd hw 23 rfl)
  · exact (wd hw 24 rfl)
  · exact (wd hw 25 rfl)
  · exact (wd hw 26 rfl)
theorem own_EW {Z : State} {a0 : Array Value} (hw : HW Z a0) : EW Z a0 consts_1 := (EW.cons (wd hw 21 rfl) (by decide) (EW.cons (wd hw 111 rfl) (by decide) EW.nil))
abbrev GP (Z : State) (cs : Int32) (sv : Value) : Prop := (Sta Z Z.heap "java/lang/String" "COMPACT_STRINGS" "Z" (.int cs)) ∧ (¬ (cs = (0 : Int32))) ∧ (Sta Z Z.heap "jdk/internal/util/Preconditions" "SIOOBE_FORMATTER" "Ljava/util/function/BiFunction;" sv) ∧ (sv = .null ∨ ∃ a, sv = .ref a)
theorem own_n (x : Int32) : ((x &&& (7 : Int32)) % (5 : Int32)) = 0 ∨ ((x &&& (7 : Int32)) % (5 : Int32)) = 1 ∨ ((x &&& (7 : Int32)) % (5 : Int32)) = 2 ∨ ((x &&& (7 : Int32)) % (5 : Int32)) = 3 ∨ ((x &&& (7 : Int32)) % (5 : Int32)) = 4 := by
  have h1 := c_mask x 7 3 (by decide) (by decide)
  have h2 := (c_irem (x &&& 7) 5 5 rfl).1 (by rw [h1]; omega)
  generalize ((x &&& (7 : Int32)) % (5 : Int32)) = k at *
  rcases (by omega : k.toInt = 0 ∨ k.toInt = 1 ∨ k.toInt = 2 ∨ k.toInt = 3 ∨ k.toInt = 4) with q | q | q | q | q
  · exact Or.inl (Int32.toInt_inj.mp q)
  · exact Or.inr (Or.inl (Int32.toInt_inj.mp q))
  · exact Or.inr (Or.inr (Or.inl (Int32.toInt_inj.mp q)))
  · exact Or.inr (Or.inr (Or.inr (Or.inl (Int32.toInt_inj.mp q))))
  · exact Or.inr (Or.inr (Or.inr (Or.inr (Int32.toInt_inj.mp q))))
theorem own_fin {r : Int32} (h0 : 0 ≤ r.toInt) (h1 : r.toInt < 256) : ∃ n : Fin 256, r = Int32.ofNat n.val := by
  refine ⟨⟨r.toInt.toNat, by omega⟩, Int32.toInt_inj.mp ?_⟩
  rw [Int32.toInt_ofNat_of_lt (by show r.toInt.toNat < 2147483648; omega)]
  show r.toInt = (r.toInt.toNat : Int)
  omega
theorem own_nar (n : Fin 256) : (((Int32.ofNat n.val).toUInt32.toUInt16.toUInt32.toInt32).toUInt32.toUInt16.toUInt32.toInt32) = Int32.ofNat n.val := by revert n; decide +kernel
theorem own_ch {x r : Int32} (h : r = (if ((x.toUInt32 >>> ((8 : Int32) &&& 31).toUInt32).toInt32 &&& (3 : Int32)) = (0 : Int32) then (47 : Int32) else (((x &&& (255 : Int32)).toUInt32.toUInt16.toUInt32.toInt32).toUInt32.toUInt16.toUInt32.toInt32))) : ∃ n : Fin 256, r = Int32.ofNat n.val := by
  have h1 := c_mask x 255 8 (by decide) (by decide)
  obtain ⟨n, hn⟩ := own_fin (r := x &&& 255) (by rw [h1]; omega) (by rw [h1]; omega)
  rw [h]
  split
  · exact ⟨⟨47, by decide⟩, rfl⟩
  · exact ⟨n, by rw [hn]; exact own_nar n⟩
theorem own_chf {r : Int32} (h : ∃ n : Fin 256, r = Int32.ofNat n.val) : ¬ ((255 : Int32) < (r.toUInt32.toUInt16.toUInt32.toInt32)) ∧ ((((r.toUInt32.toUInt16.toUInt32.toInt32).toInt8.toInt32).toInt8.toInt32) = ((47 : Int32).toInt8.toInt32) ↔ r = (47 : Int32)) := by
  obtain ⟨n, rfl⟩ := h
  revert n; decide +kernel
theorem d1_0 : decode method_2_code 0 = .ok (.iload_n 0, 1) := by decide +kernel
theorem d1_1 : decode method_2_code 1 = .ok (.bipush 8, 2) := by decide +kernel
theorem d1_3 : decode method_2_code 3 = .ok (.iushr, 1) := by decide +kernel
theorem d1_4 : decode method_2_code 4 = .ok (.iconst 3, 1) := by decide +kernel
theorem d1_5 : decode method_2_code 5 = .ok (.iand, 1) := by decide +kernel
theorem d1_6 : decode method_2_code 6 = .ok (.ifCond .ne 6, 3) := by decide +kernel
theorem d1_9 : decode method_2_code 9 = .ok (.bipush 47, 2) := by decide +kernel
theorem d1_11 : decode method_2_code 11 = .ok (.ireturn, 1) := by decide +kernel
theorem d1_12 : decode method_2_code 12 = .ok (.iload_n 0, 1) := by decide +kernel
theorem d1_13 : decode method_2_code 13 = .ok (.sipush 255, 3) := by decide +kernel
theorem d1_16 : decode method_2_code 16 = .ok (.iand, 1) := by decide +kernel
theorem d1_17 : decode method_2_code 17 = .ok (.i2c, 1) := by decide +kernel
theorem d1_18 : decode method_2_code 18 = .ok (.ireturn, 1) := by decide +kernel
theorem pn_1 : plainName "com/example/wary_lock/warylock/LockNameRootPinLaw" = true := by first | (simp [plainName, overriddenIn]; done) | decide +kernel
def Q_ch (Z : State) (r : Int32) (h0 : Heap) (v : Option Value) (h : Heap) (L : List Loc) : Prop := v = some (.int r) ∧ Fr Z.heap.size L ∧ h = h0
theorem rm_ch (l : Launch) (Z : State) (a0 : Array Value) (hw : HW Z a0) (ws : List Jvm.Cond) (cs : Int32) (sv : Value) (GG : GP Z cs sv) (x0 : Int32) (r : Int32) (h0 : Heap) (O0 : Ext Z.heap h0) (hr : r = (if ((x0.toUInt32 >>> ((8 : Int32) &&& 31).toUInt32).toInt32 &&& (3 : Int32)) = (0 : Int32) then (47 : Int32) else (((x0 &&& (255 : Int32)).toUInt32.toUInt16.toUInt32.toInt32).toUInt32.toUInt16.toUInt32.toInt32))) :
    Met FrameEnd l (⟨"com/example/wary_lock/warylock/LockNameRootPinLaw", "ch", "(I)C"⟩ : MethodName) method_2_code 1 (some .char) ws ⟨0, 0, 0, 0⟩ Z h0 #[(.int x0)] (Q_ch Z r h0) := by
  refine own_met "com/example/wary_lock/warylock/LockNameRootPinLaw" (plainFor_of_name pn_1) rfl #[.val (.int x0)] (fun _ => by first | (simp [entryFrame, mkF, argsToLocals, Value.category]; done) | rfl) ?_
  intro p e s m below meth c s₁ hx hby hlk hret hml hZ hown hnm X0 e0
  have N0 := Fr.nil Z.heap.size
  obtain ⟨G_cs, H_cs, G_sv, H_sv⟩ := id GG
  refine q_iN X0 hx hby d1_0 rfl ?_
  refine q_bP X0 hx hby d1_1  ?_
  refine Go.step (fun _ kt_ => XS.iushr X0.here hx rfl (hb hby d1_3) rfl kt_) ?_
  show Go _ _ _ _ _ _ _ _ s₁ (mkF m 4 #[.val (.int x0)] [(.int ((x0.toUInt32 >>> ((8 : Int32) &&& 31).toUInt32).toInt32))])
  refine q_iC X0 hx hby d1_4  ?_
  refine q_iand X0 hx hby d1_5  ?_
  by_cases hc6_1 : (((x0.toUInt32 >>> ((8 : Int32) &&& 31).toUInt32).toInt32) &&& (3 : Int32)) = (0 : Int32)
  · refine q_ifN X0 hx hby d1_6 ((if0 _ _).trans (teq hc6_1).2) ?_
    refine q_bP X0 hx hby d1_9  ?_
    exact Go.retN X0 hx (t := .char) hret (by simp) hlk (hb hby d1_11) (by decide) (by decide) (by show _ ∧ _ ∧ _; rw [e0]; refine ⟨congrArg (fun z => some (Value.int z)) ?_, N0, rfl⟩; rw [hr]; ((try simp only [lw_lt, lw_gt, lw_eq] at H_cs hc6_1); simp only [H_cs, hc6_1, if_true, if_false, ite_self, eq_self, not_false_eq_true, true_or, or_true, false_or, or_false, or_self]); try rfl)
  · refine q_ifY 6 12 X0 hx hby rfl d1_6 ((if0 _ _).trans (feq hc6_1).2) (by decide) (by decide) ?_
    refine q_iN X0 hx hby d1_12 rfl ?_
    refine Go.step (fun _ kt_ => XS.sipush X0.here hx rfl (hb hby d1_13)  kt_) ?_
    refine q_iand X0 hx hby d1_16  ?_
    refine Go.step (fun _ kt_ => XS.i2c X0.here hx rfl (hb hby d1_17) rfl kt_) ?_
    show Go _ _ _ _ _ _ _ _ s₁ (mkF m 18 #[.val (.int x0)] [(.int ((x0 &&& (255 : Int32)).toUInt32.toUInt16.toUInt32.toInt32))])
    exact Go.retN X0 hx (t := .char) hret (by simp) hlk (hb hby d1_18) (by decide) (by decide) (by show _ ∧ _ ∧ _; rw [e0]; refine ⟨congrArg (fun z => some (Value.int z)) ?_, N0, rfl⟩; rw [hr]; ((try simp only [lw_lt, lw_gt, lw_eq] at H_cs hc6_1); simp only [H_cs, hc6_1, if_true, if_false, ite_self, eq_self, not_false_eq_true, true_or, or_true, false_or, or_false, or_self]); try rfl)
theorem d23_0 : decode jdk_42_method_158_code 0 = .ok (.iload_n 0, 1) := by decide +kernel
theorem d23_1 : decode jdk_42_method_158_code 1 = .ok (.iload_n 1, 1) := by decide +kernel
theorem d23_2 : decode jdk_42_method_158_code 2 = .ok (.iload_n 2, 1) := by decide +kernel
theorem d23_3 : decode jdk_42_method_158_code 3 = .ok (.getstatic 1053, 3) := by decide +kernel
theorem d23_6 : decode jdk_42_method_158_code 6 = .ok (.invokestatic 1062, 3) := by decide +kernel
theorem d24_0 : decode jdk_41_method_12_code 0 = .ok (.iload_n 0, 1) := by decide +kernel
theorem d24_1 : decode jdk_41_method_12_code 1 = .ok (.ifCond .lt 13, 3) := by decide +kernel
theorem d24_4 : decode jdk_41_method_12_code 4 = .ok (.iload_n 0, 1) := by decide +kernel
theorem d24_5 : decode jdk_41_method_12_code 5 = .ok (.iload_n 1, 1) := by decide +kernel
theorem d24_6 : decode jdk_41_method_12_code 6 = .ok (.if_icmp .gt 8, 3) := by decide +kernel
theorem d24_9 : decode jdk_41_method_12_code 9 = .ok (.iload_n 1, 1) := by decide +kernel
theorem d24_10 : decode jdk_41_method_12_code 10 = .ok (.iload_n 2, 1) := by decide +kernel
theorem d24_11 : decode jdk_41_method_12_code 11 = .ok (.if_icmp .le 11, 3) := by decide +kernel
theorem d24_22 : decode jdk_41_method_12_code 22 = .ok (.iload_n 0, 1) := by decide +kernel
theorem d24_23 : decode jdk_41_method_12_code 23 = .ok (.ireturn, 1) := by decide +kernel
theorem pn_24 : plainName "jdk/internal/util/Preconditions" = true := by first | (simp [plainName, overriddenIn]; done) | decide +kernel
def Q_a24_0 (Z : State) (x0 : Int32) (h0 : Heap) (v : Option Value) (h : Heap) (L : List Loc) : Prop := v = some (.int x0) ∧ Fr Z.heap.size L ∧ h = h0
theorem rm_a24_0 (l : Launch) (Z : State) (a0 : Array Value) (hw : HW Z a0) (ws : List Jvm.Cond) (cs : Int32) (sv : Value) (GG : GP Z cs sv) (x0 : Int32) (x1 : Int32) (x2 : Int32) (h0 : Heap) (O0 : Ext Z.heap h0) (r0 : ¬ (x0 < (0 : Int32))) (r1 : ¬ (x1 < x0)) (r2 : ¬ (x2 < x1)) :
    Met FrameEnd l (⟨"jdk/internal/util/Preconditions", "checkFromToIndex", "(IIILjava/util/function/BiFunction;)I"⟩ : MethodName) jdk_41_method_12_code 4 (some .int) ws ⟨0, 0, 0, 0⟩ Z h0 #[(.int x0), (.int x1), (.int x2), .null] (Q_a24_0 Z x0 h0) := by
  refine own_met "jdk/internal/util/Preconditions" (plainFor_of_name pn_24) rfl #[.val (.int x0), .val (.int x1), .val (.int x2), .val .null] (fun _ => by first | (simp [entryFrame, mkF, argsToLocals, Value.category]; done) | rfl) ?_
  intro p e s m below meth c s₁ hx hby hlk hret hml hZ hown hnm X0 e0
  have N0 := Fr.nil Z.heap.size
  refine q_iN X0 hx hby d24_0 rfl ?_
  refine q_ifN X0 hx hby d24_1 ((if0 _ _).trans (flt r0).1) ?_
  refine q_iN X0 hx hby d24_4 rfl ?_
  refine q_iN X0 hx hby d24_5 rfl ?_
  refine q_icN X0 hx hby d24_6 (flt r1).2.2.1 ?_
  refine q_iN X0 hx hby d24_9 rfl ?_
  refine q_iN X0 hx hby d24_10 rfl ?_
  refine q_icY 11 22 X0 hx hby rfl d24_11 (flt r2).2.2.2 (by decide) (by decide) ?_
  refine q_iN X0 hx hby d24_22 rfl ?_
  exact Go.retI X0 hx hret hlk (hb hby d24_23) (by decide) (by decide) (by show _ ∧ _ ∧ _; rw [e0]; exact ⟨rfl, N0, rfl⟩)
theorem pd_LIIILjava_util_function_BiFunction_RI : parseMethodDescriptor "(IIILjava/util/function/BiFunction;)I" = some ⟨[.int, .int, .int, (.object "java/util/function/BiFunction")], some .int⟩ := by decide +kernel
theorem d23_9 : decode jdk_42_method_158_code 9 = .ok (.pop, 1) := by decide +kernel
theorem d23_10 : decode jdk_42_method_158_code 10 = .ok (.return_, 1) := by decide +kernel
def Q_a24_1 (Z : State) (x0 : Int32) (h0 : Heap) (v : Option Value) (h : Heap) (L : List Loc) : Prop := v = some (.int x0) ∧ Fr Z.heap.size L ∧ h = h0
theorem rm_a24_1 (l : Launch) (Z : State) (a0 : Array Value) (hw : HW Z a0) (ws : List Jvm.Cond) (cs : Int32) (sv : Value) (GG : GP Z cs sv) (x0 : Int32) (x1 : Int32) (x2 : Int32) (x3 : Addr) (h0 : Heap) (O0 : Ext Z.heap h0) (r0 : ¬ (x0 < (0 : Int32))) (r1 : ¬ (x1 < x0)) (r2 : ¬ (x2 < x1)) :
    Met FrameEnd l (⟨"jdk/internal/util/Preconditions", "checkFromToIndex", "(IIILjava/util/function/BiFunction;)I"⟩ : MethodName) jdk_41_method_12_code 4 (some .int) ws ⟨0, 0, 0, 0⟩ Z h0 #[(.int x0), (.int x1), (.int x2), (.ref x3)] (Q_a24_1 Z x0 h0) := by
  refine own_met "jdk/internal/util/Preconditions" (plainFor_of_name pn_24) rfl #[.val (.int x0), .val (.int x1), .val (.int x2), .val (.ref x3)] (fun _ => by first | (simp [entryFrame, mkF, argsToLocals, Value.category]; done) | rfl) ?_
  intro p e s m below meth c s₁ hx hby hlk hret hml hZ hown hnm X0 e0
  have N0 := Fr.nil Z.heap.size
  refine q_iN X0 hx hby d24_0 rfl ?_
  refine q_ifN X0 hx hby d24_1 ((if0 _ _).trans (flt r0).1) ?_
  refine q_iN X0 hx hby d24_4 rfl ?_
  refine q_iN X0 hx hby d24_5 rfl ?_
  refine q_icN X0 hx hby d24_6 (flt r1).2.2.1 ?_
  refine q_iN X0 hx hby d24_9 rfl ?_
  refine q_iN X0 hx hby d24_10 rfl ?_
  refine q_icY 11 22 X0 hx hby rfl d24_11 (flt r2).2.2.2 (by decide) (by decide) ?_
  refine q_iN X0 hx hby d24_22 rfl ?_
  exact Go.retI X0 hx hret hlk (hb hby d24_23) (by decide) (by decide) (by show _ ∧ _ ∧ _; rw [e0]; exact ⟨rfl, N0, rfl⟩)
theorem pn_23 : plainName "java/lang/String" = true := by first | (simp [plainName, overriddenIn]; done) | decide +kernel
def Q_cb (Z : State)  (h0 : Heap) (v : Option Value) (h : Heap) (L : List Loc) : Prop := v = none ∧ Fr Z.heap.size L ∧ h = h0
theorem rm_cb (l : Launch) (Z : State) (a0 : Array Value) (hw : HW Z a0) (ws : List Jvm.Cond) (cs : Int32) (sv : Value) (GG : GP Z cs sv) (x0 : Int32) (x1 : Int32) (x2 : Int32) (h0 : Heap) (O0 : Ext Z.heap h0) (h1 : ¬ (x0 < (0 : Int32))) (h2 : ¬ (x1 < x0)) (h3 : ¬ (x2 < x1)) :
    Met FrameEnd l (⟨"java/lang/String", "checkBoundsBeginEnd", "(III)V"⟩ : MethodName) jdk_42_method_158_code 3 none ws ⟨1, 0, 0, 15⟩ Z h0 #[(.int x0), (.int x1), (.int x2)] (Q_cb Z  h0) := by
  refine own_met "java/lang/String" (plainFor_of_name pn_23) rfl #[.val (.int x0), .val (.int x1), .val (.int x2)] (fun _ => by first | (simp [entryFrame, mkF, argsToLocals, Value.category]; done) | rfl) ?_
  intro p e s m below meth c s₁ hx hby hlk hret hml hZ hown hnm X0 e0
  have N0 := Fr.nil Z.heap.size
  obtain ⟨G_cs, H_cs, G_sv, H_sv⟩ := id GG
  refine q_iN X0 hx hby d23_0 rfl ?_
  refine q_iN X0 hx hby d23_1 rfl ?_
  refine q_iN X0 hx hby d23_2 rfl ?_
  show Go _ _ _ _ _ _ _ _ s₁ (mkF m 3 #[.val (.int x0), .val (.int x1), .val (.int x2)] [(.int x2), (.int x1), (.int x0)])
  rcases H_sv with hsv | ⟨fa, hsv⟩
  · have G_s2 : Sta Z Z.heap "jdk/internal/util/Preconditions" "SIOOBE_FORMATTER" "Ljava/util/function/BiFunction;" .null := hsv ▸ G_sv
    show Go _ _ _ _ _ _ _ _ s₁ (mkF m 3 #[.val (.int x0), .val (.int x1), .val (.int x2)] [(.int x2), (.int x1), (.int x0)])
    refine q_gS X0 hx hZ hown (wd hw 103 rfl) e0 (Sta.ext O0 G_s2) hby d23_3 ?_
    intro T1 X1 e1
    refine q_cS [(.int x0), (.int x1), (.int x2), .null] [] 0 X1 hx hZ hown (wd hw 105 rfl) (wd hw 106 rfl) (wd hw 107 rfl) (wd hw 104 rfl) (by decide) e1 (rm_a24_0 l Z a0 hw [] cs sv GG x0 x1 x2 h0 O0 h1 h2 h3) hby hml rfl d23_6 pd_LIIILjava_util_function_BiFunction_RI rfl rfl (by decide) (by decide) (by decide) (by decide) ?_
    intro v2 T2 L2 Lc2 X2 hQ2 l2
    obtain ⟨rfl, Nq2, e2⟩ := hQ2
    have N2_ : Fr Z.heap.size L2 := by rw [l2]; exact Fr.app N0 Nq2
    refine q_pop X2 hx hby d23_9 rfl ?_
    exact Go.retV X2 hx hret hlk (hb hby d23_10) (by decide) (by decide) (by show _ ∧ _ ∧ _; rw [e2]; exact ⟨rfl, N2_, rfl⟩)
  · have G_s2 : Sta Z Z.heap "jdk/internal/util/Preconditions" "SIOOBE_FORMATTER" "Ljava/util/function/BiFunction;" (.ref fa) := hsv ▸ G_sv
    show Go _ _ _ _ _ _ _ _ s₁ (mkF m 3 #[.val (.int x0), .val (.int x1), .val (.int x2)] [(.int x2), (.int x1), (.int x0)])
    refine q_gS X0 hx hZ hown (wd hw 103 rfl) e0 (Sta.ext O0 G_s2) hby d23_3 ?_
    intro T3 X3 e3
    refine q_cS [(.int x0), (.int x1), (.int x2), (.ref fa)] [] 0 X3 hx hZ hown (wd hw 105 rfl) (wd hw 106 rfl) (wd hw 107 rfl) (wd hw 104 rfl) (by decide) e3 (rm_a24_1 l Z a0 hw [] cs sv GG x0 x1 x2 fa h0 O0 h1 h2 h3) hby hml rfl d23_6 pd_LIIILjava_util_function_BiFunction_RI rfl rfl (by decide) (by decide) (by decide) (by decide) ?_
    intro v4 T4 L4 Lc4 X4 hQ4 l4
    obtain ⟨rfl, Nq4, e4⟩ := hQ4
    have N4_ : Fr Z.heap.size L4 := by rw [l4]; exact Fr.app N0 Nq4
    refine q_pop X4 hx hby d23_9 rfl ?_
    exact Go.retV X4 hx hret hlk (hb hby d23_10) (by decide) (by decide) (by show _ ∧ _ ∧ _; rw [e4]; exact ⟨rfl, N4_, rfl⟩)
abbrev ix1 (w0 z : Int32) : Int32 := if w0 = z then (0 : Int32) else (-1 : Int32)
theorem d21_0 : decode jdk_43_method_23_code 0 = .ok (.iload_n 1, 1) := by decide +kernel
theorem d21_1 : decode jdk_43_method_23_code 1 = .ok (.i2b, 1) := by decide +kernel
theorem d21_2 : decode jdk_43_method_23_code 2 = .ok (.istore 4, 2) := by decide +kernel
theorem d21_4 : decode jdk_43_method_23_code 4 = .ok (.iload_n 2, 1) := by decide +kernel
theorem d21_5 : decode jdk_43_method_23_code 5 = .ok (.istore 5, 2) := by decide +kernel
theorem d21_7 : decode jdk_43_method_23_code 7 = .ok (.iload 5, 2) := by decide +kernel
theorem d21_9 : decode jdk_43_method_23_code 9 = .ok (.iload_n 3, 1) := by decide +kernel
theorem d21_10 : decode jdk_43_method_23_code 10 = .ok (.if_icmp .ge 21, 3) := by decide +kernel
theorem d21_13 : decode jdk_43_method_23_code 13 = .ok (.aload_n 0, 1) := by decide +kernel
theorem d21_14 : decode jdk_43_method_23_code 14 = .ok (.iload 5, 2) := by decide +kernel
theorem d21_16 : decode jdk_43_method_23_code 16 = .ok (.baload, 1) := by decide +kernel
theorem d21_17 : decode jdk_43_method_23_code 17 = .ok (.iload 4, 2) := by decide +kernel
theorem d21_19 : decode jdk_43_method_23_code 19 = .ok (.if_icmp .ne 6, 3) := by decide +kernel
theorem d21_22 : decode jdk_43_method_23_code 22 = .ok (.iload 5, 2) := by decide +kernel
theorem d21_24 : decode jdk_43_method_23_code 24 = .ok (.ireturn, 1) := by decide +kernel
theorem d21_25 : decode jdk_43_method_23_code 25 = .ok (.iinc 5 1, 3) := by decide +kernel
theorem d21_28 : decode jdk_43_method_23_code 28 = .ok (.goto (-21), 3) := by decide +kernel
theorem d21_31 : decode jdk_43_method_23_code 31 = .ok (.iconst (-1), 1) := by decide +kernel
theorem d21_32 : decode jdk_43_method_23_code 32 = .ok (.ireturn, 1) := by decide +kernel
theorem pn_21 : plainName "java/lang/StringLatin1" = true := by first | (simp [plainName, overriddenIn]; done) | decide +kernel
def Q_ic1 (Z : State) (x1 : Int32) (w0 : Int32) (h0 : Heap) (v : Option Value) (h : Heap) (L : List Loc) : Prop := v = some (.int (ix1 w0 (x1.toInt8.toInt32))) ∧ Fr Z.heap.size L ∧ h = h0
theorem rm_ic1 (l : Launch) (Z : State) (a0 : Array Value) (hw : HW Z a0) (ws : List Jvm.Cond) (cs : Int32) (sv : Value) (GG : GP Z cs sv) (x0 : Addr) (x1 : Int32) (kk : ClassId) (w0 : Int32) (h0 : Heap) (O0 : Ext Z.heap h0) (V0 : Arv Z h0 x0 kk .byte (1 : Int32) [(.int w0)] (.int (0 : Int32))) :
    Met FrameEnd l (⟨"java/lang/StringLatin1", "indexOfChar", "([BIII)I"⟩ : MethodName) jdk_43_method_23_code 6 (some .int) ws ⟨0, 0, 0, 0⟩ Z h0 #[(.ref x0), (.int x1), (.int (0 : Int32)), (.int (1 : Int32))] (Q_ic1 Z x1 w0 h0) := by
  refine own_met "java/lang/StringLatin1" (plainFor_of_name pn_21) rfl #[.val (.ref x0), .val (.int x1), .val (.int (0 : Int32)), .val (.int (1 : Int32)), .unset, .unset] (fun _ => by first | (simp [entryFrame, mkF, argsToLocals, Value.category]; done) | rfl) ?_
  intro p e s m below meth c s₁ hx hby hlk hret hml hZ hown hnm X0 e0
  have N0 := Fr.nil Z.heap.size
  obtain ⟨G_cs, H_cs, G_sv, H_sv⟩ := id GG
  refine q_iN X0 hx hby d21_0 rfl ?_
  refine Go.step (fun _ kt_ => XS.i2b X0.here hx rfl (hb hby d21_1) rfl kt_) ?_
  show Go _ _ _ _ _ _ _ _ s₁ (mkF m 2 #[.val (.ref x0), .val (.int x1), .val (.int (0 : Int32)), .val (.int (1 : Int32)), .unset, .unset] [(.int (x1.toInt8.toInt32))])
  refine q_isL X0 hx hby d21_2 (l' := #[.val (.ref x0), .val (.int x1), .val (.int (0 : Int32)), .val (.int (1 : Int32)), .val (.int (x1.toInt8.toInt32)), .unset]) rfl ?_
  refine q_iN X0 hx hby d21_4 rfl ?_
  refine q_isL X0 hx hby d21_5 (l' := #[.val (.ref x0), .val (.int x1), .val (.int (0 : Int32)), .val (.int (1 : Int32)), .val (.int (x1.toInt8.toInt32)), .val (.int (0 : Int32))]) rfl ?_
  refine q_iL X0 hx hby d21_7 rfl ?_
  refine q_iN X0 hx hby d21_9 rfl ?_
  refine q_icN X0 hx hby d21_10 (tlt (by decide : (0 : Int32) < (1 : Int32))).2.1 ?_
  refine q_aN X0 hx hby d21_13 rfl rfl ?_
  refine q_iL X0 hx hby d21_14 rfl ?_
  obtain ⟨cl1, Ar1, q1, S1, N1, H1, G1⟩ := id V0
  have hin1 : ¬ ((0 : Int32) < 0 ∨ cl1.slots.size ≤ ((0 : Int32)).toNatClampNeg) := inb_of S1 ⟨by decide, by decide⟩
  refine Go.step (X0.baloadBytes hx (j := (0 : Int32)) (v := (.int w0)) (by rw [e0]; exact Ar1.1) (State.isArrayOf_alike hZ.alike Ar1.2.1) Ar1.2.2 hin1 (Has.at H1 hin1 rfl) (g := (mkF m 16 #[.val (.ref x0), .val (.int x1), .val (.int (0 : Int32)), .val (.int (1 : Int32)), .val (.int (x1.toInt8.toInt32)), .val (.int (0 : Int32))] [(.int (0 : Int32)), (.ref x0)])) rfl rfl (hb hby d21_16)) ?_
  refine q_iL X0 hx hby d21_17 rfl ?_
  by_cases hc19_2 : w0 = (x1.toInt8.toInt32)
  · refine q_icN X0 hx hby d21_19 (teq hc19_2).2 ?_
    refine q_iL X0 hx hby d21_22 rfl ?_
    exact Go.retI X0 hx hret hlk (hb hby d21_24) (by decide) (by decide) (by show _ ∧ _ ∧ _; rw [e0]; refine ⟨congrArg (fun z => some (Value.int z)) ?_, N0, rfl⟩; simp only [H_cs, hc19_2, ix1, if_true, if_false, eq_self] <;> rfl)
  · refine q_icY 19 25 X0 hx hby rfl d21_19 (feq hc19_2).2 (by decide) (by decide) ?_
    refine q_inc X0 hx hby d21_25 rfl (l' := #[.val (.ref x0), .val (.int x1), .val (.int (0 : Int32)), .val (.int (1 : Int32)), .val (.int (x1.toInt8.toInt32)), .val (.int (1 : Int32))]) rfl ?_
    refine q_go 28 7 X0 hx hby rfl d21_28 (by decide) (by decide) ?_
    refine q_iL X0 hx hby d21_7 rfl ?_
    refine q_iN X0 hx hby d21_9 rfl ?_
    refine q_icY 10 31 X0 hx hby rfl d21_10 (flt (by decide : ¬ ((1 : Int32) < (1 : Int32)))).2.1 (by decide) (by decide) ?_
    refine q_iC X0 hx hby d21_31  ?_
    exact Go.retI X0 hx hret hlk (hb hby d21_32) (by decide) (by decide) (by show _ ∧ _ ∧ _; rw [e0]; refine ⟨congrArg (fun z => some (Value.int z)) ?_, N0, rfl⟩; simp only [H_cs, hc19_2, ix1, if_true, if_false, eq_self] <;> rfl)
abbrev ix2 (w0 w1 z : Int32) : Int32 := if w0 = z then (0 : Int32) else if w1 = z then (1 : Int32) else (-1 : Int32)
def Q_ic2 (Z : State) (x1 : Int32) (w0 : Int32) (w1 : Int32) (h0 : Heap) (v : Option Value) (h : Heap) (L : List Loc) : Prop := v = some (.int (ix2 w0 w1 (x1.toInt8.toInt32))) ∧ Fr Z.heap.size L ∧ h = h0
theorem rm_ic2 (l : Launch) (Z : State) (a0 : Array Value) (hw : HW Z a0) (ws : List Jvm.Cond) (cs : Int32) (sv : Value) (GG : GP Z cs sv) (x0 : Addr) (x1 : Int32) (kk : ClassId) (w0 : Int32) (w1 : Int32) (h0 : Heap) (O0 : Ext Z.heap h0) (V0 : Arv Z h0 x0 kk .byte (2 : Int32) [(.int w0), (.int w1)] (.int (0 : Int32))) :
    Met FrameEnd l (⟨"java/lang/StringLatin1", "indexOfChar", "([BIII)I"⟩ : MethodName) jdk_43_method_23_code 6 (some .int) ws ⟨0, 0, 0, 0⟩ Z h0 #[(.ref x0), (.int x1), (.int (0 : Int32)), (.int (2 : Int32))] (Q_ic2 Z x1 w0 w1 h0) := by
  refine own_met "java/lang/StringLatin1" (plainFor_of_name pn_21) rfl #[.val (.ref x0), .val (.int x1), .val (.int (0 : Int32)), .val (.int (2 : Int32)), .unset, .unset] (fun _ => by first | (simp [entryFrame, mkF, argsToLocals, Value.category]; done) | rfl) ?_
  intro p e s m below meth c s₁ hx hby hlk hret hml hZ hown hnm X0 e0
  have N0 := Fr.nil Z.heap.size
  obtain ⟨G_cs, H_cs, G_sv, H_sv⟩ := id GG
  refine q_iN X0 hx hby d21_0 rfl ?_
  refine Go.step (fun _ kt_ => XS.i2b X0.here hx rfl (hb hby d21_1) rfl kt_) ?_
  show Go _ _ _ _ _ _ _ _ s₁ (mkF m 2 #[.val (.ref x0), .val (.int x1), .val (.int (0 : Int32)), .val (.int (2 : Int32)), .unset, .unset] [(.int (x1.toInt8.toInt32))])
  refine q_isL X0 hx hby d21_2 (l' := #[.val (.ref x0), .val (.int x1), .val (.int (0 : Int32)), .val (.int (2 : Int32)), .val (.int (x1.toInt8.toInt32)), .unset]) rfl ?_
  refine q_iN X0 hx hby d21_4 rfl ?_
  refine q_isL X0 hx hby d21_5 (l' := #[.val (.ref x0), .val (.int x1), .val (.int (0 : Int32)), .val (.int (2 : Int32)), .val (.int (x1.toInt8.toInt32)), .val (.int (0 : Int32))]) rfl ?_
  refine q_iL X0 hx hby d21_7 rfl ?_
  refine q_iN X0 hx hby d21_9 rfl ?_
  refine q_icN X0 hx hby d21_10 (tlt (by decide : (0 : Int32) < (2 : Int32))).2.1 ?_
  refine q_aN X0 hx hby d21_13 rfl rfl ?_
  refine q_iL X0 hx hby d21_14 rfl ?_
  obtain ⟨cl1, Ar1, q1, S1, N1, H1, G1⟩ := id V0
  have hin1 : ¬ ((0 : Int32) < 0 ∨ cl1.slots.size ≤ ((0 : Int32)).toNatClampNeg) := inb_of S1 ⟨by decide, by decide⟩
  refine Go.step (X0.baloadBytes hx (j := (0 : Int32)) (v := (.int w0)) (by rw [e0]; exact Ar1.1) (State.isArrayOf_alike hZ.alike Ar1.2.1) Ar1.2.2 hin1 (Has.at H1 hin1 rfl) (g := (mkF m 16 #[.val (.ref x0), .val (.int x1), .val (.int (0 : Int32)), .val (.int (2 : Int32)), .val (.int (x1.toInt8.toInt32)), .val (.int (0 : Int32))] [(.int (0 : Int32)), (.ref x0)])) rfl rfl (hb hby d21_16)) ?_
  refine q_iL X0 hx hby d21_17 rfl ?_
  by_cases hc19_2 : w0 = (x1.toInt8.toInt32)
  · refine q_icN X0 hx hby d21_19 (teq hc19_2).2 ?_
    refine q_iL X0 hx hby d21_22 rfl ?_
    exact Go.retI X0 hx hret hlk (hb hby d21_24) (by decide) (by decide) (by show _ ∧ _ ∧ _; rw [e0]; refine ⟨congrArg (fun z => some (Value.int z)) ?_, N0, rfl⟩; simp only [H_cs, hc19_2, ix2, if_true, if_false, eq_self] <;> rfl)
  · refine q_icY 19 25 X0 hx hby rfl d21_19 (feq hc19_2).2 (by decide) (by decide) ?_
    refine q_inc X0 hx hby d21_25 rfl (l' := #[.val (.ref x0), .val (.int x1), .val (.int (0 : Int32)), .val (.int (2 : Int32)), .val (.int (x1.toInt8.toInt32)), .val (.int (1 : Int32))]) rfl ?_
    refine q_go 28 7 X0 hx hby rfl d21_28 (by decide) (by decide) ?_
    refine q_iL X0 hx hby d21_7 rfl ?_
    refine q_iN X0 hx hby d21_9 rfl ?_
    refine q_icN X0 hx hby d21_10 (tlt (by decide : (1 : Int32) < (2 : Int32))).2.1 ?_
    refine q_aN X0 hx hby d21_13 rfl rfl ?_
    refine q_iL X0 hx hby d21_14 rfl ?_
    obtain ⟨cl3, Ar3, q3, S3, N3, H3, G3⟩ := id V0
    have hin3 : ¬ ((1 : Int32) < 0 ∨ cl3.slots.size ≤ ((1 : Int32)).toNatClampNeg) := inb_of S3 ⟨by decide, by decide⟩
    refine Go.step (X0.baloadBytes hx (j := (1 : Int32)) (v := (.int w1)) (by rw [e0]; exact Ar3.1) (State.isArrayOf_alike hZ.alike Ar3.2.1) Ar3.2.2 hin3 (Has.at H3 hin3 rfl) (g := (mkF m 16 #[.val (.ref x0), .val (.int x1), .val (.int (0 : Int32)), .val (.int (2 : Int32)), .val (.int (x1.toInt8.toInt32)), .val (.int (1 : Int32))] [(.int (1 : Int32)), (.ref x0)])) rfl rfl (hb hby d21_16)) ?_
    refine q_iL X0 hx hby d21_17 rfl ?_
    by_cases hc19_4 : w1 = (x1.toInt8.toInt32)
    · refine q_icN X0 hx hby d21_19 (teq hc19_4).2 ?_
      refine q_iL X0 hx hby d21_22 rfl ?_
      exact Go.retI X0 hx hret hlk (hb hby d21_24) (by decide) (by decide) (by show _ ∧ _ ∧ _; rw [e0]; refine ⟨congrArg (fun z => some (Value.int z)) ?_, N0, rfl⟩; simp only [H_cs, hc19_2, hc19_4, ix2, if_true, if_false, eq_self] <;> rfl)
    · refine q_icY 19 25 X0 hx hby rfl d21_19 (feq hc19_4).2 (by decide) (by decide) ?_
      refine q_inc X0 hx hby d21_25 rfl (l' := #[.val (.ref x0), .val (.int x1), .val (.int (0 : Int32)), .val (.int (2 : Int32)), .val (.int (x1.toInt8.toInt32)), .val (.int (2 : Int32))]) rfl ?_
      refine q_go 28 7 X0 hx hby rfl d21_28 (by decide) (by decide) ?_
      refine q_iL X0 hx hby d21_7 rfl ?_
      refine q_iN X0 hx hby d21_9 rfl ?_
      refine q_icY 10 31 X0 hx hby rfl d21_10 (flt (by decide : ¬ ((2 : Int32) < (2 : Int32)))).2.1 (by decide) (by decide) ?_
      refine q_iC X0 hx hby d21_31  ?_
      exact Go.retI X0 hx hret hlk (hb hby d21_32) (by decide) (by decide) (by show _ ∧ _ ∧ _; rw [e0]; refine ⟨congrArg (fun z => some (Value.int z)) ?_, N0, rfl⟩; simp only [H_cs, hc19_2, hc19_4, ix2, if_true, if_false, eq_self] <;> rfl)
abbrev ix3 (w0 w1 w2 z : Int32) : Int32 := if w0 = z then (0 : Int32) else if w1 = z then (1 : Int32) else if w2 = z then (2 : Int32) else (-1 : Int32)
def Q_ic3 (Z : State) (x1 : Int32) (w0 : Int32) (w1 : Int32) (w2 : Int32) (h0 : Heap) (v : Option Value) (h : Heap) (L : List Loc) : Prop := v = some (.int (ix3 w0 w1 w2 (x1.toInt8.toInt32))) ∧ Fr Z.heap.size L ∧ h = h0
theorem rm_ic3 (l : Launch) (Z : State) (a0 : Array Value) (hw : HW Z a0) (ws : List Jvm.Cond) (cs : Int32) (sv : Value) (GG : GP Z cs sv) (x0 : Addr) (x1 : Int32) (kk : ClassId) (w0 : Int32) (w1 : Int32) (w2 : Int32) (h0 : Heap) (O0 : Ext Z.heap h0) (V0 : Arv Z h0 x0 kk .byte (3 : Int32) [(.int w0), (.int w1), (.int w2)] (.int (0 : Int32))) :
    Met FrameEnd l (⟨"java/lang/StringLatin1", "indexOfChar", "([BIII)I"⟩ : MethodName) jdk_43_method_23_code 6 (some .int) ws ⟨0, 0, 0, 0⟩ Z h0 #[(.ref x0), (.int x1), (.int (0 : Int32)), (.int (3 : Int32))] (Q_ic3 Z x1 w0 w1 w2 h0) := by
  refine own_met "java/lang/StringLatin1" (plainFor_of_name pn_21) rfl #[.val (.ref x0), .val (.int x1), .val (.int (0 : Int32)), .val (.int (3 : Int32)), .unset, .unset] (fun _ => by first | (simp [entryFrame, mkF, argsToLocals, Value.category]; done) | rfl) ?_
  intro p e s m below meth c s₁ hx hby hlk hret hml hZ hown hnm X0 e0
  have N0 := Fr.nil Z.heap.size
  obtain ⟨G_cs, H_cs, G_sv, H_sv⟩ := id GG
  refine q_iN X0 hx hby d21_0 rfl ?_
  refine Go.step (fun _ kt_ => XS.i2b X0.here hx rfl (hb hby d21_1) rfl kt_) ?_
  show Go _ _ _ _ _ _ _ _ s₁ (mkF m 2 #[.val (.ref x0), .val (.int x1), .val (.int (0 : Int32)), .val (.int (3 : Int32)), .unset, .unset] [(.int (x1.toInt8.toInt32))])
  refine q_isL X0 hx hby d21_2 (l' := #[.val (.ref x0), .val (.int x1), .val (.int (0 : Int32)), .val (.int (3 : Int32)), .val (.int (x1.toInt8.toInt32)), .unset]) rfl ?_
  refine q_iN X0 hx hby d21_4 rfl ?_
  refine q_isL X0 hx hby d21_5 (l' := #[.val (.ref x0), .val (.int x1), .val (.int (0 : Int32)), .val (.int (3 : Int32)), .val (.int (x1.toInt8.toInt32)), .val (.int (0 : Int32))]) rfl ?_
  refine q_iL X0 hx hby d21_7 rfl ?_
  refine q_iN X0 hx hby d21_9 rfl ?_
  refine q_icN X0 hx hby d21_10 (tlt (by decide : (0 : Int32) < (3 : Int32))).2.1 ?_
  refine q_aN X0 hx hby d21_13 rfl rfl ?_
  refine q_iL X0 hx hby d21_14 rfl ?_
  obtain ⟨cl1, Ar1, q1, S1, N1, H1, G1⟩ := id V0
  have hin1 : ¬ ((0 : Int32) < 0 ∨ cl1.slots.size ≤ ((0 : Int32)).toNatClampNeg) := inb_of S1 ⟨by decide, by decide⟩
  refine Go.step (X0.baloadBytes hx (j := (0 : Int32)) (v := (.int w0)) (by rw [e0]; exact Ar1.1) (State.isArrayOf_alike hZ.alike Ar1.2.1) Ar1.2.2 hin1 (Has.at H1 hin1 rfl) (g := (mkF m 16 #[.val (.ref x0), .val (.int x1), .val (.int (0 : Int32)), .val (.int (3 : Int32)), .val (.int (x1.toInt8.toInt32)), .val (.int (0 : Int32))] [(.int (0 : Int32)), (.ref x0)])) rfl rfl (hb hby d21_16)) ?_
  refine q_iL X0 hx hby d21_17 rfl ?_
  by_cases hc19_2 : w0 = (x1.toInt8.toInt32)
  · refine q_icN X0 hx hby d21_19 (teq hc19_2).2 ?_
    refine q_iL X0 hx hby d21_22 rfl ?_
    exact Go.retI X0 hx hret hlk (hb hby d21_24) (by decide) (by decide) (by show _ ∧ _ ∧ _; rw [e0]; refine ⟨congrArg (fun z => some (Value.int z)) ?_, N0, rfl⟩; simp only [H_cs, hc19_2, ix3, if_true, if_false, eq_self] <;> rfl)
  · refine q_icY 19 25 X0 hx hby rfl d21_19 (feq hc19_2).2 (by decide) (by decide) ?_
    refine q_inc X0 hx hby d21_25 rfl (l' := #[.val (.ref x0), .val (.int x1), .val (.int (0 : Int32)), .val (.int (3 : Int32)), .val (.int (x1.toInt8.toInt32)), .val (.int (1 : Int32))]) rfl ?_
    refine q_go 28 7 X0 hx hby rfl d21_28 (by decide) (by decide) ?_
    refine q_iL X0 hx hby d21_7 rfl ?_
    refine q_iN X0 hx hby d21_9 rfl ?_
    refine q_icN X0 hx hby d21_10 (tlt (by decide : (1 : Int32) < (3 : Int32))).2.1 ?_
    refine q_aN X0 hx hby d21_13 rfl rfl ?_
    refine q_iL X0 hx hby d21_14 rfl ?_
    obtain ⟨cl3, Ar3, q3, S3, N3, H3, G3⟩ := id V0
    have hin3 : ¬ ((1 : Int32) < 0 ∨ cl3.slots.size ≤ ((1 : Int32)).toNatClampNeg) := inb_of S3 ⟨by decide, by decide⟩
    refine Go.step (X0.baloadBytes hx (j := (1 : Int32)) (v := (.int w1)) (by rw [e0]; exact Ar3.1) (State.isArrayOf_alike hZ.alike Ar3.2.1) Ar3.2.2 hin3 (Has.at H3 hin3 rfl) (g := (mkF m 16 #[.val (.ref x0), .val (.int x1), .val (.int (0 : Int32)), .val (.int (3 : Int32)), .val (.int (x1.toInt8.toInt32)), .val (.int (1 : Int32))] [(.int (1 : Int32)), (.ref x0)])) rfl rfl (hb hby d21_16)) ?_
    refine q_iL X0 hx hby d21_17 rfl ?_
    by_cases hc19_4 : w1 = (x1.toInt8.toInt32)
    · refine q_icN X0 hx hby d21_19 (teq hc19_4).2 ?_
      refine q_iL X0 hx hby d21_22 rfl ?_
      exact Go.retI X0 hx hret hlk (hb hby d21_24) (by decide) (by decide) (by show _ ∧ _ ∧ _; rw [e0]; refine ⟨congrArg (fun z => some (Value.int z)) ?_, N0, rfl⟩; simp only [H_cs, hc19_2, hc19_4, ix3, if_true, if_false, eq_self] <;> rfl)
    · refine q_icY 19 25 X0 hx hby rfl d21_19 (feq hc19_4).2 (by decide) (by decide) ?_
      refine q_inc X0 hx hby d21_25 rfl (l' := #[.val (.ref x0), .val (.int x1), .val (.int (0 : Int32)), .val (.int (3 : Int32)), .val (.int (x1.toInt8.toInt32)), .val (.int (2 : Int32))]) rfl ?_
      refine q_go 28 7 X0 hx hby rfl d21_28 (by decide) (by decide) ?_
      refine q_iL X0 hx hby d21_7 rfl ?_
      refine q_iN X0 hx hby d21_9 rfl ?_
      refine q_icN X0 hx hby d21_10 (tlt (by decide : (2 : Int32) < (3 : Int32))).2.1 ?_
      refine q_aN X0 hx hby d21_13 rfl rfl ?_
      refine q_iL X0 hx hby d21_14 rfl ?_
      obtain ⟨cl5, Ar5, q5, S5, N5, H5, G5⟩ := id V0
      have hin5 : ¬ ((2 : Int32) < 0 ∨ cl5.slots.size ≤ ((2 : Int32)).toNatClampNeg) := inb_of S5 ⟨by decide, by decide⟩
      refine Go.step (X0.baloadBytes hx (j := (2 : Int32)) (v := (.int w2)) (by rw [e0]; exact Ar5.1) (State.isArrayOf_alike hZ.alike Ar5.2.1) Ar5.2.2 hin5 (Has.at H5 hin5 rfl) (g := (mkF m 16 #[.val (.ref x0), .val (.int x1), .val (.int (0 : Int32)), .val (.int (3 : Int32)), .val (.int (x1.toInt8.toInt32)), .val (.int (2 : Int32))] [(.int (2 : Int32)), (.ref x0)])) rfl rfl (hb hby d21_16)) ?_
      refine q_iL X0 hx hby d21_17 rfl ?_
      by_cases hc19_6 : w2 = (x1.toInt8.toInt32)
      · refine q_icN X0 hx hby d21_19 (teq hc19_6).2 ?_
        refine q_iL X0 hx hby d21_22 rfl ?_
        exact Go.retI X0 hx hret hlk (hb hby d21_24) (by decide) (by decide) (by show _ ∧ _ ∧ _; rw [e0]; refine ⟨congrArg (fun z => some (Value.int z)) ?_, N0, rfl⟩; simp only [H_cs, hc19_2, hc19_4, hc19_6, ix3, if_true, if_false, eq_self] <;> rfl)
      · refine q_icY 19 25 X0 hx hby rfl d21_19 (feq hc19_6).2 (by decide) (by decide) ?_
        refine q_inc X0 hx hby d21_25 rfl (l' := #[.val (.ref x0), .val (.int x1), .val (.int (0 : Int32)), .val (.int (3 : Int32)), .val (.int (x1.toInt8.toInt32)), .val (.int (3 : Int32))]) rfl ?_
        refine q_go 28 7 X0 hx hby rfl d21_28 (by decide) (by decide) ?_
        refine q_iL X0 hx hby d21_7 rfl ?_
        refine q_iN X0 hx hby d21_9 rfl ?_
        refine q_icY 10 31 X0 hx hby rfl d21_10 (flt (by decide : ¬ ((3 : Int32) < (3 : Int32)))).2.1 (by decide) (by decide) ?_
        refine q_iC X0 hx hby d21_31  ?_
        exact Go.retI X0 hx hret hlk (hb hby d21_32) (by decide) (by decide) (by show _ ∧ _ ∧ _; rw [e0]; refine ⟨congrArg (fun z => some (Value.int z)) ?_, N0, rfl⟩; simp only [H_cs, hc19_2, hc19_4, hc19_6, ix3, if_true, if_false, eq_self] <;> rfl)
abbrev ix4 (w0 w1 w2 w3 z : Int32) : Int32 := if w0 = z then (0 : Int32) else if w1 = z then (1 : Int32) else if w2 = z then (2 : Int32) else if w3 = z then (3 : Int32) else (-1 : Int32)
def Q_ic4 (Z : State) (x1 : Int32) (w0 : Int32) (w1 : Int32) (w2 : Int32) (w3 : Int32) (h0 : Heap) (v : Option Value) (h : Heap) (L : List Loc) : Prop := v = some (.int (ix4 w0 w1 w2 w3 (x1.toInt8.toInt32))) ∧ Fr Z.heap.size L ∧ h = h0
theorem rm_ic4 (l : Launch) (Z : State) (a0 : Array Value) (hw : HW Z a0) (ws : List Jvm.Cond) (cs : Int32) (sv : Value) (GG : GP Z cs sv) (x0 : Addr) (x1 : Int32) (kk : ClassId) (w0 : Int32) (w1 : Int32) (w2 : Int32) (w3 : Int32) (h0 : Heap) (O0 : Ext Z.heap h0) (V0 : Arv Z h0 x0 kk .byte (4 : Int32) [(.int w0), (.int w1), (.int w2), (.int w3)] (.int (0 : Int32))) :
    Met FrameEnd l (⟨"java/lang/StringLatin1", "indexOfChar", "([BIII)I"⟩ : MethodName) jdk_43_method_23_code 6 (some .int) ws ⟨0, 0, 0, 0⟩ Z h0 #[(.ref x0), (.int x1), (.int (0 : Int32)), (.int (4 : Int32))] (Q_ic4 Z x1 w0 w1 w2 w3 h0) := by
  refine own_met "java/lang/StringLatin1" (plainFor_of_name pn_21) rfl #[.val (.ref x0), .val (.int x1), .val (.int (0 : Int32)), .val (.int (4 : Int32)), .unset, .unset] (fun _ => by first | (simp [entryFrame, mkF, argsToLocals, Value.category]; done) | rfl) ?_
  intro p e s m below meth c s₁ hx hby hlk hret hml hZ hown hnm X0 e0
  have N0 := Fr.nil Z.heap.size
  obtain ⟨G_cs, H_cs, G_sv, H_sv⟩ := id GG
  refine q_iN X0 hx hby d21_0 rfl ?_
  refine Go.step (fun _ kt_ => XS.i2b X0.here hx rfl (hb hby d21_1) rfl kt_) ?_
  show Go _ _ _ _ _ _ _ _ s₁ (mkF m 2 #[.val (.ref x0), .val (.int x1), .val (.int (0 : Int32)), .val (.int (4 : Int32)), .unset, .unset] [(.int (x1.toInt8.toInt32))])
  refine q_isL X0 hx hby d21_2 (l' := #[.val (.ref x0), .val (.int x1), .val (.int (0 : Int32)), .val (.int (4 : Int32)), .val (.int (x1.toInt8.toInt32)), .unset]) rfl ?_
  refine q_iN X0 hx hby d21_4 rfl ?_
  refine q_isL X0 hx hby d21_5 (l' := #[.val (.ref x0), .val (.int x1), .val (.int (0 : Int32)), .val (.int (4 : Int32)), .val (.int (x1.toInt8.toInt32)), .val (.int (0 : Int32))]) rfl ?_
  refine q_iL X0 hx hby d21_7 rfl ?_
  refine q_iN X0 hx hby d21_9 rfl ?_
  refine q_icN X0 hx hby d21_10 (tlt (by decide : (0 : Int32) < (4 : Int32))).2.1 ?_
  refine q_aN X0 hx hby d21_13 rfl rfl ?_
  refine q_iL X0 hx hby d21_14 rfl ?_
  obtain ⟨cl1, Ar1, q1, S1, N1, H1, G1⟩ := id V0
  have hin1 : ¬ ((0 : Int32) < 0 ∨ cl1.slots.size ≤ ((0 : Int32)).toNatClampNeg) := inb_of S1 ⟨by decide, by decide⟩
  refine Go.step (X0.baloadBytes hx (j := (0 : Int32)) (v := (.int w0)) (by rw [e0]; exact Ar1.1) (State.isArrayOf_alike hZ.alike Ar1.2.1) Ar1.2.2 hin1 (Has.at H1 hin1 rfl) (g := (mkF m 16 #[.val (.ref x0), .val (.int x1), .val (.int (0 : Int32)), .val (.int (4 : Int32)), .val (.int (x1.toInt8.toInt32)), .val (.int (0 : Int32))] [(.int (0 : Int32)), (.ref x0)])) rfl rfl (hb hby d21_16)) ?_
  refine q_iL X0 hx hby d21_17 rfl ?_
  by_cases hc19_2 : w0 = (x1.toInt8.toInt32)
  · refine q_icN X0 hx hby d21_19 (teq hc19_2).2 ?_
    refine q_iL X0 hx hby d21_22 rfl ?_
    exact Go.retI X0 hx hret hlk (hb hby d21_24) (by decide) (by decide) (by show _ ∧ _ ∧ _; rw [e0]; refine ⟨congrArg (fun z => some (Value.int z)) ?_, N0, rfl⟩; simp only [H_cs, hc19_2, ix4, if_true, if_false, eq_self] <;> rfl)
  · refine q_icY 19 25 X0 hx hby rfl d21_19 (feq hc19_2).2 (by decide) (by decide) ?_
    refine q_inc X0 hx hby d21_25 rfl (l' := #[.val (.ref x0), .val (.int x1), .val (.int (0 : Int32)), .val (.int (4 : Int32)), .val (.int (x1.toInt8.toInt32)), .val (.int (1 : Int32))]) rfl ?_
    refine q_go 28 7 X0 hx hby rfl d21_28 (by decide) (by decide) ?_
    refine q_iL X0 hx hby d21_7 rfl ?_
    refine q_iN X0 hx hby d21_9 rfl ?_
    refine q_icN X0 hx hby d21_10 (tlt (by decide : (1 : Int32) < (4 : Int32))).2.1 ?_
    refine q_aN X0 hx hby d21_13 rfl rfl ?_
    refine q_iL X0 hx hby d21_14 rfl ?_
    obtain ⟨cl3, Ar3, q3, S3, N3, H3, G3⟩ := id V0
    have hin3 : ¬ ((1 : Int32) < 0 ∨ cl3.slots.size ≤ ((1 : Int32)).toNatClampNeg) := inb_of S3 ⟨by decide, by decide⟩
    refine Go.step (X0.baloadBytes hx (j := (1 : Int32)) (v := (.int w1)) (by rw [e0]; exact Ar3.1) (State.isArrayOf_alike hZ.alike Ar3.2.1) Ar3.2.2 hin3 (Has.at H3 hin3 rfl) (g := (mkF m 16 #[.val (.ref x0), .val (.int x1), .val (.int (0 : Int32)), .val (.int (4 : Int32)), .val (.int (x1.toInt8.toInt32)), .val (.int (1 : Int32))] [(.int (1 : Int32)), (.ref x0)])) rfl rfl (hb hby d21_16)) ?_
    refine q_iL X0 hx hby d21_17 rfl ?_
    by_cases hc19_4 : w1 = (x1.toInt8.toInt32)
    · refine q_icN X0 hx hby d21_19 (teq hc19_4).2 ?_
      refine q_iL X0 hx hby d21_22 rfl ?_
      exact Go.retI X0 hx hret hlk (hb hby d21_24) (by decide) (by decide) (by show _ ∧ _ ∧ _; rw [e0]; refine ⟨congrArg (fun z => some (Value.int z)) ?_, N0, rfl⟩; simp only [H_cs, hc19_2, hc19_4, ix4, if_true, if_false, eq_self] <;> rfl)
    · refine q_icY 19 25 X0 hx hby rfl d21_19 (feq hc19_4).2 (by decide) (by decide) ?_
      refine q_inc X0 hx hby d21_25 rfl (l' := #[.val (.ref x0), .val (.int x1), .val (.int (0 : Int32)), .val (.int (4 : Int32)), .val (.int (x1.toInt8.toInt32)), .val (.int (2 : Int32))]) rfl ?_
      refine q_go 28 7 X0 hx hby rfl d21_28 (by decide) (by decide) ?_
      refine q_iL X0 hx hby d21_7 rfl ?_
      refine q_iN X0 hx hby d21_9 rfl ?_
      refine q_icN X0 hx hby d21_10 (tlt (by decide : (2 : Int32) < (4 : Int32))).2.1 ?_
      refine q_aN X0 hx hby d21_13 rfl rfl ?_
      refine q_iL X0 hx hby d21_14 rfl ?_
      obtain ⟨cl5, Ar5, q5, S5, N5, H5, G5⟩ := id V0
      have hin5 : ¬ ((2 : Int32) < 0 ∨ cl5.slots.size ≤ ((2 : Int32)).toNatClampNeg) := inb_of S5 ⟨by decide, by decide⟩
      refine Go.step (X0.baloadBytes hx (j := (2 : Int32)) (v := (.int w2)) (by rw [e0]; exact Ar5.1) (State.isArrayOf_alike hZ.alike Ar5.2.1) Ar5.2.2 hin5 (Has.at H5 hin5 rfl) (g := (mkF m 16 #[.val (.ref x0), .val (.int x1), .val (.int (0 : Int32)), .val (.int (4 : Int32)), .val (.int (x1.toInt8.toInt32)), .val (.int (2 : Int32))] [(.int (2 : Int32)), (.ref x0)])) rfl rfl (hb hby d21_16)) ?_
      refine q_iL X0 hx hby d21_17 rfl ?_
      by_cases hc19_6 : w2 = (x1.toInt8.toInt32)
      · refine q_icN X0 hx hby d21_19 (teq hc19_6).2 ?_
        refine q_iL X0 hx hby d21_22 rfl ?_
        exact Go.retI X0 hx hret hlk (hb hby d21_24) (by decide) (by decide) (by show _ ∧ _ ∧ _; rw [e0]; refine ⟨congrArg (fun z => some (Value.int z)) ?_, N0, rfl⟩; simp only [H_cs, hc19_2, hc19_4, hc19_6, ix4, if_true, if_false, eq_self] <;> rfl)
      · refine q_icY 19 25 X0 hx hby rfl d21_19 (feq hc19_6).2 (by decide) (by decide) ?_
        refine q_inc X0 hx hby d21_25 rfl (l' := #[.val (.ref x0), .val (.int x1), .val (.int (0 : Int32)), .val (.int (4 : Int32)), .val (.int (x1.toInt8.toInt32)), .val (.int (3 : Int32))]) rfl ?_
        refine q_go 28 7 X0 hx hby rfl d21_28 (by decide) (by decide) ?_
        refine q_iL X0 hx hby d21_7 rfl ?_
        refine q_iN X0 hx hby d21_9 rfl ?_
        refine q_icN X0 hx hby d21_10 (tlt (by decide : (3 : Int32) < (4 : Int32))).2.1 ?_
        refine q_aN X0 hx hby d21_13 rfl rfl ?_
        refine q_iL X0 hx hby d21_14 rfl ?_
        obtain ⟨cl7, Ar7, q7, S7, N7, H7, G7⟩ := id V0
        have hin7 : ¬ ((3 : Int32) < 0 ∨ cl7.slots.size ≤ ((3 : Int32)).toNatClampNeg) := inb_of S7 ⟨by decide, by decide⟩
        refine Go.step (X0.baloadBytes hx (j := (3 : Int32)) (v := (.int w3)) (by rw [e0]; exact Ar7.1) (State.isArrayOf_alike hZ.alike Ar7.2.1) Ar7.2.2 hin7 (Has.at H7 hin7 rfl) (g := (mkF m 16 #[.val (.ref x0), .val (.int x1), .val (.int (0 : Int32)), .val (.int (4 : Int32)), .val (.int (x1.toInt8.toInt32)), .val (.int (3 : Int32))] [(.int (3 : Int32)), (.ref x0)])) rfl rfl (hb hby d21_16)) ?_
        refine q_iL X0 hx hby d21_17 rfl ?_
        by_cases hc19_8 : w3 = (x1.toInt8.toInt32)
        · refine q_icN X0 hx hby d21_19 (teq hc19_8).2 ?_
          refine q_iL X0 hx hby d21_22 rfl ?_
          exact Go.retI X0 hx hret hlk (hb hby d21_24) (by decide) (by decide) (by show _ ∧ _ ∧ _; rw [e0]; refine ⟨congrArg (fun z => some (Value.int z)) ?_, N0, rfl⟩; simp only [H_cs, hc19_2, hc19_4, hc19_6, hc19_8, ix4, if_true, if_false, eq_self] <;> rfl)
        · refine q_icY 19 25 X0 hx hby rfl d21_19 (feq hc19_8).2 (by decide) (by decide) ?_
          refine q_inc X0 hx hby d21_25 rfl (l' := #[.val (.ref x0), .val (.int x1), .val (.int (0 : Int32)), .val (.int (4 : Int32)), .val (.int (x1.toInt8.toInt32)), .val (.int (4 : Int32))]) rfl ?_
          refine q_go 28 7 X0 hx hby rfl d21_28 (by decide) (by decide) ?_
          refine q_iL X0 hx hby d21_7 rfl ?_
          refine q_iN X0 hx hby d21_9 rfl ?_
          refine q_icY 10 31 X0 hx hby rfl d21_10 (flt (by decide : ¬ ((4 : Int32) < (4 : Int32)))).2.1 (by decide) (by decide) ?_
          refine q_iC X0 hx hby d21_31  ?_
          exact Go.retI X0 hx hret hlk (hb hby d21_32) (by decide) (by decide) (by show _ ∧ _ ∧ _; rw [e0]; refine ⟨congrArg (fun z => some (Value.int z)) ?_, N0, rfl⟩; simp only [H_cs, hc19_2, hc19_4, hc19_6, hc19_8, ix4, if_true, if_false, eq_self] <;> rfl)
theorem pd_LIRC : parseMethodDescriptor "(I)C" = some ⟨[.int], some .char⟩ := by decide +kernel
theorem d2_0 : decode method_3_code 0 = .ok (.iload_n 0, 1) := by decide +kernel
theorem d2_1 : decode method_3_code 1 = .ok (.ifCond .ne 14, 3) := by decide +kernel
theorem d2_4 : decode method_3_code 4 = .ok (.new 7, 3) := by decide +kernel
theorem d2_7 : decode method_3_code 7 = .ok (.dup, 1) := by decide +kernel
theorem d2_8 : decode method_3_code 8 = .ok (.iconst 0, 1) := by decide +kernel
theorem d2_9 : decode method_3_code 9 = .ok (.newarray .char, 2) := by decide +kernel
theorem d2_11 : decode method_3_code 11 = .ok (.invokespecial 9, 3) := by decide +kernel
theorem d3_0 : decode jdk_42_method_3_code 0 = .ok (.aload_n 0, 1) := by decide +kernel
theorem d3_1 : decode jdk_42_method_3_code 1 = .ok (.aload_n 1, 1) := by decide +kernel
theorem d3_2 : decode jdk_42_method_3_code 2 = .ok (.iconst 0, 1) := by decide +kernel
theorem d3_3 : decode jdk_42_method_3_code 3 = .ok (.aload_n 1, 1) := by decide +kernel
theorem d3_4 : decode jdk_42_method_3_code 4 = .ok (.arraylength, 1) := by decide +kernel
theorem d3_5 : decode jdk_42_method_3_code 5 = .ok (.aconst_null, 1) := by decide +kernel
theorem d3_6 : decode jdk_42_method_3_code 6 = .ok (.invokespecial 27, 3) := by decide +kernel
theorem d4_0 : decode jdk_42_method_149_code 0 = .ok (.aload_n 0, 1) := by decide +kernel
theorem d4_1 : decode jdk_42_method_149_code 1 = .ok (.invokespecial 1, 3) := by decide +kernel
theorem d4_4 : decode jdk_42_method_149_code 4 = .ok (.iload_n 3, 1) := by decide +kernel
theorem d4_5 : decode jdk_42_method_149_code 5 = .ok (.ifCond .ne 22, 3) := by decide +kernel
theorem d4_8 : decode jdk_42_method_149_code 8 = .ok (.aload_n 0, 1) := by decide +kernel
theorem d4_9 : decode jdk_42_method_149_code 9 = .ok (.ldc 7, 2) := by decide +kernel
theorem d4_11 : decode jdk_42_method_149_code 11 = .ok (.getfield 9, 3) := by decide +kernel
theorem d4_14 : decode jdk_42_method_149_code 14 = .ok (.putfield 9, 3) := by decide +kernel
theorem d4_17 : decode jdk_42_method_149_code 17 = .ok (.aload_n 0, 1) := by decide +kernel
theorem d4_18 : decode jdk_42_method_149_code 18 = .ok (.ldc 7, 2) := by decide +kernel
theorem d4_20 : decode jdk_42_method_149_code 20 = .ok (.getfield 15, 3) := by decide +kernel
theorem d4_23 : decode jdk_42_method_149_code 23 = .ok (.putfield 15, 3) := by decide +kernel
theorem d4_26 : decode jdk_42_method_149_code 26 = .ok (.return_, 1) := by decide +kernel
theorem pn_4 : plainName "java/lang/String" = true := by first | (simp [plainName, overriddenIn]; done) | decide +kernel
def Q_a4_0 (Z : State) (x0 : Addr) (h0 : Heap) (v : Option Value) (h : Heap) (L : List Loc) : Prop := ∃ (b2 : Addr) (kb2 : ClassId), v = none ∧ Fr Z.heap.size L ∧ Keep h0 h [x0] ∧ fl_0 Z h x0 (.ref b2) ∧ fl_1 Z h x0 (.int (0 : Int32)) ∧ Arv Z h b2 kb2 .byte (0 : Int32) [] (.int 0)
theorem rm_a4_0 (l : Launch) (Z : State) (a0 : Array Value) (hw : HW Z a0) (ws : List Jvm.Cond) (cs : Int32) (sv : Value) (GG : GP Z cs sv) (x0 : Addr) (x1 : Addr) (x2 : Int32) (x3 : Int32) (w1 : Int32) (h0 : Heap) (O0 : Ext Z.heap h0) (r0 : x3 = (0 : Int32)) (r1 : Exa Z h0 x0 "java/lang/String") (r2 : fl_0 Z h0 x0 .null) (r3 : Z.heap.size ≤ x0) (r4 : fl_1 Z h0 x0 (.int w1)) :
    MetH l (⟨"java/lang/String", "<init>", "([CIILjava/lang/Void;)V"⟩ : MethodName) jdk_42_method_149_code 6 none ws ⟨1, 4, 8, 12⟩ Z consts_1 [x0] h0 #[(.ref x0), (.ref x1), (.int x2), (.int x3), .null] (Q_a4_0 Z x0 h0) := by
  refine own_metH "java/lang/String" (plainFor_of_name pn_4) rfl #[.val (.ref x0), .val (.ref x1), .val (.int x2), .val (.int x3), .val .null, .unset] (fun _ => by first | (simp [entryFrame, mkF, argsToLocals, Value.category]; done) | rfl) ?_
  intro p e s m below meth c s₁ hx hby hlk hret hml hZ hown hnm X0 e0 S0 kk0 hh hCH hSF
  have N0 := Fr.nil Z.heap.size
  have wS := own_wS hw
  have hEL := own_EW hw
  have CR0 := CHr.refl hCH
  refine q_aN X0 hx hby d4_0 rfl rfl ?_
  obtain ⟨T1, X1, e1, st1⟩ := initO X0 hx hZ hown (wd hw 18 rfl) (wd hw 19 rfl) (wd hw 20 rfl) e0 (g := (mkF m 1 #[.val (.ref x0), .val (.ref x1), .val (.int x2), .val (.int x3), .val .null, .unset] [(.ref x0)])) rfl (by rw [hml]; rfl) rfl (hb hby d4_1) (by decide) (W := 0) (by show 2 * 0 + _ ≤ _; exact Nat.le_of_eq rfl) (by decide)
  refine Go.step st1 ?_
  refine q_iN X1 hx hby d4_4 rfl ?_
  refine q_ifN X1 hx hby d4_5 ((if0 _ _).trans (teq r0).2) ?_
  refine q_aN X1 hx hby d4_8 rfl rfl ?_
  obtain ⟨a2, T2, h2, k2, b2, kb2, X2, e2, E2, S2, kq2, hZ2, hown2, A2, C2, V2, B2, -, -, hC2, -, nS2, st2⟩ := ldcCH X1 hx hZ hown (wd hw 21 rfl) wS e1 S0 kk0 hEL (List.mem_of_getElem? (i := 0) rfl) CR0.1 (vs := []) (z := (0 : Int32)) ⟨by decide, rfl⟩ (by decide) rfl (g := (mkF m 9 #[.val (.ref x0), .val (.ref x1), .val (.int x2), .val (.int x3), .val .null, .unset] [(.ref x0)])) rfl (hb hby d4_9) (n := 0) (by decide) (by decide) (by decide) (by decide)
  have CR2 := CHr.trans CR0 hC2
  have O2_ : Ext Z.heap h2 := extTr O0 E2
  have K2 := Keep.ext (Keep.refl h0 [x0]) E2
  refine Go.step st2 ?_
  refine q_gF X2 hx hZ2 hown2 (wd hw 27 rfl) e2 V2 hby d4_11 ?_
  intro T3 X3 e3
  obtain ⟨T4, h4, X4, e4, W4, st4⟩ := putF X3 hx hZ2 hown2 (host := "") (Or.inl (wd hw 27 rfl)) Via.refl e3 (Fld.ext E2 r2) (Exa.ext E2 r1) (Or.inr ⟨(wd hw 23 rfl), rfl, hnm⟩) (wd hw 8 rfl) (ty := (.array .byte)) pf_AB rfl rfl (g := (mkF m 14 #[.val (.ref x0), .val (.ref x1), .val (.int x2), .val (.int x3), .val .null, .unset] [(.ref b2), (.ref x0)])) rfl rfl (hb hby d4_14)
  refine Go.step st4 ?_
  have N4_ := Fr.snoc X4 N0 r3
  have O4_ : Ext Z.heap h4 := extWr O2_ W4 r3
  have K4 := Keep.wr K2 W4 (Or.inl (List.mem_of_getElem? (i := 0) rfl))
  have sf5 := (CHr.safe hC2 r1.lt (hSF _ (List.mem_of_getElem? (i := 0) rfl)))
  have CR4 := CHr.trans CR2 (CHr.wr W4 sf5 CR2.1)
  have F4 := Fld.same W4 (Fld.ext E2 r2)
  refine q_aN X4 hx hby d4_17 rfl rfl ?_
  obtain ⟨a6, T6, h6, k6, b6, kb6, X6, e6, E6, S6, kq6, hZ6, hown6, A6, C6, V6, B6, -, -, hC6, -, nS6, st6⟩ := ldcCH X4 hx hZ2 hown2 (wd hw 21 rfl) wS e4 S2 (Nat.le_trans kq2 (Keep.of_wr W4).1) hEL (List.mem_of_getElem? (i := 0) rfl) CR4.1 (vs := []) (z := (0 : Int32)) ⟨by decide, rfl⟩ (by decide) rfl (g := (mkF m 18 #[.val (.ref x0), .val (.ref x1), .val (.int x2), .val (.int x3), .val .null, .unset] [(.ref x0)])) rfl (hb hby d4_18) (n := 0) (by decide) (by decide) (by decide) (by decide)
  have CR6 := CHr.trans CR4 hC6
  have O6_ : Ext Z.heap h6 := extTr O4_ E6
  have K6 := Keep.ext K4 E6
  refine Go.step st6 ?_
  refine q_gF X6 hx hZ6 hown6 (wd hw 28 rfl) e6 C6 hby d4_20 ?_
  intro T7 X7 e7
  have f8 := (Fld.ext E6 (Fld.other W4 (Fld.ext E2 r4) (Or.inr (sn_0 hw))))
  obtain ⟨T9, h9, X9, e9, W9, st9⟩ := putFN X7 hx hZ6 hown6 (wd hw 28 rfl) Via.refl e7 f8 (Exa.ext E6 (Exa.wr W4 (Exa.ext E2 r1))) (Or.inr ⟨(wd hw 24 rfl), rfl, hnm⟩) (wd hw 8 rfl) (ty := .byte) (v' := (.int (0 : Int32))) pf_B rfl rfl (g := (mkF m 23 #[.val (.ref x0), .val (.ref x1), .val (.int x2), .val (.int x3), .val .null, .unset] [(.int (0 : Int32)), (.ref x0)])) rfl rfl (hb hby d4_23)
  refine Go.step st9 ?_
  have N9_ := Fr.snoc X9 N4_ r3
  have O9_ : Ext Z.heap h9 := extWr O6_ W9 r3
  have K9 := Keep.wr K6 W9 (Or.inl (List.mem_of_getElem? (i := 0) rfl))
  have sf10 := (Safe.wr W4 sf5 CR2.1 sf5)
  have sf11 := (CHr.safe hC6 (Exa.wr W4 (Exa.ext E2 r1)).lt sf10)
  have CR9 := CHr.trans CR6 (CHr.wr W9 sf11 CR6.1)
  have F9 := Fld.same W9 f8
  have f12 := (Exa.wr W9 (Exa.ext E6 (Exa.wr W4 (Exa.ext E2 r1))))
  have f13 := (Fld.other W9 (Fld.ext E6 F4) (Or.inr (Ne.symm (sn_0 hw))))
  have f14 := (((B2.other W4 (Ne.symm (nS2 _ sf5).2)).ext E6).other W9 (Ne.symm (nS2 _ sf5).2))
  exact Go.retVH (endH hh e9 X9 hZ6 hEL CR9) X9 S6 (by rw [e9]; exact (Nat.le_trans kq6 (Keep.of_wr W9).1)) hx hret hlk (hb hby d4_26) (by decide) (by decide) (by show Q_a4_0 ..; rw [e9]; exact ⟨b2, kb2, rfl, N9_, K9, f13, F9, f14⟩)
theorem pd_LACIILjava_lang_Void_RV : parseMethodDescriptor "([CIILjava/lang/Void;)V" = some ⟨[(.array .char), .int, .int, (.object "java/lang/Void")], none⟩ := by decide +kernel
theorem d3_9 : decode jdk_42_method_3_code 9 = .ok (.return_, 1) := by decide +kernel
theorem pn_3 : plainName "java/lang/String" = true := by first | (simp [plainName, overriddenIn]; done) | decide +kernel
def Q_a3_0 (Z : State) (x0 : Addr) (h0 : Heap) (v : Option Value) (h : Heap) (L : List Loc) : Prop := ∃ (b2q2 : Addr) (kb2q2 : ClassId), v = none ∧ Fr Z.heap.size L ∧ Keep h0 h [x0] ∧ fl_0 Z h x0 (.ref b2q2) ∧ fl_1 Z h x0 (.int (0 : Int32)) ∧ Arv Z h b2q2 kb2q2 .byte (0 : Int32) [] (.int 0)
theorem rm_a3_0 (l : Launch) (Z : State) (a0 : Array Value) (hw : HW Z a0) (ws : List Jvm.Cond) (cs : Int32) (sv : Value) (GG : GP Z cs sv) (x0 : Addr) (x1 : Addr) (kk1 : ClassId) (w2 : Int32) (h0 : Heap) (O0 : Ext Z.heap h0) (r0 : Arv Z h0 x1 kk1 .char (0 : Int32) [] (.int (0 : Int32))) (r1 : Exa Z h0 x0 "java/lang/String") (r2 : fl_0 Z h0 x0 .null) (r3 : Z.heap.size ≤ x0) (r4 : fl_1 Z h0 x0 (.int w2)) :
    MetH l (⟨"java/lang/String", "<init>", "([C)V"⟩ : MethodName) jdk_42_method_3_code 2 none ws ⟨2, 4, 8, 29⟩ Z consts_1 [x0] h0 #[(.ref x0), (.ref x1)] (Q_a3_0 Z x0 h0) := by
  refine own_metH "java/lang/String" (plainFor_of_name pn_3) rfl #[.val (.ref x0), .val (.ref x1)] (fun _ => by first | (simp [entryFrame, mkF, argsToLocals, Value.category]; done) | rfl) ?_
  intro p e s m below meth c s₁ hx hby hlk hret hml hZ hown hnm X0 e0 S0 kk0 hh hCH hSF
  have N0 := Fr.nil Z.heap.size
  have wS := own_wS hw
  have hEL := own_EW hw
  have CR0 := CHr.refl hCH
  refine q_aN X0 hx hby d3_0 rfl rfl ?_
  refine q_aN X0 hx hby d3_1 rfl rfl ?_
  refine q_iC X0 hx hby d3_2  ?_
  refine q_aN X0 hx hby d3_3 rfl rfl ?_
  obtain ⟨cl1, Ar1, -, S1, N1, -, -⟩ := id r0
  refine Go.step (X0.arraylength hx (by rw [e0]; exact Ar1.1) (State.isArrayOf_alike hZ.alike Ar1.2.1) (g := (mkF m 4 #[.val (.ref x0), .val (.ref x1)] [(.ref x1), (.int (0 : Int32)), (.ref x1), (.ref x0)])) rfl rfl (hb hby d3_4)) ?_
  rw [len_of S1 N1]
  show Go _ _ _ _ _ _ _ _ s₁ (mkF m 5 #[.val (.ref x0), .val (.ref x1)] [(.int (0 : Int32)), (.int (0 : Int32)), (.ref x1), (.ref x0)])
  refine q_nl X0 hx hby d3_5  ?_
  obtain ⟨_, _, ⟨T2, L2, k2, n2⟩, -, X2, Sq2, gq2, ⟨Lc2, hQ2, l2, y2, z2, cr2⟩, st2⟩ := X0.specialBackS hx (y := (⟨"java/lang/String", "<init>", "([CIILjava/lang/Void;)V"⟩ : MethodName)) rfl hown (mvT hZ (wd hw 14 rfl)) (mvT hZ (wd hw 15 rfl)) (mvT hZ (wd hw 17 rfl)) (by decide) (own_backH (W := 0) (rm_a4_0 l Z a0 hw [] cs sv GG x0 x1 (0 : Int32) (0 : Int32) w2 h0 O0 (by decide) r1 r2 r3 r4) hZ (wd hw 17 rfl) (wd hw 9 rfl) (by decide) (by decide) hEL CR0.1 (sgS r1.lt (hSF _ (List.mem_of_getElem? (i := 0) rfl)) sg0)) (g := (mkF m 6 #[.val (.ref x0), .val (.ref x1)] [.null, (.int (0 : Int32)), (.int (0 : Int32)), (.ref x1), (.ref x0)])) rfl (by rw [hml]; rfl) (Steps.refl _) (a := x0) (argsL := [(.ref x1), (.int (0 : Int32)), (.int (0 : Int32)), .null]) (rest := []) (lenOf pd_LACIILjava_lang_Void_RV rfl) rfl (by show 2 * 0 + _ ≤ _; exact Nat.le_of_eq rfl) (hb hby d3_6) (fun _ _ => ⟨rfl, e0, (by decide : 0 + 4 ≤ _), (by decide : 0 + 8 ≤ _)⟩)
  dsimp only [Pt.U, Pt.locs, Pt.cells, Pt.slots] at X2 l2 y2 z2 st2 hQ2 Sq2 gq2 cr2
  subst y2 z2
  obtain ⟨X2, S2, hZ2, hown2⟩ := rebS S0 ((congrArg Array.size e0).symm ▸ kk0) X2 Sq2 gq2 hZ hown
  obtain ⟨b2q2, kb2q2, rfl, Nq2, Kq2, p2_0, p2_1, p2_2⟩ := hQ2
  have O2_ : Ext Z.heap T2.heap := extKeep O0 Kq2 (allS r3 all0)
  have CR2 := CHr.trans CR0 cr2
  have K2 := Keep.trans (Keep.refl h0 [x0]) Kq2 (allS (Or.inl (List.mem_of_getElem? (i := 0) rfl)) all0)
  have N2_ : Fr Z.heap.size L2 := by rw [l2]; exact Fr.app N0 Nq2
  refine Go.trans st2 ?_
  exact Go.retVH (endH hh rfl X2 hZ2 hEL CR2) X2 S2 (Nat.le_refl _) hx hret hlk (hb hby d3_9) (by decide) (by decide) ⟨b2q2, kb2q2, rfl, N2_, K2, p2_0, p2_1, p2_2⟩
theorem pd_LACRV : parseMethodDescriptor "([C)V" = some ⟨[(.array .char)], none⟩ := by decide +kernel
theorem d2_14 : decode method_3_code 14 = .ok (.areturn, 1) := by decide +kernel
theorem pn_2 : plainName "com/example/wary_lock/warylock/LockNameRootPinLaw" = true := by first | (simp [plainName, overriddenIn]; done) | decide +kernel
def Q_a2_0 (Z : State)  (h0 : Heap) (v : Option Value) (h : Heap) (L : List Loc) : Prop := ∃ (b1 : Addr) (b2q2q3 : Addr) (kb2q2q3 : ClassId), v = some (.ref b1) ∧ Fr Z.heap.size L ∧ Keep h0 h [] ∧ h0.size ≤ b1 ∧ Exa Z h b1 "java/lang/String" ∧ fl_0 Z h b1 (.ref b2q2q3) ∧ fl_1 Z h b1 (.int (0 : Int32)) ∧ Arv Z h b2q2q3 kb2q2q3 .byte (0 : Int32) [] (.int 0)
theorem rm_a2_0 (l : Launch) (Z : State) (a0 : Array Value) (hw : HW Z a0) (ws : List Jvm.Cond) (cs : Int32) (sv : Value) (GG : GP Z cs sv) (x0 : Int32) (x1 : Int32) (x2 : Int32) (x3 : Int32) (x4 : Int32) (h0 : Heap) (O0 : Ext Z.heap h0) (r0 : x0 = (0 : Int32)) :
    MetH l (⟨"com/example/wary_lock/warylock/LockNameRootPinLaw", "mk", "(ICCCC)Ljava/lang/String;"⟩ : MethodName) method_3_code 5 (some (.object "java/lang/String")) ws ⟨3, 6, 12, 43⟩ Z consts_1 [] h0 #[(.int x0), (.int x1), (.int x2), (.int x3), (.int x4)] (Q_a2_0 Z  h0) := by
  refine own_metH "com/example/wary_lock/warylock/LockNameRootPinLaw" (plainFor_of_name pn_2) rfl #[.val (.int x0), .val (.int x1), .val (.int x2), .val (.int x3), .val (.int x4)] (fun _ => by first | (simp [entryFrame, mkF, argsToLocals, Value.category]; done) | rfl) ?_
  intro p e s m below meth c s₁ hx hby hlk hret hml hZ hown hnm X0 e0 S0 kk0 hh hCH hSF
  have N0 := Fr.nil Z.heap.size
  have wS := own_wS hw
  have hEL := own_EW hw
  have CR0 := CHr.refl hCH
  refine q_iN X0 hx hby d2_0 rfl ?_
  refine q_ifN X0 hx hby d2_1 ((if0 _ _).trans (teq r0).2) ?_
  obtain ⟨T1, h1, X1, e1, E1, A1, D1, U1, st1⟩ := newO X0 hx hZ hown (wd hw 7 rfl) (wd hw 8 rfl) (wd hw 9 rfl) e0 (g := (mkF m 4 #[.val (.int x0), .val (.int x1), .val (.int x2), .val (.int x3), .val (.int x4)] [])) rfl (hb hby d2_4) (by decide) (by decide)
  obtain ⟨b1, hb1⟩ : ∃ z, z = h0.size := ⟨_, rfl⟩
  rw [← hb1] at A1 D1 U1 st1
  refine Go.step st1 ?_
  have g_b1 : Z.heap.size ≤ b1 := Nat.le_trans O0.1 (Nat.le_of_eq hb1.symm)
  have O1_ : Ext Z.heap h1 := extTr O0 E1
  have sz_b1 : h0.size ≤ b1 := Nat.le_trans (Keep.refl h0 []).1 (Nat.le_of_eq hb1.symm)
  have K1 := Keep.ext (Keep.refl h0 []) E1
  have CR1 := CHr.trans CR0 (CHr.ext E1 CR0.1)
  have F1_value : fl_0 Z h1 b1 .null := D1 (Or.inr (wd hw 23 rfl)) (ty := (.array .byte)) pf_AB
  have F1_coder : fl_1 Z h1 b1 (.int (0 : Int32)) := D1 (Or.inr (wd hw 24 rfl)) (ty := .byte) pf_B
  refine q_dup X1 hx hby d2_7 rfl ?_
  refine q_iC X1 hx hby d2_8  ?_
  obtain ⟨T2, h2, k2, X2, e2, E2, A2, st2⟩ := newP X1 hx hZ (wd hw 10 rfl) e1 (g := (mkF m 9 #[.val (.int x0), .val (.int x1), .val (.int x2), .val (.int x3), .val (.int x4)] [(.int (0 : Int32)), (.ref b1), (.ref b1)])) rfl (hb hby d2_9) rfl (by decide) (cap := 0) (by decide) (by decide) (by decide) (by decide)
  obtain ⟨b2, hb2⟩ : ∃ z, z = h1.size := ⟨_, rfl⟩
  rw [← hb2] at A2 st2
  refine Go.step st2 ?_
  have g_b2 : Z.heap.size ≤ b2 := Nat.le_trans O1_.1 (Nat.le_of_eq hb2.symm)
  have O2_ : Ext Z.heap h2 := extTr O1_ E2
  have sz_b2 : h0.size ≤ b2 := Nat.le_trans K1.1 (Nat.le_of_eq hb2.symm)
  have K2 := Keep.ext K1 E2
  have CR2 := CHr.trans CR1 (CHr.ext E2 CR1.1)
  have V2 : Arv Z h2 b2 k2 .char (0 : Int32) [] (.int (0 : Int32)) := (Arv.new A2 (by decide)).pad (pad_rep [] (.int (0 : Int32)) 0)
  have sf4 := (Safe.ext E1 CR0.1 (Safe.new (Nat.le_of_eq hb1.symm)))
  have sf5 := (Safe.ext E2 CR1.1 sf4)
  obtain ⟨_, _, ⟨T3, L3, k3, n3⟩, -, X3, Sq3, gq3, ⟨Lc3, hQ3, l3, y3, z3, cr3⟩, st3⟩ := X2.specialBackS hx (y := (⟨"java/lang/String", "<init>", "([C)V"⟩ : MethodName)) rfl hown (mvT hZ (wd hw 11 rfl)) (mvT hZ (wd hw 12 rfl)) (mvT hZ (wd hw 13 rfl)) (by decide) (own_backH (W := 1) (rm_a3_0 l Z a0 hw [] cs sv GG b1 b2 k2 (0 : Int32) h2 O2_ V2 (Exa.ext E2 A1) (Fld.ext E2 F1_value) g_b1 (Fld.ext E2 F1_coder)) hZ (wd hw 13 rfl) (wd hw 9 rfl) (by decide) (by decide) hEL CR2.1 (sgS (Exa.ext E2 A1).lt sf5 sg0)) (g := (mkF m 11 #[.val (.int x0), .val (.int x1), .val (.int x2), .val (.int x3), .val (.int x4)] [(.ref b2), (.ref b1), (.ref b1)])) rfl (by rw [hml]; rfl) (Steps.refl _) (a := b1) (argsL := [(.ref b2)]) (rest := [(.ref b1)]) (lenOf pd_LACRV rfl) rfl (by show 2 * 0 + _ ≤ _; exact Nat.le_of_eq rfl) (hb hby d2_11) (fun _ _ => ⟨rfl, e2, (by decide : 2 + 4 ≤ _), (by decide : 4 + 8 ≤ _)⟩)
  dsimp only [Pt.U, Pt.locs, Pt.cells, Pt.slots] at X3 l3 y3 z3 st3 hQ3 Sq3 gq3 cr3
  subst y3 z3
  obtain ⟨X3, S3, hZ3, hown3⟩ := rebS S0 ((congrArg Array.size e2).symm ▸ (Nat.le_trans (Nat.le_trans kk0 E1.1) E2.1)) X3 Sq3 gq3 hZ hown
  obtain ⟨b2q2q3, kb2q2q3, rfl, Nq3, Kq3, p3_0, p3_1, p3_2⟩ := hQ3
  have O3_ : Ext Z.heap T3.heap := extKeep O2_ Kq3 (allS g_b1 all0)
  have CR3 := CHr.trans CR2 cr3
  have K3 := Keep.trans K2 Kq3 (allS (Or.inr sz_b1) all0)
  have N3_ : Fr Z.heap.size L3 := by rw [l3]; exact Fr.app N0 Nq3
  refine Go.trans st3 ?_
  exact Go.retAH (endH hh rfl X3 hZ3 hEL CR3) X3 S3 (Nat.le_refl _) hx hret rfl rfl hlk (hb hby d2_14) (by decide) (by decide) ⟨b1, b2q2q3, kb2q2q3, rfl, N3_, K3, sz_b1, ((Exa.ext E2 A1).keep Kq3), p3_0, p3_1, p3_2⟩
theorem pd_LICCCCRLjava_lang_String_ : parseMethodDescriptor "(ICCCC)Ljava/lang/String;" = some ⟨[.int, .char, .char, .char, .char], some (.object "java/lang/String")⟩ := by decide +kernel
theorem d6_0 : decode prog_10_method_3_code 0 = .ok (.aload_n 0, 1) := by decide +kernel
theorem d6_1 : decode prog_10_method_3_code 1 = .ok (.bipush 47, 2) := by decide +kernel
theorem d6_3 : decode prog_10_method_3_code 3 = .ok (.invokevirtual 12, 3) := by decide +kernel
theorem d7_0 : decode jdk_42_method_79_code 0 = .ok (.aload_n 0, 1) := by decide +kernel
theorem d7_1 : decode jdk_42_method_79_code 1 = .ok (.iload_n 1, 1) := by decide +kernel
theorem d7_2 : decode jdk_42_method_79_code 2 = .ok (.iconst 0, 1) := by decide +kernel
theorem d7_3 : decode jdk_42_method_79_code 3 = .ok (.invokevirtual 633, 3) := by decide +kernel
theorem d8_0 : decode jdk_42_method_80_code 0 = .ok (.aload_n 0, 1) := by decide +kernel
theorem d8_1 : decode jdk_42_method_80_code 1 = .ok (.invokevirtual 492, 3) := by decide +kernel
theorem d9_0 : decode jdk_42_method_154_code 0 = .ok (.getstatic 38, 3) := by decide +kernel
theorem d9_3 : decode jdk_42_method_154_code 3 = .ok (.ifCond .eq 14, 3) := by decide +kernel
theorem d9_6 : decode jdk_42_method_154_code 6 = .ok (.aload_n 0, 1) := by decide +kernel
theorem d9_7 : decode jdk_42_method_154_code 7 = .ok (.getfield 15, 3) := by decide +kernel
theorem d9_10 : decode jdk_42_method_154_code 10 = .ok (.ifCond .ne 7, 3) := by decide +kernel
theorem d9_13 : decode jdk_42_method_154_code 13 = .ok (.iconst 1, 1) := by decide +kernel
theorem d9_14 : decode jdk_42_method_154_code 14 = .ok (.goto 4, 3) := by decide +kernel
theorem d9_18 : decode jdk_42_method_154_code 18 = .ok (.ireturn, 1) := by decide +kernel
theorem pn_9 : plainName "java/lang/String" = true := by first | (simp [plainName, overriddenIn]; done) | decide +kernel
def Q_a9_0 (Z : State)  (h0 : Heap) (v : Option Value) (h : Heap) (L : List Loc) : Prop := v = some (.int (1 : Int32)) ∧ Fr Z.heap.size L ∧ h = h0
theorem rm_a9_0 (l : Launch) (Z : State) (a0 : Array Value) (hw : HW Z a0) (ws : List Jvm.Cond) (cs : Int32) (sv : Value) (GG : GP Z cs sv) (x0 : Addr) (w1 : Int32) (h0 : Heap) (O0 : Ext Z.heap h0) (r0 : fl_1 Z h0 x0 (.int w1)) (r1 : w1 = (0 : Int32)) :
    Met FrameEnd l (⟨"java/lang/String", "isLatin1", "()Z"⟩ : MethodName) jdk_42_method_154_code 1 (some .boolean) ws ⟨0, 0, 0, 0⟩ Z h0 #[(.ref x0)] (Q_a9_0 Z  h0) := by
  refine own_met "java/lang/String" (plainFor_of_name pn_9) rfl #[.val (.ref x0)] (fun _ => by first | (simp [entryFrame, mkF, argsToLocals, Value.category]; done) | rfl) ?_
  intro p e s m below meth c s₁ hx hby hlk hret hml hZ hown hnm X0 e0
  have N0 := Fr.nil Z.heap.size
  obtain ⟨G_cs, H_cs, G_sv, H_sv⟩ := id GG
  refine q_gS X0 hx hZ hown (wd hw 48 rfl) e0 (Sta.ext O0 G_cs) hby d9_0 ?_
  intro T1 X1 e1
  refine q_ifN X1 hx hby d9_3 ((if0 _ _).trans (feq H_cs).1) ?_
  refine q_aN X1 hx hby d9_6 rfl rfl ?_
  refine q_gF X1 hx hZ hown (wd hw 28 rfl) e1 r0 hby d9_7 ?_
  intro T2 X2 e2
  refine q_ifN X2 hx hby d9_10 ((if0 _ _).trans (teq r1).2) ?_
  refine q_iC X2 hx hby d9_13  ?_
  refine q_go 14 18 X2 hx hby rfl d9_14 (by decide) (by decide) ?_
  exact Go.retN X2 hx (t := .boolean) hret (by simp) hlk (hb hby d9_18) (by decide) (by decide) (by show _ ∧ _ ∧ _; rw [e2]; exact ⟨rfl, N0, rfl⟩)
theorem pd_LRZ : parseMethodDescriptor "()Z" = some ⟨[], some .boolean⟩ := by decide +kernel
theorem d8_4 : decode jdk_42_method_80_code 4 = .ok (.ifCond .eq 19, 3) := by decide +kernel
theorem d8_7 : decode jdk_42_method_80_code 7 = .ok (.aload_n 0, 1) := by decide +kernel
theorem d8_8 : decode jdk_42_method_80_code 8 = .ok (.getfield 9, 3) := by decide +kernel
theorem d8_11 : decode jdk_42_method_80_code 11 = .ok (.iload_n 1, 1) := by decide +kernel
theorem d8_12 : decode jdk_42_method_80_code 12 = .ok (.iload_n 2, 1) := by decide +kernel
theorem d8_13 : decode jdk_42_method_80_code 13 = .ok (.aload_n 0, 1) := by decide +kernel
theorem d8_14 : decode jdk_42_method_80_code 14 = .ok (.invokevirtual 505, 3) := by decide +kernel
theorem d10_0 : decode jdk_42_method_54_code 0 = .ok (.aload_n 0, 1) := by decide +kernel
theorem d10_1 : decode jdk_42_method_54_code 1 = .ok (.getfield 9, 3) := by decide +kernel
theorem d10_4 : decode jdk_42_method_54_code 4 = .ok (.arraylength, 1) := by decide +kernel
theorem d10_5 : decode jdk_42_method_54_code 5 = .ok (.aload_n 0, 1) := by decide +kernel
theorem d10_6 : decode jdk_42_method_54_code 6 = .ok (.invokevirtual 335, 3) := by decide +kernel
theorem d11_0 : decode jdk_42_method_152_code 0 = .ok (.getstatic 38, 3) := by decide +kernel
theorem d11_3 : decode jdk_42_method_152_code 3 = .ok (.ifCond .eq 10, 3) := by decide +kernel
theorem d11_6 : decode jdk_42_method_152_code 6 = .ok (.aload_n 0, 1) := by decide +kernel
theorem d11_7 : decode jdk_42_method_152_code 7 = .ok (.getfield 15, 3) := by decide +kernel
theorem d11_10 : decode jdk_42_method_152_code 10 = .ok (.goto 4, 3) := by decide +kernel
theorem d11_14 : decode jdk_42_method_152_code 14 = .ok (.ireturn, 1) := by decide +kernel
theorem pn_11 : plainName "java/lang/String" = true := by first | (simp [plainName, overriddenIn]; done) | decide +kernel
def Q_a11_0 (Z : State) (w1 : Int32) (h0 : Heap) (v : Option Value) (h : Heap) (L : List Loc) : Prop := v = some (.int (w1.toInt8.toInt32)) ∧ Fr Z.heap.size L ∧ h = h0
theorem rm_a11_0 (l : Launch) (Z : State) (a0 : Array Value) (hw : HW Z a0) (ws : List Jvm.Cond) (cs : Int32) (sv : Value) (GG : GP Z cs sv) (x0 : Addr) (w1 : Int32) (h0 : Heap) (O0 : Ext Z.heap h0) (r0 : fl_1 Z h0 x0 (.int w1)) :
    Met FrameEnd l (⟨"java/lang/String", "coder", "()B"⟩ : MethodName) jdk_42_method_152_code 1 (some .byte) ws ⟨0, 0, 0, 0⟩ Z h0 #[(.ref x0)] (Q_a11_0 Z w1 h0) := by
  refine own_met "java/lang/String" (plainFor_of_name pn_11) rfl #[.val (.ref x0)] (fun _ => by first | (simp [entryFrame, mkF, argsToLocals, Value.category]; done) | rfl) ?_
  intro p e s m below meth c s₁ hx hby hlk hret hml hZ hown hnm X0 e0
  have N0 := Fr.nil Z.heap.size
  obtain ⟨G_cs, H_cs, G_sv, H_sv⟩ := id GG
  refine q_gS X0 hx hZ hown (wd hw 48 rfl) e0 (Sta.ext O0 G_cs) hby d11_0 ?_
  intro T1 X1 e1
  refine q_ifN X1 hx hby d11_3 ((if0 _ _).trans (feq H_cs).1) ?_
  refine q_aN X1 hx hby d11_6 rfl rfl ?_
  refine q_gF X1 hx hZ hown (wd hw 28 rfl) e1 r0 hby d11_7 ?_
  intro T2 X2 e2
  refine q_go 10 14 X2 hx hby rfl d11_10 (by decide) (by decide) ?_
  exact Go.retN X2 hx (t := .byte) hret (by simp) hlk (hb hby d11_14) (by decide) (by decide) (by show _ ∧ _ ∧ _; rw [e2]; exact ⟨rfl, N0, rfl⟩)
theorem pd_LRB : parseMethodDescriptor "()B" = some ⟨[], some .byte⟩ := by decide +kernel
theorem d10_9 : decode jdk_42_method_54_code 9 = .ok (.ishr, 1) := by decide +kernel
theorem d10_10 : decode jdk_42_method_54_code 10 = .ok (.ireturn, 1) := by decide +kernel
theorem pn_10 : plainName "java/lang/String" = true := by first | (simp [plainName, overriddenIn]; done) | decide +kernel
def Q_a10_0 (Z : State) (w3 : Int32) (h0 : Heap) (v : Option Value) (h : Heap) (L : List Loc) : Prop := v = some (.int ((0 : Int32) >>> ((w3.toInt8.toInt32) &&& 31))) ∧ Fr Z.heap.size L ∧ h = h0
theorem rm_a10_0 (l : Launch) (Z : State) (a0 : Array Value) (hw : HW Z a0) (ws : List Jvm.Cond) (cs : Int32) (sv : Value) (GG : GP Z cs sv) (x0 : Addr) (w1 : Addr) (kk2 : ClassId) (w3 : Int32) (h0 : Heap) (O0 : Ext Z.heap h0) (r0 : fl_0 Z h0 x0 (.ref w1)) (r1 : Arv Z h0 w1 kk2 .byte (0 : Int32) [] (.int 0)) (r2 : Exa Z h0 x0 "java/lang/String") (r3 : fl_1 Z h0 x0 (.int w3)) :
    Met FrameEnd l (⟨"java/lang/String", "length", "()I"⟩ : MethodName) jdk_42_method_54_code 1 (some .int) ws ⟨1, 0, 0, 13⟩ Z h0 #[(.ref x0)] (Q_a10_0 Z w3 h0) := by
  refine own_met "java/lang/String" (plainFor_of_name pn_10) rfl #[.val (.ref x0)] (fun _ => by first | (simp [entryFrame, mkF, argsToLocals, Value.category]; done) | rfl) ?_
  intro p e s m below meth c s₁ hx hby hlk hret hml hZ hown hnm X0 e0
  have N0 := Fr.nil Z.heap.size
  refine q_aN X0 hx hby d10_0 rfl rfl ?_
  refine q_gF X0 hx hZ hown (wd hw 27 rfl) e0 r0 hby d10_1 ?_
  intro T1 X1 e1
  obtain ⟨cl2, Ar2, -, S2, N2, -, -⟩ := id r1
  refine Go.step (X1.arraylength hx (by rw [e1]; exact Ar2.1) (State.isArrayOf_alike hZ.alike Ar2.2.1) (g := (mkF m 4 #[.val (.ref x0)] [(.ref w1)])) rfl rfl (hb hby d10_4)) ?_
  rw [len_of S2 N2]
  show Go _ _ _ _ _ _ _ _ T1 (mkF m 5 #[.val (.ref x0)] [(.int (0 : Int32))])
  refine q_aN X1 hx hby d10_5 rfl rfl ?_
  refine q_cV [] [(.int (0 : Int32))] 1 X1 hx hZ hown (wd hw 54 rfl) (wd hw 55 rfl) (wd hw 57 rfl) (wd hw 56 rfl) (wd hw 58 rfl) (wd hw 9 rfl) (by decide) e1 r2 (rm_a11_0 l Z a0 hw [] cs sv GG x0 w3 h0 O0 r3) hby hml rfl d10_6 pd_LRB rfl rfl (by decide) (by decide) (by decide) (by decide) ?_
  intro v3 T3 L3 Lc3 X3 hQ3 l3
  obtain ⟨rfl, Nq3, e3⟩ := hQ3
  have N3_ : Fr Z.heap.size L3 := by rw [l3]; exact Fr.app N0 Nq3
  refine Go.step (fun _ kt_ => XS.ishr X3.here hx rfl (hb hby d10_9) rfl kt_) ?_
  show Go _ _ _ _ _ _ _ _ T3 (mkF m 10 #[.val (.ref x0)] [(.int ((0 : Int32) >>> ((w3.toInt8.toInt32) &&& 31)))])
  exact Go.retI X3 hx hret hlk (hb hby d10_10) (by decide) (by decide) (by show _ ∧ _ ∧ _; rw [e3]; exact ⟨rfl, N3_, rfl⟩)
theorem pd_LRI : parseMethodDescriptor "()I" = some ⟨[], some .int⟩ := by decide +kernel
theorem d8_17 : decode jdk_42_method_80_code 17 = .ok (.invokestatic 637, 3) := by decide +kernel
theorem d12_0 : decode jdk_43_method_22_code 0 = .ok (.iload_n 1, 1) := by decide +kernel
theorem d12_1 : decode jdk_43_method_22_code 1 = .ok (.invokestatic 88, 3) := by decide +kernel
theorem d13_0 : decode jdk_43_method_4_code 0 = .ok (.iload_n 0, 1) := by decide +kernel
theorem d13_1 : decode jdk_43_method_4_code 1 = .ok (.ifCond .lt 14, 3) := by decide +kernel
theorem d13_4 : decode jdk_43_method_4_code 4 = .ok (.iload_n 0, 1) := by decide +kernel
theorem d13_5 : decode jdk_43_method_4_code 5 = .ok (.sipush 255, 3) := by decide +kernel
theorem d13_8 : decode jdk_43_method_4_code 8 = .ok (.if_icmp .gt 7, 3) := by decide +kernel
theorem d13_11 : decode jdk_43_method_4_code 11 = .ok (.iconst 1, 1) := by decide +kernel
theorem d13_12 : decode jdk_43_method_4_code 12 = .ok (.goto 4, 3) := by decide +kernel
theorem d13_16 : decode jdk_43_method_4_code 16 = .ok (.ireturn, 1) := by decide +kernel
theorem pn_13 : plainName "java/lang/StringLatin1" = true := by first | (simp [plainName, overriddenIn]; done) | decide +kernel
def Q_a13_0 (Z : State)  (h0 : Heap) (v : Option Value) (h : Heap) (L : List Loc) : Prop := v = some (.int (1 : Int32)) ∧ Fr Z.heap.size L ∧ h = h0
theorem rm_a13_0 (l : Launch) (Z : State) (a0 : Array Value) (hw : HW Z a0) (ws : List Jvm.Cond) (cs : Int32) (sv : Value) (GG : GP Z cs sv) (x0 : Int32) (h0 : Heap) (O0 : Ext Z.heap h0) (r0 : ¬ (x0 < (0 : Int32))) (r1 : ¬ ((255 : Int32) < x0)) :
    Met FrameEnd l (⟨"java/lang/StringLatin1", "canEncode", "(I)Z"⟩ : MethodName) jdk_43_method_4_code 1 (some .boolean) ws ⟨0, 0, 0, 0⟩ Z h0 #[(.int x0)] (Q_a13_0 Z  h0) := by
  refine own_met "java/lang/StringLatin1" (plainFor_of_name pn_13) rfl #[.val (.int x0)] (fun _ => by first | (simp [entryFrame, mkF, argsToLocals, Value.category]; done) | rfl) ?_
  intro p e s m below meth c s₁ hx hby hlk hret hml hZ hown hnm X0 e0
  have N0 := Fr.nil Z.heap.size
  refine q_iN X0 hx hby d13_0 rfl ?_
  refine q_ifN X0 hx hby d13_1 ((if0 _ _).trans (flt r0).1) ?_
  refine q_iN X0 hx hby d13_4 rfl ?_
  refine Go.step (fun _ kt_ => XS.sipush X0.here hx rfl (hb hby d13_5)  kt_) ?_
  refine q_icN X0 hx hby d13_8 (flt r1).2.2.1 ?_
  refine q_iC X0 hx hby d13_11  ?_
  refine q_go 12 16 X0 hx hby rfl d13_12 (by decide) (by decide) ?_
  exact Go.retN X0 hx (t := .boolean) hret (by simp) hlk (hb hby d13_16) (by decide) (by decide) (by show _ ∧ _ ∧ _; rw [e0]; exact ⟨rfl, N0, rfl⟩)
theorem pd_LIRZ : parseMethodDescriptor "(I)Z" = some ⟨[.int], some .boolean⟩ := by decide +kernel
theorem d12_4 : decode jdk_43_method_22_code 4 = .ok (.ifCond .ne 5, 3) := by decide +kernel
theorem d12_9 : decode jdk_43_method_22_code 9 = .ok (.iload_n 2, 1) := by decide +kernel
theorem d12_10 : decode jdk_43_method_22_code 10 = .ok (.iconst 0, 1) := by decide +kernel
theorem d12_11 : decode jdk_43_method_22_code 11 = .ok (.invokestatic 92, 3) := by decide +kernel
theorem d14_0 : decode jdk_29_method_65_code 0 = .ok (.iload_n 0, 1) := by decide +kernel
theorem d14_1 : decode jdk_29_method_65_code 1 = .ok (.iload_n 1, 1) := by decide +kernel
theorem d14_2 : decode jdk_29_method_65_code 2 = .ok (.if_icmp .lt 7, 3) := by decide +kernel
theorem d14_5 : decode jdk_29_method_65_code 5 = .ok (.iload_n 0, 1) := by decide +kernel
theorem d14_6 : decode jdk_29_method_65_code 6 = .ok (.goto 4, 3) := by decide +kernel
theorem d14_10 : decode jdk_29_method_65_code 10 = .ok (.ireturn, 1) := by decide +kernel
def Q_a14_0 (Z : State) (x0 : Int32) (h0 : Heap) (v : Option Value) (h : Heap) (L : List Loc) : Prop := v = some (.int x0) ∧ Fr Z.heap.size L ∧ h = h0
theorem rm_a14_0 (l : Launch) (Z : State) (a0 : Array Value) (hw : HW Z a0) (ws : List Jvm.Cond) (cs : Int32) (sv : Value) (GG : GP Z cs sv) (x0 : Int32) (x1 : Int32) (h0 : Heap) (O0 : Ext Z.heap h0) (r0 : ¬ (x0 < x1)) :
    Met FrameEnd l (⟨"java/lang/Math", "max", "(II)I"⟩ : MethodName) jdk_29_method_65_code 2 (some .int) ws ⟨0, 0, 0, 0⟩ Z h0 #[(.int x0), (.int x1)] (Q_a14_0 Z x0 h0) := by
  refine own_met "java/lang/Math" (Jvm.Free.JP.mathPlain rfl (by decide +kernel)) rfl #[.val (.int x0), .val (.int x1)] (fun _ => by first | (simp [entryFrame, mkF, argsToLocals, Value.category]; done) | rfl) ?_
  intro p e s m below meth c s₁ hx hby hlk hret hml hZ hown hnm X0 e0
  have N0 := Fr.nil Z.heap.size
  refine q_iN X0 hx hby d14_0 rfl ?_
  refine q_iN X0 hx hby d14_1 rfl ?_
  refine q_icN X0 hx hby d14_2 (flt r0).1 ?_
  refine q_iN X0 hx hby d14_5 rfl ?_
  refine q_go 6 10 X0 hx hby rfl d14_6 (by decide) (by decide) ?_
  exact Go.retI X0 hx hret hlk (hb hby d14_10) (by decide) (by decide) (by show _ ∧ _ ∧ _; rw [e0]; exact ⟨rfl, N0, rfl⟩)
theorem pd_LIIRI : parseMethodDescriptor "(II)I" = some ⟨[.int, .int], some .int⟩ := by decide +kernel
theorem d12_14 : decode jdk_43_method_22_code 14 = .ok (.istore_n 2, 1) := by decide +kernel
theorem d12_15 : decode jdk_43_method_22_code 15 = .ok (.iload_n 3, 1) := by decide +kernel
theorem d12_16 : decode jdk_43_method_22_code 16 = .ok (.aload_n 0, 1) := by decide +kernel
theorem d12_17 : decode jdk_43_method_22_code 17 = .ok (.arraylength, 1) := by decide +kernel
theorem d12_18 : decode jdk_43_method_22_code 18 = .ok (.invokestatic 38, 3) := by decide +kernel
theorem d15_0 : decode jdk_29_method_69_code 0 = .ok (.iload_n 0, 1) := by decide +kernel
theorem d15_1 : decode jdk_29_method_69_code 1 = .ok (.iload_n 1, 1) := by decide +kernel
theorem d15_2 : decode jdk_29_method_69_code 2 = .ok (.if_icmp .gt 7, 3) := by decide +kernel
theorem d15_5 : decode jdk_29_method_69_code 5 = .ok (.iload_n 0, 1) := by decide +kernel
theorem d15_6 : decode jdk_29_method_69_code 6 = .ok (.goto 4, 3) := by decide +kernel
theorem d15_10 : decode jdk_29_method_69_code 10 = .ok (.ireturn, 1) := by decide +kernel
def Q_a15_0 (Z : State) (x0 : Int32) (h0 : Heap) (v : Option Value) (h : Heap) (L : List Loc) : Prop := v = some (.int x0) ∧ Fr Z.heap.size L ∧ h = h0
theorem rm_a15_0 (l : Launch) (Z : State) (a0 : Array Value) (hw : HW Z a0) (ws : List Jvm.Cond) (cs : Int32) (sv : Value) (GG : GP Z cs sv) (x0 : Int32) (x1 : Int32) (h0 : Heap) (O0 : Ext Z.heap h0) (r0 : ¬ (x1 < x0)) :
    Met FrameEnd l (⟨"java/lang/Math", "min", "(II)I"⟩ : MethodName) jdk_29_method_69_code 2 (some .int) ws ⟨0, 0, 0, 0⟩ Z h0 #[(.int x0), (.int x1)] (Q_a15_0 Z x0 h0) := by
  refine own_met "java/lang/Math" (Jvm.Free.JP.mathPlain rfl (by decide +kernel)) rfl #[.val (.int x0), .val (.int x1)] (fun _ => by first | (simp [entryFrame, mkF, argsToLocals, Value.category]; done) | rfl) ?_
  intro p e s m below meth c s₁ hx hby hlk hret hml hZ hown hnm X0 e0
  have N0 := Fr.nil Z.heap.size
  refine q_iN X0 hx hby d15_0 rfl ?_
  refine q_iN X0 hx hby d15_1 rfl ?_
  refine q_icN X0 hx hby d15_2 (flt r0).2.2.1 ?_
  refine q_iN X0 hx hby d15_5 rfl ?_
  refine q_go 6 10 X0 hx hby rfl d15_6 (by decide) (by decide) ?_
  exact Go.retI X0 hx hret hlk (hb hby d15_10) (by decide) (by decide) (by show _ ∧ _ ∧ _; rw [e0]; exact ⟨rfl, N0, rfl⟩)
theorem d12_21 : decode jdk_43_method_22_code 21 = .ok (.istore_n 3, 1) := by decide +kernel
theorem d12_22 : decode jdk_43_method_22_code 22 = .ok (.iload_n 2, 1) := by decide +kernel
theorem d12_23 : decode jdk_43_method_22_code 23 = .ok (.iload_n 3, 1) := by decide +kernel
theorem d12_24 : decode jdk_43_method_22_code 24 = .ok (.if_icmp .lt 5, 3) := by decide +kernel
theorem d12_27 : decode jdk_43_method_22_code 27 = .ok (.iconst (-1), 1) := by decide +kernel
theorem d12_28 : decode jdk_43_method_22_code 28 = .ok (.ireturn, 1) := by decide +kernel
theorem pn_12 : plainName "java/lang/StringLatin1" = true := by first | (simp [plainName, overriddenIn]; done) | decide +kernel
def Q_a12_0 (Z : State)  (h0 : Heap) (v : Option Value) (h : Heap) (L : List Loc) : Prop := v = some (.int (-1 : Int32)) ∧ Fr Z.heap.size L ∧ h = h0
theorem rm_a12_0 (l : Launch) (Z : State) (a0 : Array Value) (hw : HW Z a0) (ws : List Jvm.Cond) (cs : Int32) (sv : Value) (GG : GP Z cs sv) (x0 : Addr) (x1 : Int32) (x2 : Int32) (x3 : Int32) (kk1 : ClassId) (h0 : Heap) (O0 : Ext Z.heap h0) (r0 : ¬ (x1 < (0 : Int32))) (r1 : ¬ ((255 : Int32) < x1)) (r2 : ¬ (x2 < (0 : Int32))) (r3 : Arv Z h0 x0 kk1 .byte (0 : Int32) [] (.int 0)) (r4 : ¬ ((0 : Int32) < x3)) (r5 : ¬ (x2 < x3)) :
    Met FrameEnd l (⟨"java/lang/StringLatin1", "indexOf", "([BIII)I"⟩ : MethodName) jdk_43_method_22_code 4 (some .int) ws ⟨1, 0, 0, 13⟩ Z h0 #[(.ref x0), (.int x1), (.int x2), (.int x3)] (Q_a12_0 Z  h0) := by
  refine own_met "java/lang/StringLatin1" (plainFor_of_name pn_12) rfl #[.val (.ref x0), .val (.int x1), .val (.int x2), .val (.int x3)] (fun _ => by first | (simp [entryFrame, mkF, argsToLocals, Value.category]; done) | rfl) ?_
  intro p e s m below meth c s₁ hx hby hlk hret hml hZ hown hnm X0 e0
  have N0 := Fr.nil Z.heap.size
  refine q_iN X0 hx hby d12_0 rfl ?_
  refine q_cS [(.int x1)] [] 0 X0 hx hZ hown (wd hw 63 rfl) (wd hw 64 rfl) (wd hw 65 rfl) (wd hw 61 rfl) (by decide) e0 (rm_a13_0 l Z a0 hw [] cs sv GG x1 h0 O0 r0 r1) hby hml rfl d12_1 pd_LIRZ rfl rfl (by decide) (by decide) (by decide) (by decide) ?_
  intro v1 T1 L1 Lc1 X1 hQ1 l1
  obtain ⟨rfl, Nq1, e1⟩ := hQ1
  have N1_ : Fr Z.heap.size L1 := by rw [l1]; exact Fr.app N0 Nq1
  refine q_ifY 4 9 X1 hx hby rfl d12_4 ((if0 _ _).trans (feq (by decide : ¬ ((1 : Int32) = (0 : Int32)))).2) (by decide) (by decide) ?_
  refine q_iN X1 hx hby d12_9 rfl ?_
  refine q_iC X1 hx hby d12_10  ?_
  refine q_cS [(.int x2), (.int (0 : Int32))] [] 0 X1 hx hZ hown (wd hw 66 rfl) (wd hw 67 rfl) (wd hw 69 rfl) (wd hw 68 rfl) (by decide) e1 (rm_a14_0 l Z a0 hw [] cs sv GG x2 (0 : Int32) h0 O0 r2) hby hml rfl d12_11 pd_LIIRI rfl rfl (by decide) (by decide) (by decide) (by decide) ?_
  intro v2 T2 L2 Lc2 X2 hQ2 l2
  obtain ⟨rfl, Nq2, e2⟩ := hQ2
  have N2_ : Fr Z.heap.size L2 := by rw [l2]; exact Fr.app N1_ Nq2
  refine q_isN X2 hx hby d12_14 (l' := #[.val (.ref x0), .val (.int x1), .val (.int x2), .val (.int x3)]) rfl ?_
  refine q_iN X2 hx hby d12_15 rfl ?_
  refine q_aN X2 hx hby d12_16 rfl rfl ?_
  obtain ⟨cl3, Ar3, -, S3, N3, -, -⟩ := id r3
  refine Go.step (X2.arraylength hx (by rw [e2]; exact Ar3.1) (State.isArrayOf_alike hZ.alike Ar3.2.1) (g := (mkF m 17 #[.val (.ref x0), .val (.int x1), .val (.int x2), .val (.int x3)] [(.ref x0), (.int x3)])) rfl rfl (hb hby d12_17)) ?_
  rw [len_of S3 N3]
  show Go _ _ _ _ _ _ _ _ T2 (mkF m 18 #[.val (.ref x0), .val (.int x1), .val (.int x2), .val (.int x3)] [(.int (0 : Int32)), (.int x3)])
  refine q_cS [(.int x3), (.int (0 : Int32))] [] 0 X2 hx hZ hown (wd hw 70 rfl) (wd hw 71 rfl) (wd hw 72 rfl) (wd hw 68 rfl) (by decide) e2 (rm_a15_0 l Z a0 hw [] cs sv GG x3 (0 : Int32) h0 O0 r4) hby hml rfl d12_18 pd_LIIRI rfl rfl (by decide) (by decide) (by decide) (by decide) ?_
  intro v4 T4 L4 Lc4 X4 hQ4 l4
  obtain ⟨rfl, Nq4, e4⟩ := hQ4
  have N4_ : Fr Z.heap.size L4 := by rw [l4]; exact Fr.app N2_ Nq4
  refine q_isN X4 hx hby d12_21 (l' := #[.val (.ref x0), .val (.int x1), .val (.int x2), .val (.int x3)]) rfl ?_
  refine q_iN X4 hx hby d12_22 rfl ?_
  refine q_iN X4 hx hby d12_23 rfl ?_
  refine q_icN X4 hx hby d12_24 (flt r5).1 ?_
  refine q_iC X4 hx hby d12_27  ?_
  exact Go.retI X4 hx hret hlk (hb hby d12_28) (by decide) (by decide) (by show _ ∧ _ ∧ _; rw [e4]; exact ⟨rfl, N4_, rfl⟩)
theorem pd_LABIIIRI : parseMethodDescriptor "([BIII)I" = some ⟨[(.array .byte), .int, .int, .int], some .int⟩ := by decide +kernel
theorem d8_20 : decode jdk_42_method_80_code 20 = .ok (.goto 16, 3) := by decide +kernel
theorem d8_36 : decode jdk_42_method_80_code 36 = .ok (.ireturn, 1) := by decide +kernel
theorem pn_8 : plainName "java/lang/String" = true := by first | (simp [plainName, overriddenIn]; done) | decide +kernel
def Q_a8_0 (Z : State)  (h0 : Heap) (v : Option Value) (h : Heap) (L : List Loc) : Prop := v = some (.int (-1 : Int32)) ∧ Fr Z.heap.size L ∧ h = h0
theorem rm_a8_0 (l : Launch) (Z : State) (a0 : Array Value) (hw : HW Z a0) (ws : List Jvm.Cond) (cs : Int32) (sv : Value) (GG : GP Z cs sv) (x0 : Addr) (x1 : Int32) (x2 : Int32) (w1 : Int32) (w2 : Addr) (kk3 : ClassId) (h0 : Heap) (O0 : Ext Z.heap h0) (r0 : Exa Z h0 x0 "java/lang/String") (r1 : fl_1 Z h0 x0 (.int w1)) (r2 : w1 = (0 : Int32)) (r3 : fl_0 Z h0 x0 (.ref w2)) (r4 : Arv Z h0 w2 kk3 .byte (0 : Int32) [] (.int 0)) (r5 : ¬ (x1 < (0 : Int32))) (r6 : ¬ ((255 : Int32) < x1)) (r7 : ¬ (x2 < (0 : Int32))) (r8 : ¬ ((0 : Int32) < ((0 : Int32) >>> ((w1.toInt8.toInt32) &&& 31)))) (r9 : ¬ (x2 < ((0 : Int32) >>> ((w1.toInt8.toInt32) &&& 31)))) :
    Met FrameEnd l (⟨"java/lang/String", "indexOf", "(II)I"⟩ : MethodName) jdk_42_method_80_code 3 (some .int) ws ⟨2, 0, 0, 28⟩ Z h0 #[(.ref x0), (.int x1), (.int x2)] (Q_a8_0 Z  h0) := by
  refine own_met "java/lang/String" (plainFor_of_name pn_8) rfl #[.val (.ref x0), .val (.int x1), .val (.int x2)] (fun _ => by first | (simp [entryFrame, mkF, argsToLocals, Value.category]; done) | rfl) ?_
  intro p e s m below meth c s₁ hx hby hlk hret hml hZ hown hnm X0 e0
  have N0 := Fr.nil Z.heap.size
  refine q_aN X0 hx hby d8_0 rfl rfl ?_
  refine q_cV [] [] 0 X0 hx hZ hown (wd hw 43 rfl) (wd hw 44 rfl) (wd hw 46 rfl) (wd hw 45 rfl) (wd hw 47 rfl) (wd hw 9 rfl) (by decide) e0 r0 (rm_a9_0 l Z a0 hw [] cs sv GG x0 w1 h0 O0 r1 r2) hby hml rfl d8_1 pd_LRZ rfl rfl (by decide) (by decide) (by decide) (by decide) ?_
  intro v1 T1 L1 Lc1 X1 hQ1 l1
  obtain ⟨rfl, Nq1, e1⟩ := hQ1
  have N1_ : Fr Z.heap.size L1 := by rw [l1]; exact Fr.app N0 Nq1
  refine q_ifN X1 hx hby d8_4 ((if0 _ _).trans (feq (by decide : ¬ ((1 : Int32) = (0 : Int32)))).1) ?_
  refine q_aN X1 hx hby d8_7 rfl rfl ?_
  refine q_gF X1 hx hZ hown (wd hw 27 rfl) e1 r3 hby d8_8 ?_
  intro T2 X2 e2
  refine q_iN X2 hx hby d8_11 rfl ?_
  refine q_iN X2 hx hby d8_12 rfl ?_
  refine q_aN X2 hx hby d8_13 rfl rfl ?_
  refine q_cV [] [(.int x2), (.int x1), (.ref w2)] 3 X2 hx hZ hown (wd hw 49 rfl) (wd hw 50 rfl) (wd hw 52 rfl) (wd hw 51 rfl) (wd hw 53 rfl) (wd hw 9 rfl) (by decide) e2 r0 (rm_a10_0 l Z a0 hw [] cs sv GG x0 w2 kk3 w1 h0 O0 r3 r4 r0 r1) hby hml rfl d8_14 pd_LRI rfl rfl (by decide) (by decide) (by decide) (by decide) ?_
  intro v3 T3 L3 Lc3 X3 hQ3 l3
  obtain ⟨rfl, Nq3, e3⟩ := hQ3
  have N3_ : Fr Z.heap.size L3 := by rw [l3]; exact Fr.app N1_ Nq3
  refine q_cS [(.ref w2), (.int x1), (.int x2), (.int ((0 : Int32) >>> ((w1.toInt8.toInt32) &&& 31)))] [] 0 X3 hx hZ hown (wd hw 59 rfl) (wd hw 60 rfl) (wd hw 62 rfl) (wd hw 61 rfl) (by decide) e3 (rm_a12_0 l Z a0 hw [] cs sv GG w2 x1 x2 ((0 : Int32) >>> ((w1.toInt8.toInt32) &&& 31)) kk3 h0 O0 r5 r6 r7 r4 r8 r9) hby hml rfl d8_17 pd_LABIIIRI rfl rfl (by decide) (by decide) (by decide) (by decide) ?_
  intro v4 T4 L4 Lc4 X4 hQ4 l4
  obtain ⟨rfl, Nq4, e4⟩ := hQ4
  have N4_ : Fr Z.heap.size L4 := by rw [l4]; exact Fr.app N3_ Nq4
  refine q_go 20 36 X4 hx hby rfl d8_20 (by decide) (by decide) ?_
  show Go _ _ _ _ _ _ _ _ T4 (mkF m 36 #[.val (.ref x0), .val (.int x1), .val (.int x2)] [(.int (-1 : Int32))])
  exact Go.retI X4 hx hret hlk (hb hby d8_36) (by decide) (by decide) (by show _ ∧ _ ∧ _; rw [e4]; exact ⟨rfl, N4_, rfl⟩)
theorem d7_6 : decode jdk_42_method_79_code 6 = .ok (.ireturn, 1) := by decide +kernel
theorem pn_7 : plainName "java/lang/String" = true := by first | (simp [plainName, overriddenIn]; done) | decide +kernel
def Q_a7_0 (Z : State)  (h0 : Heap) (v : Option Value) (h : Heap) (L : List Loc) : Prop := v = some (.int (-1 : Int32)) ∧ Fr Z.heap.size L ∧ h = h0
theorem rm_a7_0 (l : Launch) (Z : State) (a0 : Array Value) (hw : HW Z a0) (ws : List Jvm.Cond) (cs : Int32) (sv : Value) (GG : GP Z cs sv) (x0 : Addr) (x1 : Int32) (w1 : Int32) (w2 : Addr) (kk3 : ClassId) (h0 : Heap) (O0 : Ext Z.heap h0) (r0 : Exa Z h0 x0 "java/lang/String") (r1 : fl_1 Z h0 x0 (.int w1)) (r2 : w1 = (0 : Int32)) (r3 : fl_0 Z h0 x0 (.ref w2)) (r4 : Arv Z h0 w2 kk3 .byte (0 : Int32) [] (.int 0)) (r5 : ¬ (x1 < (0 : Int32))) (r6 : ¬ ((255 : Int32) < x1)) (r7 : ¬ ((0 : Int32) < ((0 : Int32) >>> ((w1.toInt8.toInt32) &&& 31)))) :
    Met FrameEnd l (⟨"java/lang/String", "indexOf", "(I)I"⟩ : MethodName) jdk_42_method_79_code 2 (some .int) ws ⟨3, 0, 0, 42⟩ Z h0 #[(.ref x0), (.int x1)] (Q_a7_0 Z  h0) := by
  refine own_met "java/lang/String" (plainFor_of_name pn_7) rfl #[.val (.ref x0), .val (.int x1)] (fun _ => by first | (simp [entryFrame, mkF, argsToLocals, Value.category]; done) | rfl) ?_
  intro p e s m below meth c s₁ hx hby hlk hret hml hZ hown hnm X0 e0
  have N0 := Fr.nil Z.heap.size
  refine q_aN X0 hx hby d7_0 rfl rfl ?_
  refine q_iN X0 hx hby d7_1 rfl ?_
  refine q_iC X0 hx hby d7_2  ?_
  refine q_cV [(.int x1), (.int (0 : Int32))] [] 0 X0 hx hZ hown (wd hw 38 rfl) (wd hw 39 rfl) (wd hw 41 rfl) (wd hw 40 rfl) (wd hw 42 rfl) (wd hw 9 rfl) (by decide) e0 r0 (rm_a8_0 l Z a0 hw [] cs sv GG x0 x1 (0 : Int32) w1 w2 kk3 h0 O0 r0 r1 r2 r3 r4 r5 r6 (by decide) r7 r7) hby hml rfl d7_3 pd_LIIRI rfl rfl (by decide) (by decide) (by decide) (by decide) ?_
  intro v1 T1 L1 Lc1 X1 hQ1 l1
  obtain ⟨rfl, Nq1, e1⟩ := hQ1
  have N1_ : Fr Z.heap.size L1 := by rw [l1]; exact Fr.app N0 Nq1
  exact Go.retI X1 hx hret hlk (hb hby d7_6) (by decide) (by decide) (by show _ ∧ _ ∧ _; rw [e1]; exact ⟨rfl, N1_, rfl⟩)
theorem pd_LIRI : parseMethodDescriptor "(I)I" = some ⟨[.int], some .int⟩ := by decide +kernel
theorem d6_6 : decode prog_10_method_3_code 6 = .ok (.istore_n 1, 1) := by decide +kernel
theorem d6_7 : decode prog_10_method_3_code 7 = .ok (.iload_n 1, 1) := by decide +kernel
theorem d6_8 : decode prog_10_method_3_code 8 = .ok (.ifCond .ge 7, 3) := by decide +kernel
theorem d6_11 : decode prog_10_method_3_code 11 = .ok (.aload_n 0, 1) := by decide +kernel
theorem d6_12 : decode prog_10_method_3_code 12 = .ok (.goto 9, 3) := by decide +kernel
theorem d6_21 : decode prog_10_method_3_code 21 = .ok (.areturn, 1) := by decide +kernel
theorem pn_6 : plainName "com/example/wary_lock/warylock/LockName" = true := by first | (simp [plainName, overriddenIn]; done) | decide +kernel
def Q_a6_0 (Z : State) (x0 : Addr) (h0 : Heap) (v : Option Value) (h : Heap) (L : List Loc) : Prop := v = some (.ref x0) ∧ Fr Z.heap.size L ∧ h = h0
theorem rm_a6_0 (l : Launch) (Z : State) (a0 : Array Value) (hw : HW Z a0) (ws : List Jvm.Cond) (cs : Int32) (sv : Value) (GG : GP Z cs sv) (x0 : Addr) (w1 : Int32) (w2 : Addr) (kk3 : ClassId) (h0 : Heap) (O0 : Ext Z.heap h0) (r0 : Exa Z h0 x0 "java/lang/String") (r1 : fl_1 Z h0 x0 (.int w1)) (r2 : w1 = (0 : Int32)) (r3 : fl_0 Z h0 x0 (.ref w2)) (r4 : Arv Z h0 w2 kk3 .byte (0 : Int32) [] (.int 0)) (r5 : ¬ ((0 : Int32) < ((0 : Int32) >>> ((w1.toInt8.toInt32) &&& 31)))) :
    Met FrameEnd l (⟨"com/example/wary_lock/warylock/LockName", "root", "(Ljava/lang/String;)Ljava/lang/String;"⟩ : MethodName) prog_10_method_3_code 2 (some (.object "java/lang/String")) ws ⟨4, 0, 0, 55⟩ Z h0 #[(.ref x0)] (Q_a6_0 Z x0 h0) := by
  refine own_met "com/example/wary_lock/warylock/LockName" (plainFor_of_name pn_6) rfl #[.val (.ref x0), .unset] (fun _ => by first | (simp [entryFrame, mkF, argsToLocals, Value.category]; done) | rfl) ?_
  intro p e s m below meth c s₁ hx hby hlk hret hml hZ hown hnm X0 e0
  have N0 := Fr.nil Z.heap.size
  refine q_aN X0 hx hby d6_0 rfl rfl ?_
  refine q_bP X0 hx hby d6_1  ?_
  refine q_cV [(.int (47 : Int32))] [] 0 X0 hx hZ hown (wd hw 33 rfl) (wd hw 34 rfl) (wd hw 36 rfl) (wd hw 35 rfl) (wd hw 37 rfl) (wd hw 9 rfl) (by decide) e0 r0 (rm_a7_0 l Z a0 hw [] cs sv GG x0 (47 : Int32) w1 w2 kk3 h0 O0 r0 r1 r2 r3 r4 (by decide) (by decide) r5) hby hml rfl d6_3 pd_LIRI rfl rfl (by decide) (by decide) (by decide) (by decide) ?_
  intro v1 T1 L1 Lc1 X1 hQ1 l1
  obtain ⟨rfl, Nq1, e1⟩ := hQ1
  have N1_ : Fr Z.heap.size L1 := by rw [l1]; exact Fr.app N0 Nq1
  show Go _ _ _ _ _ _ _ _ T1 (mkF m 6 #[.val (.ref x0), .unset] [(.int (-1 : Int32))])
  refine q_isN X1 hx hby d6_6 (l' := #[.val (.ref x0), .val (.int (-1 : Int32))]) rfl ?_
  refine q_iN X1 hx hby d6_7 rfl ?_
  refine q_ifN X1 hx hby d6_8 ((if0 _ _).trans (tlt (by decide : (-1 : Int32) < (0 : Int32))).2.1) ?_
  refine q_aN X1 hx hby d6_11 rfl rfl ?_
  refine q_go 12 21 X1 hx hby rfl d6_12 (by decide) (by decide) ?_
  exact Go.retA X1 hx hret rfl rfl hlk (hb hby d6_21) (by decide) (by decide) (by show _ ∧ _ ∧ _; rw [e1]; exact ⟨rfl, N1_, rfl⟩)
theorem pd_LLjava_lang_String_RLjava_lang_String_ : parseMethodDescriptor "(Ljava/lang/String;)Ljava/lang/String;" = some ⟨[(.object "java/lang/String")], some (.object "java/lang/String")⟩ := by decide +kernel
theorem d16_0 : decode jdk_42_method_66_code 0 = .ok (.aload_n 0, 1) := by decide +kernel
theorem d16_1 : decode jdk_42_method_66_code 1 = .ok (.aload_n 1, 1) := by decide +kernel
theorem d16_2 : decode jdk_42_method_66_code 2 = .ok (.if_acmp .ne 5, 3) := by decide +kernel
theorem d16_7 : decode jdk_42_method_66_code 7 = .ok (.aload_n 1, 1) := by decide +kernel
theorem d16_8 : decode jdk_42_method_66_code 8 = .ok (.instanceof 10, 3) := by decide +kernel
theorem d16_11 : decode jdk_42_method_66_code 11 = .ok (.ifCond .eq 43, 3) := by decide +kernel
theorem d16_14 : decode jdk_42_method_66_code 14 = .ok (.aload_n 1, 1) := by decide +kernel
theorem d16_15 : decode jdk_42_method_66_code 15 = .ok (.checkcast 10, 3) := by decide +kernel
theorem d16_18 : decode jdk_42_method_66_code 18 = .ok (.astore_n 2, 1) := by decide +kernel
theorem d16_19 : decode jdk_42_method_66_code 19 = .ok (.getstatic 38, 3) := by decide +kernel
theorem d16_22 : decode jdk_42_method_66_code 22 = .ok (.ifCond .eq 14, 3) := by decide +kernel
theorem d16_25 : decode jdk_42_method_66_code 25 = .ok (.aload_n 0, 1) := by decide +kernel
theorem d16_26 : decode jdk_42_method_66_code 26 = .ok (.getfield 15, 3) := by decide +kernel
theorem d16_29 : decode jdk_42_method_66_code 29 = .ok (.aload_n 2, 1) := by decide +kernel
theorem d16_30 : decode jdk_42_method_66_code 30 = .ok (.getfield 15, 3) := by decide +kernel
theorem d16_33 : decode jdk_42_method_66_code 33 = .ok (.if_icmp .ne 21, 3) := by decide +kernel
theorem d16_36 : decode jdk_42_method_66_code 36 = .ok (.aload_n 0, 1) := by decide +kernel
theorem d16_37 : decode jdk_42_method_66_code 37 = .ok (.getfield 9, 3) := by decide +kernel
theorem d16_40 : decode jdk_42_method_66_code 40 = .ok (.aload_n 2, 1) := by decide +kernel
theorem d16_41 : decode jdk_42_method_66_code 41 = .ok (.getfield 9, 3) := by decide +kernel
theorem d16_44 : decode jdk_42_method_66_code 44 = .ok (.invokestatic 541, 3) := by decide +kernel
theorem d17_0 : decode jdk_43_method_13_code 0 = .ok (.aload_n 0, 1) := by decide +kernel
theorem d17_1 : decode jdk_43_method_13_code 1 = .ok (.arraylength, 1) := by decide +kernel
theorem d17_2 : decode jdk_43_method_13_code 2 = .ok (.aload_n 1, 1) := by decide +kernel
theorem d17_3 : decode jdk_43_method_13_code 3 = .ok (.arraylength, 1) := by decide +kernel
theorem d17_4 : decode jdk_43_method_13_code 4 = .ok (.if_icmp .ne 30, 3) := by decide +kernel
theorem d17_7 : decode jdk_43_method_13_code 7 = .ok (.iconst 0, 1) := by decide +kernel
theorem d17_8 : decode jdk_43_method_13_code 8 = .ok (.istore_n 2, 1) := by decide +kernel
theorem d17_9 : decode jdk_43_method_13_code 9 = .ok (.iload_n 2, 1) := by decide +kernel
theorem d17_10 : decode jdk_43_method_13_code 10 = .ok (.aload_n 0, 1) := by decide +kernel
theorem d17_11 : decode jdk_43_method_13_code 11 = .ok (.arraylength, 1) := by decide +kernel
theorem d17_12 : decode jdk_43_method_13_code 12 = .ok (.if_icmp .ge 20, 3) := by decide +kernel
theorem d17_32 : decode jdk_43_method_13_code 32 = .ok (.iconst 1, 1) := by decide +kernel
theorem d17_33 : decode jdk_43_method_13_code 33 = .ok (.ireturn, 1) := by decide +kernel
theorem pn_17 : plainName "java/lang/StringLatin1" = true := by first | (simp [plainName, overriddenIn]; done) | decide +kernel
def Q_a17_0 (Z : State)  (h0 : Heap) (v : Option Value) (h : Heap) (L : List Loc) : Prop := v = some (.int (1 : Int32)) ∧ Fr Z.heap.size L ∧ h = h0
theorem rm_a17_0 (l : Launch) (Z : State) (a0 : Array Value) (hw : HW Z a0) (ws : List Jvm.Cond) (cs : Int32) (sv : Value) (GG : GP Z cs sv) (x0 : Addr) (x1 : Addr) (kk1 : ClassId) (kk2 : ClassId) (h0 : Heap) (O0 : Ext Z.heap h0) (r0 : Arv Z h0 x0 kk1 .byte (0 : Int32) [] (.int 0)) (r1 : Arv Z h0 x1 kk2 .byte (0 : Int32) [] (.int 0)) :
    Met FrameEnd l (⟨"java/lang/StringLatin1", "equals", "([B[B)Z"⟩ : MethodName) jdk_43_method_13_code 3 (some .boolean) ws ⟨0, 0, 0, 0⟩ Z h0 #[(.ref x0), (.ref x1)] (Q_a17_0 Z  h0) := by
  refine own_met "java/lang/StringLatin1" (plainFor_of_name pn_17) rfl #[.val (.ref x0), .val (.ref x1), .unset] (fun _ => by first | (simp [entryFrame, mkF, argsToLocals, Value.category]; done) | rfl) ?_
  intro p e s m below meth c s₁ hx hby hlk hret hml hZ hown hnm X0 e0
  have N0 := Fr.nil Z.heap.size
  refine q_aN X0 hx hby d17_0 rfl rfl ?_
  obtain ⟨cl1, Ar1, -, S1, N1, -, -⟩ := id r0
  refine Go.step (X0.arraylength hx (by rw [e0]; exact Ar1.1) (State.isArrayOf_alike hZ.alike Ar1.2.1) (g := (mkF m 1 #[.val (.ref x0), .val (.ref x1), .unset] [(.ref x0)])) rfl rfl (hb hby d17_1)) ?_
  rw [len_of S1 N1]
  show Go _ _ _ _ _ _ _ _ s₁ (mkF m 2 #[.val (.ref x0), .val (.ref x1), .unset] [(.int (0 : Int32))])
  refine q_aN X0 hx hby d17_2 rfl rfl ?_
  obtain ⟨cl2, Ar2, -, S2, N2, -, -⟩ := id r1
  refine Go.step (X0.arraylength hx (by rw [e0]; exact Ar2.1) (State.isArrayOf_alike hZ.alike Ar2.2.1) (g := (mkF m 3 #[.val (.ref x0), .val (.ref x1), .unset] [(.ref x1), (.int (0 : Int32))])) rfl rfl (hb hby d17_3)) ?_
  rw [len_of S2 N2]
  show Go _ _ _ _ _ _ _ _ s₁ (mkF m 4 #[.val (.ref x0), .val (.ref x1), .unset] [(.int (0 : Int32)), (.int (0 : Int32))])
  refine q_icN X0 hx hby d17_4 (teq (by decide : (0 : Int32) = (0 : Int32))).2 ?_
  refine q_iC X0 hx hby d17_7  ?_
  refine q_isN X0 hx hby d17_8 (l' := #[.val (.ref x0), .val (.ref x1), .val (.int (0 : Int32))]) rfl ?_
  refine q_iN X0 hx hby d17_9 rfl ?_
  refine q_aN X0 hx hby d17_10 rfl rfl ?_
  obtain ⟨cl3, Ar3, -, S3, N3, -, -⟩ := id r0
  refine Go.step (X0.arraylength hx (by rw [e0]; exact Ar3.1) (State.isArrayOf_alike hZ.alike Ar3.2.1) (g := (mkF m 11 #[.val (.ref x0), .val (.ref x1), .val (.int (0 : Int32))] [(.ref x0), (.int (0 : Int32))])) rfl rfl (hb hby d17_11)) ?_
  rw [len_of S3 N3]
  show Go _ _ _ _ _ _ _ _ s₁ (mkF m 12 #[.val (.ref x0), .val (.ref x1), .val (.int (0 : Int32))] [(.int (0 : Int32)), (.int (0 : Int32))])
  refine q_icY 12 32 X0 hx hby rfl d17_12 (flt (by decide : ¬ ((0 : Int32) < (0 : Int32)))).2.1 (by decide) (by decide) ?_
  refine q_iC X0 hx hby d17_32  ?_
  exact Go.retN X0 hx (t := .boolean) hret (by simp) hlk (hb hby d17_33) (by decide) (by decide) (by show _ ∧ _ ∧ _; rw [e0]; exact ⟨rfl, N0, rfl⟩)
theorem pd_LABABRZ : parseMethodDescriptor "([B[B)Z" = some ⟨[(.array .byte), (.array .byte)], some .boolean⟩ := by decide +kernel
theorem d16_47 : decode jdk_42_method_66_code 47 = .ok (.ifCond .eq 7, 3) := by decide +kernel
theorem d16_50 : decode jdk_42_method_66_code 50 = .ok (.iconst 1, 1) := by decide +kernel
theorem d16_51 : decode jdk_42_method_66_code 51 = .ok (.goto 4, 3) := by decide +kernel
theorem d16_55 : decode jdk_42_method_66_code 55 = .ok (.ireturn, 1) := by decide +kernel
theorem pn_16 : plainName "java/lang/String" = true := by first | (simp [plainName, overriddenIn]; done) | decide +kernel
def Q_a16_0 (Z : State)  (h0 : Heap) (v : Option Value) (h : Heap) (L : List Loc) : Prop := v = some (.int (1 : Int32)) ∧ Fr Z.heap.size L ∧ h = h0
theorem rm_a16_0 (l : Launch) (Z : State) (a0 : Array Value) (hw : HW Z a0) (ws : List Jvm.Cond) (cs : Int32) (sv : Value) (GG : GP Z cs sv) (x0 : Addr) (x1 : Addr) (w1 : Int32) (w2 : Int32) (w3 : Addr) (w4 : Addr) (kk5 : ClassId) (kk6 : ClassId) (h0 : Heap) (O0 : Ext Z.heap h0) (r0 : x0 ≠ x1) (r1 : Exa Z h0 x1 "java/lang/String") (r2 : fl_1 Z h0 x0 (.int w1)) (r3 : fl_1 Z h0 x1 (.int w2)) (r4 : w1 = w2) (r5 : fl_0 Z h0 x0 (.ref w3)) (r6 : fl_0 Z h0 x1 (.ref w4)) (r7 : Arv Z h0 w3 kk5 .byte (0 : Int32) [] (.int 0)) (r8 : Arv Z h0 w4 kk6 .byte (0 : Int32) [] (.int 0)) :
    Met FrameEnd l (⟨"java/lang/String", "equals", "(Ljava/lang/Object;)Z"⟩ : MethodName) jdk_42_method_66_code 3 (some .boolean) ws ⟨1, 0, 0, 14⟩ Z h0 #[(.ref x0), (.ref x1)] (Q_a16_0 Z  h0) := by
  refine own_met "java/lang/String" (plainFor_of_name pn_16) rfl #[.val (.ref x0), .val (.ref x1), .unset] (fun _ => by first | (simp [entryFrame, mkF, argsToLocals, Value.category]; done) | rfl) ?_
  intro p e s m below meth c s₁ hx hby hlk hret hml hZ hown hnm X0 e0
  have N0 := Fr.nil Z.heap.size
  obtain ⟨G_cs, H_cs, G_sv, H_sv⟩ := id GG
  refine q_aN X0 hx hby d16_0 rfl rfl ?_
  refine q_aN X0 hx hby d16_1 rfl rfl ?_
  refine Go.step (fun _ kt_ => Jvm.RoadKit.acmp (g := (mkF m 2 #[.val (.ref x0), .val (.ref x1), .unset] [(.ref x1), (.ref x0)])) X0 hx rfl rfl rfl (pc0 := 2) (pc' := 7) (same := false) rfl (hb hby d16_2) rfl (decide_eq_false fun q => r0 (Value.ref.inj q)) (by decide) (by decide) kt_) ?_
  show Go _ _ _ _ _ _ _ _ s₁ (mkF m 7 #[.val (.ref x0), .val (.ref x1), .unset] [])
  refine q_aN X0 hx hby d16_7 rfl rfl ?_
  obtain ⟨T1, X1, e1, st1⟩ := instY X0 hx hZ hown (wd hw 78 rfl) e0 (Ins.self r1) (g := (mkF m 8 #[.val (.ref x0), .val (.ref x1), .unset] [(.ref x1)])) rfl rfl (hb hby d16_8)
  refine Go.step st1 ?_
  refine q_ifN X1 hx hby d16_11 ((if0 _ _).trans (feq (by decide : ¬ ((1 : Int32) = (0 : Int32)))).1) ?_
  refine q_aN X1 hx hby d16_14 rfl rfl ?_
  obtain ⟨T2, X2, e2, st2⟩ := castY X1 hx hZ hown (wd hw 78 rfl) e1 (Ins.self r1) (g := (mkF m 15 #[.val (.ref x0), .val (.ref x1), .unset] [(.ref x1)])) rfl rfl (hb hby d16_15)
  refine Go.step st2 ?_
  refine q_asN X2 hx hby d16_18 rfl (l' := #[.val (.ref x0), .val (.ref x1), .val (.ref x1)]) rfl ?_
  refine q_gS X2 hx hZ hown (wd hw 48 rfl) e2 (Sta.ext O0 G_cs) hby d16_19 ?_
  intro T3 X3 e3
  refine q_ifN X3 hx hby d16_22 ((if0 _ _).trans (feq H_cs).1) ?_
  refine q_aN X3 hx hby d16_25 rfl rfl ?_
  refine q_gF X3 hx hZ hown (wd hw 28 rfl) e3 r2 hby d16_26 ?_
  intro T4 X4 e4
  refine q_aN X4 hx hby d16_29 rfl rfl ?_
  refine q_gF X4 hx hZ hown (wd hw 28 rfl) e4 r3 hby d16_30 ?_
  intro T5 X5 e5
  refine q_icN X5 hx hby d16_33 (teq r4).2 ?_
  refine q_aN X5 hx hby d16_36 rfl rfl ?_
  refine q_gF X5 hx hZ hown (wd hw 27 rfl) e5 r5 hby d16_37 ?_
  intro T6 X6 e6
  show Go _ _ _ _ _ _ _ _ T6 (mkF m 40 #[.val (.ref x0), .val (.ref x1), .val (.ref x1)] [(.ref w3)])
  refine q_aN X6 hx hby d16_40 rfl rfl ?_
  refine q_gF X6 hx hZ hown (wd hw 27 rfl) e6 r6 hby d16_41 ?_
  intro T7 X7 e7
  refine q_cS [(.ref w3), (.ref w4)] [] 0 X7 hx hZ hown (wd hw 79 rfl) (wd hw 80 rfl) (wd hw 81 rfl) (wd hw 61 rfl) (by decide) e7 (rm_a17_0 l Z a0 hw [] cs sv GG w3 w4 kk5 kk6 h0 O0 r7 r8) hby hml rfl d16_44 pd_LABABRZ rfl rfl (by decide) (by decide) (by decide) (by decide) ?_
  intro v8 T8 L8 Lc8 X8 hQ8 l8
  obtain ⟨rfl, Nq8, e8⟩ := hQ8
  have N8_ : Fr Z.heap.size L8 := by rw [l8]; exact Fr.app N0 Nq8
  refine q_ifN X8 hx hby d16_47 ((if0 _ _).trans (feq (by decide : ¬ ((1 : Int32) = (0 : Int32)))).1) ?_
  refine q_iC X8 hx hby d16_50  ?_
  refine q_go 51 55 X8 hx hby rfl d16_51 (by decide) (by decide) ?_
  exact Go.retN X8 hx (t := .boolean) hret (by simp) hlk (hb hby d16_55) (by decide) (by decide) (by show _ ∧ _ ∧ _; rw [e8]; exact ⟨rfl, N8_, rfl⟩)
theorem pd_LLjava_lang_Object_RZ : parseMethodDescriptor "(Ljava/lang/Object;)Z" = some ⟨[(.object "java/lang/Object")], some .boolean⟩ := by decide +kernel
theorem d2_15 : decode method_3_code 15 = .ok (.iload_n 0, 1) := by decide +kernel
theorem d2_16 : decode method_3_code 16 = .ok (.iconst 1, 1) := by decide +kernel
theorem d2_17 : decode method_3_code 17 = .ok (.if_icmp .ne 18, 3) := by decide +kernel
theorem d2_20 : decode method_3_code 20 = .ok (.new 7, 3) := by decide +kernel
theorem d2_23 : decode method_3_code 23 = .ok (.dup, 1) := by decide +kernel
theorem d2_24 : decode method_3_code 24 = .ok (.iconst 1, 1) := by decide +kernel
theorem d2_25 : decode method_3_code 25 = .ok (.newarray .char, 2) := by decide +kernel
theorem d2_27 : decode method_3_code 27 = .ok (.dup, 1) := by decide +kernel
theorem d2_28 : decode method_3_code 28 = .ok (.iconst 0, 1) := by decide +kernel
theorem d2_29 : decode method_3_code 29 = .ok (.iload_n 1, 1) := by decide +kernel
theorem d2_30 : decode method_3_code 30 = .ok (.castore, 1) := by decide +kernel
theorem d2_31 : decode method_3_code 31 = .ok (.invokespecial 9, 3) := by decide +kernel
theorem d4_27 : decode jdk_42_method_149_code 27 = .ok (.getstatic 38, 3) := by decide +kernel
theorem d4_30 : decode jdk_42_method_149_code 30 = .ok (.ifCond .eq 28, 3) := by decide +kernel
theorem d4_33 : decode jdk_42_method_149_code 33 = .ok (.aload_n 1, 1) := by decide +kernel
theorem d4_34 : decode jdk_42_method_149_code 34 = .ok (.iload_n 2, 1) := by decide +kernel
theorem d4_35 : decode jdk_42_method_149_code 35 = .ok (.iload_n 3, 1) := by decide +kernel
theorem d4_36 : decode jdk_42_method_149_code 36 = .ok (.invokestatic 177, 3) := by decide +kernel
theorem d18_0 : decode jdk_52_method_16_code 0 = .ok (.iload_n 2, 1) := by decide +kernel
theorem d18_1 : decode jdk_52_method_16_code 1 = .ok (.newarray .byte, 2) := by decide +kernel
theorem d18_3 : decode jdk_52_method_16_code 3 = .ok (.astore_n 3, 1) := by decide +kernel
theorem d18_4 : decode jdk_52_method_16_code 4 = .ok (.aload_n 0, 1) := by decide +kernel
theorem d18_5 : decode jdk_52_method_16_code 5 = .ok (.iload_n 1, 1) := by decide +kernel
theorem d18_6 : decode jdk_52_method_16_code 6 = .ok (.aload_n 3, 1) := by decide +kernel
theorem d18_7 : decode jdk_52_method_16_code 7 = .ok (.iconst 0, 1) := by decide +kernel
theorem d18_8 : decode jdk_52_method_16_code 8 = .ok (.iload_n 2, 1) := by decide +kernel
theorem d18_9 : decode jdk_52_method_16_code 9 = .ok (.invokestatic 115, 3) := by decide +kernel
theorem d19_0 : decode jdk_52_method_21_code 0 = .ok (.iconst 0, 1) := by decide +kernel
theorem d19_1 : decode jdk_52_method_21_code 1 = .ok (.istore 5, 2) := by decide +kernel
theorem d19_3 : decode jdk_52_method_21_code 3 = .ok (.iload 5, 2) := by decide +kernel
theorem d19_5 : decode jdk_52_method_21_code 5 = .ok (.iload 4, 2) := by decide +kernel
theorem d19_7 : decode jdk_52_method_21_code 7 = .ok (.if_icmp .ge 37, 3) := by decide +kernel
theorem d19_10 : decode jdk_52_method_21_code 10 = .ok (.aload_n 0, 1) := by decide +kernel
theorem d19_11 : decode jdk_52_method_21_code 11 = .ok (.iload_n 1, 1) := by decide +kernel
theorem d19_12 : decode jdk_52_method_21_code 12 = .ok (.caload, 1) := by decide +kernel
theorem d19_13 : decode jdk_52_method_21_code 13 = .ok (.istore 6, 2) := by decide +kernel
theorem d19_15 : decode jdk_52_method_21_code 15 = .ok (.iload 6, 2) := by decide +kernel
theorem d19_17 : decode jdk_52_method_21_code 17 = .ok (.sipush 255, 3) := by decide +kernel
theorem d19_20 : decode jdk_52_method_21_code 20 = .ok (.if_icmp .le 6, 3) := by decide +kernel
theorem d19_26 : decode jdk_52_method_21_code 26 = .ok (.aload_n 2, 1) := by decide +kernel
theorem d19_27 : decode jdk_52_method_21_code 27 = .ok (.iload_n 3, 1) := by decide +kernel
theorem d19_28 : decode jdk_52_method_21_code 28 = .ok (.iload 6, 2) := by decide +kernel
theorem d19_30 : decode jdk_52_method_21_code 30 = .ok (.i2b, 1) := by decide +kernel
theorem d19_31 : decode jdk_52_method_21_code 31 = .ok (.bastore, 1) := by decide +kernel
theorem d19_32 : decode jdk_52_method_21_code 32 = .ok (.iinc 1 1, 3) := by decide +kernel
theorem d19_35 : decode jdk_52_method_21_code 35 = .ok (.iinc 3 1, 3) := by decide +kernel
theorem d19_38 : decode jdk_52_method_21_code 38 = .ok (.iinc 5 1, 3) := by decide +kernel
theorem d19_41 : decode jdk_52_method_21_code 41 = .ok (.goto (-38), 3) := by decide +kernel
theorem d19_44 : decode jdk_52_method_21_code 44 = .ok (.iload 4, 2) := by decide +kernel
theorem d19_46 : decode jdk_52_method_21_code 46 = .ok (.ireturn, 1) := by decide +kernel
theorem pn_19 : plainName "java/lang/StringUTF16" = true := by first | (simp [plainName, overriddenIn]; done) | decide +kernel
def Q_a19_0 (Z : State) (x2 : Addr) (w2 : Int32) (kk3 : ClassId) (h0 : Heap) (v : Option Value) (h : Heap) (L : List Loc) : Prop := v = some (.int (1 : Int32)) ∧ Fr Z.heap.size L ∧ Keep h0 h [x2] ∧ Arv Z h x2 kk3 .byte (1 : Int32) [(.int ((w2.toInt8.toInt32).toInt8.toInt32))] (.int (0 : Int32))
theorem rm_a19_0 (l : Launch) (Z : State) (a0 : Array Value) (hw : HW Z a0) (ws : List Jvm.Cond) (cs : Int32) (sv : Value) (GG : GP Z cs sv) (x0 : Addr) (x2 : Addr) (kk1 : ClassId) (w2 : Int32) (kk3 : ClassId) (h0 : Heap) (O0 : Ext Z.heap h0) (r0 : Arv Z h0 x0 kk1 .char (1 : Int32) [(.int w2)] (.int (0 : Int32))) (r1 : ¬ ((255 : Int32) < w2)) (r2 : Arv Z h0 x2 kk3 .byte (1 : Int32) [(.int (0 : Int32))] (.int (0 : Int32))) (r3 : Z.heap.size ≤ x2) :
    Met FrameEnd l (⟨"java/lang/StringUTF16", "compress", "([CI[BII)I"⟩ : MethodName) jdk_52_method_21_code 7 (some .int) ws ⟨0, 0, 0, 0⟩ Z h0 #[(.ref x0), (.int (0 : Int32)), (.ref x2), (.int (0 : Int32)), (.int (1 : Int32))] (Q_a19_0 Z x2 w2 kk3 h0) := by
  refine own_met "java/lang/StringUTF16" (plainFor_of_name pn_19) rfl #[.val (.ref x0), .val (.int (0 : Int32)), .val (.ref x2), .val (.int (0 : Int32)), .val (.int (1 : Int32)), .unset, .unset] (fun _ => by first | (simp [entryFrame, mkF, argsToLocals, Value.category]; done) | rfl) ?_
  intro p e s m below meth c s₁ hx hby hlk hret hml hZ hown hnm X0 e0
  have N0 := Fr.nil Z.heap.size
  refine q_iC X0 hx hby d19_0  ?_
  refine q_isL X0 hx hby d19_1 (l' := #[.val (.ref x0), .val (.int (0 : Int32)), .val (.ref x2), .val (.int (0 : Int32)), .val (.int (1 : Int32)), .val (.int (0 : Int32)), .unset]) rfl ?_
  refine q_iL X0 hx hby d19_3 rfl ?_
  refine q_iL X0 hx hby d19_5 rfl ?_
  refine q_icN X0 hx hby d19_7 (tlt (by decide : (0 : Int32) < (1 : Int32))).2.1 ?_
  refine q_aN X0 hx hby d19_10 rfl rfl ?_
  refine q_iN X0 hx hby d19_11 rfl ?_
  obtain ⟨cl1, Ar1, q1, S1, N1, H1, G1⟩ := id r0
  have hin1 : ¬ ((0 : Int32) < 0 ∨ cl1.slots.size ≤ ((0 : Int32)).toNatClampNeg) := inb_of S1 ⟨by decide, by decide⟩
  refine Go.step (X0.caload hx (j := (0 : Int32)) (v := (.int w2)) (by rw [e0]; exact Ar1.1) (State.isArrayOf_alike hZ.alike Ar1.2.1) Ar1.2.2 hin1 (Has.at H1 hin1 rfl) (g := (mkF m 12 #[.val (.ref x0), .val (.int (0 : Int32)), .val (.ref x2), .val (.int (0 : Int32)), .val (.int (1 : Int32)), .val (.int (0 : Int32)), .unset] [(.int (0 : Int32)), (.ref x0)])) rfl rfl (hb hby d19_12)) ?_
  refine q_isL X0 hx hby d19_13 (l' := #[.val (.ref x0), .val (.int (0 : Int32)), .val (.ref x2), .val (.int (0 : Int32)), .val (.int (1 : Int32)), .val (.int (0 : Int32)), .val (.int w2)]) rfl ?_
  refine q_iL X0 hx hby d19_15 rfl ?_
  refine Go.step (fun _ kt_ => XS.sipush X0.here hx rfl (hb hby d19_17)  kt_) ?_
  refine q_icY 20 26 X0 hx hby rfl d19_20 (flt r1).2.2.2 (by decide) (by decide) ?_
  refine q_aN X0 hx hby d19_26 rfl rfl ?_
  refine q_iN X0 hx hby d19_27 rfl ?_
  refine q_iL X0 hx hby d19_28 rfl ?_
  refine Go.step (fun _ kt_ => XS.i2b X0.here hx rfl (hb hby d19_30) rfl kt_) ?_
  show Go _ _ _ _ _ _ _ _ s₁ (mkF m 31 #[.val (.ref x0), .val (.int (0 : Int32)), .val (.ref x2), .val (.int (0 : Int32)), .val (.int (1 : Int32)), .val (.int (0 : Int32)), .val (.int w2)] [(.int (w2.toInt8.toInt32)), (.int (0 : Int32)), (.ref x2)])
  obtain ⟨cl2, Ar2, q2, S2, N2, H2, G2⟩ := id r2
  have hin2 : ¬ ((0 : Int32) < 0 ∨ cl2.slots.size ≤ ((0 : Int32)).toNatClampNeg) := inb_of S2 ⟨by decide, by decide⟩
  obtain ⟨T2, h2, X2, e2, W2, st2⟩ := stB X0 hx hZ e0 Ar2 (j := (0 : Int32)) hin2 (g := (mkF m 31 #[.val (.ref x0), .val (.int (0 : Int32)), .val (.ref x2), .val (.int (0 : Int32)), .val (.int (1 : Int32)), .val (.int (0 : Int32)), .val (.int w2)] [(.int (w2.toInt8.toInt32)), (.int (0 : Int32)), (.ref x2)])) rfl rfl (hb hby d19_31)
  refine Go.step st2 ?_
  have V2 : Arv Z h2 x2 kk3 .byte (1 : Int32) [(.int ((w2.toInt8.toInt32).toInt8.toInt32))] (.int (0 : Int32)) := Arv.set Ar2 q2 S2 N2 H2 G2 (fits_nar_byte _) W2 0 rfl (Nat.le_of_ble_eq_true rfl)
  have N2_ := Fr.snoc X2 N0 r3
  have O2_ : Ext Z.heap h2 := extWr O0 W2 r3
  have K2 := Keep.wr (Keep.refl h0 [x2]) W2 (Or.inl (List.mem_of_getElem? (i := 0) rfl))
  refine q_inc X2 hx hby d19_32 rfl (l' := #[.val (.ref x0), .val (.int (1 : Int32)), .val (.ref x2), .val (.int (0 : Int32)), .val (.int (1 : Int32)), .val (.int (0 : Int32)), .val (.int w2)]) rfl ?_
  refine q_inc X2 hx hby d19_35 rfl (l' := #[.val (.ref x0), .val (.int (1 : Int32)), .val (.ref x2), .val (.int (1 : Int32)), .val (.int (1 : Int32)), .val (.int (0 : Int32)), .val (.int w2)]) rfl ?_
  refine q_inc X2 hx hby d19_38 rfl (l' := #[.val (.ref x0), .val (.int (1 : Int32)), .val (.ref x2), .val (.int (1 : Int32)), .val (.int (1 : Int32)), .val (.int (1 : Int32)), .val (.int w2)]) rfl ?_
  refine q_go 41 3 X2 hx hby rfl d19_41 (by decide) (by decide) ?_
  refine q_iL X2 hx hby d19_3 rfl ?_
  refine q_iL X2 hx hby d19_5 rfl ?_
  refine q_icY 7 44 X2 hx hby rfl d19_7 (flt (by decide : ¬ ((1 : Int32) < (1 : Int32)))).2.1 (by decide) (by decide) ?_
  refine q_iL X2 hx hby d19_44 rfl ?_
  exact Go.retI X2 hx hret hlk (hb hby d19_46) (by decide) (by decide) (by show Q_a19_0 ..; rw [e2]; exact ⟨rfl, N2_, K2, V2⟩)
theorem pd_LACIABIIRI : parseMethodDescriptor "([CI[BII)I" = some ⟨[(.array .char), .int, (.array .byte), .int, .int], some .int⟩ := by decide +kernel
theorem d18_12 : decode jdk_52_method_16_code 12 = .ok (.istore 4, 2) := by decide +kernel
theorem d18_14 : decode jdk_52_method_16_code 14 = .ok (.iload 4, 2) := by decide +kernel
theorem d18_16 : decode jdk_52_method_16_code 16 = .ok (.iload_n 2, 1) := by decide +kernel
theorem d18_17 : decode jdk_52_method_16_code 17 = .ok (.if_icmp .eq 40, 3) := by decide +kernel
theorem d18_57 : decode jdk_52_method_16_code 57 = .ok (.aload_n 3, 1) := by decide +kernel
theorem d18_58 : decode jdk_52_method_16_code 58 = .ok (.areturn, 1) := by decide +kernel
theorem pn_18 : plainName "java/lang/StringUTF16" = true := by first | (simp [plainName, overriddenIn]; done) | decide +kernel
def Q_a18_0 (Z : State) (w2 : Int32) (h0 : Heap) (v : Option Value) (h : Heap) (L : List Loc) : Prop := ∃ (b1 : Addr) (k1 : ClassId), v = some (.ref b1) ∧ Fr Z.heap.size L ∧ Keep h0 h [] ∧ h0.size ≤ b1 ∧ Arv Z h b1 k1 .byte (1 : Int32) [(.int ((w2.toInt8.toInt32).toInt8.toInt32))] (.int (0 : Int32))
theorem rm_a18_0 (l : Launch) (Z : State) (a0 : Array Value) (hw : HW Z a0) (ws : List Jvm.Cond) (cs : Int32) (sv : Value) (GG : GP Z cs sv) (x0 : Addr) (kk1 : ClassId) (w2 : Int32) (h0 : Heap) (O0 : Ext Z.heap h0) (r0 : Arv Z h0 x0 kk1 .char (1 : Int32) [(.int w2)] (.int (0 : Int32))) (r1 : ¬ ((255 : Int32) < w2)) :
    Met FrameEnd l (⟨"java/lang/StringUTF16", "compress", "([CII)[B"⟩ : MethodName) jdk_52_method_16_code 6 (some (.array .byte)) ws ⟨1, 1, 1, 18⟩ Z h0 #[(.ref x0), (.int (0 : Int32)), (.int (1 : Int32))] (Q_a18_0 Z w2 h0) := by
  refine own_met "java/lang/StringUTF16" (plainFor_of_name pn_18) rfl #[.val (.ref x0), .val (.int (0 : Int32)), .val (.int (1 : Int32)), .unset, .unset, .unset] (fun _ => by first | (simp [entryFrame, mkF, argsToLocals, Value.category]; done) | rfl) ?_
  intro p e s m below meth c s₁ hx hby hlk hret hml hZ hown hnm X0 e0
  have N0 := Fr.nil Z.heap.size
  refine q_iN X0 hx hby d18_0 rfl ?_
  obtain ⟨T1, h1, k1, X1, e1, E1, A1, st1⟩ := newP X0 hx hZ (wd hw 22 rfl) e0 (g := (mkF m 1 #[.val (.ref x0), .val (.int (0 : Int32)), .val (.int (1 : Int32)), .unset, .unset, .unset] [(.int (1 : Int32))])) rfl (hb hby d18_1) rfl (by decide) (cap := 1) (by decide) (by decide) (by decide) (by decide)
  obtain ⟨b1, hb1⟩ : ∃ z, z = h0.size := ⟨_, rfl⟩
  rw [← hb1] at A1 st1
  refine Go.step st1 ?_
  have g_b1 : Z.heap.size ≤ b1 := Nat.le_trans O0.1 (Nat.le_of_eq hb1.symm)
  have O1_ : Ext Z.heap h1 := extTr O0 E1
  have sz_b1 : h0.size ≤ b1 := Nat.le_trans (Keep.refl h0 []).1 (Nat.le_of_eq hb1.symm)
  have K1 := Keep.ext (Keep.refl h0 []) E1
  have V1 : Arv Z h1 b1 k1 .byte (1 : Int32) [(.int (0 : Int32))] (.int (0 : Int32)) := (Arv.new A1 (by decide)).pad (pad_rep [] (.int (0 : Int32)) 1)
  refine q_asN X1 hx hby d18_3 rfl (l' := #[.val (.ref x0), .val (.int (0 : Int32)), .val (.int (1 : Int32)), .val (.ref b1), .unset, .unset]) rfl ?_
  refine q_aN X1 hx hby d18_4 rfl rfl ?_
  refine q_iN X1 hx hby d18_5 rfl ?_
  refine q_aN X1 hx hby d18_6 rfl rfl ?_
  refine q_iC X1 hx hby d18_7  ?_
  refine q_iN X1 hx hby d18_8 rfl ?_
  refine q_cS [(.ref x0), (.int (0 : Int32)), (.ref b1), (.int (0 : Int32)), (.int (1 : Int32))] [] 0 X1 hx hZ hown (wd hw 86 rfl) (wd hw 87 rfl) (wd hw 88 rfl) (wd hw 84 rfl) (by decide) e1 (rm_a19_0 l Z a0 hw [] cs sv GG x0 b1 kk1 w2 k1 h1 O1_ (r0.ext E1) r1 V1 g_b1) hby hml rfl d18_9 pd_LACIABIIRI rfl rfl (by decide) (by decide) (by decide) (by decide) ?_
  intro v2 T2 L2 Lc2 X2 hQ2 l2
  obtain ⟨rfl, Nq2, Kq2, p2_0⟩ := hQ2
  have O2_ : Ext Z.heap T2.heap := extKeep O1_ Kq2 (allS g_b1 all0)
  have K2 := Keep.trans K1 Kq2 (allS (Or.inr sz_b1) all0)
  have N2_ : Fr Z.heap.size L2 := by rw [l2]; exact Fr.app N0 Nq2
  refine q_isL X2 hx hby d18_12 (l' := #[.val (.ref x0), .val (.int (0 : Int32)), .val (.int (1 : Int32)), .val (.ref b1), .val (.int (1 : Int32)), .unset]) rfl ?_
  refine q_iL X2 hx hby d18_14 rfl ?_
  refine q_iN X2 hx hby d18_16 rfl ?_
  show Go _ _ _ _ _ _ _ _ T2 (mkF m 17 #[.val (.ref x0), .val (.int (0 : Int32)), .val (.int (1 : Int32)), .val (.ref b1), .val (.int (1 : Int32)), .unset] [(.int (1 : Int32)), (.int (1 : Int32))])
  refine q_icY 17 57 X2 hx hby rfl d18_17 (teq (by decide : (1 : Int32) = (1 : Int32))).1 (by decide) (by decide) ?_
  refine q_aN X2 hx hby d18_57 rfl rfl ?_
  exact Go.retA X2 hx hret rfl rfl hlk (hb hby d18_58) (by decide) (by decide) ⟨b1, k1, rfl, N2_, K2, sz_b1, p2_0⟩
theorem pd_LACIIRAB : parseMethodDescriptor "([CII)[B" = some ⟨[(.array .char), .int, .int], some (.array .byte)⟩ := by decide +kernel
theorem d4_39 : decode jdk_42_method_149_code 39 = .ok (.astore 5, 2) := by decide +kernel
theorem d4_41 : decode jdk_42_method_149_code 41 = .ok (.aload_n 0, 1) := by decide +kernel
theorem d4_42 : decode jdk_42_method_149_code 42 = .ok (.aload 5, 2) := by decide +kernel
theorem d4_44 : decode jdk_42_method_149_code 44 = .ok (.iload_n 3, 1) := by decide +kernel
theorem d4_45 : decode jdk_42_method_149_code 45 = .ok (.invokestatic 47, 3) := by decide +kernel
theorem d20_0 : decode jdk_52_method_15_code 0 = .ok (.iload_n 1, 1) := by decide +kernel
theorem d20_1 : decode jdk_52_method_15_code 1 = .ok (.aload_n 0, 1) := by decide +kernel
theorem d20_2 : decode jdk_52_method_15_code 2 = .ok (.arraylength, 1) := by decide +kernel
theorem d20_3 : decode jdk_52_method_15_code 3 = .ok (.isub, 1) := by decide +kernel
theorem d20_4 : decode jdk_52_method_15_code 4 = .ok (.bipush 31, 2) := by decide +kernel
theorem d20_6 : decode jdk_52_method_15_code 6 = .ok (.iushr, 1) := by decide +kernel
theorem d20_7 : decode jdk_52_method_15_code 7 = .ok (.i2b, 1) := by decide +kernel
theorem d20_8 : decode jdk_52_method_15_code 8 = .ok (.ireturn, 1) := by decide +kernel
theorem pn_20 : plainName "java/lang/StringUTF16" = true := by first | (simp [plainName, overriddenIn]; done) | decide +kernel
def Q_a20_0 (Z : State) (x1 : Int32) (h0 : Heap) (v : Option Value) (h : Heap) (L : List Loc) : Prop := v = some (.int (((((x1 - (1 : Int32)).toUInt32 >>> ((31 : Int32) &&& 31).toUInt32).toInt32).toInt8.toInt32).toInt8.toInt32)) ∧ Fr Z.heap.size L ∧ h = h0
theorem rm_a20_0 (l : Launch) (Z : State) (a0 : Array Value) (hw : HW Z a0) (ws : List Jvm.Cond) (cs : Int32) (sv : Value) (GG : GP Z cs sv) (x0 : Addr) (x1 : Int32) (kk1 : ClassId) (w2 : Int32) (h0 : Heap) (O0 : Ext Z.heap h0) (r0 : Arv Z h0 x0 kk1 .byte (1 : Int32) [(.int w2)] (.int (0 : Int32))) :
    Met FrameEnd l (⟨"java/lang/StringUTF16", "coderFromArrayLen", "([BI)B"⟩ : MethodName) jdk_52_method_15_code 2 (some .byte) ws ⟨0, 0, 0, 0⟩ Z h0 #[(.ref x0), (.int x1)] (Q_a20_0 Z x1 h0) := by
  refine own_met "java/lang/StringUTF16" (plainFor_of_name pn_20) rfl #[.val (.ref x0), .val (.int x1)] (fun _ => by first | (simp [entryFrame, mkF, argsToLocals, Value.category]; done) | rfl) ?_
  intro p e s m below meth c s₁ hx hby hlk hret hml hZ hown hnm X0 e0
  have N0 := Fr.nil Z.heap.size
  refine q_iN X0 hx hby d20_0 rfl ?_
  refine q_aN X0 hx hby d20_1 rfl rfl ?_
  obtain ⟨cl1, Ar1, -, S1, N1, -, -⟩ := id r0
  refine Go.step (X0.arraylength hx (by rw [e0]; exact Ar1.1) (State.isArrayOf_alike hZ.alike Ar1.2.1) (g := (mkF m 2 #[.val (.ref x0), .val (.int x1)] [(.ref x0), (.int x1)])) rfl rfl (hb hby d20_2)) ?_
  rw [len_of S1 N1]
  show Go _ _ _ _ _ _ _ _ s₁ (mkF m 3 #[.val (.ref x0), .val (.int x1)] [(.int (1 : Int32)), (.int x1)])
  refine q_isub X0 hx hby d20_3  ?_
  refine q_bP X0 hx hby d20_4  ?_
  refine Go.step (fun _ kt_ => XS.iushr X0.here hx rfl (hb hby d20_6) rfl kt_) ?_
  show Go _ _ _ _ _ _ _ _ s₁ (mkF m 7 #[.val (.ref x0), .val (.int x1)] [(.int (((x1 - (1 : Int32)).toUInt32 >>> ((31 : Int32) &&& 31).toUInt32).toInt32))])
  refine Go.step (fun _ kt_ => XS.i2b X0.here hx rfl (hb hby d20_7) rfl kt_) ?_
  show Go _ _ _ _ _ _ _ _ s₁ (mkF m 8 #[.val (.ref x0), .val (.int x1)] [(.int ((((x1 - (1 : Int32)).toUInt32 >>> ((31 : Int32) &&& 31).toUInt32).toInt32).toInt8.toInt32))])
  exact Go.retN X0 hx (t := .byte) hret (by simp) hlk (hb hby d20_8) (by decide) (by decide) (by show _ ∧ _ ∧ _; rw [e0]; exact ⟨rfl, N0, rfl⟩)
theorem pd_LABIRB : parseMethodDescriptor "([BI)B" = some ⟨[(.array .byte), .int], some .byte⟩ := by decide +kernel
theorem d4_48 : decode jdk_42_method_149_code 48 = .ok (.putfield 15, 3) := by decide +kernel
theorem d4_51 : decode jdk_42_method_149_code 51 = .ok (.aload_n 0, 1) := by decide +kernel
theorem d4_52 : decode jdk_42_method_149_code 52 = .ok (.aload 5, 2) := by decide +kernel
theorem d4_54 : decode jdk_42_method_149_code 54 = .ok (.putfield 9, 3) := by decide +kernel
theorem d4_57 : decode jdk_42_method_149_code 57 = .ok (.return_, 1) := by decide +kernel
def Q_a4_1 (Z : State) (x0 : Addr) (w2 : Int32) (h0 : Heap) (v : Option Value) (h : Heap) (L : List Loc) : Prop := ∃ (b1q3 : Addr) (k1q3 : ClassId), v = none ∧ Fr Z.heap.size L ∧ Keep h0 h [x0] ∧ fl_1 Z h x0 (.int (0 : Int32)) ∧ fl_0 Z h x0 (.ref b1q3) ∧ h0.size ≤ b1q3 ∧ Arv Z h b1q3 k1q3 .byte (1 : Int32) [(.int ((w2.toInt8.toInt32).toInt8.toInt32))] (.int (0 : Int32))
theorem rm_a4_1 (l : Launch) (Z : State) (a0 : Array Value) (hw : HW Z a0) (ws : List Jvm.Cond) (cs : Int32) (sv : Value) (GG : GP Z cs sv) (x0 : Addr) (x1 : Addr) (kk1 : ClassId) (w2 : Int32) (w3 : Int32) (h0 : Heap) (O0 : Ext Z.heap h0) (r0 : Arv Z h0 x1 kk1 .char (1 : Int32) [(.int w2)] (.int (0 : Int32))) (r1 : ¬ ((255 : Int32) < w2)) (r2 : Exa Z h0 x0 "java/lang/String") (r3 : fl_1 Z h0 x0 (.int w3)) (r4 : Z.heap.size ≤ x0) (r5 : fl_0 Z h0 x0 .null) :
    Met FrameEnd l (⟨"java/lang/String", "<init>", "([CIILjava/lang/Void;)V"⟩ : MethodName) jdk_42_method_149_code 6 none ws ⟨2, 1, 1, 35⟩ Z h0 #[(.ref x0), (.ref x1), (.int (0 : Int32)), (.int (1 : Int32)), .null] (Q_a4_1 Z x0 w2 h0) := by
  refine own_met "java/lang/String" (plainFor_of_name pn_4) rfl #[.val (.ref x0), .val (.ref x1), .val (.int (0 : Int32)), .val (.int (1 : Int32)), .val .null, .unset] (fun _ => by first | (simp [entryFrame, mkF, argsToLocals, Value.category]; done) | rfl) ?_
  intro p e s m below meth c s₁ hx hby hlk hret hml hZ hown hnm X0 e0
  have N0 := Fr.nil Z.heap.size
  obtain ⟨G_cs, H_cs, G_sv, H_sv⟩ := id GG
  refine q_aN X0 hx hby d4_0 rfl rfl ?_
  obtain ⟨T1, X1, e1, st1⟩ := initO X0 hx hZ hown (wd hw 18 rfl) (wd hw 19 rfl) (wd hw 20 rfl) e0 (g := (mkF m 1 #[.val (.ref x0), .val (.ref x1), .val (.int (0 : Int32)), .val (.int (1 : Int32)), .val .null, .unset] [(.ref x0)])) rfl (by rw [hml]; rfl) rfl (hb hby d4_1) (by decide) (W := 0) (by show 2 * 0 + _ ≤ _; exact Nat.le_of_eq rfl) (by decide)
  refine Go.step st1 ?_
  refine q_iN X1 hx hby d4_4 rfl ?_
  refine q_ifY 5 27 X1 hx hby rfl d4_5 ((if0 _ _).trans (feq (by decide : ¬ ((1 : Int32) = (0 : Int32)))).2) (by decide) (by decide) ?_
  refine q_gS X1 hx hZ hown (wd hw 48 rfl) e1 (Sta.ext O0 G_cs) hby d4_27 ?_
  intro T2 X2 e2
  refine q_ifN X2 hx hby d4_30 ((if0 _ _).trans (feq H_cs).1) ?_
  refine q_aN X2 hx hby d4_33 rfl rfl ?_
  refine q_iN X2 hx hby d4_34 rfl ?_
  refine q_iN X2 hx hby d4_35 rfl ?_
  refine q_cS [(.ref x1), (.int (0 : Int32)), (.int (1 : Int32))] [] 0 X2 hx hZ hown (wd hw 82 rfl) (wd hw 83 rfl) (wd hw 85 rfl) (wd hw 84 rfl) (by decide) e2 (rm_a18_0 l Z a0 hw [] cs sv GG x1 kk1 w2 h0 O0 r0 r1) hby hml rfl d4_36 pd_LACIIRAB rfl rfl (by decide) (by decide) (by decide) (by decide) ?_
  intro v3 T3 L3 Lc3 X3 hQ3 l3
  obtain ⟨b1q3, k1q3, rfl, Nq3, Kq3, p3_0, p3_1⟩ := hQ3
  have O3_ : Ext Z.heap T3.heap := extKeep O0 Kq3 all0
  have K3 := Keep.trans (Keep.refl h0 [x0]) Kq3 all0
  have N3_ : Fr Z.heap.size L3 := by rw [l3]; exact Fr.app N0 Nq3
  have g_b1q3 : Z.heap.size ≤ b1q3 := Nat.le_trans O0.1 p3_0
  have sz_b1q3 : h0.size ≤ b1q3 := Nat.le_trans (Keep.refl h0 [x0]).1 p3_0
  refine q_asL X3 hx hby d4_39 rfl (l' := #[.val (.ref x0), .val (.ref x1), .val (.int (0 : Int32)), .val (.int (1 : Int32)), .val .null, .val (.ref b1q3)]) rfl ?_
  refine q_aN X3 hx hby d4_41 rfl rfl ?_
  show Go _ _ _ _ _ _ _ _ T3 (mkF m 42 #[.val (.ref x0), .val (.ref x1), .val (.int (0 : Int32)), .val (.int (1 : Int32)), .val .null, .val (.ref b1q3)] [(.ref x0)])
  refine q_aL X3 hx hby d4_42 rfl rfl ?_
  refine q_iN X3 hx hby d4_44 rfl ?_
  refine q_cS [(.ref b1q3), (.int (1 : Int32))] [(.ref x0)] 1 X3 hx hZ hown (wd hw 89 rfl) (wd hw 90 rfl) (wd hw 91 rfl) (wd hw 84 rfl) (by decide) rfl (rm_a20_0 l Z a0 hw [] cs sv GG b1q3 (1 : Int32) k1q3 ((w2.toInt8.toInt32).toInt8.toInt32) T3.heap O3_ p3_1) hby hml rfl d4_45 pd_LABIRB rfl rfl (by decide) (by decide) (by decide) (by decide) ?_
  intro v4 T4 L4 Lc4 X4 hQ4 l4
  obtain ⟨rfl, Nq4, e4⟩ := hQ4
  have N4_ : Fr Z.heap.size L4 := by rw [l4]; exact Fr.app N3_ Nq4
  obtain ⟨T5, h5, X5, e5, W5, st5⟩ := putFN X4 hx hZ hown (wd hw 28 rfl) Via.refl e4 (r3.keep Kq3 nin0) (r2.keep Kq3) (Or.inr ⟨(wd hw 24 rfl), rfl, hnm⟩) (wd hw 8 rfl) (ty := .byte) (v' := (.int (0 : Int32))) pf_B rfl rfl (g := (mkF m 48 #[.val (.ref x0), .val (.ref x1), .val (.int (0 : Int32)), .val (.int (1 : Int32)), .val .null, .val (.ref b1q3)] [(.int (0 : Int32)), (.ref x0)])) rfl rfl (hb hby d4_48)
  refine Go.step st5 ?_
  have N5_ := Fr.snoc X5 N4_ r4
  have O5_ : Ext Z.heap h5 := extWr O3_ W5 r4
  have K5 := Keep.wr K3 W5 (Or.inl (List.mem_of_getElem? (i := 0) rfl))
  have F5 := Fld.same W5 (r3.keep Kq3 nin0)
  refine q_aN X5 hx hby d4_51 rfl rfl ?_
  refine q_aL X5 hx hby d4_52 rfl rfl ?_
  have f6 := (Fld.other W5 (r5.keep Kq3 nin0) (Or.inr (Ne.symm (sn_0 hw))))
  obtain ⟨T7, h7, X7, e7, W7, st7⟩ := putF X5 hx hZ hown (host := "") (Or.inl (wd hw 27 rfl)) Via.refl e5 f6 (Exa.wr W5 (r2.keep Kq3)) (Or.inr ⟨(wd hw 23 rfl), rfl, hnm⟩) (wd hw 8 rfl) (ty := (.array .byte)) pf_AB rfl rfl (g := (mkF m 54 #[.val (.ref x0), .val (.ref x1), .val (.int (0 : Int32)), .val (.int (1 : Int32)), .val .null, .val (.ref b1q3)] [(.ref b1q3), (.ref x0)])) rfl rfl (hb hby d4_54)
  refine Go.step st7 ?_
  have N7_ := Fr.snoc X7 N5_ r4
  have O7_ : Ext Z.heap h7 := extWr O5_ W7 r4
  have K7 := Keep.wr K5 W7 (Or.inl (List.mem_of_getElem? (i := 0) rfl))
  have F7 := Fld.same W7 f6
  have f8 := ((p3_1.other W5 (Ne.symm (Nat.ne_of_lt (Nat.lt_of_lt_of_le r2.lt p3_0)))).other W7 (Ne.symm (Nat.ne_of_lt (Nat.lt_of_lt_of_le r2.lt p3_0))))
  exact Go.retV X7 hx hret hlk (hb hby d4_57) (by decide) (by decide) (by show Q_a4_1 ..; rw [e7]; exact ⟨b1q3, k1q3, rfl, N7_, K7, (Fld.other W7 F5 (Or.inr (sn_0 hw))), F7, sz_b1q3, f8⟩)
def Q_a3_1 (Z : State) (x0 : Addr) (w2 : Int32) (h0 : Heap) (v : Option Value) (h : Heap) (L : List Loc) : Prop := ∃ (b1q3q2 : Addr) (k1q3q2 : ClassId), v = none ∧ Fr Z.heap.size L ∧ Keep h0 h [x0] ∧ fl_1 Z h x0 (.int (0 : Int32)) ∧ fl_0 Z h x0 (.ref b1q3q2) ∧ h0.size ≤ b1q3q2 ∧ Arv Z h b1q3q2 k1q3q2 .byte (1 : Int32) [(.int ((w2.toInt8.toInt32).toInt8.toInt32))] (.int (0 : Int32))
theorem rm_a3_1 (l : Launch) (Z : State) (a0 : Array Value) (hw : HW Z a0) (ws : List Jvm.Cond) (cs : Int32) (sv : Value) (GG : GP Z cs sv) (x0 : Addr) (x1 : Addr) (kk1 : ClassId) (w2 : Int32) (w3 : Int32) (h0 : Heap) (O0 : Ext Z.heap h0) (r0 : Arv Z h0 x1 kk1 .char (1 : Int32) [(.int w2)] (.int (0 : Int32))) (r1 : ¬ ((255 : Int32) < w2)) (r2 : Exa Z h0 x0 "java/lang/String") (r3 : fl_1 Z h0 x0 (.int w3)) (r4 : Z.heap.size ≤ x0) (r5 : fl_0 Z h0 x0 .null) :
    Met FrameEnd l (⟨"java/lang/String", "<init>", "([C)V"⟩ : MethodName) jdk_42_method_3_code 2 none ws ⟨3, 1, 1, 52⟩ Z h0 #[(.ref x0), (.ref x1)] (Q_a3_1 Z x0 w2 h0) := by
  refine own_met "java/lang/String" (plainFor_of_name pn_3) rfl #[.val (.ref x0), .val (.ref x1)] (fun _ => by first | (simp [entryFrame, mkF, argsToLocals, Value.category]; done) | rfl) ?_
  intro p e s m below meth c s₁ hx hby hlk hret hml hZ hown hnm X0 e0
  have N0 := Fr.nil Z.heap.size
  refine q_aN X0 hx hby d3_0 rfl rfl ?_
  refine q_aN X0 hx hby d3_1 rfl rfl ?_
  refine q_iC X0 hx hby d3_2  ?_
  refine q_aN X0 hx hby d3_3 rfl rfl ?_
  obtain ⟨cl1, Ar1, -, S1, N1, -, -⟩ := id r0
  refine Go.step (X0.arraylength hx (by rw [e0]; exact Ar1.1) (State.isArrayOf_alike hZ.alike Ar1.2.1) (g := (mkF m 4 #[.val (.ref x0), .val (.ref x1)] [(.ref x1), (.int (0 : Int32)), (.ref x1), (.ref x0)])) rfl rfl (hb hby d3_4)) ?_
  rw [len_of S1 N1]
  show Go _ _ _ _ _ _ _ _ s₁ (mkF m 5 #[.val (.ref x0), .val (.ref x1)] [(.int (1 : Int32)), (.int (0 : Int32)), (.ref x1), (.ref x0)])
  refine q_nl X0 hx hby d3_5  ?_
  refine q_cN [(.ref x1), (.int (0 : Int32)), (.int (1 : Int32)), .null] [] 0 X0 hx hZ hown rfl (wd hw 14 rfl) (wd hw 15 rfl) (wd hw 17 rfl) (wd hw 9 rfl) (by decide) e0 (rm_a4_1 l Z a0 hw [] cs sv GG x0 x1 kk1 w2 w3 h0 O0 r0 r1 r2 r3 r4 r5) hby hml rfl d3_6 pd_LACIILjava_lang_Void_RV rfl rfl (by decide) (by decide) (by decide) (by decide) ?_
  intro v2 T2 L2 Lc2 X2 hQ2 l2
  obtain ⟨b1q3q2, k1q3q2, rfl, Nq2, Kq2, p2_0, p2_1, p2_2, p2_3⟩ := hQ2
  have O2_ : Ext Z.heap T2.heap := extKeep O0 Kq2 (allS r4 all0)
  have K2 := Keep.trans (Keep.refl h0 [x0]) Kq2 (allS (Or.inl (List.mem_of_getElem? (i := 0) rfl)) all0)
  have N2_ : Fr Z.heap.size L2 := by rw [l2]; exact Fr.app N0 Nq2
  have g_b1q3q2 : Z.heap.size ≤ b1q3q2 := Nat.le_trans O0.1 p2_2
  have sz_b1q3q2 : h0.size ≤ b1q3q2 := Nat.le_trans (Keep.refl h0 [x0]).1 p2_2
  exact Go.retV X2 hx hret hlk (hb hby d3_9) (by decide) (by decide) ⟨b1q3q2, k1q3q2, rfl, N2_, K2, p2_0, p2_1, sz_b1q3q2, p2_3⟩
theorem d2_34 : decode method_3_code 34 = .ok (.areturn, 1) := by decide +kernel
def Q_a2_1 (Z : State) (x1 : Int32) (h0 : Heap) (v : Option Value) (h : Heap) (L : List Loc) : Prop := ∃ (b1 : Addr) (b1q3q2q6 : Addr) (k1q3q2q6 : ClassId), v = some (.ref b1) ∧ Fr Z.heap.size L ∧ Keep h0 h [] ∧ h0.size ≤ b1 ∧ Exa Z h b1 "java/lang/String" ∧ fl_1 Z h b1 (.int (0 : Int32)) ∧ fl_0 Z h b1 (.ref b1q3q2q6) ∧ h0.size ≤ b1q3q2q6 ∧ Arv Z h b1q3q2q6 k1q3q2q6 .byte (1 : Int32) [(.int (((x1.toUInt32.toUInt16.toUInt32.toInt32).toInt8.toInt32).toInt8.toInt32))] (.int (0 : Int32)) ∧ b1 ≠ b1q3q2q6
theorem rm_a2_1 (l : Launch) (Z : State) (a0 : Array Value) (hw : HW Z a0) (ws : List Jvm.Cond) (cs : Int32) (sv : Value) (GG : GP Z cs sv) (x0 : Int32) (x1 : Int32) (x2 : Int32) (x3 : Int32) (x4 : Int32) (h0 : Heap) (O0 : Ext Z.heap h0) (r0 : ¬ (x0 = (0 : Int32))) (r1 : x0 = (1 : Int32)) (r2 : ¬ ((255 : Int32) < (x1.toUInt32.toUInt16.toUInt32.toInt32))) :
    Met FrameEnd l (⟨"com/example/wary_lock/warylock/LockNameRootPinLaw", "mk", "(ICCCC)Ljava/lang/String;"⟩ : MethodName) method_3_code 5 (some (.object "java/lang/String")) ws ⟨4, 3, 6, 66⟩ Z h0 #[(.int x0), (.int x1), (.int x2), (.int x3), (.int x4)] (Q_a2_1 Z x1 h0) := by
  refine own_met "com/example/wary_lock/warylock/LockNameRootPinLaw" (plainFor_of_name pn_2) rfl #[.val (.int x0), .val (.int x1), .val (.int x2), .val (.int x3), .val (.int x4)] (fun _ => by first | (simp [entryFrame, mkF, argsToLocals, Value.category]; done) | rfl) ?_
  intro p e s m below meth c s₁ hx hby hlk hret hml hZ hown hnm X0 e0
  have N0 := Fr.nil Z.heap.size
  refine q_iN X0 hx hby d2_0 rfl ?_
  refine q_ifY 1 15 X0 hx hby rfl d2_1 ((if0 _ _).trans (feq r0).2) (by decide) (by decide) ?_
  refine q_iN X0 hx hby d2_15 rfl ?_
  refine q_iC X0 hx hby d2_16  ?_
  refine q_icN X0 hx hby d2_17 (teq r1).2 ?_
  obtain ⟨T1, h1, X1, e1, E1, A1, D1, U1, st1⟩ := newO X0 hx hZ hown (wd hw 7 rfl) (wd hw 8 rfl) (wd hw 9 rfl) e0 (g := (mkF m 20 #[.val (.int x0), .val (.int x1), .val (.int x2), .val (.int x3), .val (.int x4)] [])) rfl (hb hby d2_20) (by decide) (by decide)
  obtain ⟨b1, hb1⟩ : ∃ z, z = h0.size := ⟨_, rfl⟩
  rw [← hb1] at A1 D1 U1 st1
  refine Go.step st1 ?_
  have g_b1 : Z.heap.size ≤ b1 := Nat.le_trans O0.1 (Nat.le_of_eq hb1.symm)
  have O1_ : Ext Z.heap h1 := extTr O0 E1
  have sz_b1 : h0.size ≤ b1 := Nat.le_trans (Keep.refl h0 []).1 (Nat.le_of_eq hb1.symm)
  have K1 := Keep.ext (Keep.refl h0 []) E1
  have F1_value : fl_0 Z h1 b1 .null := D1 (Or.inr (wd hw 23 rfl)) (ty := (.array .byte)) pf_AB
  have F1_coder : fl_1 Z h1 b1 (.int (0 : Int32)) := D1 (Or.inr (wd hw 24 rfl)) (ty := .byte) pf_B
  refine q_dup X1 hx hby d2_23 rfl ?_
  refine q_iC X1 hx hby d2_24  ?_
  obtain ⟨T2, h2, k2, X2, e2, E2, A2, st2⟩ := newP X1 hx hZ (wd hw 10 rfl) e1 (g := (mkF m 25 #[.val (.int x0), .val (.int x1), .val (.int x2), .val (.int x3), .val (.int x4)] [(.int (1 : Int32)), (.ref b1), (.ref b1)])) rfl (hb hby d2_25) rfl (by decide) (cap := 1) (by decide) (by decide) (by decide) (by decide)
  obtain ⟨b2, hb2⟩ : ∃ z, z = h1.size := ⟨_, rfl⟩
  rw [← hb2] at A2 st2
  refine Go.step st2 ?_
  have g_b2 : Z.heap.size ≤ b2 := Nat.le_trans O1_.1 (Nat.le_of_eq hb2.symm)
  have O2_ : Ext Z.heap h2 := extTr O1_ E2
  have sz_b2 : h0.size ≤ b2 := Nat.le_trans K1.1 (Nat.le_of_eq hb2.symm)
  have K2 := Keep.ext K1 E2
  have V2 : Arv Z h2 b2 k2 .char (1 : Int32) [(.int (0 : Int32))] (.int (0 : Int32)) := (Arv.new A2 (by decide)).pad (pad_rep [] (.int (0 : Int32)) 1)
  refine q_dup X2 hx hby d2_27 rfl ?_
  refine q_iC X2 hx hby d2_28  ?_
  refine q_iN X2 hx hby d2_29 rfl ?_
  obtain ⟨cl3, Ar3, q3, S3, N3, H3, G3⟩ := id V2
  have hin3 : ¬ ((0 : Int32) < 0 ∨ cl3.slots.size ≤ ((0 : Int32)).toNatClampNeg) := inb_of S3 ⟨by decide, by decide⟩
  obtain ⟨T3, h3, X3, e3, W3, st3⟩ := stC X2 hx hZ e2 Ar3 (j := (0 : Int32)) hin3 (g := (mkF m 30 #[.val (.int x0), .val (.int x1), .val (.int x2), .val (.int x3), .val (.int x4)] [(.int x1), (.int (0 : Int32)), (.ref b2), (.ref b2), (.ref b1), (.ref b1)])) rfl rfl (hb hby d2_30)
  refine Go.step st3 ?_
  have V3 : Arv Z h3 b2 k2 .char (1 : Int32) [(.int (x1.toUInt32.toUInt16.toUInt32.toInt32))] (.int (0 : Int32)) := Arv.set Ar3 q3 S3 N3 H3 G3 (fits_nar_char _) W3 0 rfl (Nat.le_of_ble_eq_true rfl)
  have N3_ := Fr.snoc X3 N0 g_b2
  have O3_ : Ext Z.heap h3 := extWr O2_ W3 g_b2
  have K3 := Keep.wr K2 W3 (Or.inr sz_b2)
  have f4 := (Fld.other W3 (Fld.ext E2 F1_coder) (Or.inl (Nat.ne_of_lt (Nat.lt_of_lt_of_le A1.lt (Nat.le_of_eq hb2.symm)))))
  have f5 := (Fld.other W3 (Fld.ext E2 F1_value) (Or.inl (Nat.ne_of_lt (Nat.lt_of_lt_of_le A1.lt (Nat.le_of_eq hb2.symm)))))
  refine q_cN [(.ref b2)] [(.ref b1)] 1 X3 hx hZ hown rfl (wd hw 11 rfl) (wd hw 12 rfl) (wd hw 13 rfl) (wd hw 9 rfl) (by decide) e3 (rm_a3_1 l Z a0 hw [] cs sv GG b1 b2 k2 (x1.toUInt32.toUInt16.toUInt32.toInt32) (0 : Int32) h3 O3_ V3 r2 (Exa.wr W3 (Exa.ext E2 A1)) f4 g_b1 f5) hby hml rfl d2_31 pd_LACRV rfl rfl (by decide) (by decide) (by decide) (by decide) ?_
  intro v6 T6 L6 Lc6 X6 hQ6 l6
  obtain ⟨b1q3q2q6, k1q3q2q6, rfl, Nq6, Kq6, p6_0, p6_1, p6_2, p6_3⟩ := hQ6
  have O6_ : Ext Z.heap T6.heap := extKeep O3_ Kq6 (allS g_b1 all0)
  have K6 := Keep.trans K3 Kq6 (allS (Or.inr sz_b1) all0)
  have N6_ : Fr Z.heap.size L6 := by rw [l6]; exact Fr.app N3_ Nq6
  have g_b1q3q2q6 : Z.heap.size ≤ b1q3q2q6 := Nat.le_trans O3_.1 p6_2
  have sz_b1q3q2q6 : h0.size ≤ b1q3q2q6 := Nat.le_trans K3.1 p6_2
  exact Go.retA X6 hx hret rfl rfl hlk (hb hby d2_34) (by decide) (by decide) ⟨b1, b1q3q2q6, k1q3q2q6, rfl, N6_, K6, sz_b1, ((Exa.wr W3 (Exa.ext E2 A1)).keep Kq6), p6_0, p6_1, sz_b1q3q2q6, p6_3, (Nat.ne_of_lt (Nat.lt_of_lt_of_le (Exa.wr W3 (Exa.ext E2 A1)).lt p6_2))⟩
def Q_a10_1 (Z : State) (w4 : Int32) (h0 : Heap) (v : Option Value) (h : Heap) (L : List Loc) : Prop := v = some (.int ((1 : Int32) >>> ((w4.toInt8.toInt32) &&& 31))) ∧ Fr Z.heap.size L ∧ h = h0
theorem rm_a10_1 (l : Launch) (Z : State) (a0 : Array Value) (hw : HW Z a0) (ws : List Jvm.Cond) (cs : Int32) (sv : Value) (GG : GP Z cs sv) (x0 : Addr) (w1 : Addr) (kk2 : ClassId) (w3 : Int32) (w4 : Int32) (h0 : Heap) (O0 : Ext Z.heap h0) (r0 : fl_0 Z h0 x0 (.ref w1)) (r1 : Arv Z h0 w1 kk2 .byte (1 : Int32) [(.int w3)] (.int (0 : Int32))) (r2 : Exa Z h0 x0 "java/lang/String") (r3 : fl_1 Z h0 x0 (.int w4)) :
    Met FrameEnd l (⟨"java/lang/String", "length", "()I"⟩ : MethodName) jdk_42_method_54_code 1 (some .int) ws ⟨1, 0, 0, 13⟩ Z h0 #[(.ref x0)] (Q_a10_1 Z w4 h0) := by
  refine own_met "java/lang/String" (plainFor_of_name pn_10) rfl #[.val (.ref x0)] (fun _ => by first | (simp [entryFrame, mkF, argsToLocals, Value.category]; done) | rfl) ?_
  intro p e s m below meth c s₁ hx hby hlk hret hml hZ hown hnm X0 e0
  have N0 := Fr.nil Z.heap.size
  refine q_aN X0 hx hby d10_0 rfl rfl ?_
  refine q_gF X0 hx hZ hown (wd hw 27 rfl) e0 r0 hby d10_1 ?_
  intro T1 X1 e1
  obtain ⟨cl2, Ar2, -, S2, N2, -, -⟩ := id r1
  refine Go.step (X1.arraylength hx (by rw [e1]; exact Ar2.1) (State.isArrayOf_alike hZ.alike Ar2.2.1) (g := (mkF m 4 #[.val (.ref x0)] [(.ref w1)])) rfl rfl (hb hby d10_4)) ?_
  rw [len_of S2 N2]
  show Go _ _ _ _ _ _ _ _ T1 (mkF m 5 #[.val (.ref x0)] [(.int (1 : Int32))])
  refine q_aN X1 hx hby d10_5 rfl rfl ?_
  refine q_cV [] [(.int (1 : Int32))] 1 X1 hx hZ hown (wd hw 54 rfl) (wd hw 55 rfl) (wd hw 57 rfl) (wd hw 56 rfl) (wd hw 58 rfl) (wd hw 9 rfl) (by decide) e1 r2 (rm_a11_0 l Z a0 hw [] cs sv GG x0 w4 h0 O0 r3) hby hml rfl d10_6 pd_LRB rfl rfl (by decide) (by decide) (by decide) (by decide) ?_
  intro v3 T3 L3 Lc3 X3 hQ3 l3
  obtain ⟨rfl, Nq3, e3⟩ := hQ3
  have N3_ : Fr Z.heap.size L3 := by rw [l3]; exact Fr.app N0 Nq3
  refine Go.step (fun _ kt_ => XS.ishr X3.here hx rfl (hb hby d10_9) rfl kt_) ?_
  show Go _ _ _ _ _ _ _ _ T3 (mkF m 10 #[.val (.ref x0)] [(.int ((1 : Int32) >>> ((w4.toInt8.toInt32) &&& 31)))])
  exact Go.retI X3 hx hret hlk (hb hby d10_10) (by decide) (by decide) (by show _ ∧ _ ∧ _; rw [e3]; exact ⟨rfl, N3_, rfl⟩)
theorem d12_29 : decode jdk_43_method_22_code 29 = .ok (.aload_n 0, 1) := by decide +kernel
theorem d12_30 : decode jdk_43_method_22_code 30 = .ok (.iload_n 1, 1) := by decide +kernel
theorem d12_31 : decode jdk_43_method_22_code 31 = .ok (.iload_n 2, 1) := by decide +kernel
theorem d12_32 : decode jdk_43_method_22_code 32 = .ok (.iload_n 3, 1) := by decide +kernel
theorem d12_33 : decode jdk_43_method_22_code 33 = .ok (.invokestatic 95, 3) := by decide +kernel
theorem d12_36 : decode jdk_43_method_22_code 36 = .ok (.ireturn, 1) := by decide +kernel
def Q_a12_1 (Z : State) (w2 : Int32) (h0 : Heap) (v : Option Value) (h : Heap) (L : List Loc) : Prop := v = some (.int (ix1 w2 ((47 : Int32).toInt8.toInt32))) ∧ Fr Z.heap.size L ∧ h = h0
theorem rm_a12_1 (l : Launch) (Z : State) (a0 : Array Value) (hw : HW Z a0) (ws : List Jvm.Cond) (cs : Int32) (sv : Value) (GG : GP Z cs sv) (x0 : Addr) (kk1 : ClassId) (w2 : Int32) (h0 : Heap) (O0 : Ext Z.heap h0) (r0 : Arv Z h0 x0 kk1 .byte (1 : Int32) [(.int w2)] (.int (0 : Int32))) :
    Met FrameEnd l (⟨"java/lang/StringLatin1", "indexOf", "([BIII)I"⟩ : MethodName) jdk_43_method_22_code 4 (some .int) ws ⟨1, 0, 0, 17⟩ Z h0 #[(.ref x0), (.int (47 : Int32)), (.int (0 : Int32)), (.int (1 : Int32))] (Q_a12_1 Z w2 h0) := by
  refine own_met "java/lang/StringLatin1" (plainFor_of_name pn_12) rfl #[.val (.ref x0), .val (.int (47 : Int32)), .val (.int (0 : Int32)), .val (.int (1 : Int32))] (fun _ => by first | (simp [entryFrame, mkF, argsToLocals, Value.category]; done) | rfl) ?_
  intro p e s m below meth c s₁ hx hby hlk hret hml hZ hown hnm X0 e0
  have N0 := Fr.nil Z.heap.size
  refine q_iN X0 hx hby d12_0 rfl ?_
  refine q_cS [(.int (47 : Int32))] [] 0 X0 hx hZ hown (wd hw 63 rfl) (wd hw 64 rfl) (wd hw 65 rfl) (wd hw 61 rfl) (by decide) e0 (rm_a13_0 l Z a0 hw [] cs sv GG (47 : Int32) h0 O0 (by decide) (by decide)) hby hml rfl d12_1 pd_LIRZ rfl rfl (by decide) (by decide) (by decide) (by decide) ?_
  intro v1 T1 L1 Lc1 X1 hQ1 l1
  obtain ⟨rfl, Nq1, e1⟩ := hQ1
  have N1_ : Fr Z.heap.size L1 := by rw [l1]; exact Fr.app N0 Nq1
  refine q_ifY 4 9 X1 hx hby rfl d12_4 ((if0 _ _).trans (feq (by decide : ¬ ((1 : Int32) = (0 : Int32)))).2) (by decide) (by decide) ?_
  refine q_iN X1 hx hby d12_9 rfl ?_
  refine q_iC X1 hx hby d12_10  ?_
  refine q_cS [(.int (0 : Int32)), (.int (0 : Int32))] [] 0 X1 hx hZ hown (wd hw 66 rfl) (wd hw 67 rfl) (wd hw 69 rfl) (wd hw 68 rfl) (by decide) e1 (rm_a14_0 l Z a0 hw [] cs sv GG (0 : Int32) (0 : Int32) h0 O0 (by decide)) hby hml rfl d12_11 pd_LIIRI rfl rfl (by decide) (by decide) (by decide) (by decide) ?_
  intro v2 T2 L2 Lc2 X2 hQ2 l2
  obtain ⟨rfl, Nq2, e2⟩ := hQ2
  have N2_ : Fr Z.heap.size L2 := by rw [l2]; exact Fr.app N1_ Nq2
  refine q_isN X2 hx hby d12_14 (l' := #[.val (.ref x0), .val (.int (47 : Int32)), .val (.int (0 : Int32)), .val (.int (1 : Int32))]) rfl ?_
  refine q_iN X2 hx hby d12_15 rfl ?_
  refine q_aN X2 hx hby d12_16 rfl rfl ?_
  obtain ⟨cl3, Ar3, -, S3, N3, -, -⟩ := id r0
  refine Go.step (X2.arraylength hx (by rw [e2]; exact Ar3.1) (State.isArrayOf_alike hZ.alike Ar3.2.1) (g := (mkF m 17 #[.val (.ref x0), .val (.int (47 : Int32)), .val (.int (0 : Int32)), .val (.int (1 : Int32))] [(.ref x0), (.int (1 : Int32))])) rfl rfl (hb hby d12_17)) ?_
  rw [len_of S3 N3]
  show Go _ _ _ _ _ _ _ _ T2 (mkF m 18 #[.val (.ref x0), .val (.int (47 : Int32)), .val (.int (0 : Int32)), .val (.int (1 : Int32))] [(.int (1 : Int32)), (.int (1 : Int32))])
  refine q_cS [(.int (1 : Int32)), (.int (1 : Int32))] [] 0 X2 hx hZ hown (wd hw 70 rfl) (wd hw 71 rfl) (wd hw 72 rfl) (wd hw 68 rfl) (by decide) e2 (rm_a15_0 l Z a0 hw [] cs sv GG (1 : Int32) (1 : Int32) h0 O0 (by decide)) hby hml rfl d12_18 pd_LIIRI rfl rfl (by decide) (by decide) (by decide) (by decide) ?_
  intro v4 T4 L4 Lc4 X4 hQ4 l4
  obtain ⟨rfl, Nq4, e4⟩ := hQ4
  have N4_ : Fr Z.heap.size L4 := by rw [l4]; exact Fr.app N2_ Nq4
  refine q_isN X4 hx hby d12_21 (l' := #[.val (.ref x0), .val (.int (47 : Int32)), .val (.int (0 : Int32)), .val (.int (1 : Int32))]) rfl ?_
  refine q_iN X4 hx hby d12_22 rfl ?_
  refine q_iN X4 hx hby d12_23 rfl ?_
  refine q_icY 24 29 X4 hx hby rfl d12_24 (tlt (by decide : (0 : Int32) < (1 : Int32))).1 (by decide) (by decide) ?_
  refine q_aN X4 hx hby d12_29 rfl rfl ?_
  refine q_iN X4 hx hby d12_30 rfl ?_
  refine q_iN X4 hx hby d12_31 rfl ?_
  refine q_iN X4 hx hby d12_32 rfl ?_
  refine q_cS [(.ref x0), (.int (47 : Int32)), (.int (0 : Int32)), (.int (1 : Int32))] [] 0 X4 hx hZ hown (wd hw 92 rfl) (wd hw 93 rfl) (wd hw 94 rfl) (wd hw 61 rfl) (by decide) e4 (rm_ic1 l Z a0 hw [] cs sv GG x0 (47 : Int32) kk1 w2 h0 O0 r0) hby hml rfl d12_33 pd_LABIIIRI rfl rfl (by decide) (by decide) (by decide) (by decide) ?_
  intro v5 T5 L5 Lc5 X5 hQ5 l5
  obtain ⟨rfl, Nq5, e5⟩ := hQ5
  have N5_ : Fr Z.heap.size L5 := by rw [l5]; exact Fr.app N4_ Nq5
  exact Go.retI X5 hx hret hlk (hb hby d12_36) (by decide) (by decide) (by show _ ∧ _ ∧ _; rw [e5]; exact ⟨rfl, N5_, rfl⟩)
def Q_a8_1 (Z : State) (w3 : Int32) (h0 : Heap) (v : Option Value) (h : Heap) (L : List Loc) : Prop := v = some (.int (ix1 w3 ((47 : Int32).toInt8.toInt32))) ∧ Fr Z.heap.size L ∧ h = h0
theorem rm_a8_1 (l : Launch) (Z : State) (a0 : Array Value) (hw : HW Z a0) (ws : List Jvm.Cond) (cs : Int32) (sv : Value) (GG : GP Z cs sv) (x0 : Addr) (w1 : Addr) (kk2 : ClassId) (w3 : Int32) (h0 : Heap) (O0 : Ext Z.heap h0) (r0 : Exa Z h0 x0 "java/lang/String") (r1 : fl_1 Z h0 x0 (.int (0 : Int32))) (r2 : fl_0 Z h0 x0 (.ref w1)) (r3 : Arv Z h0 w1 kk2 .byte (1 : Int32) [(.int w3)] (.int (0 : Int32))) :
    Met FrameEnd l (⟨"java/lang/String", "indexOf", "(II)I"⟩ : MethodName) jdk_42_method_80_code 3 (some .int) ws ⟨2, 0, 0, 32⟩ Z h0 #[(.ref x0), (.int (47 : Int32)), (.int (0 : Int32))] (Q_a8_1 Z w3 h0) := by
  refine own_met "java/lang/String" (plainFor_of_name pn_8) rfl #[.val (.ref x0), .val (.int (47 : Int32)), .val (.int (0 : Int32))] (fun _ => by first | (simp [entryFrame, mkF, argsToLocals, Value.category]; done) | rfl) ?_
  intro p e s m below meth c s₁ hx hby hlk hret hml hZ hown hnm X0 e0
  have N0 := Fr.nil Z.heap.size
  refine q_aN X0 hx hby d8_0 rfl rfl ?_
  refine q_cV [] [] 0 X0 hx hZ hown (wd hw 43 rfl) (wd hw 44 rfl) (wd hw 46 rfl) (wd hw 45 rfl) (wd hw 47 rfl) (wd hw 9 rfl) (by decide) e0 r0 (rm_a9_0 l Z a0 hw [] cs sv GG x0 (0 : Int32) h0 O0 r1 (by decide)) hby hml rfl d8_1 pd_LRZ rfl rfl (by decide) (by decide) (by decide) (by decide) ?_
  intro v1 T1 L1 Lc1 X1 hQ1 l1
  obtain ⟨rfl, Nq1, e1⟩ := hQ1
  have N1_ : Fr Z.heap.size L1 := by rw [l1]; exact Fr.app N0 Nq1
  refine q_ifN X1 hx hby d8_4 ((if0 _ _).trans (feq (by decide : ¬ ((1 : Int32) = (0 : Int32)))).1) ?_
  refine q_aN X1 hx hby d8_7 rfl rfl ?_
  refine q_gF X1 hx hZ hown (wd hw 27 rfl) e1 r2 hby d8_8 ?_
  intro T2 X2 e2
  refine q_iN X2 hx hby d8_11 rfl ?_
  refine q_iN X2 hx hby d8_12 rfl ?_
  refine q_aN X2 hx hby d8_13 rfl rfl ?_
  refine q_cV [] [(.int (0 : Int32)), (.int (47 : Int32)), (.ref w1)] 3 X2 hx hZ hown (wd hw 49 rfl) (wd hw 50 rfl) (wd hw 52 rfl) (wd hw 51 rfl) (wd hw 53 rfl) (wd hw 9 rfl) (by decide) e2 r0 (rm_a10_1 l Z a0 hw [] cs sv GG x0 w1 kk2 w3 (0 : Int32) h0 O0 r2 r3 r0 r1) hby hml rfl d8_14 pd_LRI rfl rfl (by decide) (by decide) (by decide) (by decide) ?_
  intro v3 T3 L3 Lc3 X3 hQ3 l3
  obtain ⟨rfl, Nq3, e3⟩ := hQ3
  have N3_ : Fr Z.heap.size L3 := by rw [l3]; exact Fr.app N1_ Nq3
  refine q_cS [(.ref w1), (.int (47 : Int32)), (.int (0 : Int32)), (.int (1 : Int32))] [] 0 X3 hx hZ hown (wd hw 59 rfl) (wd hw 60 rfl) (wd hw 62 rfl) (wd hw 61 rfl) (by decide) e3 (rm_a12_1 l Z a0 hw [] cs sv GG w1 kk2 w3 h0 O0 r3) hby hml rfl d8_17 pd_LABIIIRI rfl rfl (by decide) (by decide) (by decide) (by decide) ?_
  intro v4 T4 L4 Lc4 X4 hQ4 l4
  obtain ⟨rfl, Nq4, e4⟩ := hQ4
  have N4_ : Fr Z.heap.size L4 := by rw [l4]; exact Fr.app N3_ Nq4
  refine q_go 20 36 X4 hx hby rfl d8_20 (by decide) (by decide) ?_
  show Go _ _ _ _ _ _ _ _ T4 (mkF m 36 #[.val (.ref x0), .val (.int (47 : Int32)), .val (.int (0 : Int32))] [(.int (ix1 w3 ((47 : Int32).toInt8.toInt32)))])
  exact Go.retI X4 hx hret hlk (hb hby d8_36) (by decide) (by decide) (by show _ ∧ _ ∧ _; rw [e4]; exact ⟨rfl, N4_, rfl⟩)
def Q_a7_1 (Z : State) (w3 : Int32) (h0 : Heap) (v : Option Value) (h : Heap) (L : List Loc) : Prop := v = some (.int (ix1 w3 ((47 : Int32).toInt8.toInt32))) ∧ Fr Z.heap.size L ∧ h = h0
theorem rm_a7_1 (l : Launch) (Z : State) (a0 : Array Value) (hw : HW Z a0) (ws : List Jvm.Cond) (cs : Int32) (sv : Value) (GG : GP Z cs sv) (x0 : Addr) (w1 : Addr) (kk2 : ClassId) (w3 : Int32) (h0 : Heap) (O0 : Ext Z.heap h0) (r0 : Exa Z h0 x0 "java/lang/String") (r1 : fl_1 Z h0 x0 (.int (0 : Int32))) (r2 : fl_0 Z h0 x0 (.ref w1)) (r3 : Arv Z h0 w1 kk2 .byte (1 : Int32) [(.int w3)] (.int (0 : Int32))) :
    Met FrameEnd l (⟨"java/lang/String", "indexOf", "(I)I"⟩ : MethodName) jdk_42_method_79_code 2 (some .int) ws ⟨3, 0, 0, 46⟩ Z h0 #[(.ref x0), (.int (47 : Int32))] (Q_a7_1 Z w3 h0) := by
  refine own_met "java/lang/String" (plainFor_of_name pn_7) rfl #[.val (.ref x0), .val (.int (47 : Int32))] (fun _ => by first | (simp [entryFrame, mkF, argsToLocals, Value.category]; done) | rfl) ?_
  intro p e s m below meth c s₁ hx hby hlk hret hml hZ hown hnm X0 e0
  have N0 := Fr.nil Z.heap.size
  refine q_aN X0 hx hby d7_0 rfl rfl ?_
  refine q_iN X0 hx hby d7_1 rfl ?_
  refine q_iC X0 hx hby d7_2  ?_
  refine q_cV [(.int (47 : Int32)), (.int (0 : Int32))] [] 0 X0 hx hZ hown (wd hw 38 rfl) (wd hw 39 rfl) (wd hw 41 rfl) (wd hw 40 rfl) (wd hw 42 rfl) (wd hw 9 rfl) (by decide) e0 r0 (rm_a8_1 l Z a0 hw [] cs sv GG x0 w1 kk2 w3 h0 O0 r0 r1 r2 r3) hby hml rfl d7_3 pd_LIIRI rfl rfl (by decide) (by decide) (by decide) (by decide) ?_
  intro v1 T1 L1 Lc1 X1 hQ1 l1
  obtain ⟨rfl, Nq1, e1⟩ := hQ1
  have N1_ : Fr Z.heap.size L1 := by rw [l1]; exact Fr.app N0 Nq1
  exact Go.retI X1 hx hret hlk (hb hby d7_6) (by decide) (by decide) (by show _ ∧ _ ∧ _; rw [e1]; exact ⟨rfl, N1_, rfl⟩)
theorem d6_15 : decode prog_10_method_3_code 15 = .ok (.aload_n 0, 1) := by decide +kernel
theorem d6_16 : decode prog_10_method_3_code 16 = .ok (.iconst 0, 1) := by decide +kernel
theorem d6_17 : decode prog_10_method_3_code 17 = .ok (.iload_n 1, 1) := by decide +kernel
theorem d6_18 : decode prog_10_method_3_code 18 = .ok (.invokevirtual 18, 3) := by decide +kernel
theorem d22_0 : decode jdk_42_method_92_code 0 = .ok (.aload_n 0, 1) := by decide +kernel
theorem d22_1 : decode jdk_42_method_92_code 1 = .ok (.invokevirtual 505, 3) := by decide +kernel
theorem d22_4 : decode jdk_42_method_92_code 4 = .ok (.istore_n 3, 1) := by decide +kernel
theorem d22_5 : decode jdk_42_method_92_code 5 = .ok (.iload_n 1, 1) := by decide +kernel
theorem d22_6 : decode jdk_42_method_92_code 6 = .ok (.iload_n 2, 1) := by decide +kernel
theorem d22_7 : decode jdk_42_method_92_code 7 = .ok (.iload_n 3, 1) := by decide +kernel
theorem d22_8 : decode jdk_42_method_92_code 8 = .ok (.invokestatic 521, 3) := by decide +kernel
theorem pd_LIIIRV : parseMethodDescriptor "(III)V" = some ⟨[.int, .int, .int], none⟩ := by decide +kernel
theorem d22_11 : decode jdk_42_method_92_code 11 = .ok (.iload_n 1, 1) := by decide +kernel
theorem d22_12 : decode jdk_42_method_92_code 12 = .ok (.ifCond .ne 10, 3) := by decide +kernel
theorem d22_15 : decode jdk_42_method_92_code 15 = .ok (.iload_n 2, 1) := by decide +kernel
theorem d22_16 : decode jdk_42_method_92_code 16 = .ok (.iload_n 3, 1) := by decide +kernel
theorem d22_17 : decode jdk_42_method_92_code 17 = .ok (.if_icmp .ne 5, 3) := by decide +kernel
theorem d22_22 : decode jdk_42_method_92_code 22 = .ok (.iload_n 2, 1) := by decide +kernel
theorem d22_23 : decode jdk_42_method_92_code 23 = .ok (.iload_n 1, 1) := by decide +kernel
theorem d22_24 : decode jdk_42_method_92_code 24 = .ok (.isub, 1) := by decide +kernel
theorem d22_25 : decode jdk_42_method_92_code 25 = .ok (.istore 4, 2) := by decide +kernel
theorem d22_27 : decode jdk_42_method_92_code 27 = .ok (.aload_n 0, 1) := by decide +kernel
theorem d22_28 : decode jdk_42_method_92_code 28 = .ok (.invokevirtual 492, 3) := by decide +kernel
theorem d22_31 : decode jdk_42_method_92_code 31 = .ok (.ifCond .eq 16, 3) := by decide +kernel
theorem d22_34 : decode jdk_42_method_92_code 34 = .ok (.aload_n 0, 1) := by decide +kernel
theorem d22_35 : decode jdk_42_method_92_code 35 = .ok (.getfield 9, 3) := by decide +kernel
theorem d22_38 : decode jdk_42_method_92_code 38 = .ok (.iload_n 1, 1) := by decide +kernel
theorem d22_39 : decode jdk_42_method_92_code 39 = .ok (.iload 4, 2) := by decide +kernel
theorem d22_41 : decode jdk_42_method_92_code 41 = .ok (.invokestatic 685, 3) := by decide +kernel
theorem d25_0 : decode jdk_43_method_47_code 0 = .ok (.iload_n 2, 1) := by decide +kernel
theorem d25_1 : decode jdk_43_method_47_code 1 = .ok (.ifCond .ne 6, 3) := by decide +kernel
theorem d25_4 : decode jdk_43_method_47_code 4 = .ok (.ldc 151, 2) := by decide +kernel
theorem d25_6 : decode jdk_43_method_47_code 6 = .ok (.areturn, 1) := by decide +kernel
theorem pn_25 : plainName "java/lang/StringLatin1" = true := by first | (simp [plainName, overriddenIn]; done) | decide +kernel
def Q_a25_0 (Z : State)  (h0 : Heap) (v : Option Value) (h : Heap) (L : List Loc) : Prop := ∃ (a1 : Addr) (b1 : Addr) (kb1 : ClassId), v = some (.ref a1) ∧ Fr Z.heap.size L ∧ Keep h0 h [] ∧ Exa Z h a1 "java/lang/String" ∧ fl_1 Z h a1 (.int (0 : Int32)) ∧ fl_0 Z h a1 (.ref b1) ∧ Arv Z h b1 kb1 .byte (0 : Int32) [] (.int 0)
theorem rm_a25_0 (l : Launch) (Z : State) (a0 : Array Value) (hw : HW Z a0) (ws : List Jvm.Cond) (cs : Int32) (sv : Value) (GG : GP Z cs sv) (x0 : Addr) (x1 : Int32) (x2 : Int32) (h0 : Heap) (O0 : Ext Z.heap h0) (r0 : x2 = (0 : Int32)) :
    MetH l (⟨"java/lang/StringLatin1", "newString", "([BII)Ljava/lang/String;"⟩ : MethodName) jdk_43_method_47_code 3 (some (.object "java/lang/String")) ws ⟨0, 2, 4, 0⟩ Z consts_1 [] h0 #[(.ref x0), (.int x1), (.int x2)] (Q_a25_0 Z  h0) := by
  refine own_metH "java/lang/StringLatin1" (plainFor_of_name pn_25) rfl #[.val (.ref x0), .val (.int x1), .val (.int x2)] (fun _ => by first | (simp [entryFrame, mkF, argsToLocals, Value.category]; done) | rfl) ?_
  intro p e s m below meth c s₁ hx hby hlk hret hml hZ hown hnm X0 e0 S0 kk0 hh hCH hSF
  have N0 := Fr.nil Z.heap.size
  have wS := own_wS hw
  have hEL := own_EW hw
  have CR0 := CHr.refl hCH
  refine q_iN X0 hx hby d25_0 rfl ?_
  refine q_ifN X0 hx hby d25_1 ((if0 _ _).trans (teq r0).2) ?_
  obtain ⟨a1, T1, h1, k1, b1, kb1, X1, e1, E1, S1, kq1, hZ1, hown1, A1, C1, V1, B1, -, -, hC1, -, nS1, st1⟩ := ldcCH X0 hx hZ hown (wd hw 111 rfl) wS e0 S0 kk0 hEL (List.mem_of_getElem? (i := 1) rfl) CR0.1 (vs := []) (z := (0 : Int32)) ⟨by decide, rfl⟩ (by decide) rfl (g := (mkF m 4 #[.val (.ref x0), .val (.int x1), .val (.int x2)] [])) rfl (hb hby d25_4) (n := 0) (by decide) (by decide) (by decide) (by decide)
  have CR1 := CHr.trans CR0 hC1
  have O1_ : Ext Z.heap h1 := extTr O0 E1
  have K1 := Keep.ext (Keep.refl h0 []) E1
  refine Go.step st1 ?_
  exact Go.retAH (endH hh e1 X1 hZ1 hEL CR1) X1 S1 (by rw [e1]; exact kq1) hx hret rfl rfl hlk (hb hby d25_6) (by decide) (by decide) (by show Q_a25_0 ..; rw [e1]; exact ⟨a1, b1, kb1, rfl, N0, K1, A1, C1, V1, B1⟩)
theorem pd_LABIIRLjava_lang_String_ : parseMethodDescriptor "([BII)Ljava/lang/String;" = some ⟨[(.array .byte), .int, .int], some (.object "java/lang/String")⟩ := by decide +kernel
theorem d22_44 : decode jdk_42_method_92_code 44 = .ok (.goto 13, 3) := by decide +kernel
theorem d22_57 : decode jdk_42_method_92_code 57 = .ok (.areturn, 1) := by decide +kernel
theorem pn_22 : plainName "java/lang/String" = true := by first | (simp [plainName, overriddenIn]; done) | decide +kernel
def Q_a22_0 (Z : State)  (h0 : Heap) (v : Option Value) (h : Heap) (L : List Loc) : Prop := ∃ (a1q5 : Addr) (b1q5 : Addr) (kb1q5 : ClassId), v = some (.ref a1q5) ∧ Fr Z.heap.size L ∧ Keep h0 h [] ∧ Exa Z h a1q5 "java/lang/String" ∧ fl_1 Z h a1q5 (.int (0 : Int32)) ∧ fl_0 Z h a1q5 (.ref b1q5) ∧ Arv Z h b1q5 kb1q5 .byte (0 : Int32) [] (.int 0)
theorem rm_a22_0 (l : Launch) (Z : State) (a0 : Array Value) (hw : HW Z a0) (ws : List Jvm.Cond) (cs : Int32) (sv : Value) (GG : GP Z cs sv) (x0 : Addr) (x1 : Int32) (x2 : Int32) (w1 : Addr) (kk2 : ClassId) (w3 : Int32) (w4 : Int32) (h0 : Heap) (O0 : Ext Z.heap h0) (r0 : Exa Z h0 x0 "java/lang/String") (r1 : fl_0 Z h0 x0 (.ref w1)) (r2 : Arv Z h0 w1 kk2 .byte (1 : Int32) [(.int w3)] (.int (0 : Int32))) (r3 : fl_1 Z h0 x0 (.int w4)) (r4 : ¬ (x1 < (0 : Int32))) (r5 : ¬ (x2 < x1)) (r6 : ¬ (((1 : Int32) >>> ((w4.toInt8.toInt32) &&& 31)) < x2)) (r7 : x1 = (0 : Int32)) (r8 : ¬ (x2 = ((1 : Int32) >>> ((w4.toInt8.toInt32) &&& 31)))) (r9 : w4 = (0 : Int32)) (r10 : (x2 - x1) = (0 : Int32)) :
    MetH l (⟨"java/lang/String", "substring", "(II)Ljava/lang/String;"⟩ : MethodName) jdk_42_method_92_code 5 (some (.object "java/lang/String")) ws ⟨2, 2, 4, 29⟩ Z consts_1 [] h0 #[(.ref x0), (.int x1), (.int x2)] (Q_a22_0 Z  h0) := by
  refine own_metH "java/lang/String" (plainFor_of_name pn_22) rfl #[.val (.ref x0), .val (.int x1), .val (.int x2), .unset, .unset] (fun _ => by first | (simp [entryFrame, mkF, argsToLocals, Value.category]; done) | rfl) ?_
  intro p e s m below meth c s₁ hx hby hlk hret hml hZ hown hnm X0 e0 S0 kk0 hh hCH hSF
  have N0 := Fr.nil Z.heap.size
  have wS := own_wS hw
  have hEL := own_EW hw
  have CR0 := CHr.refl hCH
  refine q_aN X0 hx hby d22_0 rfl rfl ?_
  refine q_cV [] [] 0 X0 hx hZ hown (wd hw 49 rfl) (wd hw 50 rfl) (wd hw 52 rfl) (wd hw 51 rfl) (wd hw 53 rfl) (wd hw 9 rfl) (by decide) e0 r0 (rm_a10_1 l Z a0 hw [] cs sv GG x0 w1 kk2 w3 w4 h0 O0 r1 r2 r0 r3) hby hml rfl d22_1 pd_LRI rfl rfl (by decide) (by decide) (by decide) (by decide) ?_
  intro v1 T1 L1 Lc1 X1 hQ1 l1
  obtain ⟨rfl, Nq1, e1⟩ := hQ1
  have N1_ : Fr Z.heap.size L1 := by rw [l1]; exact Fr.app N0 Nq1
  refine q_isN X1 hx hby d22_4 (l' := #[.val (.ref x0), .val (.int x1), .val (.int x2), .val (.int ((1 : Int32) >>> ((w4.toInt8.toInt32) &&& 31))), .unset]) rfl ?_
  refine q_iN X1 hx hby d22_5 rfl ?_
  refine q_iN X1 hx hby d22_6 rfl ?_
  refine q_iN X1 hx hby d22_7 rfl ?_
  refine q_cS [(.int x1), (.int x2), (.int ((1 : Int32) >>> ((w4.toInt8.toInt32) &&& 31)))] [] 0 X1 hx hZ hown (wd hw 100 rfl) (wd hw 101 rfl) (wd hw 102 rfl) (wd hw 9 rfl) (by decide) e1 (rm_cb l Z a0 hw [] cs sv GG x1 x2 ((1 : Int32) >>> ((w4.toInt8.toInt32) &&& 31)) h0 O0 r4 r5 r6) hby hml rfl d22_8 pd_LIIIRV rfl rfl (by decide) (by decide) (by decide) (by decide) ?_
  intro v2 T2 L2 Lc2 X2 hQ2 l2
  obtain ⟨rfl, Nq2, e2⟩ := hQ2
  have N2_ : Fr Z.heap.size L2 := by rw [l2]; exact Fr.app N1_ Nq2
  refine q_iN X2 hx hby d22_11 rfl ?_
  refine q_ifN X2 hx hby d22_12 ((if0 _ _).trans (teq r7).2) ?_
  refine q_iN X2 hx hby d22_15 rfl ?_
  refine q_iN X2 hx hby d22_16 rfl ?_
  show Go _ _ _ _ _ _ _ _ T2 (mkF m 17 #[.val (.ref x0), .val (.int x1), .val (.int x2), .val (.int ((1 : Int32) >>> ((w4.toInt8.toInt32) &&& 31))), .unset] [(.int ((1 : Int32) >>> ((w4.toInt8.toInt32) &&& 31))), (.int x2)])
  refine q_icY 17 22 X2 hx hby rfl d22_17 (feq r8).2 (by decide) (by decide) ?_
  refine q_iN X2 hx hby d22_22 rfl ?_
  refine q_iN X2 hx hby d22_23 rfl ?_
  refine q_isub X2 hx hby d22_24  ?_
  refine q_isL X2 hx hby d22_25 (l' := #[.val (.ref x0), .val (.int x1), .val (.int x2), .val (.int ((1 : Int32) >>> ((w4.toInt8.toInt32) &&& 31))), .val (.int (x2 - x1))]) rfl ?_
  refine q_aN X2 hx hby d22_27 rfl rfl ?_
  refine q_cV [] [] 0 X2 hx hZ hown (wd hw 43 rfl) (wd hw 44 rfl) (wd hw 46 rfl) (wd hw 45 rfl) (wd hw 47 rfl) (wd hw 9 rfl) (by decide) e2 r0 (rm_a9_0 l Z a0 hw [] cs sv GG x0 w4 h0 O0 r3 r9) hby hml rfl d22_28 pd_LRZ rfl rfl (by decide) (by decide) (by decide) (by decide) ?_
  intro v3 T3 L3 Lc3 X3 hQ3 l3
  obtain ⟨rfl, Nq3, e3⟩ := hQ3
  have N3_ : Fr Z.heap.size L3 := by rw [l3]; exact Fr.app N2_ Nq3
  refine q_ifN X3 hx hby d22_31 ((if0 _ _).trans (feq (by decide : ¬ ((1 : Int32) = (0 : Int32)))).1) ?_
  refine q_aN X3 hx hby d22_34 rfl rfl ?_
  refine q_gF X3 hx hZ hown (wd hw 27 rfl) e3 r1 hby d22_35 ?_
  intro T4 X4 e4
  refine q_iN X4 hx hby d22_38 rfl ?_
  show Go _ _ _ _ _ _ _ _ T4 (mkF m 39 #[.val (.ref x0), .val (.int x1), .val (.int x2), .val (.int ((1 : Int32) >>> ((w4.toInt8.toInt32) &&& 31))), .val (.int (x2 - x1))] [(.int x1), (.ref w1)])
  refine q_iL X4 hx hby d22_39 rfl ?_
  obtain ⟨_, _, ⟨T5, L5, k5, n5⟩, -, X5, Sq5, gq5, ⟨Lc5, hQ5, l5, y5, z5, cr5⟩, st5⟩ := callSS X4 hx (y := (⟨"java/lang/StringLatin1", "newString", "([BII)Ljava/lang/String;"⟩ : MethodName)) hown (mvT hZ (wd hw 108 rfl)) (mvT hZ (wd hw 109 rfl)) (mvT hZ (wd hw 61 rfl)) (mvT hZ (wd hw 110 rfl)) (by decide) (own_backH (W := 0) (rm_a25_0 l Z a0 hw [] cs sv GG w1 x1 (x2 - x1) h0 O0 r10) hZ (wd hw 110 rfl) (wd hw 61 rfl) (by decide) (by decide) hEL CR0.1 sg0) (g := (mkF m 41 #[.val (.ref x0), .val (.int x1), .val (.int x2), .val (.int ((1 : Int32) >>> ((w4.toInt8.toInt32) &&& 31))), .val (.int (x2 - x1))] [(.int (x2 - x1)), (.int x1), (.ref w1)])) rfl (by rw [hml]; rfl) (argsL := [(.ref w1), (.int x1), (.int (x2 - x1))]) (rest := []) (lenOf pd_LABIIRLjava_lang_String_ rfl) rfl (by show 2 * 0 + _ ≤ _; exact Nat.le_of_eq rfl) (hb hby d22_41) (fun _ _ => ⟨rfl, e4, (by decide : 0 + 2 ≤ _), (by decide : 0 + 4 ≤ _)⟩)
  dsimp only [Pt.U, Pt.locs, Pt.cells, Pt.slots] at X5 l5 y5 z5 st5 hQ5 Sq5 gq5 cr5
  subst y5 z5
  obtain ⟨X5, S5, hZ5, hown5⟩ := rebS S0 ((congrArg Array.size e4).symm ▸ kk0) X5 Sq5 gq5 hZ hown
  obtain ⟨a1q5, b1q5, kb1q5, rfl, Nq5, Kq5, p5_0, p5_1, p5_2, p5_3⟩ := hQ5
  have O5_ : Ext Z.heap T5.heap := extKeep O0 Kq5 all0
  have CR5 := CHr.trans CR0 cr5
  have K5 := Keep.trans (Keep.refl h0 []) Kq5 all0
  have N5_ : Fr Z.heap.size L5 := by rw [l5]; exact Fr.app N3_ Nq5
  refine Go.trans st5 ?_
  refine q_go 44 57 X5 hx hby rfl d22_44 (by decide) (by decide) ?_
  exact Go.retAH (endH hh rfl X5 hZ5 hEL CR5) X5 S5 (Nat.le_refl _) hx hret rfl rfl hlk (hb hby d22_57) (by decide) (by decide) ⟨a1q5, b1q5, kb1q5, rfl, N5_, K5, p5_0, p5_1, p5_2, p5_3⟩
theorem pd_LIIRLjava_lang_String_ : parseMethodDescriptor "(II)Ljava/lang/String;" = some ⟨[.int, .int], some (.object "java/lang/String")⟩ := by decide +kernel
def Q_a6_1 (Z : State)  (h0 : Heap) (v : Option Value) (h : Heap) (L : List Loc) : Prop := ∃ (a1q5q2 : Addr) (b1q5q2 : Addr) (kb1q5q2 : ClassId), v = some (.ref a1q5q2) ∧ Fr Z.heap.size L ∧ Keep h0 h [] ∧ Exa Z h a1q5q2 "java/lang/String" ∧ fl_1 Z h a1q5q2 (.int (0 : Int32)) ∧ fl_0 Z h a1q5q2 (.ref b1q5q2) ∧ Arv Z h b1q5q2 kb1q5q2 .byte (0 : Int32) [] (.int 0)
theorem rm_a6_1 (l : Launch) (Z : State) (a0 : Array Value) (hw : HW Z a0) (ws : List Jvm.Cond) (cs : Int32) (sv : Value) (GG : GP Z cs sv) (x0 : Addr) (w1 : Addr) (kk2 : ClassId) (w3 : Int32) (h0 : Heap) (O0 : Ext Z.heap h0) (r0 : Exa Z h0 x0 "java/lang/String") (r1 : fl_1 Z h0 x0 (.int (0 : Int32))) (r2 : fl_0 Z h0 x0 (.ref w1)) (r3 : Arv Z h0 w1 kk2 .byte (1 : Int32) [(.int w3)] (.int (0 : Int32))) (r4 : (ix1 w3 ((47 : Int32).toInt8.toInt32)) = (0 : Int32)) :
    MetH l (⟨"com/example/wary_lock/warylock/LockName", "root", "(Ljava/lang/String;)Ljava/lang/String;"⟩ : MethodName) prog_10_method_3_code 2 (some (.object "java/lang/String")) ws ⟨4, 2, 4, 59⟩ Z consts_1 [] h0 #[(.ref x0)] (Q_a6_1 Z  h0) := by
  refine own_metH "com/example/wary_lock/warylock/LockName" (plainFor_of_name pn_6) rfl #[.val (.ref x0), .unset] (fun _ => by first | (simp [entryFrame, mkF, argsToLocals, Value.category]; done) | rfl) ?_
  intro p e s m below meth c s₁ hx hby hlk hret hml hZ hown hnm X0 e0 S0 kk0 hh hCH hSF
  have N0 := Fr.nil Z.heap.size
  have wS := own_wS hw
  have hEL := own_EW hw
  have CR0 := CHr.refl hCH
  refine q_aN X0 hx hby d6_0 rfl rfl ?_
  refine q_bP X0 hx hby d6_1  ?_
  refine q_cV [(.int (47 : Int32))] [] 0 X0 hx hZ hown (wd hw 33 rfl) (wd hw 34 rfl) (wd hw 36 rfl) (wd hw 35 rfl) (wd hw 37 rfl) (wd hw 9 rfl) (by decide) e0 r0 (rm_a7_1 l Z a0 hw [] cs sv GG x0 w1 kk2 w3 h0 O0 r0 r1 r2 r3) hby hml rfl d6_3 pd_LIRI rfl rfl (by decide) (by decide) (by decide) (by decide) ?_
  intro v1 T1 L1 Lc1 X1 hQ1 l1
  obtain ⟨rfl, Nq1, e1⟩ := hQ1
  have N1_ : Fr Z.heap.size L1 := by rw [l1]; exact Fr.app N0 Nq1
  show Go _ _ _ _ _ _ _ _ T1 (mkF m 6 #[.val (.ref x0), .unset] [(.int (ix1 w3 ((47 : Int32).toInt8.toInt32)))])
  rw [r4]
  show Go _ _ _ _ _ _ _ _ T1 (mkF m 6 #[.val (.ref x0), .unset] [(.int (0 : Int32))])
  refine q_isN X1 hx hby d6_6 (l' := #[.val (.ref x0), .val (.int (0 : Int32))]) rfl ?_
  refine q_iN X1 hx hby d6_7 rfl ?_
  refine q_ifY 8 15 X1 hx hby rfl d6_8 ((if0 _ _).trans (flt (by decide : ¬ ((0 : Int32) < (0 : Int32)))).2.1) (by decide) (by decide) ?_
  refine q_aN X1 hx hby d6_15 rfl rfl ?_
  refine q_iC X1 hx hby d6_16  ?_
  refine q_iN X1 hx hby d6_17 rfl ?_
  obtain ⟨cq2, kq2, q2a, q2b, q2c⟩ := isOf hZ e1 r0
  obtain ⟨_, _, ⟨T2, L2, k2, n2⟩, -, X2, Sq2, gq2, ⟨Lc2, hQ2, l2, y2, z2, cr2⟩, st2⟩ := X1.virtualBackS hx (y := (⟨"java/lang/String", "substring", "(II)Ljava/lang/String;"⟩ : MethodName)) (z := (⟨"java/lang/String", "substring", "(II)Ljava/lang/String;"⟩ : MethodName)) hown (mvT hZ (wd hw 95 rfl)) (mvT hZ (wd hw 96 rfl)) (notFace_of_selects (args := #[]) (mvT hZ (wd hw 98 rfl))) (mvT hZ (wd hw 98 rfl)) (mvT hZ (wd hw 97 rfl)) (by decide) (own_backH (W := 0) (rm_a22_0 l Z a0 hw [] cs sv GG x0 (0 : Int32) (0 : Int32) w1 kk2 w3 (0 : Int32) h0 O0 r0 r2 r3 r1 (by decide) (by decide) (by decide) (by decide) (by decide) (by decide) (by decide)) hZ (wd hw 99 rfl) (wd hw 9 rfl) (by decide) (by decide) hEL CR0.1 sg0) q2a q2c (g := (mkF m 18 #[.val (.ref x0), .val (.int (0 : Int32))] [(.int (0 : Int32)), (.int (0 : Int32)), (.ref x0)])) rfl (by rw [hml]; rfl) (Steps.refl _) (argsL := [(.int (0 : Int32)), (.int (0 : Int32))]) (rest := []) (lenOf pd_LIIRLjava_lang_String_ rfl) rfl (by show 2 * 0 + _ ≤ _; exact Nat.le_of_eq rfl) (hb hby d6_18) (fun _ _ => ⟨rfl, e1, (by decide : 0 + 2 ≤ _), (by decide : 0 + 4 ≤ _)⟩)
  dsimp only [Pt.U, Pt.locs, Pt.cells, Pt.slots] at X2 l2 y2 z2 st2 hQ2 Sq2 gq2 cr2
  subst y2 z2
  obtain ⟨X2, S2, hZ2, hown2⟩ := rebS S0 ((congrArg Array.size e1).symm ▸ kk0) X2 Sq2 gq2 hZ hown
  obtain ⟨a1q5q2, b1q5q2, kb1q5q2, rfl, Nq2, Kq2, p2_0, p2_1, p2_2, p2_3⟩ := hQ2
  have O2_ : Ext Z.heap T2.heap := extKeep O0 Kq2 all0
  have CR2 := CHr.trans CR0 cr2
  have K2 := Keep.trans (Keep.refl h0 []) Kq2 all0
  have N2_ : Fr Z.heap.size L2 := by rw [l2]; exact Fr.app N1_ Nq2
  refine Go.trans st2 ?_
  exact Go.retAH (endH hh rfl X2 hZ2 hEL CR2) X2 S2 (Nat.le_refl _) hx hret rfl rfl hlk (hb hby d6_21) (by decide) (by decide) ⟨a1q5q2, b1q5q2, kb1q5q2, rfl, N2_, K2, p2_0, p2_1, p2_2, p2_3⟩
theorem d16_5 : decode jdk_42_method_66_code 5 = .ok (.iconst 1, 1) := by decide +kernel
theorem d16_6 : decode jdk_42_method_66_code 6 = .ok (.ireturn, 1) := by decide +kernel
def Q_a16_1 (Z : State)  (h0 : Heap) (v : Option Value) (h : Heap) (L : List Loc) : Prop := v = some (.int (1 : Int32)) ∧ Fr Z.heap.size L ∧ h = h0
theorem rm_a16_1 (l : Launch) (Z : State) (a0 : Array Value) (hw : HW Z a0) (ws : List Jvm.Cond) (cs : Int32) (sv : Value) (GG : GP Z cs sv) (x0 : Addr) (x1 : Addr) (w1 : Int32) (w2 : Int32) (w3 : Addr) (w4 : Addr) (kk5 : ClassId) (kk6 : ClassId) (h0 : Heap) (O0 : Ext Z.heap h0) (r0 : Exa Z h0 x1 "java/lang/String") (r1 : fl_1 Z h0 x0 (.int w1)) (r2 : fl_1 Z h0 x1 (.int w2)) (r3 : w1 = w2) (r4 : fl_0 Z h0 x0 (.ref w3)) (r5 : fl_0 Z h0 x1 (.ref w4)) (r6 : Arv Z h0 w3 kk5 .byte (0 : Int32) [] (.int 0)) (r7 : Arv Z h0 w4 kk6 .byte (0 : Int32) [] (.int 0)) :
    Met FrameEnd l (⟨"java/lang/String", "equals", "(Ljava/lang/Object;)Z"⟩ : MethodName) jdk_42_method_66_code 3 (some .boolean) ws ⟨1, 0, 0, 14⟩ Z h0 #[(.ref x0), (.ref x1)] (Q_a16_1 Z  h0) := by
  refine own_met "java/lang/String" (plainFor_of_name pn_16) rfl #[.val (.ref x0), .val (.ref x1), .unset] (fun _ => by first | (simp [entryFrame, mkF, argsToLocals, Value.category]; done) | rfl) ?_
  intro p e s m below meth c s₁ hx hby hlk hret hml hZ hown hnm X0 e0
  have N0 := Fr.nil Z.heap.size
  obtain ⟨G_cs, H_cs, G_sv, H_sv⟩ := id GG
  refine q_aN X0 hx hby d16_0 rfl rfl ?_
  refine q_aN X0 hx hby d16_1 rfl rfl ?_
  by_cases ha2_1 : x0 = x1
  · refine Go.step (fun _ kt_ => Jvm.RoadKit.acmp (g := (mkF m 2 #[.val (.ref x0), .val (.ref x1), .unset] [(.ref x1), (.ref x0)])) X0 hx rfl rfl rfl (pc0 := 2) (pc' := 5) (same := true) rfl (hb hby d16_2) rfl (decide_eq_true (congrArg Value.ref ha2_1)) (by decide) (by decide) kt_) ?_
    show Go _ _ _ _ _ _ _ _ s₁ (mkF m 5 #[.val (.ref x0), .val (.ref x1), .unset] [])
    refine q_iC X0 hx hby d16_5  ?_
    exact Go.retN X0 hx (t := .boolean) hret (by simp) hlk (hb hby d16_6) (by decide) (by decide) (by show _ ∧ _ ∧ _; rw [e0]; exact ⟨rfl, N0, rfl⟩)
  · refine Go.step (fun _ kt_ => Jvm.RoadKit.acmp (g := (mkF m 2 #[.val (.ref x0), .val (.ref x1), .unset] [(.ref x1), (.ref x0)])) X0 hx rfl rfl rfl (pc0 := 2) (pc' := 7) (same := false) rfl (hb hby d16_2) rfl (decide_eq_false fun q => ha2_1 (Value.ref.inj q)) (by decide) (by decide) kt_) ?_
    show Go _ _ _ _ _ _ _ _ s₁ (mkF m 7 #[.val (.ref x0), .val (.ref x1), .unset] [])
    refine q_aN X0 hx hby d16_7 rfl rfl ?_
    obtain ⟨T2, X2, e2, st2⟩ := instY X0 hx hZ hown (wd hw 78 rfl) e0 (Ins.self r0) (g := (mkF m 8 #[.val (.ref x0), .val (.ref x1), .unset] [(.ref x1)])) rfl rfl (hb hby d16_8)
    refine Go.step st2 ?_
    refine q_ifN X2 hx hby d16_11 ((if0 _ _).trans (feq (by decide : ¬ ((1 : Int32) = (0 : Int32)))).1) ?_
    refine q_aN X2 hx hby d16_14 rfl rfl ?_
    obtain ⟨T3, X3, e3, st3⟩ := castY X2 hx hZ hown (wd hw 78 rfl) e2 (Ins.self r0) (g := (mkF m 15 #[.val (.ref x0), .val (.ref x1), .unset] [(.ref x1)])) rfl rfl (hb hby d16_15)
    refine Go.step st3 ?_
    refine q_asN X3 hx hby d16_18 rfl (l' := #[.val (.ref x0), .val (.ref x1), .val (.ref x1)]) rfl ?_
    refine q_gS X3 hx hZ hown (wd hw 48 rfl) e3 (Sta.ext O0 G_cs) hby d16_19 ?_
    intro T4 X4 e4
    refine q_ifN X4 hx hby d16_22 ((if0 _ _).trans (feq H_cs).1) ?_
    refine q_aN X4 hx hby d16_25 rfl rfl ?_
    refine q_gF X4 hx hZ hown (wd hw 28 rfl) e4 r1 hby d16_26 ?_
    intro T5 X5 e5
    refine q_aN X5 hx hby d16_29 rfl rfl ?_
    refine q_gF X5 hx hZ hown (wd hw 28 rfl) e5 r2 hby d16_30 ?_
    intro T6 X6 e6
    refine q_icN X6 hx hby d16_33 (teq r3).2 ?_
    refine q_aN X6 hx hby d16_36 rfl rfl ?_
    refine q_gF X6 hx hZ hown (wd hw 27 rfl) e6 r4 hby d16_37 ?_
    intro T7 X7 e7
    show Go _ _ _ _ _ _ _ _ T7 (mkF m 40 #[.val (.ref x0), .val (.ref x1), .val (.ref x1)] [(.ref w3)])
    refine q_aN X7 hx hby d16_40 rfl rfl ?_
    refine q_gF X7 hx hZ hown (wd hw 27 rfl) e7 r5 hby d16_41 ?_
    intro T8 X8 e8
    refine q_cS [(.ref w3), (.ref w4)] [] 0 X8 hx hZ hown (wd hw 79 rfl) (wd hw 80 rfl) (wd hw 81 rfl) (wd hw 61 rfl) (by decide) e8 (rm_a17_0 l Z a0 hw [] cs sv GG w3 w4 kk5 kk6 h0 O0 r6 r7) hby hml rfl d16_44 pd_LABABRZ rfl rfl (by decide) (by decide) (by decide) (by decide) ?_
    intro v9 T9 L9 Lc9 X9 hQ9 l9
    obtain ⟨rfl, Nq9, e9⟩ := hQ9
    have N9_ : Fr Z.heap.size L9 := by rw [l9]; exact Fr.app N0 Nq9
    refine q_ifN X9 hx hby d16_47 ((if0 _ _).trans (feq (by decide : ¬ ((1 : Int32) = (0 : Int32)))).1) ?_
    refine q_iC X9 hx hby d16_50  ?_
    refine q_go 51 55 X9 hx hby rfl d16_51 (by decide) (by decide) ?_
    exact Go.retN X9 hx (t := .boolean) hret (by simp) hlk (hb hby d16_55) (by decide) (by decide) (by show _ ∧ _ ∧ _; rw [e9]; exact ⟨rfl, N9_, rfl⟩)
def Q_a6_2 (Z : State) (x0 : Addr) (h0 : Heap) (v : Option Value) (h : Heap) (L : List Loc) : Prop := v = some (.ref x0) ∧ Fr Z.heap.size L ∧ h = h0
theorem rm_a6_2 (l : Launch) (Z : State) (a0 : Array Value) (hw : HW Z a0) (ws : List Jvm.Cond) (cs : Int32) (sv : Value) (GG : GP Z cs sv) (x0 : Addr) (w1 : Addr) (kk2 : ClassId) (w3 : Int32) (h0 : Heap) (O0 : Ext Z.heap h0) (r0 : Exa Z h0 x0 "java/lang/String") (r1 : fl_1 Z h0 x0 (.int (0 : Int32))) (r2 : fl_0 Z h0 x0 (.ref w1)) (r3 : Arv Z h0 w1 kk2 .byte (1 : Int32) [(.int w3)] (.int (0 : Int32))) (r4 : (ix1 w3 ((47 : Int32).toInt8.toInt32)) = (-1 : Int32)) :
    Met FrameEnd l (⟨"com/example/wary_lock/warylock/LockName", "root", "(Ljava/lang/String;)Ljava/lang/String;"⟩ : MethodName) prog_10_method_3_code 2 (some (.object "java/lang/String")) ws ⟨4, 0, 0, 59⟩ Z h0 #[(.ref x0)] (Q_a6_2 Z x0 h0) := by
  refine own_met "com/example/wary_lock/warylock/LockName" (plainFor_of_name pn_6) rfl #[.val (.ref x0), .unset] (fun _ => by first | (simp [entryFrame, mkF, argsToLocals, Value.category]; done) | rfl) ?_
  intro p e s m below meth c s₁ hx hby hlk hret hml hZ hown hnm X0 e0
  have N0 := Fr.nil Z.heap.size
  refine q_aN X0 hx hby d6_0 rfl rfl ?_
  refine q_bP X0 hx hby d6_1  ?_
  refine q_cV [(.int (47 : Int32))] [] 0 X0 hx hZ hown (wd hw 33 rfl) (wd hw 34 rfl) (wd hw 36 rfl) (wd hw 35 rfl) (wd hw 37 rfl) (wd hw 9 rfl) (by decide) e0 r0 (rm_a7_1 l Z a0 hw [] cs sv GG x0 w1 kk2 w3 h0 O0 r0 r1 r2 r3) hby hml rfl d6_3 pd_LIRI rfl rfl (by decide) (by decide) (by decide) (by decide) ?_
  intro v1 T1 L1 Lc1 X1 hQ1 l1
  obtain ⟨rfl, Nq1, e1⟩ := hQ1
  have N1_ : Fr Z.heap.size L1 := by rw [l1]; exact Fr.app N0 Nq1
  show Go _ _ _ _ _ _ _ _ T1 (mkF m 6 #[.val (.ref x0), .unset] [(.int (ix1 w3 ((47 : Int32).toInt8.toInt32)))])
  rw [r4]
  show Go _ _ _ _ _ _ _ _ T1 (mkF m 6 #[.val (.ref x0), .unset] [(.int (-1 : Int32))])
  refine q_isN X1 hx hby d6_6 (l' := #[.val (.ref x0), .val (.int (-1 : Int32))]) rfl ?_
  refine q_iN X1 hx hby d6_7 rfl ?_
  refine q_ifN X1 hx hby d6_8 ((if0 _ _).trans (tlt (by decide : (-1 : Int32) < (0 : Int32))).2.1) ?_
  refine q_aN X1 hx hby d6_11 rfl rfl ?_
  refine q_go 12 21 X1 hx hby rfl d6_12 (by decide) (by decide) ?_
  exact Go.retA X1 hx hret rfl rfl hlk (hb hby d6_21) (by decide) (by decide) (by show _ ∧ _ ∧ _; rw [e1]; exact ⟨rfl, N1_, rfl⟩)
theorem d17_15 : decode jdk_43_method_13_code 15 = .ok (.aload_n 0, 1) := by decide +kernel
theorem d17_16 : decode jdk_43_method_13_code 16 = .ok (.iload_n 2, 1) := by decide +kernel
theorem d17_17 : decode jdk_43_method_13_code 17 = .ok (.baload, 1) := by decide +kernel
theorem d17_18 : decode jdk_43_method_13_code 18 = .ok (.aload_n 1, 1) := by decide +kernel
theorem d17_19 : decode jdk_43_method_13_code 19 = .ok (.iload_n 2, 1) := by decide +kernel
theorem d17_20 : decode jdk_43_method_13_code 20 = .ok (.baload, 1) := by decide +kernel
theorem d17_21 : decode jdk_43_method_13_code 21 = .ok (.if_icmp .eq 5, 3) := by decide +kernel
theorem d17_26 : decode jdk_43_method_13_code 26 = .ok (.iinc 2 1, 3) := by decide +kernel
theorem d17_29 : decode jdk_43_method_13_code 29 = .ok (.goto (-20), 3) := by decide +kernel
def Q_a17_1 (Z : State)  (h0 : Heap) (v : Option Value) (h : Heap) (L : List Loc) : Prop := v = some (.int (1 : Int32)) ∧ Fr Z.heap.size L ∧ h = h0
theorem rm_a17_1 (l : Launch) (Z : State) (a0 : Array Value) (hw : HW Z a0) (ws : List Jvm.Cond) (cs : Int32) (sv : Value) (GG : GP Z cs sv) (x0 : Addr) (x1 : Addr) (kk1 : ClassId) (w2 : Int32) (kk3 : ClassId) (h0 : Heap) (O0 : Ext Z.heap h0) (r0 : Arv Z h0 x0 kk1 .byte (1 : Int32) [(.int w2)] (.int (0 : Int32))) (r1 : Arv Z h0 x1 kk3 .byte (1 : Int32) [(.int w2)] (.int (0 : Int32))) :
    Met FrameEnd l (⟨"java/lang/StringLatin1", "equals", "([B[B)Z"⟩ : MethodName) jdk_43_method_13_code 3 (some .boolean) ws ⟨0, 0, 0, 0⟩ Z h0 #[(.ref x0), (.ref x1)] (Q_a17_1 Z  h0) := by
  refine own_met "java/lang/StringLatin1" (plainFor_of_name pn_17) rfl #[.val (.ref x0), .val (.ref x1), .unset] (fun _ => by first | (simp [entryFrame, mkF, argsToLocals, Value.category]; done) | rfl) ?_
  intro p e s m below meth c s₁ hx hby hlk hret hml hZ hown hnm X0 e0
  have N0 := Fr.nil Z.heap.size
  refine q_aN X0 hx hby d17_0 rfl rfl ?_
  obtain ⟨cl1, Ar1, -, S1, N1, -, -⟩ := id r0
  refine Go.step (X0.arraylength hx (by rw [e0]; exact Ar1.1) (State.isArrayOf_alike hZ.alike Ar1.2.1) (g := (mkF m 1 #[.val (.ref x0), .val (.ref x1), .unset] [(.ref x0)])) rfl rfl (hb hby d17_1)) ?_
  rw [len_of S1 N1]
  show Go _ _ _ _ _ _ _ _ s₁ (mkF m 2 #[.val (.ref x0), .val (.ref x1), .unset] [(.int (1 : Int32))])
  refine q_aN X0 hx hby d17_2 rfl rfl ?_
  obtain ⟨cl2, Ar2, -, S2, N2, -, -⟩ := id r1
  refine Go.step (X0.arraylength hx (by rw [e0]; exact Ar2.1) (State.isArrayOf_alike hZ.alike Ar2.2.1) (g := (mkF m 3 #[.val (.ref x0), .val (.ref x1), .unset] [(.ref x1), (.int (1 : Int32))])) rfl rfl (hb hby d17_3)) ?_
  rw [len_of S2 N2]
  show Go _ _ _ _ _ _ _ _ s₁ (mkF m 4 #[.val (.ref x0), .val (.ref x1), .unset] [(.int (1 : Int32)), (.int (1 : Int32))])
  refine q_icN X0 hx hby d17_4 (teq (by decide : (1 : Int32) = (1 : Int32))).2 ?_
  refine q_iC X0 hx hby d17_7  ?_
  refine q_isN X0 hx hby d17_8 (l' := #[.val (.ref x0), .val (.ref x1), .val (.int (0 : Int32))]) rfl ?_
  refine q_iN X0 hx hby d17_9 rfl ?_
  refine q_aN X0 hx hby d17_10 rfl rfl ?_
  obtain ⟨cl3, Ar3, -, S3, N3, -, -⟩ := id r0
  refine Go.step (X0.arraylength hx (by rw [e0]; exact Ar3.1) (State.isArrayOf_alike hZ.alike Ar3.2.1) (g := (mkF m 11 #[.val (.ref x0), .val (.ref x1), .val (.int (0 : Int32))] [(.ref x0), (.int (0 : Int32))])) rfl rfl (hb hby d17_11)) ?_
  rw [len_of S3 N3]
  show Go _ _ _ _ _ _ _ _ s₁ (mkF m 12 #[.val (.ref x0), .val (.ref x1), .val (.int (0 : Int32))] [(.int (1 : Int32)), (.int (0 : Int32))])
  refine q_icN X0 hx hby d17_12 (tlt (by decide : (0 : Int32) < (1 : Int32))).2.1 ?_
  refine q_aN X0 hx hby d17_15 rfl rfl ?_
  refine q_iN X0 hx hby d17_16 rfl ?_
  obtain ⟨cl4, Ar4, q4, S4, N4, H4, G4⟩ := id r0
  have hin4 : ¬ ((0 : Int32) < 0 ∨ cl4.slots.size ≤ ((0 : Int32)).toNatClampNeg) := inb_of S4 ⟨by decide, by decide⟩
  refine Go.step (X0.baloadBytes hx (j := (0 : Int32)) (v := (.int w2)) (by rw [e0]; exact Ar4.1) (State.isArrayOf_alike hZ.alike Ar4.2.1) Ar4.2.2 hin4 (Has.at H4 hin4 rfl) (g := (mkF m 17 #[.val (.ref x0), .val (.ref x1), .val (.int (0 : Int32))] [(.int (0 : Int32)), (.ref x0)])) rfl rfl (hb hby d17_17)) ?_
  refine q_aN X0 hx hby d17_18 rfl rfl ?_
  refine q_iN X0 hx hby d17_19 rfl ?_
  obtain ⟨cl5, Ar5, q5, S5, N5, H5, G5⟩ := id r1
  have hin5 : ¬ ((0 : Int32) < 0 ∨ cl5.slots.size ≤ ((0 : Int32)).toNatClampNeg) := inb_of S5 ⟨by decide, by decide⟩
  refine Go.step (X0.baloadBytes hx (j := (0 : Int32)) (v := (.int w2)) (by rw [e0]; exact Ar5.1) (State.isArrayOf_alike hZ.alike Ar5.2.1) Ar5.2.2 hin5 (Has.at H5 hin5 rfl) (g := (mkF m 20 #[.val (.ref x0), .val (.ref x1), .val (.int (0 : Int32))] [(.int (0 : Int32)), (.ref x1), (.int w2)])) rfl rfl (hb hby d17_20)) ?_
  refine q_icY 21 26 X0 hx hby rfl d17_21 (teq (rfl : w2 = w2)).1 (by decide) (by decide) ?_
  refine q_inc X0 hx hby d17_26 rfl (l' := #[.val (.ref x0), .val (.ref x1), .val (.int (1 : Int32))]) rfl ?_
  refine q_go 29 9 X0 hx hby rfl d17_29 (by decide) (by decide) ?_
  refine q_iN X0 hx hby d17_9 rfl ?_
  refine q_aN X0 hx hby d17_10 rfl rfl ?_
  obtain ⟨cl6, Ar6, -, S6, N6, -, -⟩ := id r0
  refine Go.step (X0.arraylength hx (by rw [e0]; exact Ar6.1) (State.isArrayOf_alike hZ.alike Ar6.2.1) (g := (mkF m 11 #[.val (.ref x0), .val (.ref x1), .val (.int (1 : Int32))] [(.ref x0), (.int (1 : Int32))])) rfl rfl (hb hby d17_11)) ?_
  rw [len_of S6 N6]
  show Go _ _ _ _ _ _ _ _ s₁ (mkF m 12 #[.val (.ref x0), .val (.ref x1), .val (.int (1 : Int32))] [(.int (1 : Int32)), (.int (1 : Int32))])
  refine q_icY 12 32 X0 hx hby rfl d17_12 (flt (by decide : ¬ ((1 : Int32) < (1 : Int32)))).2.1 (by decide) (by decide) ?_
  refine q_iC X0 hx hby d17_32  ?_
  exact Go.retN X0 hx (t := .boolean) hret (by simp) hlk (hb hby d17_33) (by decide) (by decide) (by show _ ∧ _ ∧ _; rw [e0]; exact ⟨rfl, N0, rfl⟩)
def Q_a16_2 (Z : State)  (h0 : Heap) (v : Option Value) (h : Heap) (L : List Loc) : Prop := v = some (.int (1 : Int32)) ∧ Fr Z.heap.size L ∧ h = h0
theorem rm_a16_2 (l : Launch) (Z : State) (a0 : Array Value) (hw : HW Z a0) (ws : List Jvm.Cond) (cs : Int32) (sv : Value) (GG : GP Z cs sv) (x0 : Addr) (x1 : Addr) (w1 : Int32) (w2 : Int32) (w3 : Addr) (w4 : Addr) (kk5 : ClassId) (w6 : Int32) (kk7 : ClassId) (h0 : Heap) (O0 : Ext Z.heap h0) (r0 : x0 ≠ x1) (r1 : Exa Z h0 x1 "java/lang/String") (r2 : fl_1 Z h0 x0 (.int w1)) (r3 : fl_1 Z h0 x1 (.int w2)) (r4 : w1 = w2) (r5 : fl_0 Z h0 x0 (.ref w3)) (r6 : fl_0 Z h0 x1 (.ref w4)) (r7 : Arv Z h0 w3 kk5 .byte (1 : Int32) [(.int w6)] (.int (0 : Int32))) (r8 : Arv Z h0 w4 kk7 .byte (1 : Int32) [(.int w6)] (.int (0 : Int32))) :
    Met FrameEnd l (⟨"java/lang/String", "equals", "(Ljava/lang/Object;)Z"⟩ : MethodName) jdk_42_method_66_code 3 (some .boolean) ws ⟨1, 0, 0, 14⟩ Z h0 #[(.ref x0), (.ref x1)] (Q_a16_2 Z  h0) := by
  refine own_met "java/lang/String" (plainFor_of_name pn_16) rfl #[.val (.ref x0), .val (.ref x1), .unset] (fun _ => by first | (simp [entryFrame, mkF, argsToLocals, Value.category]; done) | rfl) ?_
  intro p e s m below meth c s₁ hx hby hlk hret hml hZ hown hnm X0 e0
  have N0 := Fr.nil Z.heap.size
  obtain ⟨G_cs, H_cs, G_sv, H_sv⟩ := id GG
  refine q_aN X0 hx hby d16_0 rfl rfl ?_
  refine q_aN X0 hx hby d16_1 rfl rfl ?_
  refine Go.step (fun _ kt_ => Jvm.RoadKit.acmp (g := (mkF m 2 #[.val (.ref x0), .val (.ref x1), .unset] [(.ref x1), (.ref x0)])) X0 hx rfl rfl rfl (pc0 := 2) (pc' := 7) (same := false) rfl (hb hby d16_2) rfl (decide_eq_false fun q => r0 (Value.ref.inj q)) (by decide) (by decide) kt_) ?_
  show Go _ _ _ _ _ _ _ _ s₁ (mkF m 7 #[.val (.ref x0), .val (.ref x1), .unset] [])
  refine q_aN X0 hx hby d16_7 rfl rfl ?_
  obtain ⟨T1, X1, e1, st1⟩ := instY X0 hx hZ hown (wd hw 78 rfl) e0 (Ins.self r1) (g := (mkF m 8 #[.val (.ref x0), .val (.ref x1), .unset] [(.ref x1)])) rfl rfl (hb hby d16_8)
  refine Go.step st1 ?_
  refine q_ifN X1 hx hby d16_11 ((if0 _ _).trans (feq (by decide : ¬ ((1 : Int32) = (0 : Int32)))).1) ?_
  refine q_aN X1 hx hby d16_14 rfl rfl ?_
  obtain ⟨T2, X2, e2, st2⟩ := castY X1 hx hZ hown (wd hw 78 rfl) e1 (Ins.self r1) (g := (mkF m 15 #[.val (.ref x0), .val (.ref x1), .unset] [(.ref x1)])) rfl rfl (hb hby d16_15)
  refine Go.step st2 ?_
  refine q_asN X2 hx hby d16_18 rfl (l' := #[.val (.ref x0), .val (.ref x1), .val (.ref x1)]) rfl ?_
  refine q_gS X2 hx hZ hown (wd hw 48 rfl) e2 (Sta.ext O0 G_cs) hby d16_19 ?_
  intro T3 X3 e3
  refine q_ifN X3 hx hby d16_22 ((if0 _ _).trans (feq H_cs).1) ?_
  refine q_aN X3 hx hby d16_25 rfl rfl ?_
  refine q_gF X3 hx hZ hown (wd hw 28 rfl) e3 r2 hby d16_26 ?_
  intro T4 X4 e4
  refine q_aN X4 hx hby d16_29 rfl rfl ?_
  refine q_gF X4 hx hZ hown (wd hw 28 rfl) e4 r3 hby d16_30 ?_
  intro T5 X5 e5
  refine q_icN X5 hx hby d16_33 (teq r4).2 ?_
  refine q_aN X5 hx hby d16_36 rfl rfl ?_
  refine q_gF X5 hx hZ hown (wd hw 27 rfl) e5 r5 hby d16_37 ?_
  intro T6 X6 e6
  show Go _ _ _ _ _ _ _ _ T6 (mkF m 40 #[.val (.ref x0), .val (.ref x1), .val (.ref x1)] [(.ref w3)])
  refine q_aN X6 hx hby d16_40 rfl rfl ?_
  refine q_gF X6 hx hZ hown (wd hw 27 rfl) e6 r6 hby d16_41 ?_
  intro T7 X7 e7
  refine q_cS [(.ref w3), (.ref w4)] [] 0 X7 hx hZ hown (wd hw 79 rfl) (wd hw 80 rfl) (wd hw 81 rfl) (wd hw 61 rfl) (by decide) e7 (rm_a17_1 l Z a0 hw [] cs sv GG w3 w4 kk5 w6 kk7 h0 O0 r7 r8) hby hml rfl d16_44 pd_LABABRZ rfl rfl (by decide) (by decide) (by decide) (by decide) ?_
  intro v8 T8 L8 Lc8 X8 hQ8 l8
  obtain ⟨rfl, Nq8, e8⟩ := hQ8
  have N8_ : Fr Z.heap.size L8 := by rw [l8]; exact Fr.app N0 Nq8
  refine q_ifN X8 hx hby d16_47 ((if0 _ _).trans (feq (by decide : ¬ ((1 : Int32) = (0 : Int32)))).1) ?_
  refine q_iC X8 hx hby d16_50  ?_
  refine q_go 51 55 X8 hx hby rfl d16_51 (by decide) (by decide) ?_
  exact Go.retN X8 hx (t := .boolean) hret (by simp) hlk (hb hby d16_55) (by decide) (by decide) (by show _ ∧ _ ∧ _; rw [e8]; exact ⟨rfl, N8_, rfl⟩)
theorem d2_35 : decode method_3_code 35 = .ok (.iload_n 0, 1) := by decide +kernel
theorem d2_36 : decode method_3_code 36 = .ok (.iconst 2, 1) := by decide +kernel
theorem d2_37 : decode method_3_code 37 = .ok (.if_icmp .ne 22, 3) := by decide +kernel
theorem d2_40 : decode method_3_code 40 = .ok (.new 7, 3) := by decide +kernel
theorem d2_43 : decode method_3_code 43 = .ok (.dup, 1) := by decide +kernel
theorem d2_44 : decode method_3_code 44 = .ok (.iconst 2, 1) := by decide +kernel
theorem d2_45 : decode method_3_code 45 = .ok (.newarray .char, 2) := by decide +kernel
theorem d2_47 : decode method_3_code 47 = .ok (.dup, 1) := by decide +kernel
theorem d2_48 : decode method_3_code 48 = .ok (.iconst 0, 1) := by decide +kernel
theorem d2_49 : decode method_3_code 49 = .ok (.iload_n 1, 1) := by decide +kernel
theorem d2_50 : decode method_3_code 50 = .ok (.castore, 1) := by decide +kernel
theorem d2_51 : decode method_3_code 51 = .ok (.dup, 1) := by decide +kernel
theorem d2_52 : decode method_3_code 52 = .ok (.iconst 1, 1) := by decide +kernel
theorem d2_53 : decode method_3_code 53 = .ok (.iload_n 2, 1) := by decide +kernel
theorem d2_54 : decode method_3_code 54 = .ok (.castore, 1) := by decide +kernel
theorem d2_55 : decode method_3_code 55 = .ok (.invokespecial 9, 3) := by decide +kernel
def Q_a19_1 (Z : State) (x2 : Addr) (w2 : Int32) (w3 : Int32) (kk4 : ClassId) (h0 : Heap) (v : Option Value) (h : Heap) (L : List Loc) : Prop := v = some (.int (2 : Int32)) ∧ Fr Z.heap.size L ∧ Keep h0 h [x2] ∧ Arv Z h x2 kk4 .byte (2 : Int32) [(.int ((w2.toInt8.toInt32).toInt8.toInt32)), (.int ((w3.toInt8.toInt32).toInt8.toInt32))] (.int (0 : Int32))
theorem rm_a19_1 (l : Launch) (Z : State) (a0 : Array Value) (hw : HW Z a0) (ws : List Jvm.Cond) (cs : Int32) (sv : Value) (GG : GP Z cs sv) (x0 : Addr) (x2 : Addr) (kk1 : ClassId) (w2 : Int32) (w3 : Int32) (kk4 : ClassId) (h0 : Heap) (O0 : Ext Z.heap h0) (r0 : Arv Z h0 x0 kk1 .char (2 : Int32) [(.int w2), (.int w3)] (.int (0 : Int32))) (r1 : ¬ ((255 : Int32) < w2)) (r2 : Arv Z h0 x2 kk4 .byte (2 : Int32) [(.int (0 : Int32)), (.int (0 : Int32))] (.int (0 : Int32))) (r3 : Z.heap.size ≤ x2) (r4 : x0 ≠ x2) (r5 : ¬ ((255 : Int32) < w3)) :
    Met FrameEnd l (⟨"java/lang/StringUTF16", "compress", "([CI[BII)I"⟩ : MethodName) jdk_52_method_21_code 7 (some .int) ws ⟨0, 0, 0, 0⟩ Z h0 #[(.ref x0), (.int (0 : Int32)), (.ref x2), (.int (0 : Int32)), (.int (2 : Int32))] (Q_a19_1 Z x2 w2 w3 kk4 h0) := by
  refine own_met "java/lang/StringUTF16" (plainFor_of_name pn_19) rfl #[.val (.ref x0), .val (.int (0 : Int32)), .val (.ref x2), .val (.int (0 : Int32)), .val (.int (2 : Int32)), .unset, .unset] (fun _ => by first | (simp [entryFrame, mkF, argsToLocals, Value.category]; done) | rfl) ?_
  intro p e s m below meth c s₁ hx hby hlk hret hml hZ hown hnm X0 e0
  have N0 := Fr.nil Z.heap.size
  refine q_iC X0 hx hby d19_0  ?_
  refine q_isL X0 hx hby d19_1 (l' := #[.val (.ref x0), .val (.int (0 : Int32)), .val (.ref x2), .val (.int (0 : Int32)), .val (.int (2 : Int32)), .val (.int (0 : Int32)), .unset]) rfl ?_
  refine q_iL X0 hx hby d19_3 rfl ?_
  refine q_iL X0 hx hby d19_5 rfl ?_
  refine q_icN X0 hx hby d19_7 (tlt (by decide : (0 : Int32) < (2 : Int32))).2.1 ?_
  refine q_aN X0 hx hby d19_10 rfl rfl ?_
  refine q_iN X0 hx hby d19_11 rfl ?_
  obtain ⟨cl1, Ar1, q1, S1, N1, H1, G1⟩ := id r0
  have hin1 : ¬ ((0 : Int32) < 0 ∨ cl1.slots.size ≤ ((0 : Int32)).toNatClampNeg) := inb_of S1 ⟨by decide, by decide⟩
  refine Go.step (X0.caload hx (j := (0 : Int32)) (v := (.int w2)) (by rw [e0]; exact Ar1.1) (State.isArrayOf_alike hZ.alike Ar1.2.1) Ar1.2.2 hin1 (Has.at H1 hin1 rfl) (g := (mkF m 12 #[.val (.ref x0), .val (.int (0 : Int32)), .val (.ref x2), .val (.int (0 : Int32)), .val (.int (2 : Int32)), .val (.int (0 : Int32)), .unset] [(.int (0 : Int32)), (.ref x0)])) rfl rfl (hb hby d19_12)) ?_
  refine q_isL X0 hx hby d19_13 (l' := #[.val (.ref x0), .val (.int (0 : Int32)), .val (.ref x2), .val (.int (0 : Int32)), .val (.int (2 : Int32)), .val (.int (0 : Int32)), .val (.int w2)]) rfl ?_
  refine q_iL X0 hx hby d19_15 rfl ?_
  refine Go.step (fun _ kt_ => XS.sipush X0.here hx rfl (hb hby d19_17)  kt_) ?_
  refine q_icY 20 26 X0 hx hby rfl d19_20 (flt r1).2.2.2 (by decide) (by decide) ?_
  refine q_aN X0 hx hby d19_26 rfl rfl ?_
  refine q_iN X0 hx hby d19_27 rfl ?_
  refine q_iL X0 hx hby d19_28 rfl ?_
  refine Go.step (fun _ kt_ => XS.i2b X0.here hx rfl (hb hby d19_30) rfl kt_) ?_
  show Go _ _ _ _ _ _ _ _ s₁ (mkF m 31 #[.val (.ref x0), .val (.int (0 : Int32)), .val (.ref x2), .val (.int (0 : Int32)), .val (.int (2 : Int32)), .val (.int (0 : Int32)), .val (.int w2)] [(.int (w2.toInt8.toInt32)), (.int (0 : Int32)), (.ref x2)])
  obtain ⟨cl2, Ar2, q2, S2, N2, H2, G2⟩ := id r2
  have hin2 : ¬ ((0 : Int32) < 0 ∨ cl2.slots.size ≤ ((0 : Int32)).toNatClampNeg) := inb_of S2 ⟨by decide, by decide⟩
  obtain ⟨T2, h2, X2, e2, W2, st2⟩ := stB X0 hx hZ e0 Ar2 (j := (0 : Int32)) hin2 (g := (mkF m 31 #[.val (.ref x0), .val (.int (0 : Int32)), .val (.ref x2), .val (.int (0 : Int32)), .val (.int (2 : Int32)), .val (.int (0 : Int32)), .val (.int w2)] [(.int (w2.toInt8.toInt32)), (.int (0 : Int32)), (.ref x2)])) rfl rfl (hb hby d19_31)
  refine Go.step st2 ?_
  have V2 : Arv Z h2 x2 kk4 .byte (2 : Int32) [(.int ((w2.toInt8.toInt32).toInt8.toInt32)), (.int (0 : Int32))] (.int (0 : Int32)) := Arv.set Ar2 q2 S2 N2 H2 G2 (fits_nar_byte _) W2 0 rfl (Nat.le_of_ble_eq_true rfl)
  have N2_ := Fr.snoc X2 N0 r3
  have O2_ : Ext Z.heap h2 := extWr O0 W2 r3
  have K2 := Keep.wr (Keep.refl h0 [x2]) W2 (Or.inl (List.mem_of_getElem? (i := 0) rfl))
  refine q_inc X2 hx hby d19_32 rfl (l' := #[.val (.ref x0), .val (.int (1 : Int32)), .val (.ref x2), .val (.int (0 : Int32)), .val (.int (2 : Int32)), .val (.int (0 : Int32)), .val (.int w2)]) rfl ?_
  refine q_inc X2 hx hby d19_35 rfl (l' := #[.val (.ref x0), .val (.int (1 : Int32)), .val (.ref x2), .val (.int (1 : Int32)), .val (.int (2 : Int32)), .val (.int (0 : Int32)), .val (.int w2)]) rfl ?_
  refine q_inc X2 hx hby d19_38 rfl (l' := #[.val (.ref x0), .val (.int (1 : Int32)), .val (.ref x2), .val (.int (1 : Int32)), .val (.int (2 : Int32)), .val (.int (1 : Int32)), .val (.int w2)]) rfl ?_
  refine q_go 41 3 X2 hx hby rfl d19_41 (by decide) (by decide) ?_
  refine q_iL X2 hx hby d19_3 rfl ?_
  refine q_iL X2 hx hby d19_5 rfl ?_
  refine q_icN X2 hx hby d19_7 (tlt (by decide : (1 : Int32) < (2 : Int32))).2.1 ?_
  refine q_aN X2 hx hby d19_10 rfl rfl ?_
  refine q_iN X2 hx hby d19_11 rfl ?_
  obtain ⟨cl3, Ar3, q3, S3, N3, H3, G3⟩ := id (r0.other W2 r4)
  have hin3 : ¬ ((1 : Int32) < 0 ∨ cl3.slots.size ≤ ((1 : Int32)).toNatClampNeg) := inb_of S3 ⟨by decide, by decide⟩
  refine Go.step (X2.caload hx (j := (1 : Int32)) (v := (.int w3)) (by rw [e2]; exact Ar3.1) (State.isArrayOf_alike hZ.alike Ar3.2.1) Ar3.2.2 hin3 (Has.at H3 hin3 rfl) (g := (mkF m 12 #[.val (.ref x0), .val (.int (1 : Int32)), .val (.ref x2), .val (.int (1 : Int32)), .val (.int (2 : Int32)), .val (.int (1 : Int32)), .val (.int w2)] [(.int (1 : Int32)), (.ref x0)])) rfl rfl (hb hby d19_12)) ?_
  refine q_isL X2 hx hby d19_13 (l' := #[.val (.ref x0), .val (.int (1 : Int32)), .val (.ref x2), .val (.int (1 : Int32)), .val (.int (2 : Int32)), .val (.int (1 : Int32)), .val (.int w3)]) rfl ?_
  refine q_iL X2 hx hby d19_15 rfl ?_
  refine Go.step (fun _ kt_ => XS.sipush X2.here hx rfl (hb hby d19_17)  kt_) ?_
  refine q_icY 20 26 X2 hx hby rfl d19_20 (flt r5).2.2.2 (by decide) (by decide) ?_
  refine q_aN X2 hx hby d19_26 rfl rfl ?_
  refine q_iN X2 hx hby d19_27 rfl ?_
  refine q_iL X2 hx hby d19_28 rfl ?_
  refine Go.step (fun _ kt_ => XS.i2b X2.here hx rfl (hb hby d19_30) rfl kt_) ?_
  show Go _ _ _ _ _ _ _ _ T2 (mkF m 31 #[.val (.ref x0), .val (.int (1 : Int32)), .val (.ref x2), .val (.int (1 : Int32)), .val (.int (2 : Int32)), .val (.int (1 : Int32)), .val (.int w3)] [(.int (w3.toInt8.toInt32)), (.int (1 : Int32)), (.ref x2)])
  obtain ⟨cl4, Ar4, q4, S4, N4, H4, G4⟩ := id V2
  have hin4 : ¬ ((1 : Int32) < 0 ∨ cl4.slots.size ≤ ((1 : Int32)).toNatClampNeg) := inb_of S4 ⟨by decide, by decide⟩
  obtain ⟨T4, h4, X4, e4, W4, st4⟩ := stB X2 hx hZ e2 Ar4 (j := (1 : Int32)) hin4 (g := (mkF m 31 #[.val (.ref x0), .val (.int (1 : Int32)), .val (.ref x2), .val (.int (1 : Int32)), .val (.int (2 : Int32)), .val (.int (1 : Int32)), .val (.int w3)] [(.int (w3.toInt8.toInt32)), (.int (1 : Int32)), (.ref x2)])) rfl rfl (hb hby d19_31)
  refine Go.step st4 ?_
  have V4 : Arv Z h4 x2 kk4 .byte (2 : Int32) [(.int ((w2.toInt8.toInt32).toInt8.toInt32)), (.int ((w3.toInt8.toInt32).toInt8.toInt32))] (.int (0 : Int32)) := Arv.set Ar4 q4 S4 N4 H4 G4 (fits_nar_byte _) W4 1 rfl (Nat.le_of_ble_eq_true rfl)
  have N4_ := Fr.snoc X4 N2_ r3
  have O4_ : Ext Z.heap h4 := extWr O2_ W4 r3
  have K4 := Keep.wr K2 W4 (Or.inl (List.mem_of_getElem? (i := 0) rfl))
  refine q_inc X4 hx hby d19_32 rfl (l' := #[.val (.ref x0), .val (.int (2 : Int32)), .val (.ref x2), .val (.int (1 : Int32)), .val (.int (2 : Int32)), .val (.int (1 : Int32)), .val (.int w3)]) rfl ?_
  refine q_inc X4 hx hby d19_35 rfl (l' := #[.val (.ref x0), .val (.int (2 : Int32)), .val (.ref x2), .val (.int (2 : Int32)), .val (.int (2 : Int32)), .val (.int (1 : Int32)), .val (.int w3)]) rfl ?_
  refine q_inc X4 hx hby d19_38 rfl (l' := #[.val (.ref x0), .val (.int (2 : Int32)), .val (.ref x2), .val (.int (2 : Int32)), .val (.int (2 : Int32)), .val (.int (2 : Int32)), .val (.int w3)]) rfl ?_
  refine q_go 41 3 X4 hx hby rfl d19_41 (by decide) (by decide) ?_
  refine q_iL X4 hx hby d19_3 rfl ?_
  refine q_iL X4 hx hby d19_5 rfl ?_
  refine q_icY 7 44 X4 hx hby rfl d19_7 (flt (by decide : ¬ ((2 : Int32) < (2 : Int32)))).2.1 (by decide) (by decide) ?_
  refine q_iL X4 hx hby d19_44 rfl ?_
  exact Go.retI X4 hx hret hlk (hb hby d19_46) (by decide) (by decide) (by show Q_a19_1 ..; rw [e4]; exact ⟨rfl, N4_, K4, V4⟩)
def Q_a18_1 (Z : State) (w2 : Int32) (w3 : Int32) (h0 : Heap) (v : Option Value) (h : Heap) (L : List Loc) : Prop := ∃ (b1 : Addr) (k1 : ClassId), v = some (.ref b1) ∧ Fr Z.heap.size L ∧ Keep h0 h [] ∧ h0.size ≤ b1 ∧ Arv Z h b1 k1 .byte (2 : Int32) [(.int ((w2.toInt8.toInt32).toInt8.toInt32)), (.int ((w3.toInt8.toInt32).toInt8.toInt32))] (.int (0 : Int32))
theorem rm_a18_1 (l : Launch) (Z : State) (a0 : Array Value) (hw : HW Z a0) (ws : List Jvm.Cond) (cs : Int32) (sv : Value) (GG : GP Z cs sv) (x0 : Addr) (kk1 : ClassId) (w2 : Int32) (w3 : Int32) (h0 : Heap) (O0 : Ext Z.heap h0) (r0 : Arv Z h0 x0 kk1 .char (2 : Int32) [(.int w2), (.int w3)] (.int (0 : Int32))) (r1 : ¬ ((255 : Int32) < w2)) (r2 : ¬ ((255 : Int32) < w3)) :
    Met FrameEnd l (⟨"java/lang/StringUTF16", "compress", "([CII)[B"⟩ : MethodName) jdk_52_method_16_code 6 (some (.array .byte)) ws ⟨1, 1, 2, 18⟩ Z h0 #[(.ref x0), (.int (0 : Int32)), (.int (2 : Int32))] (Q_a18_1 Z w2 w3 h0) := by
  refine own_met "java/lang/StringUTF16" (plainFor_of_name pn_18) rfl #[.val (.ref x0), .val (.int (0 : Int32)), .val (.int (2 : Int32)), .unset, .unset, .unset] (fun _ => by first | (simp [entryFrame, mkF, argsToLocals, Value.category]; done) | rfl) ?_
  intro p e s m below meth c s₁ hx hby hlk hret hml hZ hown hnm X0 e0
  have N0 := Fr.nil Z.heap.size
  refine q_iN X0 hx hby d18_0 rfl ?_
  obtain ⟨T1, h1, k1, X1, e1, E1, A1, st1⟩ := newP X0 hx hZ (wd hw 22 rfl) e0 (g := (mkF m 1 #[.val (.ref x0), .val (.int (0 : Int32)), .val (.int (2 : Int32)), .unset, .unset, .unset] [(.int (2 : Int32))])) rfl (hb hby d18_1) rfl (by decide) (cap := 2) (by decide) (by decide) (by decide) (by decide)
  obtain ⟨b1, hb1⟩ : ∃ z, z = h0.size := ⟨_, rfl⟩
  rw [← hb1] at A1 st1
  refine Go.step st1 ?_
  have g_b1 : Z.heap.size ≤ b1 := Nat.le_trans O0.1 (Nat.le_of_eq hb1.symm)
  have O1_ : Ext Z.heap h1 := extTr O0 E1
  have sz_b1 : h0.size ≤ b1 := Nat.le_trans (Keep.refl h0 []).1 (Nat.le_of_eq hb1.symm)
  have K1 := Keep.ext (Keep.refl h0 []) E1
  have V1 : Arv Z h1 b1 k1 .byte (2 : Int32) [(.int (0 : Int32)), (.int (0 : Int32))] (.int (0 : Int32)) := (Arv.new A1 (by decide)).pad (pad_rep [] (.int (0 : Int32)) 2)
  refine q_asN X1 hx hby d18_3 rfl (l' := #[.val (.ref x0), .val (.int (0 : Int32)), .val (.int (2 : Int32)), .val (.ref b1), .unset, .unset]) rfl ?_
  refine q_aN X1 hx hby d18_4 rfl rfl ?_
  refine q_iN X1 hx hby d18_5 rfl ?_
  refine q_aN X1 hx hby d18_6 rfl rfl ?_
  refine q_iC X1 hx hby d18_7  ?_
  refine q_iN X1 hx hby d18_8 rfl ?_
  refine q_cS [(.ref x0), (.int (0 : Int32)), (.ref b1), (.int (0 : Int32)), (.int (2 : Int32))] [] 0 X1 hx hZ hown (wd hw 86 rfl) (wd hw 87 rfl) (wd hw 88 rfl) (wd hw 84 rfl) (by decide) e1 (rm_a19_1 l Z a0 hw [] cs sv GG x0 b1 kk1 w2 w3 k1 h1 O1_ (r0.ext E1) r1 V1 g_b1 (Nat.ne_of_lt (Nat.lt_of_lt_of_le r0.lt (Nat.le_of_eq hb1.symm))) r2) hby hml rfl d18_9 pd_LACIABIIRI rfl rfl (by decide) (by decide) (by decide) (by decide) ?_
  intro v2 T2 L2 Lc2 X2 hQ2 l2
  obtain ⟨rfl, Nq2, Kq2, p2_0⟩ := hQ2
  have O2_ : Ext Z.heap T2.heap := extKeep O1_ Kq2 (allS g_b1 all0)
  have K2 := Keep.trans K1 Kq2 (allS (Or.inr sz_b1) all0)
  have N2_ : Fr Z.heap.size L2 := by rw [l2]; exact Fr.app N0 Nq2
  refine q_isL X2 hx hby d18_12 (l' := #[.val (.ref x0), .val (.int (0 : Int32)), .val (.int (2 : Int32)), .val (.ref b1), .val (.int (2 : Int32)), .unset]) rfl ?_
  refine q_iL X2 hx hby d18_14 rfl ?_
  refine q_iN X2 hx hby d18_16 rfl ?_
  show Go _ _ _ _ _ _ _ _ T2 (mkF m 17 #[.val (.ref x0), .val (.int (0 : Int32)), .val (.int (2 : Int32)), .val (.ref b1), .val (.int (2 : Int32)), .unset] [(.int (2 : Int32)), (.int (2 : Int32))])
  refine q_icY 17 57 X2 hx hby rfl d18_17 (teq (by decide : (2 : Int32) = (2 : Int32))).1 (by decide) (by decide) ?_
  refine q_aN X2 hx hby d18_57 rfl rfl ?_
  exact Go.retA X2 hx hret rfl rfl hlk (hb hby d18_58) (by decide) (by decide) ⟨b1, k1, rfl, N2_, K2, sz_b1, p2_0⟩
def Q_a20_1 (Z : State) (x1 : Int32) (h0 : Heap) (v : Option Value) (h : Heap) (L : List Loc) : Prop := v = some (.int (((((x1 - (2 : Int32)).toUInt32 >>> ((31 : Int32) &&& 31).toUInt32).toInt32).toInt8.toInt32).toInt8.toInt32)) ∧ Fr Z.heap.size L ∧ h = h0
theorem rm_a20_1 (l : Launch) (Z : State) (a0 : Array Value) (hw : HW Z a0) (ws : List Jvm.Cond) (cs : Int32) (sv : Value) (GG : GP Z cs sv) (x0 : Addr) (x1 : Int32) (kk1 : ClassId) (w2 : Int32) (w3 : Int32) (h0 : Heap) (O0 : Ext Z.heap h0) (r0 : Arv Z h0 x0 kk1 .byte (2 : Int32) [(.int w2), (.int w3)] (.int (0 : Int32))) :
    Met FrameEnd l (⟨"java/lang/StringUTF16", "coderFromArrayLen", "([BI)B"⟩ : MethodName) jdk_52_method_15_code 2 (some .byte) ws ⟨0, 0, 0, 0⟩ Z h0 #[(.ref x0), (.int x1)] (Q_a20_1 Z x1 h0) := by
  refine own_met "java/lang/StringUTF16" (plainFor_of_name pn_20) rfl #[.val (.ref x0), .val (.int x1)] (fun _ => by first | (simp [entryFrame, mkF, argsToLocals, Value.category]; done) | rfl) ?_
  intro p e s m below meth c s₁ hx hby hlk hret hml hZ hown hnm X0 e0
  have N0 := Fr.nil Z.heap.size
  refine q_iN X0 hx hby d20_0 rfl ?_
  refine q_aN X0 hx hby d20_1 rfl rfl ?_
  obtain ⟨cl1, Ar1, -, S1, N1, -, -⟩ := id r0
  refine Go.step (X0.arraylength hx (by rw [e0]; exact Ar1.1) (State.isArrayOf_alike hZ.alike Ar1.2.1) (g := (mkF m 2 #[.val (.ref x0), .val (.int x1)] [(.ref x0), (.int x1)])) rfl rfl (hb hby d20_2)) ?_
  rw [len_of S1 N1]
  show Go _ _ _ _ _ _ _ _ s₁ (mkF m 3 #[.val (.ref x0), .val (.int x1)] [(.int (2 : Int32)), (.int x1)])
  refine q_isub X0 hx hby d20_3  ?_
  refine q_bP X0 hx hby d20_4  ?_
  refine Go.step (fun _ kt_ => XS.iushr X0.here hx rfl (hb hby d20_6) rfl kt_) ?_
  show Go _ _ _ _ _ _ _ _ s₁ (mkF m 7 #[.val (.ref x0), .val (.int x1)] [(.int (((x1 - (2 : Int32)).toUInt32 >>> ((31 : Int32) &&& 31).toUInt32).toInt32))])
  refine Go.step (fun _ kt_ => XS.i2b X0.here hx rfl (hb hby d20_7) rfl kt_) ?_
  show Go _ _ _ _ _ _ _ _ s₁ (mkF m 8 #[.val (.ref x0), .val (.int x1)] [(.int ((((x1 - (2 : Int32)).toUInt32 >>> ((31 : Int32) &&& 31).toUInt32).toInt32).toInt8.toInt32))])
  exact Go.retN X0 hx (t := .byte) hret (by simp) hlk (hb hby d20_8) (by decide) (by decide) (by show _ ∧ _ ∧ _; rw [e0]; exact ⟨rfl, N0, rfl⟩)
def Q_a4_2 (Z : State) (x0 : Addr) (w2 : Int32) (w3 : Int32) (h0 : Heap) (v : Option Value) (h : Heap) (L : List Loc) : Prop := ∃ (b1q3 : Addr) (k1q3 : ClassId), v = none ∧ Fr Z.heap.size L ∧ Keep h0 h [x0] ∧ fl_1 Z h x0 (.int (0 : Int32)) ∧ fl_0 Z h x0 (.ref b1q3) ∧ h0.size ≤ b1q3 ∧ Arv Z h b1q3 k1q3 .byte (2 : Int32) [(.int ((w2.toInt8.toInt32).toInt8.toInt32)), (.int ((w3.toInt8.toInt32).toInt8.toInt32))] (.int (0 : Int32))
theorem rm_a4_2 (l : Launch) (Z : State) (a0 : Array Value) (hw : HW Z a0) (ws : List Jvm.Cond) (cs : Int32) (sv : Value) (GG : GP Z cs sv) (x0 : Addr) (x1 : Addr) (kk1 : ClassId) (w2 : Int32) (w3 : Int32) (w4 : Int32) (h0 : Heap) (O0 : Ext Z.heap h0) (r0 : Arv Z h0 x1 kk1 .char (2 : Int32) [(.int w2), (.int w3)] (.int (0 : Int32))) (r1 : ¬ ((255 : Int32) < w2)) (r2 : ¬ ((255 : Int32) < w3)) (r3 : Exa Z h0 x0 "java/lang/String") (r4 : fl_1 Z h0 x0 (.int w4)) (r5 : Z.heap.size ≤ x0) (r6 : fl_0 Z h0 x0 .null) :
    Met FrameEnd l (⟨"java/lang/String", "<init>", "([CIILjava/lang/Void;)V"⟩ : MethodName) jdk_42_method_149_code 6 none ws ⟨2, 1, 2, 35⟩ Z h0 #[(.ref x0), (.ref x1), (.int (0 : Int32)), (.int (2 : Int32)), .null] (Q_a4_2 Z x0 w2 w3 h0) := by
  refine own_met "java/lang/String" (plainFor_of_name pn_4) rfl #[.val (.ref x0), .val (.ref x1), .val (.int (0 : Int32)), .val (.int (2 : Int32)), .val .null, .unset] (fun _ => by first | (simp [entryFrame, mkF, argsToLocals, Value.category]; done) | rfl) ?_
  intro p e s m below meth c s₁ hx hby hlk hret hml hZ hown hnm X0 e0
  have N0 := Fr.nil Z.heap.size
  obtain ⟨G_cs, H_cs, G_sv, H_sv⟩ := id GG
  refine q_aN X0 hx hby d4_0 rfl rfl ?_
  obtain ⟨T1, X1, e1, st1⟩ := initO X0 hx hZ hown (wd hw 18 rfl) (wd hw 19 rfl) (wd hw 20 rfl) e0 (g := (mkF m 1 #[.val (.ref x0), .val (.ref x1), .val (.int (0 : Int32)), .val (.int (2 : Int32)), .val .null, .unset] [(.ref x0)])) rfl (by rw [hml]; rfl) rfl (hb hby d4_1) (by decide) (W := 0) (by show 2 * 0 + _ ≤ _; exact Nat.le_of_eq rfl) (by decide)
  refine Go.step st1 ?_
  refine q_iN X1 hx hby d4_4 rfl ?_
  refine q_ifY 5 27 X1 hx hby rfl d4_5 ((if0 _ _).trans (feq (by decide : ¬ ((2 : Int32) = (0 : Int32)))).2) (by decide) (by decide) ?_
  refine q_gS X1 hx hZ hown (wd hw 48 rfl) e1 (Sta.ext O0 G_cs) hby d4_27 ?_
  intro T2 X2 e2
  refine q_ifN X2 hx hby d4_30 ((if0 _ _).trans (feq H_cs).1) ?_
  refine q_aN X2 hx hby d4_33 rfl rfl ?_
  refine q_iN X2 hx hby d4_34 rfl ?_
  refine q_iN X2 hx hby d4_35 rfl ?_
  refine q_cS [(.ref x1), (.int (0 : Int32)), (.int (2 : Int32))] [] 0 X2 hx hZ hown (wd hw 82 rfl) (wd hw 83 rfl) (wd hw 85 rfl) (wd hw 84 rfl) (by decide) e2 (rm_a18_1 l Z a0 hw [] cs sv GG x1 kk1 w2 w3 h0 O0 r0 r1 r2) hby hml rfl d4_36 pd_LACIIRAB rfl rfl (by decide) (by decide) (by decide) (by decide) ?_
  intro v3 T3 L3 Lc3 X3 hQ3 l3
  obtain ⟨b1q3, k1q3, rfl, Nq3, Kq3, p3_0, p3_1⟩ := hQ3
  have O3_ : Ext Z.heap T3.heap := extKeep O0 Kq3 all0
  have K3 := Keep.trans (Keep.refl h0 [x0]) Kq3 all0
  have N3_ : Fr Z.heap.size L3 := by rw [l3]; exact Fr.app N0 Nq3
  have g_b1q3 : Z.heap.size ≤ b1q3 := Nat.le_trans O0.1 p3_0
  have sz_b1q3 : h0.size ≤ b1q3 := Nat.le_trans (Keep.refl h0 [x0]).1 p3_0
  refine q_asL X3 hx hby d4_39 rfl (l' := #[.val (.ref x0), .val (.ref x1), .val (.int (0 : Int32)), .val (.int (2 : Int32)), .val .null, .val (.ref b1q3)]) rfl ?_
  refine q_aN X3 hx hby d4_41 rfl rfl ?_
  show Go _ _ _ _ _ _ _ _ T3 (mkF m 42 #[.val (.ref x0), .val (.ref x1), .val (.int (0 : Int32)), .val (.int (2 : Int32)), .val .null, .val (.ref b1q3)] [(.ref x0)])
  refine q_aL X3 hx hby d4_42 rfl rfl ?_
  refine q_iN X3 hx hby d4_44 rfl ?_
  refine q_cS [(.ref b1q3), (.int (2 : Int32))] [(.ref x0)] 1 X3 hx hZ hown (wd hw 89 rfl) (wd hw 90 rfl) (wd hw 91 rfl) (wd hw 84 rfl) (by decide) rfl (rm_a20_1 l Z a0 hw [] cs sv GG b1q3 (2 : Int32) k1q3 ((w2.toInt8.toInt32).toInt8.toInt32) ((w3.toInt8.toInt32).toInt8.toInt32) T3.heap O3_ p3_1) hby hml rfl d4_45 pd_LABIRB rfl rfl (by decide) (by decide) (by decide) (by decide) ?_
  intro v4 T4 L4 Lc4 X4 hQ4 l4
  obtain ⟨rfl, Nq4, e4⟩ := hQ4
  have N4_ : Fr Z.heap.size L4 := by rw [l4]; exact Fr.app N3_ Nq4
  obtain ⟨T5, h5, X5, e5, W5, st5⟩ := putFN X4 hx hZ hown (wd hw 28 rfl) Via.refl e4 (r4.keep Kq3 nin0) (r3.keep Kq3) (Or.inr ⟨(wd hw 24 rfl), rfl, hnm⟩) (wd hw 8 rfl) (ty := .byte) (v' := (.int (0 : Int32))) pf_B rfl rfl (g := (mkF m 48 #[.val (.ref x0), .val (.ref x1), .val (.int (0 : Int32)), .val (.int (2 : Int32)), .val .null, .val (.ref b1q3)] [(.int (0 : Int32)), (.ref x0)])) rfl rfl (hb hby d4_48)
  refine Go.step st5 ?_
  have N5_ := Fr.snoc X5 N4_ r5
  have O5_ : Ext Z.heap h5 := extWr O3_ W5 r5
  have K5 := Keep.wr K3 W5 (Or.inl (List.mem_of_getElem? (i := 0) rfl))
  have F5 := Fld.same W5 (r4.keep Kq3 nin0)
  refine q_aN X5 hx hby d4_51 rfl rfl ?_
  refine q_aL X5 hx hby d4_52 rfl rfl ?_
  have f6 := (Fld.other W5 (r6.keep Kq3 nin0) (Or.inr (Ne.symm (sn_0 hw))))
  obtain ⟨T7, h7, X7, e7, W7, st7⟩ := putF X5 hx hZ hown (host := "") (Or.inl (wd hw 27 rfl)) Via.refl e5 f6 (Exa.wr W5 (r3.keep Kq3)) (Or.inr ⟨(wd hw 23 rfl), rfl, hnm⟩) (wd hw 8 rfl) (ty := (.array .byte)) pf_AB rfl rfl (g := (mkF m 54 #[.val (.ref x0), .val (.ref x1), .val (.int (0 : Int32)), .val (.int (2 : Int32)), .val .null, .val (.ref b1q3)] [(.ref b1q3), (.ref x0)])) rfl rfl (hb hby d4_54)
  refine Go.step st7 ?_
  have N7_ := Fr.snoc X7 N5_ r5
  have O7_ : Ext Z.heap h7 := extWr O5_ W7 r5
  have K7 := Keep.wr K5 W7 (Or.inl (List.mem_of_getElem? (i := 0) rfl))
  have F7 := Fld.same W7 f6
  have f8 := ((p3_1.other W5 (Ne.symm (Nat.ne_of_lt (Nat.lt_of_lt_of_le r3.lt p3_0)))).other W7 (Ne.symm (Nat.ne_of_lt (Nat.lt_of_lt_of_le r3.lt p3_0))))
  exact Go.retV X7 hx hret hlk (hb hby d4_57) (by decide) (by decide) (by show Q_a4_2 ..; rw [e7]; exact ⟨b1q3, k1q3, rfl, N7_, K7, (Fld.other W7 F5 (Or.inr (sn_0 hw))), F7, sz_b1q3, f8⟩)
def Q_a3_2 (Z : State) (x0 : Addr) (w2 : Int32) (w3 : Int32) (h0 : Heap) (v : Option Value) (h : Heap) (L : List Loc) : Prop := ∃ (b1q3q2 : Addr) (k1q3q2 : ClassId), v = none ∧ Fr Z.heap.size L ∧ Keep h0 h [x0] ∧ fl_1 Z h x0 (.int (0 : Int32)) ∧ fl_0 Z h x0 (.ref b1q3q2) ∧ h0.size ≤ b1q3q2 ∧ Arv Z h b1q3q2 k1q3q2 .byte (2 : Int32) [(.int ((w2.toInt8.toInt32).toInt8.toInt32)), (.int ((w3.toInt8.toInt32).toInt8.toInt32))] (.int (0 : Int32))
theorem rm_a3_2 (l : Launch) (Z : State) (a0 : Array Value) (hw : HW Z a0) (ws : List Jvm.Cond) (cs : Int32) (sv : Value) (GG : GP Z cs sv) (x0 : Addr) (x1 : Addr) (kk1 : ClassId) (w2 : Int32) (w3 : Int32) (w4 : Int32) (h0 : Heap) (O0 : Ext Z.heap h0) (r0 : Arv Z h0 x1 kk1 .char (2 : Int32) [(.int w2), (.int w3)] (.int (0 : Int32))) (r1 : ¬ ((255 : Int32) < w2)) (r2 : ¬ ((255 : Int32) < w3)) (r3 : Exa Z h0 x0 "java/lang/String") (r4 : fl_1 Z h0 x0 (.int w4)) (r5 : Z.heap.size ≤ x0) (r6 : fl_0 Z h0 x0 .null) :
    Met FrameEnd l (⟨"java/lang/String", "<init>", "([C)V"⟩ : MethodName) jdk_42_method_3_code 2 none ws ⟨3, 1, 2, 52⟩ Z h0 #[(.ref x0), (.ref x1)] (Q_a3_2 Z x0 w2 w3 h0) := by
  refine own_met "java/lang/String" (plainFor_of_name pn_3) rfl #[.val (.ref x0), .val (.ref x1)] (fun _ => by first | (simp [entryFrame, mkF, argsToLocals, Value.category]; done) | rfl) ?_
  intro p e s m below meth c s₁ hx hby hlk hret hml hZ hown hnm X0 e0
  have N0 := Fr.nil Z.heap.size
  refine q_aN X0 hx hby d3_0 rfl rfl ?_
  refine q_aN X0 hx hby d3_1 rfl rfl ?_
  refine q_iC X0 hx hby d3_2  ?_
  refine q_aN X0 hx hby d3_3 rfl rfl ?_
  obtain ⟨cl1, Ar1, -, S1, N1, -, -⟩ := id r0
  refine Go.step (X0.arraylength hx (by rw [e0]; exact Ar1.1) (State.isArrayOf_alike hZ.alike Ar1.2.1) (g := (mkF m 4 #[.val (.ref x0), .val (.ref x1)] [(.ref x1), (.int (0 : Int32)), (.ref x1), (.ref x0)])) rfl rfl (hb hby d3_4)) ?_
  rw [len_of S1 N1]
  show Go _ _ _ _ _ _ _ _ s₁ (mkF m 5 #[.val (.ref x0), .val (.ref x1)] [(.int (2 : Int32)), (.int (0 : Int32)), (.ref x1), (.ref x0)])
  refine q_nl X0 hx hby d3_5  ?_
  refine q_cN [(.ref x1), (.int (0 : Int32)), (.int (2 : Int32)), .null] [] 0 X0 hx hZ hown rfl (wd hw 14 rfl) (wd hw 15 rfl) (wd hw 17 rfl) (wd hw 9 rfl) (by decide) e0 (rm_a4_2 l Z a0 hw [] cs sv GG x0 x1 kk1 w2 w3 w4 h0 O0 r0 r1 r2 r3 r4 r5 r6) hby hml rfl d3_6 pd_LACIILjava_lang_Void_RV rfl rfl (by decide) (by decide) (by decide) (by decide) ?_
  intro v2 T2 L2 Lc2 X2 hQ2 l2
  obtain ⟨b1q3q2, k1q3q2, rfl, Nq2, Kq2, p2_0, p2_1, p2_2, p2_3⟩ := hQ2
  have O2_ : Ext Z.heap T2.heap := extKeep O0 Kq2 (allS r5 all0)
  have K2 := Keep.trans (Keep.refl h0 [x0]) Kq2 (allS (Or.inl (List.mem_of_getElem? (i := 0) rfl)) all0)
  have N2_ : Fr Z.heap.size L2 := by rw [l2]; exact Fr.app N0 Nq2
  have g_b1q3q2 : Z.heap.size ≤ b1q3q2 := Nat.le_trans O0.1 p2_2
  have sz_b1q3q2 : h0.size ≤ b1q3q2 := Nat.le_trans (Keep.refl h0 [x0]).1 p2_2
  exact Go.retV X2 hx hret hlk (hb hby d3_9) (by decide) (by decide) ⟨b1q3q2, k1q3q2, rfl, N2_, K2, p2_0, p2_1, sz_b1q3q2, p2_3⟩
theorem d2_58 : decode method_3_code 58 = .ok (.areturn, 1) := by decide +kernel
def Q_a2_2 (Z : State) (x1 : Int32) (x2 : Int32) (h0 : Heap) (v : Option Value) (h : Heap) (L : List Loc) : Prop := ∃ (b1 : Addr) (b1q3q2q7 : Addr) (k1q3q2q7 : ClassId), v = some (.ref b1) ∧ Fr Z.heap.size L ∧ Keep h0 h [] ∧ h0.size ≤ b1 ∧ Exa Z h b1 "java/lang/String" ∧ fl_1 Z h b1 (.int (0 : Int32)) ∧ fl_0 Z h b1 (.ref b1q3q2q7) ∧ h0.size ≤ b1q3q2q7 ∧ Arv Z h b1q3q2q7 k1q3q2q7 .byte (2 : Int32) [(.int (((x1.toUInt32.toUInt16.toUInt32.toInt32).toInt8.toInt32).toInt8.toInt32)), (.int (((x2.toUInt32.toUInt16.toUInt32.toInt32).toInt8.toInt32).toInt8.toInt32))] (.int (0 : Int32)) ∧ b1 ≠ b1q3q2q7
theorem rm_a2_2 (l : Launch) (Z : State) (a0 : Array Value) (hw : HW Z a0) (ws : List Jvm.Cond) (cs : Int32) (sv : Value) (GG : GP Z cs sv) (x0 : Int32) (x1 : Int32) (x2 : Int32) (x3 : Int32) (x4 : Int32) (h0 : Heap) (O0 : Ext Z.heap h0) (r0 : ¬ (x0 = (0 : Int32))) (r1 : ¬ (x0 = (1 : Int32))) (r2 : x0 = (2 : Int32)) (r3 : ¬ ((255 : Int32) < (x1.toUInt32.toUInt16.toUInt32.toInt32))) (r4 : ¬ ((255 : Int32) < (x2.toUInt32.toUInt16.toUInt32.toInt32))) :
    Met FrameEnd l (⟨"com/example/wary_lock/warylock/LockNameRootPinLaw", "mk", "(ICCCC)Ljava/lang/String;"⟩ : MethodName) method_3_code 5 (some (.object "java/lang/String")) ws ⟨4, 3, 8, 66⟩ Z h0 #[(.int x0), (.int x1), (.int x2), (.int x3), (.int x4)] (Q_a2_2 Z x1 x2 h0) := by
  refine own_met "com/example/wary_lock/warylock/LockNameRootPinLaw" (plainFor_of_name pn_2) rfl #[.val (.int x0), .val (.int x1), .val (.int x2), .val (.int x3), .val (.int x4)] (fun _ => by first | (simp [entryFrame, mkF, argsToLocals, Value.category]; done) | rfl) ?_
  intro p e s m below meth c s₁ hx hby hlk hret hml hZ hown hnm X0 e0
  have N0 := Fr.nil Z.heap.size
  refine q_iN X0 hx hby d2_0 rfl ?_
  refine q_ifY 1 15 X0 hx hby rfl d2_1 ((if0 _ _).trans (feq r0).2) (by decide) (by decide) ?_
  refine q_iN X0 hx hby d2_15 rfl ?_
  refine q_iC X0 hx hby d2_16  ?_
  refine q_icY 17 35 X0 hx hby rfl d2_17 (feq r1).2 (by decide) (by decide) ?_
  refine q_iN X0 hx hby d2_35 rfl ?_
  refine q_iC X0 hx hby d2_36  ?_
  refine q_icN X0 hx hby d2_37 (teq r2).2 ?_
  obtain ⟨T1, h1, X1, e1, E1, A1, D1, U1, st1⟩ := newO X0 hx hZ hown (wd hw 7 rfl) (wd hw 8 rfl) (wd hw 9 rfl) e0 (g := (mkF m 40 #[.val (.int x0), .val (.int x1), .val (.int x2), .val (.int x3), .val (.int x4)] [])) rfl (hb hby d2_40) (by decide) (by decide)
  obtain ⟨b1, hb1⟩ : ∃ z, z = h0.size := ⟨_, rfl⟩
  rw [← hb1] at A1 D1 U1 st1
  refine Go.step st1 ?_
  have g_b1 : Z.heap.size ≤ b1 := Nat.le_trans O0.1 (Nat.le_of_eq hb1.symm)
  have O1_ : Ext Z.heap h1 := extTr O0 E1
  have sz_b1 : h0.size ≤ b1 := Nat.le_trans (Keep.refl h0 []).1 (Nat.le_of_eq hb1.symm)
  have K1 := Keep.ext (Keep.refl h0 []) E1
  have F1_value : fl_0 Z h1 b1 .null := D1 (Or.inr (wd hw 23 rfl)) (ty := (.array .byte)) pf_AB
  have F1_coder : fl_1 Z h1 b1 (.int (0 : Int32)) := D1 (Or.inr (wd hw 24 rfl)) (ty := .byte) pf_B
  refine q_dup X1 hx hby d2_43 rfl ?_
  refine q_iC X1 hx hby d2_44  ?_
  obtain ⟨T2, h2, k2, X2, e2, E2, A2, st2⟩ := newP X1 hx hZ (wd hw 10 rfl) e1 (g := (mkF m 45 #[.val (.int x0), .val (.int x1), .val (.int x2), .val (.int x3), .val (.int x4)] [(.int (2 : Int32)), (.ref b1), (.ref b1)])) rfl (hb hby d2_45) rfl (by decide) (cap := 2) (by decide) (by decide) (by decide) (by decide)
  obtain ⟨b2, hb2⟩ : ∃ z, z = h1.size := ⟨_, rfl⟩
  rw [← hb2] at A2 st2
  refine Go.step st2 ?_
  have g_b2 : Z.heap.size ≤ b2 := Nat.le_trans O1_.1 (Nat.le_of_eq hb2.symm)
  have O2_ : Ext Z.heap h2 := extTr O1_ E2
  have sz_b2 : h0.size ≤ b2 := Nat.le_trans K1.1 (Nat.le_of_eq hb2.symm)
  have K2 := Keep.ext K1 E2
  have V2 : Arv Z h2 b2 k2 .char (2 : Int32) [(.int (0 : Int32)), (.int (0 : Int32))] (.int (0 : Int32)) := (Arv.new A2 (by decide)).pad (pad_rep [] (.int (0 : Int32)) 2)
  refine q_dup X2 hx hby d2_47 rfl ?_
  refine q_iC X2 hx hby d2_48  ?_
  refine q_iN X2 hx hby d2_49 rfl ?_
  obtain ⟨cl3, Ar3, q3, S3, N3, H3, G3⟩ := id V2
  have hin3 : ¬ ((0 : Int32) < 0 ∨ cl3.slots.size ≤ ((0 : Int32)).toNatClampNeg) := inb_of S3 ⟨by decide, by decide⟩
  obtain ⟨T3, h3, X3, e3, W3, st3⟩ := stC X2 hx hZ e2 Ar3 (j := (0 : Int32)) hin3 (g := (mkF m 50 #[.val (.int x0), .val (.int x1), .val (.int x2), .val (.int x3), .val (.int x4)] [(.int x1), (.int (0 : Int32)), (.ref b2), (.ref b2), (.ref b1), (.ref b1)])) rfl rfl (hb hby d2_50)
  refine Go.step st3 ?_
  have V3 : Arv Z h3 b2 k2 .char (2 : Int32) [(.int (x1.toUInt32.toUInt16.toUInt32.toInt32)), (.int (0 : Int32))] (.int (0 : Int32)) := Arv.set Ar3 q3 S3 N3 H3 G3 (fits_nar_char _) W3 0 rfl (Nat.le_of_ble_eq_true rfl)
  have N3_ := Fr.snoc X3 N0 g_b2
  have O3_ : Ext Z.heap h3 := extWr O2_ W3 g_b2
  have K3 := Keep.wr K2 W3 (Or.inr sz_b2)
  refine q_dup X3 hx hby d2_51 rfl ?_
  refine q_iC X3 hx hby d2_52  ?_
  refine q_iN X3 hx hby d2_53 rfl ?_
  obtain ⟨cl4, Ar4, q4, S4, N4, H4, G4⟩ := id V3
  have hin4 : ¬ ((1 : Int32) < 0 ∨ cl4.slots.size ≤ ((1 : Int32)).toNatClampNeg) := inb_of S4 ⟨by decide, by decide⟩
  obtain ⟨T4, h4, X4, e4, W4, st4⟩ := stC X3 hx hZ e3 Ar4 (j := (1 : Int32)) hin4 (g := (mkF m 54 #[.val (.int x0), .val (.int x1), .val (.int x2), .val (.int x3), .val (.int x4)] [(.int x2), (.int (1 : Int32)), (.ref b2), (.ref b2), (.ref b1), (.ref b1)])) rfl rfl (hb hby d2_54)
  refine Go.step st4 ?_
  have V4 : Arv Z h4 b2 k2 .char (2 : Int32) [(.int (x1.toUInt32.toUInt16.toUInt32.toInt32)), (.int (x2.toUInt32.toUInt16.toUInt32.toInt32))] (.int (0 : Int32)) := Arv.set Ar4 q4 S4 N4 H4 G4 (fits_nar_char _) W4 1 rfl (Nat.le_of_ble_eq_true rfl)
  have N4_ := Fr.snoc X4 N3_ g_b2
  have O4_ : Ext Z.heap h4 := extWr O3_ W4 g_b2
  have K4 := Keep.wr K3 W4 (Or.inr sz_b2)
  have f5 := (Fld.other W4 (Fld.other W3 (Fld.ext E2 F1_coder) (Or.inl (Nat.ne_of_lt (Nat.lt_of_lt_of_le A1.lt (Nat.le_of_eq hb2.symm))))) (Or.inl (Nat.ne_of_lt (Nat.lt_of_lt_of_le A1.lt (Nat.le_of_eq hb2.symm)))))
  have f6 := (Fld.other W4 (Fld.other W3 (Fld.ext E2 F1_value) (Or.inl (Nat.ne_of_lt (Nat.lt_of_lt_of_le A1.lt (Nat.le_of_eq hb2.symm))))) (Or.inl (Nat.ne_of_lt (Nat.lt_of_lt_of_le A1.lt (Nat.le_of_eq hb2.symm)))))
  refine q_cN [(.ref b2)] [(.ref b1)] 1 X4 hx hZ hown rfl (wd hw 11 rfl) (wd hw 12 rfl) (wd hw 13 rfl) (wd hw 9 rfl) (by decide) e4 (rm_a3_2 l Z a0 hw [] cs sv GG b1 b2 k2 (x1.toUInt32.toUInt16.toUInt32.toInt32) (x2.toUInt32.toUInt16.toUInt32.toInt32) (0 : Int32) h4 O4_ V4 r3 r4 (Exa.wr W4 (Exa.wr W3 (Exa.ext E2 A1))) f5 g_b1 f6) hby hml rfl d2_55 pd_LACRV rfl rfl (by decide) (by decide) (by decide) (by decide) ?_
  intro v7 T7 L7 Lc7 X7 hQ7 l7
  obtain ⟨b1q3q2q7, k1q3q2q7, rfl, Nq7, Kq7, p7_0, p7_1, p7_2, p7_3⟩ := hQ7
  have O7_ : Ext Z.heap T7.heap := extKeep O4_ Kq7 (allS g_b1 all0)
  have K7 := Keep.trans K4 Kq7 (allS (Or.inr sz_b1) all0)
  have N7_ : Fr Z.heap.size L7 := by rw [l7]; exact Fr.app N4_ Nq7
  have g_b1q3q2q7 : Z.heap.size ≤ b1q3q2q7 := Nat.le_trans O4_.1 p7_2
  have sz_b1q3q2q7 : h0.size ≤ b1q3q2q7 := Nat.le_trans K4.1 p7_2
  have f8 := ((Exa.wr W4 (Exa.wr W3 (Exa.ext E2 A1))).keep Kq7)
  exact Go.retA X7 hx hret rfl rfl hlk (hb hby d2_58) (by decide) (by decide) ⟨b1, b1q3q2q7, k1q3q2q7, rfl, N7_, K7, sz_b1, f8, p7_0, p7_1, sz_b1q3q2q7, p7_3, (Nat.ne_of_lt (Nat.lt_of_lt_of_le (Exa.wr W4 (Exa.wr W3 (Exa.ext E2 A1))).lt p7_2))⟩
def Q_a10_2 (Z : State) (w5 : Int32) (h0 : Heap) (v : Option Value) (h : Heap) (L : List Loc) : Prop := v = some (.int ((2 : Int32) >>> ((w5.toInt8.toInt32) &&& 31))) ∧ Fr Z.heap.size L ∧ h = h0
theorem rm_a10_2 (l : Launch) (Z : State) (a0 : Array Value) (hw : HW Z a0) (ws : List Jvm.Cond) (cs : Int32) (sv : Value) (GG : GP Z cs sv) (x0 : Addr) (w1 : Addr) (kk2 : ClassId) (w3 : Int32) (w4 : Int32) (w5 : Int32) (h0 : Heap) (O0 : Ext Z.heap h0) (r0 : fl_0 Z h0 x0 (.ref w1)) (r1 : Arv Z h0 w1 kk2 .byte (2 : Int32) [(.int w3), (.int w4)] (.int (0 : Int32))) (r2 : Exa Z h0 x0 "java/lang/String") (r3 : fl_1 Z h0 x0 (.int w5)) :
    Met FrameEnd l (⟨"java/lang/String", "length", "()I"⟩ : MethodName) jdk_42_method_54_code 1 (some .int) ws ⟨1, 0, 0, 13⟩ Z h0 #[(.ref x0)] (Q_a10_2 Z w5 h0) := by
  refine own_met "java/lang/String" (plainFor_of_name pn_10) rfl #[.val (.ref x0)] (fun _ => by first | (simp [entryFrame, mkF, argsToLocals, Value.category]; done) | rfl) ?_
  intro p e s m below meth c s₁ hx hby hlk hret hml hZ hown hnm X0 e0
  have N0 := Fr.nil Z.heap.size
  refine q_aN X0 hx hby d10_0 rfl rfl ?_
  refine q_gF X0 hx hZ hown (wd hw 27 rfl) e0 r0 hby d10_1 ?_
  intro T1 X1 e1
  obtain ⟨cl2, Ar2, -, S2, N2, -, -⟩ := id r1
  refine Go.step (X1.arraylength hx (by rw [e1]; exact Ar2.1) (State.isArrayOf_alike hZ.alike Ar2.2.1) (g := (mkF m 4 #[.val (.ref x0)] [(.ref w1)])) rfl rfl (hb hby d10_4)) ?_
  rw [len_of S2 N2]
  show Go _ _ _ _ _ _ _ _ T1 (mkF m 5 #[.val (.ref x0)] [(.int (2 : Int32))])
  refine q_aN X1 hx hby d10_5 rfl rfl ?_
  refine q_cV [] [(.int (2 : Int32))] 1 X1 hx hZ hown (wd hw 54 rfl) (wd hw 55 rfl) (wd hw 57 rfl) (wd hw 56 rfl) (wd hw 58 rfl) (wd hw 9 rfl) (by decide) e1 r2 (rm_a11_0 l Z a0 hw [] cs sv GG x0 w5 h0 O0 r3) hby hml rfl d10_6 pd_LRB rfl rfl (by decide) (by decide) (by decide) (by decide) ?_
  intro v3 T3 L3 Lc3 X3 hQ3 l3
  obtain ⟨rfl, Nq3, e3⟩ := hQ3
  have N3_ : Fr Z.heap.size L3 := by rw [l3]; exact Fr.app N0 Nq3
  refine Go.step (fun _ kt_ => XS.ishr X3.here hx rfl (hb hby d10_9) rfl kt_) ?_
  show Go _ _ _ _ _ _ _ _ T3 (mkF m 10 #[.val (.ref x0)] [(.int ((2 : Int32) >>> ((w5.toInt8.toInt32) &&& 31)))])
  exact Go.retI X3 hx hret hlk (hb hby d10_10) (by decide) (by decide) (by show _ ∧ _ ∧ _; rw [e3]; exact ⟨rfl, N3_, rfl⟩)
def Q_a12_2 (Z : State) (w2 : Int32) (w3 : Int32) (h0 : Heap) (v : Option Value) (h : Heap) (L : List Loc) : Prop := v = some (.int (ix2 w2 w3 ((47 : Int32).toInt8.toInt32))) ∧ Fr Z.heap.size L ∧ h = h0
theorem rm_a12_2 (l : Launch) (Z : State) (a0 : Array Value) (hw : HW Z a0) (ws : List Jvm.Cond) (cs : Int32) (sv : Value) (GG : GP Z cs sv) (x0 : Addr) (kk1 : ClassId) (w2 : Int32) (w3 : Int32) (h0 : Heap) (O0 : Ext Z.heap h0) (r0 : Arv Z h0 x0 kk1 .byte (2 : Int32) [(.int w2), (.int w3)] (.int (0 : Int32))) :
    Met FrameEnd l (⟨"java/lang/StringLatin1", "indexOf", "([BIII)I"⟩ : MethodName) jdk_43_method_22_code 4 (some .int) ws ⟨1, 0, 0, 17⟩ Z h0 #[(.ref x0), (.int (47 : Int32)), (.int (0 : Int32)), (.int (2 : Int32))] (Q_a12_2 Z w2 w3 h0) := by
  refine own_met "java/lang/StringLatin1" (plainFor_of_name pn_12) rfl #[.val (.ref x0), .val (.int (47 : Int32)), .val (.int (0 : Int32)), .val (.int (2 : Int32))] (fun _ => by first | (simp [entryFrame, mkF, argsToLocals, Value.category]; done) | rfl) ?_
  intro p e s m below meth c s₁ hx hby hlk hret hml hZ hown hnm X0 e0
  have N0 := Fr.nil Z.heap.size
  refine q_iN X0 hx hby d12_0 rfl ?_
  refine q_cS [(.int (47 : Int32))] [] 0 X0 hx hZ hown (wd hw 63 rfl) (wd hw 64 rfl) (wd hw 65 rfl) (wd hw 61 rfl) (by decide) e0 (rm_a13_0 l Z a0 hw [] cs sv GG (47 : Int32) h0 O0 (by decide) (by decide)) hby hml rfl d12_1 pd_LIRZ rfl rfl (by decide) (by decide) (by decide) (by decide) ?_
  intro v1 T1 L1 Lc1 X1 hQ1 l1
  obtain ⟨rfl, Nq1, e1⟩ := hQ1
  have N1_ : Fr Z.heap.size L1 := by rw [l1]; exact Fr.app N0 Nq1
  refine q_ifY 4 9 X1 hx hby rfl d12_4 ((if0 _ _).trans (feq (by decide : ¬ ((1 : Int32) = (0 : Int32)))).2) (by decide) (by decide) ?_
  refine q_iN X1 hx hby d12_9 rfl ?_
  refine q_iC X1 hx hby d12_10  ?_
  refine q_cS [(.int (0 : Int32)), (.int (0 : Int32))] [] 0 X1 hx hZ hown (wd hw 66 rfl) (wd hw 67 rfl) (wd hw 69 rfl) (wd hw 68 rfl) (by decide) e1 (rm_a14_0 l Z a0 hw [] cs sv GG (0 : Int32) (0 : Int32) h0 O0 (by decide)) hby hml rfl d12_11 pd_LIIRI rfl rfl (by decide) (by decide) (by decide) (by decide) ?_
  intro v2 T2 L2 Lc2 X2 hQ2 l2
  obtain ⟨rfl, Nq2, e2⟩ := hQ2
  have N2_ : Fr Z.heap.size L2 := by rw [l2]; exact Fr.app N1_ Nq2
  refine q_isN X2 hx hby d12_14 (l' := #[.val (.ref x0), .val (.int (47 : Int32)), .val (.int (0 : Int32)), .val (.int (2 : Int32))]) rfl ?_
  refine q_iN X2 hx hby d12_15 rfl ?_
  refine q_aN X2 hx hby d12_16 rfl rfl ?_
  obtain ⟨cl3, Ar3, -, S3, N3, -, -⟩ := id r0
  refine Go.step (X2.arraylength hx (by rw [e2]; exact Ar3.1) (State.isArrayOf_alike hZ.alike Ar3.2.1) (g := (mkF m 17 #[.val (.ref x0), .val (.int (47 : Int32)), .val (.int (0 : Int32)), .val (.int (2 : Int32))] [(.ref x0), (.int (2 : Int32))])) rfl rfl (hb hby d12_17)) ?_
  rw [len_of S3 N3]
  show Go _ _ _ _ _ _ _ _ T2 (mkF m 18 #[.val (.ref x0), .val (.int (47 : Int32)), .val (.int (0 : Int32)), .val (.int (2 : Int32))] [(.int (2 : Int32)), (.int (2 : Int32))])
  refine q_cS [(.int (2 : Int32)), (.int (2 : Int32))] [] 0 X2 hx hZ hown (wd hw 70 rfl) (wd hw 71 rfl) (wd hw 72 rfl) (wd hw 68 rfl) (by decide) e2 (rm_a15_0 l Z a0 hw [] cs sv GG (2 : Int32) (2 : Int32) h0 O0 (by decide)) hby hml rfl d12_18 pd_LIIRI rfl rfl (by decide) (by decide) (by decide) (by decide) ?_
  intro v4 T4 L4 Lc4 X4 hQ4 l4
  obtain ⟨rfl, Nq4, e4⟩ := hQ4
  have N4_ : Fr Z.heap.size L4 := by rw [l4]; exact Fr.app N2_ Nq4
  refine q_isN X4 hx hby d12_21 (l' := #[.val (.ref x0), .val (.int (47 : Int32)), .val (.int (0 : Int32)), .val (.int (2 : Int32))]) rfl ?_
  refine q_iN X4 hx hby d12_22 rfl ?_
  refine q_iN X4 hx hby d12_23 rfl ?_
  refine q_icY 24 29 X4 hx hby rfl d12_24 (tlt (by decide : (0 : Int32) < (2 : Int32))).1 (by decide) (by decide) ?_
  refine q_aN X4 hx hby d12_29 rfl rfl ?_
  refine q_iN X4 hx hby d12_30 rfl ?_
  refine q_iN X4 hx hby d12_31 rfl ?_
  refine q_iN X4 hx hby d12_32 rfl ?_
  refine q_cS [(.ref x0), (.int (47 : Int32)), (.int (0 : Int32)), (.int (2 : Int32))] [] 0 X4 hx hZ hown (wd hw 92 rfl) (wd hw 93 rfl) (wd hw 94 rfl) (wd hw 61 rfl) (by decide) e4 (rm_ic2 l Z a0 hw [] cs sv GG x0 (47 : Int32) kk1 w2 w3 h0 O0 r0) hby hml rfl d12_33 pd_LABIIIRI rfl rfl (by decide) (by decide) (by decide) (by decide) ?_
  intro v5 T5 L5 Lc5 X5 hQ5 l5
  obtain ⟨rfl, Nq5, e5⟩ := hQ5
  have N5_ : Fr Z.heap.size L5 := by rw [l5]; exact Fr.app N4_ Nq5
  exact Go.retI X5 hx hret hlk (hb hby d12_36) (by decide) (by decide) (by show _ ∧ _ ∧ _; rw [e5]; exact ⟨rfl, N5_, rfl⟩)
def Q_a8_2 (Z : State) (w3 : Int32) (w4 : Int32) (h0 : Heap) (v : Option Value) (h : Heap) (L : List Loc) : Prop := v = some (.int (ix2 w3 w4 ((47 : Int32).toInt8.toInt32))) ∧ Fr Z.heap.size L ∧ h = h0
theorem rm_a8_2 (l : Launch) (Z : State) (a0 : Array Value) (hw : HW Z a0) (ws : List Jvm.Cond) (cs : Int32) (sv : Value) (GG : GP Z cs sv) (x0 : Addr) (w1 : Addr) (kk2 : ClassId) (w3 : Int32) (w4 : Int32) (h0 : Heap) (O0 : Ext Z.heap h0) (r0 : Exa Z h0 x0 "java/lang/String") (r1 : fl_1 Z h0 x0 (.int (0 : Int32))) (r2 : fl_0 Z h0 x0 (.ref w1)) (r3 : Arv Z h0 w1 kk2 .byte (2 : Int32) [(.int w3), (.int w4)] (.int (0 : Int32))) :
    Met FrameEnd l (⟨"java/lang/String", "indexOf", "(II)I"⟩ : MethodName) jdk_42_method_80_code 3 (some .int) ws ⟨2, 0, 0, 32⟩ Z h0 #[(.ref x0), (.int (47 : Int32)), (.int (0 : Int32))] (Q_a8_2 Z w3 w4 h0) := by
  refine own_met "java/lang/String" (plainFor_of_name pn_8) rfl #[.val (.ref x0), .val (.int (47 : Int32)), .val (.int (0 : Int32))] (fun _ => by first | (simp [entryFrame, mkF, argsToLocals, Value.category]; done) | rfl) ?_
  intro p e s m below meth c s₁ hx hby hlk hret hml hZ hown hnm X0 e0
  have N0 := Fr.nil Z.heap.size
  refine q_aN X0 hx hby d8_0 rfl rfl ?_
  refine q_cV [] [] 0 X0 hx hZ hown (wd hw 43 rfl) (wd hw 44 rfl) (wd hw 46 rfl) (wd hw 45 rfl) (wd hw 47 rfl) (wd hw 9 rfl) (by decide) e0 r0 (rm_a9_0 l Z a0 hw [] cs sv GG x0 (0 : Int32) h0 O0 r1 (by decide)) hby hml rfl d8_1 pd_LRZ rfl rfl (by decide) (by decide) (by decide) (by decide) ?_
  intro v1 T1 L1 Lc1 X1 hQ1 l1
  obtain ⟨rfl, Nq1, e1⟩ := hQ1
  have N1_ : Fr Z.heap.size L1 := by rw [l1]; exact Fr.app N0 Nq1
  refine q_ifN X1 hx hby d8_4 ((if0 _ _).trans (feq (by decide : ¬ ((1 : Int32) = (0 : Int32)))).1) ?_
  refine q_aN X1 hx hby d8_7 rfl rfl ?_
  refine q_gF X1 hx hZ hown (wd hw 27 rfl) e1 r2 hby d8_8 ?_
  intro T2 X2 e2
  refine q_iN X2 hx hby d8_11 rfl ?_
  refine q_iN X2 hx hby d8_12 rfl ?_
  refine q_aN X2 hx hby d8_13 rfl rfl ?_
  refine q_cV [] [(.int (0 : Int32)), (.int (47 : Int32)), (.ref w1)] 3 X2 hx hZ hown (wd hw 49 rfl) (wd hw 50 rfl) (wd hw 52 rfl) (wd hw 51 rfl) (wd hw 53 rfl) (wd hw 9 rfl) (by decide) e2 r0 (rm_a10_2 l Z a0 hw [] cs sv GG x0 w1 kk2 w3 w4 (0 : Int32) h0 O0 r2 r3 r0 r1) hby hml rfl d8_14 pd_LRI rfl rfl (by decide) (by decide) (by decide) (by decide) ?_
  intro v3 T3 L3 Lc3 X3 hQ3 l3
  obtain ⟨rfl, Nq3, e3⟩ := hQ3
  have N3_ : Fr Z.heap.size L3 := by rw [l3]; exact Fr.app N1_ Nq3
  refine q_cS [(.ref w1), (.int (47 : Int32)), (.int (0 : Int32)), (.int (2 : Int32))] [] 0 X3 hx hZ hown (wd hw 59 rfl) (wd hw 60 rfl) (wd hw 62 rfl) (wd hw 61 rfl) (by decide) e3 (rm_a12_2 l Z a0 hw [] cs sv GG w1 kk2 w3 w4 h0 O0 r3) hby hml rfl d8_17 pd_LABIIIRI rfl rfl (by decide) (by decide) (by decide) (by decide) ?_
  intro v4 T4 L4 Lc4 X4 hQ4 l4
  obtain ⟨rfl, Nq4, e4⟩ := hQ4
  have N4_ : Fr Z.heap.size L4 := by rw [l4]; exact Fr.app N3_ Nq4
  refine q_go 20 36 X4 hx hby rfl d8_20 (by decide) (by decide) ?_
  show Go _ _ _ _ _ _ _ _ T4 (mkF m 36 #[.val (.ref x0), .val (.int (47 : Int32)), .val (.int (0 : Int32))] [(.int (ix2 w3 w4 ((47 : Int32).toInt8.toInt32)))])
  exact Go.retI X4 hx hret hlk (hb hby d8_36) (by decide) (by decide) (by show _ ∧ _ ∧ _; rw [e4]; exact ⟨rfl, N4_, rfl⟩)
def Q_a7_2 (Z : State) (w3 : Int32) (w4 : Int32) (h0 : Heap) (v : Option Value) (h : Heap) (L : List Loc) : Prop := v = some (.int (ix2 w3 w4 ((47 : Int32).toInt8.toInt32))) ∧ Fr Z.heap.size L ∧ h = h0
theorem rm_a7_2 (l : Launch) (Z : State) (a0 : Array Value) (hw : HW Z a0) (ws : List Jvm.Cond) (cs : Int32) (sv : Value) (GG : GP Z cs sv) (x0 : Addr) (w1 : Addr) (kk2 : ClassId) (w3 : Int32) (w4 : Int32) (h0 : Heap) (O0 : Ext Z.heap h0) (r0 : Exa Z h0 x0 "java/lang/String") (r1 : fl_1 Z h0 x0 (.int (0 : Int32))) (r2 : fl_0 Z h0 x0 (.ref w1)) (r3 : Arv Z h0 w1 kk2 .byte (2 : Int32) [(.int w3), (.int w4)] (.int (0 : Int32))) :
    Met FrameEnd l (⟨"java/lang/String", "indexOf", "(I)I"⟩ : MethodName) jdk_42_method_79_code 2 (some .int) ws ⟨3, 0, 0, 46⟩ Z h0 #[(.ref x0), (.int (47 : Int32))] (Q_a7_2 Z w3 w4 h0) := by
  refine own_met "java/lang/String" (plainFor_of_name pn_7) rfl #[.val (.ref x0), .val (.int (47 : Int32))] (fun _ => by first | (simp [entryFrame, mkF, argsToLocals, Value.category]; done) | rfl) ?_
  intro p e s m below meth c s₁ hx hby hlk hret hml hZ hown hnm X0 e0
  have N0 := Fr.nil Z.heap.size
  refine q_aN X0 hx hby d7_0 rfl rfl ?_
  refine q_iN X0 hx hby d7_1 rfl ?_
  refine q_iC X0 hx hby d7_2  ?_
  refine q_cV [(.int (47 : Int32)), (.int (0 : Int32))] [] 0 X0 hx hZ hown (wd hw 38 rfl) (wd hw 39 rfl) (wd hw 41 rfl) (wd hw 40 rfl) (wd hw 42 rfl) (wd hw 9 rfl) (by decide) e0 r0 (rm_a8_2 l Z a0 hw [] cs sv GG x0 w1 kk2 w3 w4 h0 O0 r0 r1 r2 r3) hby hml rfl d7_3 pd_LIIRI rfl rfl (by decide) (by decide) (by decide) (by decide) ?_
  intro v1 T1 L1 Lc1 X1 hQ1 l1
  obtain ⟨rfl, Nq1, e1⟩ := hQ1
  have N1_ : Fr Z.heap.size L1 := by rw [l1]; exact Fr.app N0 Nq1
  exact Go.retI X1 hx hret hlk (hb hby d7_6) (by decide) (by decide) (by show _ ∧ _ ∧ _; rw [e1]; exact ⟨rfl, N1_, rfl⟩)
def Q_a22_1 (Z : State)  (h0 : Heap) (v : Option Value) (h : Heap) (L : List Loc) : Prop := ∃ (a1q5 : Addr) (b1q5 : Addr) (kb1q5 : ClassId), v = some (.ref a1q5) ∧ Fr Z.heap.size L ∧ Keep h0 h [] ∧ Exa Z h a1q5 "java/lang/String" ∧ fl_1 Z h a1q5 (.int (0 : Int32)) ∧ fl_0 Z h a1q5 (.ref b1q5) ∧ Arv Z h b1q5 kb1q5 .byte (0 : Int32) [] (.int 0)
theorem rm_a22_1 (l : Launch) (Z : State) (a0 : Array Value) (hw : HW Z a0) (ws : List Jvm.Cond) (cs : Int32) (sv : Value) (GG : GP Z cs sv) (x0 : Addr) (x1 : Int32) (x2 : Int32) (w1 : Addr) (kk2 : ClassId) (w3 : Int32) (w4 : Int32) (w5 : Int32) (h0 : Heap) (O0 : Ext Z.heap h0) (r0 : Exa Z h0 x0 "java/lang/String") (r1 : fl_0 Z h0 x0 (.ref w1)) (r2 : Arv Z h0 w1 kk2 .byte (2 : Int32) [(.int w3), (.int w4)] (.int (0 : Int32))) (r3 : fl_1 Z h0 x0 (.int w5)) (r4 : ¬ (x1 < (0 : Int32))) (r5 : ¬ (x2 < x1)) (r6 : ¬ (((2 : Int32) >>> ((w5.toInt8.toInt32) &&& 31)) < x2)) (r7 : x1 = (0 : Int32)) (r8 : ¬ (x2 = ((2 : Int32) >>> ((w5.toInt8.toInt32) &&& 31)))) (r9 : w5 = (0 : Int32)) (r10 : (x2 - x1) = (0 : Int32)) :
    MetH l (⟨"java/lang/String", "substring", "(II)Ljava/lang/String;"⟩ : MethodName) jdk_42_method_92_code 5 (some (.object "java/lang/String")) ws ⟨2, 2, 4, 29⟩ Z consts_1 [] h0 #[(.ref x0), (.int x1), (.int x2)] (Q_a22_1 Z  h0) := by
  refine own_metH "java/lang/String" (plainFor_of_name pn_22) rfl #[.val (.ref x0), .val (.int x1), .val (.int x2), .unset, .unset] (fun _ => by first | (simp [entryFrame, mkF, argsToLocals, Value.category]; done) | rfl) ?_
  intro p e s m below meth c s₁ hx hby hlk hret hml hZ hown hnm X0 e0 S0 kk0 hh hCH hSF
  have N0 := Fr.nil Z.heap.size
  have wS := own_wS hw
  have hEL := own_EW hw
  have CR0 := CHr.refl hCH
  refine q_aN X0 hx hby d22_0 rfl rfl ?_
  refine q_cV [] [] 0 X0 hx hZ hown (wd hw 49 rfl) (wd hw 50 rfl) (wd hw 52 rfl) (wd hw 51 rfl) (wd hw 53 rfl) (wd hw 9 rfl) (by decide) e0 r0 (rm_a10_2 l Z a0 hw [] cs sv GG x0 w1 kk2 w3 w4 w5 h0 O0 r1 r2 r0 r3) hby hml rfl d22_1 pd_LRI rfl rfl (by decide) (by decide) (by decide) (by decide) ?_
  intro v1 T1 L1 Lc1 X1 hQ1 l1
  obtain ⟨rfl, Nq1, e1⟩ := hQ1
  have N1_ : Fr Z.heap.size L1 := by rw [l1]; exact Fr.app N0 Nq1
  refine q_isN X1 hx hby d22_4 (l' := #[.val (.ref x0), .val (.int x1), .val (.int x2), .val (.int ((2 : Int32) >>> ((w5.toInt8.toInt32) &&& 31))), .unset]) rfl ?_
  refine q_iN X1 hx hby d22_5 rfl ?_
  refine q_iN X1 hx hby d22_6 rfl ?_
  refine q_iN X1 hx hby d22_7 rfl ?_
  refine q_cS [(.int x1), (.int x2), (.int ((2 : Int32) >>> ((w5.toInt8.toInt32) &&& 31)))] [] 0 X1 hx hZ hown (wd hw 100 rfl) (wd hw 101 rfl) (wd hw 102 rfl) (wd hw 9 rfl) (by decide) e1 (rm_cb l Z a0 hw [] cs sv GG x1 x2 ((2 : Int32) >>> ((w5.toInt8.toInt32) &&& 31)) h0 O0 r4 r5 r6) hby hml rfl d22_8 pd_LIIIRV rfl rfl (by decide) (by decide) (by decide) (by decide) ?_
  intro v2 T2 L2 Lc2 X2 hQ2 l2
  obtain ⟨rfl, Nq2, e2⟩ := hQ2
  have N2_ : Fr Z.heap.size L2 := by rw [l2]; exact Fr.app N1_ Nq2
  refine q_iN X2 hx hby d22_11 rfl ?_
  refine q_ifN X2 hx hby d22_12 ((if0 _ _).trans (teq r7).2) ?_
  refine q_iN X2 hx hby d22_15 rfl ?_
  refine q_iN X2 hx hby d22_16 rfl ?_
  show Go _ _ _ _ _ _ _ _ T2 (mkF m 17 #[.val (.ref x0), .val (.int x1), .val (.int x2), .val (.int ((2 : Int32) >>> ((w5.toInt8.toInt32) &&& 31))), .unset] [(.int ((2 : Int32) >>> ((w5.toInt8.toInt32) &&& 31))), (.int x2)])
  refine q_icY 17 22 X2 hx hby rfl d22_17 (feq r8).2 (by decide) (by decide) ?_
  refine q_iN X2 hx hby d22_22 rfl ?_
  refine q_iN X2 hx hby d22_23 rfl ?_
  refine q_isub X2 hx hby d22_24  ?_
  refine q_isL X2 hx hby d22_25 (l' := #[.val (.ref x0), .val (.int x1), .val (.int x2), .val (.int ((2 : Int32) >>> ((w5.toInt8.toInt32) &&& 31))), .val (.int (x2 - x1))]) rfl ?_
  refine q_aN X2 hx hby d22_27 rfl rfl ?_
  refine q_cV [] [] 0 X2 hx hZ hown (wd hw 43 rfl) (wd hw 44 rfl) (wd hw 46 rfl) (wd hw 45 rfl) (wd hw 47 rfl) (wd hw 9 rfl) (by decide) e2 r0 (rm_a9_0 l Z a0 hw [] cs sv GG x0 w5 h0 O0 r3 r9) hby hml rfl d22_28 pd_LRZ rfl rfl (by decide) (by decide) (by decide) (by decide) ?_
  intro v3 T3 L3 Lc3 X3 hQ3 l3
  obtain ⟨rfl, Nq3, e3⟩ := hQ3
  have N3_ : Fr Z.heap.size L3 := by rw [l3]; exact Fr.app N2_ Nq3
  refine q_ifN X3 hx hby d22_31 ((if0 _ _).trans (feq (by decide : ¬ ((1 : Int32) = (0 : Int32)))).1) ?_
  refine q_aN X3 hx hby d22_34 rfl rfl ?_
  refine q_gF X3 hx hZ hown (wd hw 27 rfl) e3 r1 hby d22_35 ?_
  intro T4 X4 e4
  refine q_iN X4 hx hby d22_38 rfl ?_
  show Go _ _ _ _ _ _ _ _ T4 (mkF m 39 #[.val (.ref x0), .val (.int x1), .val (.int x2), .val (.int ((2 : Int32) >>> ((w5.toInt8.toInt32) &&& 31))), .val (.int (x2 - x1))] [(.int x1), (.ref w1)])
  refine q_iL X4 hx hby d22_39 rfl ?_
  obtain ⟨_, _, ⟨T5, L5, k5, n5⟩, -, X5, Sq5, gq5, ⟨Lc5, hQ5, l5, y5, z5, cr5⟩, st5⟩ := callSS X4 hx (y := (⟨"java/lang/StringLatin1", "newString", "([BII)Ljava/lang/String;"⟩ : MethodName)) hown (mvT hZ (wd hw 108 rfl)) (mvT hZ (wd hw 109 rfl)) (mvT hZ (wd hw 61 rfl)) (mvT hZ (wd hw 110 rfl)) (by decide) (own_backH (W := 0) (rm_a25_0 l Z a0 hw [] cs sv GG w1 x1 (x2 - x1) h0 O0 r10) hZ (wd hw 110 rfl) (wd hw 61 rfl) (by decide) (by decide) hEL CR0.1 sg0) (g := (mkF m 41 #[.val (.ref x0), .val (.int x1), .val (.int x2), .val (.int ((2 : Int32) >>> ((w5.toInt8.toInt32) &&& 31))), .val (.int (x2 - x1))] [(.int (x2 - x1)), (.int x1), (.ref w1)])) rfl (by rw [hml]; rfl) (argsL := [(.ref w1), (.int x1), (.int (x2 - x1))]) (rest := []) (lenOf pd_LABIIRLjava_lang_String_ rfl) rfl (by show 2 * 0 + _ ≤ _; exact Nat.le_of_eq rfl) (hb hby d22_41) (fun _ _ => ⟨rfl, e4, (by decide : 0 + 2 ≤ _), (by decide : 0 + 4 ≤ _)⟩)
  dsimp only [Pt.U, Pt.locs, Pt.cells, Pt.slots] at X5 l5 y5 z5 st5 hQ5 Sq5 gq5 cr5
  subst y5 z5
  obtain ⟨X5, S5, hZ5, hown5⟩ := rebS S0 ((congrArg Array.size e4).symm ▸ kk0) X5 Sq5 gq5 hZ hown
  obtain ⟨a1q5, b1q5, kb1q5, rfl, Nq5, Kq5, p5_0, p5_1, p5_2, p5_3⟩ := hQ5
  have O5_ : Ext Z.heap T5.heap := extKeep O0 Kq5 all0
  have CR5 := CHr.trans CR0 cr5
  have K5 := Keep.trans (Keep.refl h0 []) Kq5 all0
  have N5_ : Fr Z.heap.size L5 := by rw [l5]; exact Fr.app N3_ Nq5
  refine Go.trans st5 ?_
  refine q_go 44 57 X5 hx hby rfl d22_44 (by decide) (by decide) ?_
  exact Go.retAH (endH hh rfl X5 hZ5 hEL CR5) X5 S5 (Nat.le_refl _) hx hret rfl rfl hlk (hb hby d22_57) (by decide) (by decide) ⟨a1q5, b1q5, kb1q5, rfl, N5_, K5, p5_0, p5_1, p5_2, p5_3⟩
def Q_a6_3 (Z : State)  (h0 : Heap) (v : Option Value) (h : Heap) (L : List Loc) : Prop := ∃ (a1q5q2 : Addr) (b1q5q2 : Addr) (kb1q5q2 : ClassId), v = some (.ref a1q5q2) ∧ Fr Z.heap.size L ∧ Keep h0 h [] ∧ Exa Z h a1q5q2 "java/lang/String" ∧ fl_1 Z h a1q5q2 (.int (0 : Int32)) ∧ fl_0 Z h a1q5q2 (.ref b1q5q2) ∧ Arv Z h b1q5q2 kb1q5q2 .byte (0 : Int32) [] (.int 0)
theorem rm_a6_3 (l : Launch) (Z : State) (a0 : Array Value) (hw : HW Z a0) (ws : List Jvm.Cond) (cs : Int32) (sv : Value) (GG : GP Z cs sv) (x0 : Addr) (w1 : Addr) (kk2 : ClassId) (w3 : Int32) (w4 : Int32) (h0 : Heap) (O0 : Ext Z.heap h0) (r0 : Exa Z h0 x0 "java/lang/String") (r1 : fl_1 Z h0 x0 (.int (0 : Int32))) (r2 : fl_0 Z h0 x0 (.ref w1)) (r3 : Arv Z h0 w1 kk2 .byte (2 : Int32) [(.int w3), (.int w4)] (.int (0 : Int32))) (r4 : (ix2 w3 w4 ((47 : Int32).toInt8.toInt32)) = (0 : Int32)) :
    MetH l (⟨"com/example/wary_lock/warylock/LockName", "root", "(Ljava/lang/String;)Ljava/lang/String;"⟩ : MethodName) prog_10_method_3_code 2 (some (.object "java/lang/String")) ws ⟨4, 2, 4, 59⟩ Z consts_1 [] h0 #[(.ref x0)] (Q_a6_3 Z  h0) := by
  refine own_metH "com/example/wary_lock/warylock/LockName" (plainFor_of_name pn_6) rfl #[.val (.ref x0), .unset] (fun _ => by first | (simp [entryFrame, mkF, argsToLocals, Value.category]; done) | rfl) ?_
  intro p e s m below meth c s₁ hx hby hlk hret hml hZ hown hnm X0 e0 S0 kk0 hh hCH hSF
  have N0 := Fr.nil Z.heap.size
  have wS := own_wS hw
  have hEL := own_EW hw
  have CR0 := CHr.refl hCH
  refine q_aN X0 hx hby d6_0 rfl rfl ?_
  refine q_bP X0 hx hby d6_1  ?_
  refine q_cV [(.int (47 : Int32))] [] 0 X0 hx hZ hown (wd hw 33 rfl) (wd hw 34 rfl) (wd hw 36 rfl) (wd hw 35 rfl) (wd hw 37 rfl) (wd hw 9 rfl) (by decide) e0 r0 (rm_a7_2 l Z a0 hw [] cs sv GG x0 w1 kk2 w3 w4 h0 O0 r0 r1 r2 r3) hby hml rfl d6_3 pd_LIRI rfl rfl (by decide) (by decide) (by decide) (by decide) ?_
  intro v1 T1 L1 Lc1 X1 hQ1 l1
  obtain ⟨rfl, Nq1, e1⟩ := hQ1
  have N1_ : Fr Z.heap.size L1 := by rw [l1]; exact Fr.app N0 Nq1
  show Go _ _ _ _ _ _ _ _ T1 (mkF m 6 #[.val (.ref x0), .unset] [(.int (ix2 w3 w4 ((47 : Int32).toInt8.toInt32)))])
  rw [r4]
  show Go _ _ _ _ _ _ _ _ T1 (mkF m 6 #[.val (.ref x0), .unset] [(.int (0 : Int32))])
  refine q_isN X1 hx hby d6_6 (l' := #[.val (.ref x0), .val (.int (0 : Int32))]) rfl ?_
  refine q_iN X1 hx hby d6_7 rfl ?_
  refine q_ifY 8 15 X1 hx hby rfl d6_8 ((if0 _ _).trans (flt (by decide : ¬ ((0 : Int32) < (0 : Int32)))).2.1) (by decide) (by decide) ?_
  refine q_aN X1 hx hby d6_15 rfl rfl ?_
  refine q_iC X1 hx hby d6_16  ?_
  refine q_iN X1 hx hby d6_17 rfl ?_
  obtain ⟨cq2, kq2, q2a, q2b, q2c⟩ := isOf hZ e1 r0
  obtain ⟨_, _, ⟨T2, L2, k2, n2⟩, -, X2, Sq2, gq2, ⟨Lc2, hQ2, l2, y2, z2, cr2⟩, st2⟩ := X1.virtualBackS hx (y := (⟨"java/lang/String", "substring", "(II)Ljava/lang/String;"⟩ : MethodName)) (z := (⟨"java/lang/String", "substring", "(II)Ljava/lang/String;"⟩ : MethodName)) hown (mvT hZ (wd hw 95 rfl)) (mvT hZ (wd hw 96 rfl)) (notFace_of_selects (args := #[]) (mvT hZ (wd hw 98 rfl))) (mvT hZ (wd hw 98 rfl)) (mvT hZ (wd hw 97 rfl)) (by decide) (own_backH (W := 0) (rm_a22_1 l Z a0 hw [] cs sv GG x0 (0 : Int32) (0 : Int32) w1 kk2 w3 w4 (0 : Int32) h0 O0 r0 r2 r3 r1 (by decide) (by decide) (by decide) (by decide) (by decide) (by decide) (by decide)) hZ (wd hw 99 rfl) (wd hw 9 rfl) (by decide) (by decide) hEL CR0.1 sg0) q2a q2c (g := (mkF m 18 #[.val (.ref x0), .val (.int (0 : Int32))] [(.int (0 : Int32)), (.int (0 : Int32)), (.ref x0)])) rfl (by rw [hml]; rfl) (Steps.refl _) (argsL := [(.int (0 : Int32)), (.int (0 : Int32))]) (rest := []) (lenOf pd_LIIRLjava_lang_String_ rfl) rfl (by show 2 * 0 + _ ≤ _; exact Nat.le_of_eq rfl) (hb hby d6_18) (fun _ _ => ⟨rfl, e1, (by decide : 0 + 2 ≤ _), (by decide : 0 + 4 ≤ _)⟩)
  dsimp only [Pt.U, Pt.locs, Pt.cells, Pt.slots] at X2 l2 y2 z2 st2 hQ2 Sq2 gq2 cr2
  subst y2 z2
  obtain ⟨X2, S2, hZ2, hown2⟩ := rebS S0 ((congrArg Array.size e1).symm ▸ kk0) X2 Sq2 gq2 hZ hown
  obtain ⟨a1q5q2, b1q5q2, kb1q5q2, rfl, Nq2, Kq2, p2_0, p2_1, p2_2, p2_3⟩ := hQ2
  have O2_ : Ext Z.heap T2.heap := extKeep O0 Kq2 all0
  have CR2 := CHr.trans CR0 cr2
  have K2 := Keep.trans (Keep.refl h0 []) Kq2 all0
  have N2_ : Fr Z.heap.size L2 := by rw [l2]; exact Fr.app N1_ Nq2
  refine Go.trans st2 ?_
  exact Go.retAH (endH hh rfl X2 hZ2 hEL CR2) X2 S2 (Nat.le_refl _) hx hret rfl rfl hlk (hb hby d6_21) (by decide) (by decide) ⟨a1q5q2, b1q5q2, kb1q5q2, rfl, N2_, K2, p2_0, p2_1, p2_2, p2_3⟩
theorem d25_7 : decode jdk_43_method_47_code 7 = .ok (.new 1, 3) := by decide +kernel
theorem d25_10 : decode jdk_43_method_47_code 10 = .ok (.dup, 1) := by decide +kernel
theorem d25_11 : decode jdk_43_method_47_code 11 = .ok (.aload_n 0, 1) := by decide +kernel
theorem d25_12 : decode jdk_43_method_47_code 12 = .ok (.iload_n 1, 1) := by decide +kernel
theorem d25_13 : decode jdk_43_method_47_code 13 = .ok (.iload_n 1, 1) := by decide +kernel
theorem d25_14 : decode jdk_43_method_47_code 14 = .ok (.iload_n 2, 1) := by decide +kernel
theorem d25_15 : decode jdk_43_method_47_code 15 = .ok (.iadd, 1) := by decide +kernel
theorem d25_16 : decode jdk_43_method_47_code 16 = .ok (.invokestatic 232, 3) := by decide +kernel
theorem d26_0 : decode jdk_65_method_132_code 0 = .ok (.iload_n 1, 1) := by decide +kernel
theorem d26_1 : decode jdk_65_method_132_code 1 = .ok (.ifCond .ne 9, 3) := by decide +kernel
theorem d26_4 : decode jdk_65_method_132_code 4 = .ok (.iload_n 2, 1) := by decide +kernel
theorem d26_5 : decode jdk_65_method_132_code 5 = .ok (.aload_n 0, 1) := by decide +kernel
theorem d26_6 : decode jdk_65_method_132_code 6 = .ok (.arraylength, 1) := by decide +kernel
theorem d26_7 : decode jdk_65_method_132_code 7 = .ok (.if_icmp .eq 10, 3) := by decide +kernel
theorem d26_10 : decode jdk_65_method_132_code 10 = .ok (.aload_n 0, 1) := by decide +kernel
theorem d26_11 : decode jdk_65_method_132_code 11 = .ok (.iload_n 1, 1) := by decide +kernel
theorem d26_12 : decode jdk_65_method_132_code 12 = .ok (.iload_n 2, 1) := by decide +kernel
theorem d26_13 : decode jdk_65_method_132_code 13 = .ok (.invokestatic 339, 3) := by decide +kernel
theorem d27_0 : decode jdk_65_method_133_code 0 = .ok (.iload_n 1, 1) := by decide +kernel
theorem d27_1 : decode jdk_65_method_133_code 1 = .ok (.iload_n 2, 1) := by decide +kernel
theorem d27_2 : decode jdk_65_method_133_code 2 = .ok (.invokestatic 343, 3) := by decide +kernel
theorem d28_0 : decode jdk_65_method_131_code 0 = .ok (.iload_n 1, 1) := by decide +kernel
theorem d28_1 : decode jdk_65_method_131_code 1 = .ok (.iload_n 0, 1) := by decide +kernel
theorem d28_2 : decode jdk_65_method_131_code 2 = .ok (.if_icmp .ge 35, 3) := by decide +kernel
theorem d28_37 : decode jdk_65_method_131_code 37 = .ok (.return_, 1) := by decide +kernel
theorem pn_28 : plainName "java/util/Arrays" = true := by first | (simp [plainName, overriddenIn]; done) | decide +kernel
def Q_a28_0 (Z : State)  (h0 : Heap) (v : Option Value) (h : Heap) (L : List Loc) : Prop := v = none ∧ Fr Z.heap.size L ∧ h = h0
theorem rm_a28_0 (l : Launch) (Z : State) (a0 : Array Value) (hw : HW Z a0) (ws : List Jvm.Cond) (cs : Int32) (sv : Value) (GG : GP Z cs sv) (x0 : Int32) (x1 : Int32) (h0 : Heap) (O0 : Ext Z.heap h0) (r0 : ¬ (x1 < x0)) :
    Met FrameEnd l (⟨"java/util/Arrays", "checkLength", "(II)V"⟩ : MethodName) jdk_65_method_131_code 2 none ws ⟨0, 0, 0, 0⟩ Z h0 #[(.int x0), (.int x1)] (Q_a28_0 Z  h0) := by
  refine own_met "java/util/Arrays" (plainFor_of_name pn_28) rfl #[.val (.int x0), .val (.int x1)] (fun _ => by first | (simp [entryFrame, mkF, argsToLocals, Value.category]; done) | rfl) ?_
  intro p e s m below meth c s₁ hx hby hlk hret hml hZ hown hnm X0 e0
  have N0 := Fr.nil Z.heap.size
  refine q_iN X0 hx hby d28_0 rfl ?_
  refine q_iN X0 hx hby d28_1 rfl ?_
  refine q_icY 2 37 X0 hx hby rfl d28_2 (flt r0).2.1 (by decide) (by decide) ?_
  exact Go.retV X0 hx hret hlk (hb hby d28_37) (by decide) (by decide) (by show _ ∧ _ ∧ _; rw [e0]; exact ⟨rfl, N0, rfl⟩)
theorem pd_LIIRV : parseMethodDescriptor "(II)V" = some ⟨[.int, .int], none⟩ := by decide +kernel
theorem d27_5 : decode jdk_65_method_133_code 5 = .ok (.iload_n 2, 1) := by decide +kernel
theorem d27_6 : decode jdk_65_method_133_code 6 = .ok (.iload_n 1, 1) := by decide +kernel
theorem d27_7 : decode jdk_65_method_133_code 7 = .ok (.isub, 1) := by decide +kernel
theorem d27_8 : decode jdk_65_method_133_code 8 = .ok (.istore_n 3, 1) := by decide +kernel
theorem d27_9 : decode jdk_65_method_133_code 9 = .ok (.iload_n 3, 1) := by decide +kernel
theorem d27_10 : decode jdk_65_method_133_code 10 = .ok (.newarray .byte, 2) := by decide +kernel
theorem d27_12 : decode jdk_65_method_133_code 12 = .ok (.astore 4, 2) := by decide +kernel
theorem d27_14 : decode jdk_65_method_133_code 14 = .ok (.aload_n 0, 1) := by decide +kernel
theorem d27_15 : decode jdk_65_method_133_code 15 = .ok (.iload_n 1, 1) := by decide +kernel
theorem d27_16 : decode jdk_65_method_133_code 16 = .ok (.aload 4, 2) := by decide +kernel
theorem d27_18 : decode jdk_65_method_133_code 18 = .ok (.iconst 0, 1) := by decide +kernel
theorem d27_19 : decode jdk_65_method_133_code 19 = .ok (.aload_n 0, 1) := by decide +kernel
theorem d27_20 : decode jdk_65_method_133_code 20 = .ok (.arraylength, 1) := by decide +kernel
theorem d27_21 : decode jdk_65_method_133_code 21 = .ok (.iload_n 1, 1) := by decide +kernel
theorem d27_22 : decode jdk_65_method_133_code 22 = .ok (.isub, 1) := by decide +kernel
theorem d27_23 : decode jdk_65_method_133_code 23 = .ok (.iload_n 3, 1) := by decide +kernel
theorem d27_24 : decode jdk_65_method_133_code 24 = .ok (.invokestatic 304, 3) := by decide +kernel
theorem d15_9 : decode jdk_29_method_69_code 9 = .ok (.iload_n 1, 1) := by decide +kernel
def Q_a15_1 (Z : State) (x1 : Int32) (h0 : Heap) (v : Option Value) (h : Heap) (L : List Loc) : Prop := v = some (.int x1) ∧ Fr Z.heap.size L ∧ h = h0
theorem rm_a15_1 (l : Launch) (Z : State) (a0 : Array Value) (hw : HW Z a0) (ws : List Jvm.Cond) (cs : Int32) (sv : Value) (GG : GP Z cs sv) (x0 : Int32) (x1 : Int32) (h0 : Heap) (O0 : Ext Z.heap h0) (r0 : x1 < x0) :
    Met FrameEnd l (⟨"java/lang/Math", "min", "(II)I"⟩ : MethodName) jdk_29_method_69_code 2 (some .int) ws ⟨0, 0, 0, 0⟩ Z h0 #[(.int x0), (.int x1)] (Q_a15_1 Z x1 h0) := by
  refine own_met "java/lang/Math" (Jvm.Free.JP.mathPlain rfl (by decide +kernel)) rfl #[.val (.int x0), .val (.int x1)] (fun _ => by first | (simp [entryFrame, mkF, argsToLocals, Value.category]; done) | rfl) ?_
  intro p e s m below meth c s₁ hx hby hlk hret hml hZ hown hnm X0 e0
  have N0 := Fr.nil Z.heap.size
  refine q_iN X0 hx hby d15_0 rfl ?_
  refine q_iN X0 hx hby d15_1 rfl ?_
  refine q_icY 2 9 X0 hx hby rfl d15_2 (tlt r0).2.2.1 (by decide) (by decide) ?_
  refine q_iN X0 hx hby d15_9 rfl ?_
  exact Go.retI X0 hx hret hlk (hb hby d15_10) (by decide) (by decide) (by show _ ∧ _ ∧ _; rw [e0]; exact ⟨rfl, N0, rfl⟩)
theorem d27_27 : decode jdk_65_method_133_code 27 = .ok (.invokestatic 150, 3) := by decide +kernel
theorem d27_30 : decode jdk_65_method_133_code 30 = .ok (.aload 4, 2) := by decide +kernel
theorem d27_32 : decode jdk_65_method_133_code 32 = .ok (.areturn, 1) := by decide +kernel
theorem pn_27 : plainName "java/util/Arrays" = true := by first | (simp [plainName, overriddenIn]; done) | decide +kernel
def Q_a27_0 (Z : State) (w2 : Int32) (h0 : Heap) (v : Option Value) (h : Heap) (L : List Loc) : Prop := ∃ (b2 : Addr) (k2 : ClassId), v = some (.ref b2) ∧ Fr Z.heap.size L ∧ Keep h0 h [] ∧ h0.size ≤ b2 ∧ Arv Z h b2 k2 .byte (1 : Int32) [(.int w2)] (.int (0 : Int32))
theorem rm_a27_0 (l : Launch) (Z : State) (a0 : Array Value) (hw : HW Z a0) (ws : List Jvm.Cond) (cs : Int32) (sv : Value) (GG : GP Z cs sv) (x0 : Addr) (kk1 : ClassId) (w2 : Int32) (w3 : Int32) (h0 : Heap) (O0 : Ext Z.heap h0) (r0 : Arv Z h0 x0 kk1 .byte (2 : Int32) [(.int w2), (.int w3)] (.int (0 : Int32))) :
    Met FrameEnd l (⟨"java/util/Arrays", "copyOfRangeByte", "([BII)[B"⟩ : MethodName) jdk_65_method_133_code 5 (some (.array .byte)) ws ⟨1, 1, 1, 18⟩ Z h0 #[(.ref x0), (.int (0 : Int32)), (.int (1 : Int32))] (Q_a27_0 Z w2 h0) := by
  refine own_met "java/util/Arrays" (plainFor_of_name pn_27) rfl #[.val (.ref x0), .val (.int (0 : Int32)), .val (.int (1 : Int32)), .unset, .unset] (fun _ => by first | (simp [entryFrame, mkF, argsToLocals, Value.category]; done) | rfl) ?_
  intro p e s m below meth c s₁ hx hby hlk hret hml hZ hown hnm X0 e0
  have N0 := Fr.nil Z.heap.size
  refine q_iN X0 hx hby d27_0 rfl ?_
  refine q_iN X0 hx hby d27_1 rfl ?_
  refine q_cS [(.int (0 : Int32)), (.int (1 : Int32))] [] 0 X0 hx hZ hown (wd hw 120 rfl) (wd hw 121 rfl) (wd hw 122 rfl) (wd hw 115 rfl) (by decide) e0 (rm_a28_0 l Z a0 hw [] cs sv GG (0 : Int32) (1 : Int32) h0 O0 (by decide)) hby hml rfl d27_2 pd_LIIRV rfl rfl (by decide) (by decide) (by decide) (by decide) ?_
  intro v1 T1 L1 Lc1 X1 hQ1 l1
  obtain ⟨rfl, Nq1, e1⟩ := hQ1
  have N1_ : Fr Z.heap.size L1 := by rw [l1]; exact Fr.app N0 Nq1
  refine q_iN X1 hx hby d27_5 rfl ?_
  refine q_iN X1 hx hby d27_6 rfl ?_
  refine q_isub X1 hx hby d27_7  ?_
  refine q_isN X1 hx hby d27_8 (l' := #[.val (.ref x0), .val (.int (0 : Int32)), .val (.int (1 : Int32)), .val (.int (1 : Int32)), .unset]) rfl ?_
  refine q_iN X1 hx hby d27_9 rfl ?_
  obtain ⟨T2, h2, k2, X2, e2, E2, A2, st2⟩ := newP X1 hx hZ (wd hw 22 rfl) e1 (g := (mkF m 10 #[.val (.ref x0), .val (.int (0 : Int32)), .val (.int (1 : Int32)), .val (.int (1 : Int32)), .unset] [(.int (1 : Int32))])) rfl (hb hby d27_10) rfl (by decide) (cap := 1) (by decide) (by decide) (by decide) (by decide)
  obtain ⟨b2, hb2⟩ : ∃ z, z = h0.size := ⟨_, rfl⟩
  rw [← hb2] at A2 st2
  refine Go.step st2 ?_
  have g_b2 : Z.heap.size ≤ b2 := Nat.le_trans O0.1 (Nat.le_of_eq hb2.symm)
  have O2_ : Ext Z.heap h2 := extTr O0 E2
  have sz_b2 : h0.size ≤ b2 := Nat.le_trans (Keep.refl h0 []).1 (Nat.le_of_eq hb2.symm)
  have K2 := Keep.ext (Keep.refl h0 []) E2
  have V2 : Arv Z h2 b2 k2 .byte (1 : Int32) [(.int (0 : Int32))] (.int (0 : Int32)) := (Arv.new A2 (by decide)).pad (pad_rep [] (.int (0 : Int32)) 1)
  refine q_asL X2 hx hby d27_12 rfl (l' := #[.val (.ref x0), .val (.int (0 : Int32)), .val (.int (1 : Int32)), .val (.int (1 : Int32)), .val (.ref b2)]) rfl ?_
  refine q_aN X2 hx hby d27_14 rfl rfl ?_
  refine q_iN X2 hx hby d27_15 rfl ?_
  refine q_aL X2 hx hby d27_16 rfl rfl ?_
  refine q_iC X2 hx hby d27_18  ?_
  refine q_aN X2 hx hby d27_19 rfl rfl ?_
  obtain ⟨cl3, Ar3, -, S3, N3, -, -⟩ := id (r0.ext E2)
  refine Go.step (X2.arraylength hx (by rw [e2]; exact Ar3.1) (State.isArrayOf_alike hZ.alike Ar3.2.1) (g := (mkF m 20 #[.val (.ref x0), .val (.int (0 : Int32)), .val (.int (1 : Int32)), .val (.int (1 : Int32)), .val (.ref b2)] [(.ref x0), (.int (0 : Int32)), (.ref b2), (.int (0 : Int32)), (.ref x0)])) rfl rfl (hb hby d27_20)) ?_
  rw [len_of S3 N3]
  show Go _ _ _ _ _ _ _ _ T2 (mkF m 21 #[.val (.ref x0), .val (.int (0 : Int32)), .val (.int (1 : Int32)), .val (.int (1 : Int32)), .val (.ref b2)] [(.int (2 : Int32)), (.int (0 : Int32)), (.ref b2), (.int (0 : Int32)), (.ref x0)])
  refine q_iN X2 hx hby d27_21 rfl ?_
  refine q_isub X2 hx hby d27_22  ?_
  refine q_iN X2 hx hby d27_23 rfl ?_
  refine q_cS [(.int (2 : Int32)), (.int (1 : Int32))] [(.int (0 : Int32)), (.ref b2), (.int (0 : Int32)), (.ref x0)] 4 X2 hx hZ hown (wd hw 123 rfl) (wd hw 71 rfl) (wd hw 72 rfl) (wd hw 68 rfl) (by decide) e2 (rm_a15_1 l Z a0 hw [] cs sv GG (2 : Int32) (1 : Int32) h2 O2_ (by decide)) hby hml rfl d27_24 pd_LIIRI rfl rfl (by decide) (by decide) (by decide) (by decide) ?_
  intro v4 T4 L4 Lc4 X4 hQ4 l4
  obtain ⟨rfl, Nq4, e4⟩ := hQ4
  have N4_ : Fr Z.heap.size L4 := by rw [l4]; exact Fr.app N1_ Nq4
  obtain ⟨T5, h5, L5, X5, e5, N5_, K5_, V5_, st5⟩ := cpA X4 hx hZ hown (wd hw 124 rfl) (wd hw 127 rfl) (wd hw 125 rfl) (wd hw 126 rfl) e4 (us := [(.int w2)]) (r0.ext E2) V2 (Or.inl ⟨rfl, rfl⟩) (by decide) (by decide) (by decide) (by decide) (by decide) rfl (by decide) N4_ g_b2 (g := (mkF m 27 #[.val (.ref x0), .val (.int (0 : Int32)), .val (.int (1 : Int32)), .val (.int (1 : Int32)), .val (.ref b2)] [(.int (1 : Int32)), (.int (0 : Int32)), (.ref b2), (.int (0 : Int32)), (.ref x0)])) rfl (by rw [hml]; rfl) rfl (hb hby d27_27) (by decide) (W := 0) (by show 2 * 0 + _ ≤ _; exact Nat.le_of_eq rfl) (by decide)
  refine Go.step st5 ?_
  have V5 : Arv Z h5 b2 k2 .byte (1 : Int32) [(.int w2)] (.int (0 : Int32)) := V5_
  have O5_ : Ext Z.heap h5 := extKeep O2_ K5_ (allS g_b2 all0)
  have K5 := Keep.trans K2 K5_ (allS (Or.inr sz_b2) all0)
  refine q_aL X5 hx hby d27_30 rfl rfl ?_
  exact Go.retA X5 hx hret rfl rfl hlk (hb hby d27_32) (by decide) (by decide) (by show Q_a27_0 ..; rw [e5]; exact ⟨b2, k2, rfl, N5_, K5, sz_b2, V5⟩)
theorem pd_LABIIRAB : parseMethodDescriptor "([BII)[B" = some ⟨[(.array .byte), .int, .int], some (.array .byte)⟩ := by decide +kernel
theorem d26_16 : decode jdk_65_method_132_code 16 = .ok (.areturn, 1) := by decide +kernel
theorem pn_26 : plainName "java/util/Arrays" = true := by first | (simp [plainName, overriddenIn]; done) | decide +kernel
def Q_a26_0 (Z : State) (w2 : Int32) (h0 : Heap) (v : Option Value) (h : Heap) (L : List Loc) : Prop := ∃ (b2q2 : Addr) (k2q2 : ClassId), v = some (.ref b2q2) ∧ Fr Z.heap.size L ∧ Keep h0 h [] ∧ h0.size ≤ b2q2 ∧ Arv Z h b2q2 k2q2 .byte (1 : Int32) [(.int w2)] (.int (0 : Int32))
theorem rm_a26_0 (l : Launch) (Z : State) (a0 : Array Value) (hw : HW Z a0) (ws : List Jvm.Cond) (cs : Int32) (sv : Value) (GG : GP Z cs sv) (x0 : Addr) (kk1 : ClassId) (w2 : Int32) (w3 : Int32) (h0 : Heap) (O0 : Ext Z.heap h0) (r0 : Arv Z h0 x0 kk1 .byte (2 : Int32) [(.int w2), (.int w3)] (.int (0 : Int32))) :
    Met FrameEnd l (⟨"java/util/Arrays", "copyOfRange", "([BII)[B"⟩ : MethodName) jdk_65_method_132_code 3 (some (.array .byte)) ws ⟨2, 1, 1, 34⟩ Z h0 #[(.ref x0), (.int (0 : Int32)), (.int (1 : Int32))] (Q_a26_0 Z w2 h0) := by
  refine own_met "java/util/Arrays" (plainFor_of_name pn_26) rfl #[.val (.ref x0), .val (.int (0 : Int32)), .val (.int (1 : Int32))] (fun _ => by first | (simp [entryFrame, mkF, argsToLocals, Value.category]; done) | rfl) ?_
  intro p e s m below meth c s₁ hx hby hlk hret hml hZ hown hnm X0 e0
  have N0 := Fr.nil Z.heap.size
  refine q_iN X0 hx hby d26_0 rfl ?_
  refine q_ifN X0 hx hby d26_1 ((if0 _ _).trans (teq (by decide : (0 : Int32) = (0 : Int32))).2) ?_
  refine q_iN X0 hx hby d26_4 rfl ?_
  refine q_aN X0 hx hby d26_5 rfl rfl ?_
  obtain ⟨cl1, Ar1, -, S1, N1, -, -⟩ := id r0
  refine Go.step (X0.arraylength hx (by rw [e0]; exact Ar1.1) (State.isArrayOf_alike hZ.alike Ar1.2.1) (g := (mkF m 6 #[.val (.ref x0), .val (.int (0 : Int32)), .val (.int (1 : Int32))] [(.ref x0), (.int (1 : Int32))])) rfl rfl (hb hby d26_6)) ?_
  rw [len_of S1 N1]
  show Go _ _ _ _ _ _ _ _ s₁ (mkF m 7 #[.val (.ref x0), .val (.int (0 : Int32)), .val (.int (1 : Int32))] [(.int (2 : Int32)), (.int (1 : Int32))])
  refine q_icN X0 hx hby d26_7 (feq (by decide : ¬ ((1 : Int32) = (2 : Int32)))).1 ?_
  refine q_aN X0 hx hby d26_10 rfl rfl ?_
  refine q_iN X0 hx hby d26_11 rfl ?_
  refine q_iN X0 hx hby d26_12 rfl ?_
  refine q_cS [(.ref x0), (.int (0 : Int32)), (.int (1 : Int32))] [] 0 X0 hx hZ hown (wd hw 117 rfl) (wd hw 118 rfl) (wd hw 119 rfl) (wd hw 115 rfl) (by decide) e0 (rm_a27_0 l Z a0 hw [] cs sv GG x0 kk1 w2 w3 h0 O0 r0) hby hml rfl d26_13 pd_LABIIRAB rfl rfl (by decide) (by decide) (by decide) (by decide) ?_
  intro v2 T2 L2 Lc2 X2 hQ2 l2
  obtain ⟨b2q2, k2q2, rfl, Nq2, Kq2, p2_0, p2_1⟩ := hQ2
  have O2_ : Ext Z.heap T2.heap := extKeep O0 Kq2 all0
  have K2 := Keep.trans (Keep.refl h0 []) Kq2 all0
  have N2_ : Fr Z.heap.size L2 := by rw [l2]; exact Fr.app N0 Nq2
  have g_b2q2 : Z.heap.size ≤ b2q2 := Nat.le_trans O0.1 p2_0
  have sz_b2q2 : h0.size ≤ b2q2 := Nat.le_trans (Keep.refl h0 []).1 p2_0
  exact Go.retA X2 hx hret rfl rfl hlk (hb hby d26_16) (by decide) (by decide) ⟨b2q2, k2q2, rfl, N2_, K2, sz_b2q2, p2_1⟩
theorem d25_19 : decode jdk_43_method_47_code 19 = .ok (.iconst 0, 1) := by decide +kernel
theorem d25_20 : decode jdk_43_method_47_code 20 = .ok (.invokespecial 112, 3) := by decide +kernel
theorem d29_0 : decode jdk_42_method_151_code 0 = .ok (.aload_n 0, 1) := by decide +kernel
theorem d29_1 : decode jdk_42_method_151_code 1 = .ok (.invokespecial 1, 3) := by decide +kernel
theorem d29_4 : decode jdk_42_method_151_code 4 = .ok (.aload_n 0, 1) := by decide +kernel
theorem d29_5 : decode jdk_42_method_151_code 5 = .ok (.aload_n 1, 1) := by decide +kernel
theorem d29_6 : decode jdk_42_method_151_code 6 = .ok (.putfield 9, 3) := by decide +kernel
theorem d29_9 : decode jdk_42_method_151_code 9 = .ok (.aload_n 0, 1) := by decide +kernel
theorem d29_10 : decode jdk_42_method_151_code 10 = .ok (.iload_n 2, 1) := by decide +kernel
theorem d29_11 : decode jdk_42_method_151_code 11 = .ok (.putfield 15, 3) := by decide +kernel
theorem d29_14 : decode jdk_42_method_151_code 14 = .ok (.return_, 1) := by decide +kernel
theorem pn_29 : plainName "java/lang/String" = true := by first | (simp [plainName, overriddenIn]; done) | decide +kernel
def Q_a29_0 (Z : State) (x0 : Addr) (x1 : Addr) (x2 : Int32) (h0 : Heap) (v : Option Value) (h : Heap) (L : List Loc) : Prop := v = none ∧ Fr Z.heap.size L ∧ Keep h0 h [x0] ∧ fl_0 Z h x0 (.ref x1) ∧ fl_1 Z h x0 (.int (x2.toInt8.toInt32))
theorem rm_a29_0 (l : Launch) (Z : State) (a0 : Array Value) (hw : HW Z a0) (ws : List Jvm.Cond) (cs : Int32) (sv : Value) (GG : GP Z cs sv) (x0 : Addr) (x1 : Addr) (x2 : Int32) (w1 : Int32) (h0 : Heap) (O0 : Ext Z.heap h0) (r0 : Exa Z h0 x0 "java/lang/String") (r1 : fl_0 Z h0 x0 .null) (r2 : Z.heap.size ≤ x0) (r3 : fl_1 Z h0 x0 (.int w1)) :
    Met FrameEnd l (⟨"java/lang/String", "<init>", "([BB)V"⟩ : MethodName) jdk_42_method_151_code 3 none ws ⟨1, 0, 0, 12⟩ Z h0 #[(.ref x0), (.ref x1), (.int x2)] (Q_a29_0 Z x0 x1 x2 h0) := by
  refine own_met "java/lang/String" (plainFor_of_name pn_29) rfl #[.val (.ref x0), .val (.ref x1), .val (.int x2)] (fun _ => by first | (simp [entryFrame, mkF, argsToLocals, Value.category]; done) | rfl) ?_
  intro p e s m below meth c s₁ hx hby hlk hret hml hZ hown hnm X0 e0
  have N0 := Fr.nil Z.heap.size
  refine q_aN X0 hx hby d29_0 rfl rfl ?_
  obtain ⟨T1, X1, e1, st1⟩ := initO X0 hx hZ hown (wd hw 18 rfl) (wd hw 19 rfl) (wd hw 20 rfl) e0 (g := (mkF m 1 #[.val (.ref x0), .val (.ref x1), .val (.int x2)] [(.ref x0)])) rfl (by rw [hml]; rfl) rfl (hb hby d29_1) (by decide) (W := 0) (by show 2 * 0 + _ ≤ _; exact Nat.le_of_eq rfl) (by decide)
  refine Go.step st1 ?_
  refine q_aN X1 hx hby d29_4 rfl rfl ?_
  refine q_aN X1 hx hby d29_5 rfl rfl ?_
  obtain ⟨T2, h2, X2, e2, W2, st2⟩ := putF X1 hx hZ hown (host := "") (Or.inl (wd hw 27 rfl)) Via.refl e1 r1 r0 (Or.inr ⟨(wd hw 23 rfl), rfl, hnm⟩) (wd hw 8 rfl) (ty := (.array .byte)) pf_AB rfl rfl (g := (mkF m 6 #[.val (.ref x0), .val (.ref x1), .val (.int x2)] [(.ref x1), (.ref x0)])) rfl rfl (hb hby d29_6)
  refine Go.step st2 ?_
  have N2_ := Fr.snoc X2 N0 r2
  have O2_ : Ext Z.heap h2 := extWr O0 W2 r2
  have K2 := Keep.wr (Keep.refl h0 [x0]) W2 (Or.inl (List.mem_of_getElem? (i := 0) rfl))
  have F2 := Fld.same W2 r1
  refine q_aN X2 hx hby d29_9 rfl rfl ?_
  refine q_iN X2 hx hby d29_10 rfl ?_
  obtain ⟨T3, h3, X3, e3, W3, st3⟩ := putFN X2 hx hZ hown (wd hw 28 rfl) Via.refl e2 (Fld.other W2 r3 (Or.inr (sn_0 hw))) (Exa.wr W2 r0) (Or.inr ⟨(wd hw 24 rfl), rfl, hnm⟩) (wd hw 8 rfl) (ty := .byte) (v' := (.int (x2.toInt8.toInt32))) pf_B rfl (fits_nar_byte _) (g := (mkF m 11 #[.val (.ref x0), .val (.ref x1), .val (.int x2)] [(.int x2), (.ref x0)])) rfl rfl (hb hby d29_11)
  refine Go.step st3 ?_
  have N3_ := Fr.snoc X3 N2_ r2
  have O3_ : Ext Z.heap h3 := extWr O2_ W3 r2
  have K3 := Keep.wr K2 W3 (Or.inl (List.mem_of_getElem? (i := 0) rfl))
  have F3 := Fld.same W3 (Fld.other W2 r3 (Or.inr (sn_0 hw)))
  have f4 := (Fld.other W3 F2 (Or.inr (Ne.symm (sn_0 hw))))
  exact Go.retV X3 hx hret hlk (hb hby d29_14) (by decide) (by decide) (by show Q_a29_0 ..; rw [e3]; exact ⟨rfl, N3_, K3, f4, F3⟩)
theorem pd_LABBRV : parseMethodDescriptor "([BB)V" = some ⟨[(.array .byte), .byte], none⟩ := by decide +kernel
theorem d25_23 : decode jdk_43_method_47_code 23 = .ok (.areturn, 1) := by decide +kernel
def Q_a25_1 (Z : State) (w2 : Int32) (h0 : Heap) (v : Option Value) (h : Heap) (L : List Loc) : Prop := ∃ (b1 : Addr) (b2q2q2 : Addr) (k2q2q2 : ClassId), v = some (.ref b1) ∧ Fr Z.heap.size L ∧ Keep h0 h [] ∧ h0.size ≤ b1 ∧ Exa Z h b1 "java/lang/String" ∧ fl_0 Z h b1 (.ref b2q2q2) ∧ fl_1 Z h b1 (.int (0 : Int32)) ∧ h0.size ≤ b2q2q2 ∧ Arv Z h b2q2q2 k2q2q2 .byte (1 : Int32) [(.int w2)] (.int (0 : Int32)) ∧ b1 ≠ b2q2q2
theorem rm_a25_1 (l : Launch) (Z : State) (a0 : Array Value) (hw : HW Z a0) (ws : List Jvm.Cond) (cs : Int32) (sv : Value) (GG : GP Z cs sv) (x0 : Addr) (kk1 : ClassId) (w2 : Int32) (w3 : Int32) (h0 : Heap) (O0 : Ext Z.heap h0) (r0 : Arv Z h0 x0 kk1 .byte (2 : Int32) [(.int w2), (.int w3)] (.int (0 : Int32))) :
    Met FrameEnd l (⟨"java/lang/StringLatin1", "newString", "([BII)Ljava/lang/String;"⟩ : MethodName) jdk_43_method_47_code 3 (some (.object "java/lang/String")) ws ⟨3, 2, 5, 50⟩ Z h0 #[(.ref x0), (.int (0 : Int32)), (.int (1 : Int32))] (Q_a25_1 Z w2 h0) := by
  refine own_met "java/lang/StringLatin1" (plainFor_of_name pn_25) rfl #[.val (.ref x0), .val (.int (0 : Int32)), .val (.int (1 : Int32))] (fun _ => by first | (simp [entryFrame, mkF, argsToLocals, Value.category]; done) | rfl) ?_
  intro p e s m below meth c s₁ hx hby hlk hret hml hZ hown hnm X0 e0
  have N0 := Fr.nil Z.heap.size
  refine q_iN X0 hx hby d25_0 rfl ?_
  refine q_ifY 1 7 X0 hx hby rfl d25_1 ((if0 _ _).trans (feq (by decide : ¬ ((1 : Int32) = (0 : Int32)))).2) (by decide) (by decide) ?_
  obtain ⟨T1, h1, X1, e1, E1, A1, D1, U1, st1⟩ := newO X0 hx hZ hown (wd hw 112 rfl) (wd hw 8 rfl) (wd hw 9 rfl) e0 (g := (mkF m 7 #[.val (.ref x0), .val (.int (0 : Int32)), .val (.int (1 : Int32))] [])) rfl (hb hby d25_7) (by decide) (by decide)
  obtain ⟨b1, hb1⟩ : ∃ z, z = h0.size := ⟨_, rfl⟩
  rw [← hb1] at A1 D1 U1 st1
  refine Go.step st1 ?_
  have g_b1 : Z.heap.size ≤ b1 := Nat.le_trans O0.1 (Nat.le_of_eq hb1.symm)
  have O1_ : Ext Z.heap h1 := extTr O0 E1
  have sz_b1 : h0.size ≤ b1 := Nat.le_trans (Keep.refl h0 []).1 (Nat.le_of_eq hb1.symm)
  have K1 := Keep.ext (Keep.refl h0 []) E1
  have F1_value : fl_0 Z h1 b1 .null := D1 (Or.inr (wd hw 23 rfl)) (ty := (.array .byte)) pf_AB
  have F1_coder : fl_1 Z h1 b1 (.int (0 : Int32)) := D1 (Or.inr (wd hw 24 rfl)) (ty := .byte) pf_B
  refine q_dup X1 hx hby d25_10 rfl ?_
  refine q_aN X1 hx hby d25_11 rfl rfl ?_
  refine q_iN X1 hx hby d25_12 rfl ?_
  refine q_iN X1 hx hby d25_13 rfl ?_
  refine q_iN X1 hx hby d25_14 rfl ?_
  refine q_iadd X1 hx hby d25_15  ?_
  refine q_cS [(.ref x0), (.int (0 : Int32)), (.int (1 : Int32))] [(.ref b1), (.ref b1)] 2 X1 hx hZ hown (wd hw 113 rfl) (wd hw 114 rfl) (wd hw 116 rfl) (wd hw 115 rfl) (by decide) e1 (rm_a26_0 l Z a0 hw [] cs sv GG x0 kk1 w2 w3 h1 O1_ (r0.ext E1)) hby hml rfl d25_16 pd_LABIIRAB rfl rfl (by decide) (by decide) (by decide) (by decide) ?_
  intro v2 T2 L2 Lc2 X2 hQ2 l2
  obtain ⟨b2q2q2, k2q2q2, rfl, Nq2, Kq2, p2_0, p2_1⟩ := hQ2
  have O2_ : Ext Z.heap T2.heap := extKeep O1_ Kq2 all0
  have K2 := Keep.trans K1 Kq2 all0
  have N2_ : Fr Z.heap.size L2 := by rw [l2]; exact Fr.app N0 Nq2
  have g_b2q2q2 : Z.heap.size ≤ b2q2q2 := Nat.le_trans O1_.1 p2_0
  have sz_b2q2q2 : h0.size ≤ b2q2q2 := Nat.le_trans K1.1 p2_0
  refine q_iC X2 hx hby d25_19  ?_
  refine q_cN [(.ref b2q2q2), (.int (0 : Int32))] [(.ref b1)] 1 X2 hx hZ hown rfl (wd hw 128 rfl) (wd hw 129 rfl) (wd hw 130 rfl) (wd hw 9 rfl) (by decide) rfl (rm_a29_0 l Z a0 hw [] cs sv GG b1 b2q2q2 (0 : Int32) (0 : Int32) T2.heap O2_ (A1.keep Kq2) (F1_value.keep Kq2 nin0) g_b1 (F1_coder.keep Kq2 nin0)) hby hml rfl d25_20 pd_LABBRV rfl rfl (by decide) (by decide) (by decide) (by decide) ?_
  intro v3 T3 L3 Lc3 X3 hQ3 l3
  obtain ⟨rfl, Nq3, Kq3, p3_0, p3_1⟩ := hQ3
  have O3_ : Ext Z.heap T3.heap := extKeep O2_ Kq3 (allS g_b1 all0)
  have K3 := Keep.trans K2 Kq3 (allS (Or.inr sz_b1) all0)
  have N3_ : Fr Z.heap.size L3 := by rw [l3]; exact Fr.app N2_ Nq3
  have f4 := (p2_1.keep Kq3 (ninS (Ne.symm (Nat.ne_of_lt (Nat.lt_of_lt_of_le A1.lt p2_0))) nin0))
  exact Go.retA X3 hx hret rfl rfl hlk (hb hby d25_23) (by decide) (by decide) ⟨b1, b2q2q2, k2q2q2, rfl, N3_, K3, sz_b1, ((A1.keep Kq2).keep Kq3), p3_0, p3_1, sz_b2q2q2, f4, (Nat.ne_of_lt (Nat.lt_of_lt_of_le A1.lt p2_0))⟩
def Q_a22_2 (Z : State) (w3 : Int32) (h0 : Heap) (v : Option Value) (h : Heap) (L : List Loc) : Prop := ∃ (b1q5 : Addr) (b2q2q2q5 : Addr) (k2q2q2q5 : ClassId), v = some (.ref b1q5) ∧ Fr Z.heap.size L ∧ Keep h0 h [] ∧ h0.size ≤ b1q5 ∧ Exa Z h b1q5 "java/lang/String" ∧ fl_0 Z h b1q5 (.ref b2q2q2q5) ∧ fl_1 Z h b1q5 (.int (0 : Int32)) ∧ h0.size ≤ b2q2q2q5 ∧ Arv Z h b2q2q2q5 k2q2q2q5 .byte (1 : Int32) [(.int w3)] (.int (0 : Int32)) ∧ b1q5 ≠ b2q2q2q5
theorem rm_a22_2 (l : Launch) (Z : State) (a0 : Array Value) (hw : HW Z a0) (ws : List Jvm.Cond) (cs : Int32) (sv : Value) (GG : GP Z cs sv) (x0 : Addr) (w1 : Addr) (kk2 : ClassId) (w3 : Int32) (w4 : Int32) (h0 : Heap) (O0 : Ext Z.heap h0) (r0 : Exa Z h0 x0 "java/lang/String") (r1 : fl_0 Z h0 x0 (.ref w1)) (r2 : Arv Z h0 w1 kk2 .byte (2 : Int32) [(.int w3), (.int w4)] (.int (0 : Int32))) (r3 : fl_1 Z h0 x0 (.int (0 : Int32))) :
    Met FrameEnd l (⟨"java/lang/String", "substring", "(II)Ljava/lang/String;"⟩ : MethodName) jdk_42_method_92_code 5 (some (.object "java/lang/String")) ws ⟨4, 2, 5, 64⟩ Z h0 #[(.ref x0), (.int (0 : Int32)), (.int (1 : Int32))] (Q_a22_2 Z w3 h0) := by
  refine own_met "java/lang/String" (plainFor_of_name pn_22) rfl #[.val (.ref x0), .val (.int (0 : Int32)), .val (.int (1 : Int32)), .unset, .unset] (fun _ => by first | (simp [entryFrame, mkF, argsToLocals, Value.category]; done) | rfl) ?_
  intro p e s m below meth c s₁ hx hby hlk hret hml hZ hown hnm X0 e0
  have N0 := Fr.nil Z.heap.size
  refine q_aN X0 hx hby d22_0 rfl rfl ?_
  refine q_cV [] [] 0 X0 hx hZ hown (wd hw 49 rfl) (wd hw 50 rfl) (wd hw 52 rfl) (wd hw 51 rfl) (wd hw 53 rfl) (wd hw 9 rfl) (by decide) e0 r0 (rm_a10_2 l Z a0 hw [] cs sv GG x0 w1 kk2 w3 w4 (0 : Int32) h0 O0 r1 r2 r0 r3) hby hml rfl d22_1 pd_LRI rfl rfl (by decide) (by decide) (by decide) (by decide) ?_
  intro v1 T1 L1 Lc1 X1 hQ1 l1
  obtain ⟨rfl, Nq1, e1⟩ := hQ1
  have N1_ : Fr Z.heap.size L1 := by rw [l1]; exact Fr.app N0 Nq1
  refine q_isN X1 hx hby d22_4 (l' := #[.val (.ref x0), .val (.int (0 : Int32)), .val (.int (1 : Int32)), .val (.int (2 : Int32)), .unset]) rfl ?_
  refine q_iN X1 hx hby d22_5 rfl ?_
  refine q_iN X1 hx hby d22_6 rfl ?_
  refine q_iN X1 hx hby d22_7 rfl ?_
  refine q_cS [(.int (0 : Int32)), (.int (1 : Int32)), (.int (2 : Int32))] [] 0 X1 hx hZ hown (wd hw 100 rfl) (wd hw 101 rfl) (wd hw 102 rfl) (wd hw 9 rfl) (by decide) e1 (rm_cb l Z a0 hw [] cs sv GG (0 : Int32) (1 : Int32) (2 : Int32) h0 O0 (by decide) (by decide) (by decide)) hby hml rfl d22_8 pd_LIIIRV rfl rfl (by decide) (by decide) (by decide) (by decide) ?_
  intro v2 T2 L2 Lc2 X2 hQ2 l2
  obtain ⟨rfl, Nq2, e2⟩ := hQ2
  have N2_ : Fr Z.heap.size L2 := by rw [l2]; exact Fr.app N1_ Nq2
  refine q_iN X2 hx hby d22_11 rfl ?_
  refine q_ifN X2 hx hby d22_12 ((if0 _ _).trans (teq (by decide : (0 : Int32) = (0 : Int32))).2) ?_
  refine q_iN X2 hx hby d22_15 rfl ?_
  refine q_iN X2 hx hby d22_16 rfl ?_
  show Go _ _ _ _ _ _ _ _ T2 (mkF m 17 #[.val (.ref x0), .val (.int (0 : Int32)), .val (.int (1 : Int32)), .val (.int (2 : Int32)), .unset] [(.int (2 : Int32)), (.int (1 : Int32))])
  refine q_icY 17 22 X2 hx hby rfl d22_17 (feq (by decide : ¬ ((1 : Int32) = (2 : Int32)))).2 (by decide) (by decide) ?_
  refine q_iN X2 hx hby d22_22 rfl ?_
  refine q_iN X2 hx hby d22_23 rfl ?_
  refine q_isub X2 hx hby d22_24  ?_
  refine q_isL X2 hx hby d22_25 (l' := #[.val (.ref x0), .val (.int (0 : Int32)), .val (.int (1 : Int32)), .val (.int (2 : Int32)), .val (.int (1 : Int32))]) rfl ?_
  refine q_aN X2 hx hby d22_27 rfl rfl ?_
  refine q_cV [] [] 0 X2 hx hZ hown (wd hw 43 rfl) (wd hw 44 rfl) (wd hw 46 rfl) (wd hw 45 rfl) (wd hw 47 rfl) (wd hw 9 rfl) (by decide) e2 r0 (rm_a9_0 l Z a0 hw [] cs sv GG x0 (0 : Int32) h0 O0 r3 (by decide)) hby hml rfl d22_28 pd_LRZ rfl rfl (by decide) (by decide) (by decide) (by decide) ?_
  intro v3 T3 L3 Lc3 X3 hQ3 l3
  obtain ⟨rfl, Nq3, e3⟩ := hQ3
  have N3_ : Fr Z.heap.size L3 := by rw [l3]; exact Fr.app N2_ Nq3
  refine q_ifN X3 hx hby d22_31 ((if0 _ _).trans (feq (by decide : ¬ ((1 : Int32) = (0 : Int32)))).1) ?_
  refine q_aN X3 hx hby d22_34 rfl rfl ?_
  refine q_gF X3 hx hZ hown (wd hw 27 rfl) e3 r1 hby d22_35 ?_
  intro T4 X4 e4
  refine q_iN X4 hx hby d22_38 rfl ?_
  show Go _ _ _ _ _ _ _ _ T4 (mkF m 39 #[.val (.ref x0), .val (.int (0 : Int32)), .val (.int (1 : Int32)), .val (.int (2 : Int32)), .val (.int (1 : Int32))] [(.int (0 : Int32)), (.ref w1)])
  refine q_iL X4 hx hby d22_39 rfl ?_
  refine q_cS [(.ref w1), (.int (0 : Int32)), (.int (1 : Int32))] [] 0 X4 hx hZ hown (wd hw 108 rfl) (wd hw 109 rfl) (wd hw 110 rfl) (wd hw 61 rfl) (by decide) e4 (rm_a25_1 l Z a0 hw [] cs sv GG w1 kk2 w3 w4 h0 O0 r2) hby hml rfl d22_41 pd_LABIIRLjava_lang_String_ rfl rfl (by decide) (by decide) (by decide) (by decide) ?_
  intro v5 T5 L5 Lc5 X5 hQ5 l5
  obtain ⟨b1q5, b2q2q2q5, k2q2q2q5, rfl, Nq5, Kq5, p5_0, p5_1, p5_2, p5_3, p5_4, p5_5, p5_6⟩ := hQ5
  have O5_ : Ext Z.heap T5.heap := extKeep O0 Kq5 all0
  have K5 := Keep.trans (Keep.refl h0 []) Kq5 all0
  have N5_ : Fr Z.heap.size L5 := by rw [l5]; exact Fr.app N3_ Nq5
  have g_b1q5 : Z.heap.size ≤ b1q5 := Nat.le_trans O0.1 p5_0
  have sz_b1q5 : h0.size ≤ b1q5 := Nat.le_trans (Keep.refl h0 []).1 p5_0
  have g_b2q2q2q5 : Z.heap.size ≤ b2q2q2q5 := Nat.le_trans O0.1 p5_4
  have sz_b2q2q2q5 : h0.size ≤ b2q2q2q5 := Nat.le_trans (Keep.refl h0 []).1 p5_4
  refine q_go 44 57 X5 hx hby rfl d22_44 (by decide) (by decide) ?_
  exact Go.retA X5 hx hret rfl rfl hlk (hb hby d22_57) (by decide) (by decide) ⟨b1q5, b2q2q2q5, k2q2q2q5, rfl, N5_, K5, sz_b1q5, p5_1, p5_2, p5_3, sz_b2q2q2q5, p5_5, p5_6⟩
def Q_a6_4 (Z : State) (w3 : Int32) (h0 : Heap) (v : Option Value) (h : Heap) (L : List Loc) : Prop := ∃ (b1q5q2 : Addr) (b2q2q2q5q2 : Addr) (k2q2q2q5q2 : ClassId), v = some (.ref b1q5q2) ∧ Fr Z.heap.size L ∧ Keep h0 h [] ∧ h0.size ≤ b1q5q2 ∧ Exa Z h b1q5q2 "java/lang/String" ∧ fl_0 Z h b1q5q2 (.ref b2q2q2q5q2) ∧ fl_1 Z h b1q5q2 (.int (0 : Int32)) ∧ h0.size ≤ b2q2q2q5q2 ∧ Arv Z h b2q2q2q5q2 k2q2q2q5q2 .byte (1 : Int32) [(.int w3)] (.int (0 : Int32)) ∧ b1q5q2 ≠ b2q2q2q5q2
theorem rm_a6_4 (l : Launch) (Z : State) (a0 : Array Value) (hw : HW Z a0) (ws : List Jvm.Cond) (cs : Int32) (sv : Value) (GG : GP Z cs sv) (x0 : Addr) (w1 : Addr) (kk2 : ClassId) (w3 : Int32) (w4 : Int32) (h0 : Heap) (O0 : Ext Z.heap h0) (r0 : Exa Z h0 x0 "java/lang/String") (r1 : fl_1 Z h0 x0 (.int (0 : Int32))) (r2 : fl_0 Z h0 x0 (.ref w1)) (r3 : Arv Z h0 w1 kk2 .byte (2 : Int32) [(.int w3), (.int w4)] (.int (0 : Int32))) (r4 : (ix2 w3 w4 ((47 : Int32).toInt8.toInt32)) = (1 : Int32)) :
    Met FrameEnd l (⟨"com/example/wary_lock/warylock/LockName", "root", "(Ljava/lang/String;)Ljava/lang/String;"⟩ : MethodName) prog_10_method_3_code 2 (some (.object "java/lang/String")) ws ⟨5, 2, 5, 80⟩ Z h0 #[(.ref x0)] (Q_a6_4 Z w3 h0) := by
  refine own_met "com/example/wary_lock/warylock/LockName" (plainFor_of_name pn_6) rfl #[.val (.ref x0), .unset] (fun _ => by first | (simp [entryFrame, mkF, argsToLocals, Value.category]; done) | rfl) ?_
  intro p e s m below meth c s₁ hx hby hlk hret hml hZ hown hnm X0 e0
  have N0 := Fr.nil Z.heap.size
  refine q_aN X0 hx hby d6_0 rfl rfl ?_
  refine q_bP X0 hx hby d6_1  ?_
  refine q_cV [(.int (47 : Int32))] [] 0 X0 hx hZ hown (wd hw 33 rfl) (wd hw 34 rfl) (wd hw 36 rfl) (wd hw 35 rfl) (wd hw 37 rfl) (wd hw 9 rfl) (by decide) e0 r0 (rm_a7_2 l Z a0 hw [] cs sv GG x0 w1 kk2 w3 w4 h0 O0 r0 r1 r2 r3) hby hml rfl d6_3 pd_LIRI rfl rfl (by decide) (by decide) (by decide) (by decide) ?_
  intro v1 T1 L1 Lc1 X1 hQ1 l1
  obtain ⟨rfl, Nq1, e1⟩ := hQ1
  have N1_ : Fr Z.heap.size L1 := by rw [l1]; exact Fr.app N0 Nq1
  show Go _ _ _ _ _ _ _ _ T1 (mkF m 6 #[.val (.ref x0), .unset] [(.int (ix2 w3 w4 ((47 : Int32).toInt8.toInt32)))])
  rw [r4]
  show Go _ _ _ _ _ _ _ _ T1 (mkF m 6 #[.val (.ref x0), .unset] [(.int (1 : Int32))])
  refine q_isN X1 hx hby d6_6 (l' := #[.val (.ref x0), .val (.int (1 : Int32))]) rfl ?_
  refine q_iN X1 hx hby d6_7 rfl ?_
  refine q_ifY 8 15 X1 hx hby rfl d6_8 ((if0 _ _).trans (flt (by decide : ¬ ((1 : Int32) < (0 : Int32)))).2.1) (by decide) (by decide) ?_
  refine q_aN X1 hx hby d6_15 rfl rfl ?_
  refine q_iC X1 hx hby d6_16  ?_
  refine q_iN X1 hx hby d6_17 rfl ?_
  refine q_cV [(.int (0 : Int32)), (.int (1 : Int32))] [] 0 X1 hx hZ hown (wd hw 95 rfl) (wd hw 96 rfl) (wd hw 98 rfl) (wd hw 97 rfl) (wd hw 99 rfl) (wd hw 9 rfl) (by decide) e1 r0 (rm_a22_2 l Z a0 hw [] cs sv GG x0 w1 kk2 w3 w4 h0 O0 r0 r2 r3 r1) hby hml rfl d6_18 pd_LIIRLjava_lang_String_ rfl rfl (by decide) (by decide) (by decide) (by decide) ?_
  intro v2 T2 L2 Lc2 X2 hQ2 l2
  obtain ⟨b1q5q2, b2q2q2q5q2, k2q2q2q5q2, rfl, Nq2, Kq2, p2_0, p2_1, p2_2, p2_3, p2_4, p2_5, p2_6⟩ := hQ2
  have O2_ : Ext Z.heap T2.heap := extKeep O0 Kq2 all0
  have K2 := Keep.trans (Keep.refl h0 []) Kq2 all0
  have N2_ : Fr Z.heap.size L2 := by rw [l2]; exact Fr.app N1_ Nq2
  have g_b1q5q2 : Z.heap.size ≤ b1q5q2 := Nat.le_trans O0.1 p2_0
  have sz_b1q5q2 : h0.size ≤ b1q5q2 := Nat.le_trans (Keep.refl h0 []).1 p2_0
  have g_b2q2q2q5q2 : Z.heap.size ≤ b2q2q2q5q2 := Nat.le_trans O0.1 p2_4
  have sz_b2q2q2q5q2 : h0.size ≤ b2q2q2q5q2 := Nat.le_trans (Keep.refl h0 []).1 p2_4
  exact Go.retA X2 hx hret rfl rfl hlk (hb hby d6_21) (by decide) (by decide) ⟨b1q5q2, b2q2q2q5q2, k2q2q2q5q2, rfl, N2_, K2, sz_b1q5q2, p2_1, p2_2, p2_3, sz_b2q2q2q5q2, p2_5, p2_6⟩
def Q_a6_5 (Z : State) (x0 : Addr) (h0 : Heap) (v : Option Value) (h : Heap) (L : List Loc) : Prop := v = some (.ref x0) ∧ Fr Z.heap.size L ∧ h = h0
theorem rm_a6_5 (l : Launch) (Z : State) (a0 : Array Value) (hw : HW Z a0) (ws : List Jvm.Cond) (cs : Int32) (sv : Value) (GG : GP Z cs sv) (x0 : Addr) (w1 : Addr) (kk2 : ClassId) (w3 : Int32) (w4 : Int32) (h0 : Heap) (O0 : Ext Z.heap h0) (r0 : Exa Z h0 x0 "java/lang/String") (r1 : fl_1 Z h0 x0 (.int (0 : Int32))) (r2 : fl_0 Z h0 x0 (.ref w1)) (r3 : Arv Z h0 w1 kk2 .byte (2 : Int32) [(.int w3), (.int w4)] (.int (0 : Int32))) (r4 : (ix2 w3 w4 ((47 : Int32).toInt8.toInt32)) = (-1 : Int32)) :
    Met FrameEnd l (⟨"com/example/wary_lock/warylock/LockName", "root", "(Ljava/lang/String;)Ljava/lang/String;"⟩ : MethodName) prog_10_method_3_code 2 (some (.object "java/lang/String")) ws ⟨4, 0, 0, 59⟩ Z h0 #[(.ref x0)] (Q_a6_5 Z x0 h0) := by
  refine own_met "com/example/wary_lock/warylock/LockName" (plainFor_of_name pn_6) rfl #[.val (.ref x0), .unset] (fun _ => by first | (simp [entryFrame, mkF, argsToLocals, Value.category]; done) | rfl) ?_
  intro p e s m below meth c s₁ hx hby hlk hret hml hZ hown hnm X0 e0
  have N0 := Fr.nil Z.heap.size
  refine q_aN X0 hx hby d6_0 rfl rfl ?_
  refine q_bP X0 hx hby d6_1  ?_
  refine q_cV [(.int (47 : Int32))] [] 0 X0 hx hZ hown (wd hw 33 rfl) (wd hw 34 rfl) (wd hw 36 rfl) (wd hw 35 rfl) (wd hw 37 rfl) (wd hw 9 rfl) (by decide) e0 r0 (rm_a7_2 l Z a0 hw [] cs sv GG x0 w1 kk2 w3 w4 h0 O0 r0 r1 r2 r3) hby hml rfl d6_3 pd_LIRI rfl rfl (by decide) (by decide) (by decide) (by decide) ?_
  intro v1 T1 L1 Lc1 X1 hQ1 l1
  obtain ⟨rfl, Nq1, e1⟩ := hQ1
  have N1_ : Fr Z.heap.size L1 := by rw [l1]; exact Fr.app N0 Nq1
  show Go _ _ _ _ _ _ _ _ T1 (mkF m 6 #[.val (.ref x0), .unset] [(.int (ix2 w3 w4 ((47 : Int32).toInt8.toInt32)))])
  rw [r4]
  show Go _ _ _ _ _ _ _ _ T1 (mkF m 6 #[.val (.ref x0), .unset] [(.int (-1 : Int32))])
  refine q_isN X1 hx hby d6_6 (l' := #[.val (.ref x0), .val (.int (-1 : Int32))]) rfl ?_
  refine q_iN X1 hx hby d6_7 rfl ?_
  refine q_ifN X1 hx hby d6_8 ((if0 _ _).trans (tlt (by decide : (-1 : Int32) < (0 : Int32))).2.1) ?_
  refine q_aN X1 hx hby d6_11 rfl rfl ?_
  refine q_go 12 21 X1 hx hby rfl d6_12 (by decide) (by decide) ?_
  exact Go.retA X1 hx hret rfl rfl hlk (hb hby d6_21) (by decide) (by decide) (by show _ ∧ _ ∧ _; rw [e1]; exact ⟨rfl, N1_, rfl⟩)
def Q_a17_2 (Z : State)  (h0 : Heap) (v : Option Value) (h : Heap) (L : List Loc) : Prop := v = some (.int (1 : Int32)) ∧ Fr Z.heap.size L ∧ h = h0
theorem rm_a17_2 (l : Launch) (Z : State) (a0 : Array Value) (hw : HW Z a0) (ws : List Jvm.Cond) (cs : Int32) (sv : Value) (GG : GP Z cs sv) (x0 : Addr) (x1 : Addr) (kk1 : ClassId) (w2 : Int32) (w3 : Int32) (kk4 : ClassId) (h0 : Heap) (O0 : Ext Z.heap h0) (r0 : Arv Z h0 x0 kk1 .byte (2 : Int32) [(.int w2), (.int w3)] (.int (0 : Int32))) (r1 : Arv Z h0 x1 kk4 .byte (2 : Int32) [(.int w2), (.int w3)] (.int (0 : Int32))) :
    Met FrameEnd l (⟨"java/lang/StringLatin1", "equals", "([B[B)Z"⟩ : MethodName) jdk_43_method_13_code 3 (some .boolean) ws ⟨0, 0, 0, 0⟩ Z h0 #[(.ref x0), (.ref x1)] (Q_a17_2 Z  h0) := by
  refine own_met "java/lang/StringLatin1" (plainFor_of_name pn_17) rfl #[.val (.ref x0), .val (.ref x1), .unset] (fun _ => by first | (simp [entryFrame, mkF, argsToLocals, Value.category]; done) | rfl) ?_
  intro p e s m below meth c s₁ hx hby hlk hret hml hZ hown hnm X0 e0
  have N0 := Fr.nil Z.heap.size
  refine q_aN X0 hx hby d17_0 rfl rfl ?_
  obtain ⟨cl1, Ar1, -, S1, N1, -, -⟩ := id r0
  refine Go.step (X0.arraylength hx (by rw [e0]; exact Ar1.1) (State.isArrayOf_alike hZ.alike Ar1.2.1) (g := (mkF m 1 #[.val (.ref x0), .val (.ref x1), .unset] [(.ref x0)])) rfl rfl (hb hby d17_1)) ?_
  rw [len_of S1 N1]
  show Go _ _ _ _ _ _ _ _ s₁ (mkF m 2 #[.val (.ref x0), .val (.ref x1), .unset] [(.int (2 : Int32))])
  refine q_aN X0 hx hby d17_2 rfl rfl ?_
  obtain ⟨cl2, Ar2, -, S2, N2, -, -⟩ := id r1
  refine Go.step (X0.arraylength hx (by rw [e0]; exact Ar2.1) (State.isArrayOf_alike hZ.alike Ar2.2.1) (g := (mkF m 3 #[.val (.ref x0), .val (.ref x1), .unset] [(.ref x1), (.int (2 : Int32))])) rfl rfl (hb hby d17_3)) ?_
  rw [len_of S2 N2]
  show Go _ _ _ _ _ _ _ _ s₁ (mkF m 4 #[.val (.ref x0), .val (.ref x1), .unset] [(.int (2 : Int32)), (.int (2 : Int32))])
  refine q_icN X0 hx hby d17_4 (teq (by decide : (2 : Int32) = (2 : Int32))).2 ?_
  refine q_iC X0 hx hby d17_7  ?_
  refine q_isN X0 hx hby d17_8 (l' := #[.val (.ref x0), .val (.ref x1), .val (.int (0 : Int32))]) rfl ?_
  refine q_iN X0 hx hby d17_9 rfl ?_
  refine q_aN X0 hx hby d17_10 rfl rfl ?_
  obtain ⟨cl3, Ar3, -, S3, N3, -, -⟩ := id r0
  refine Go.step (X0.arraylength hx (by rw [e0]; exact Ar3.1) (State.isArrayOf_alike hZ.alike Ar3.2.1) (g := (mkF m 11 #[.val (.ref x0), .val (.ref x1), .val (.int (0 : Int32))] [(.ref x0), (.int (0 : Int32))])) rfl rfl (hb hby d17_11)) ?_
  rw [len_of S3 N3]
  show Go _ _ _ _ _ _ _ _ s₁ (mkF m 12 #[.val (.ref x0), .val (.ref x1), .val (.int (0 : Int32))] [(.int (2 : Int32)), (.int (0 : Int32))])
  refine q_icN X0 hx hby d17_12 (tlt (by decide : (0 : Int32) < (2 : Int32))).2.1 ?_
  refine q_aN X0 hx hby d17_15 rfl rfl ?_
  refine q_iN X0 hx hby d17_16 rfl ?_
  obtain ⟨cl4, Ar4, q4, S4, N4, H4, G4⟩ := id r0
  have hin4 : ¬ ((0 : Int32) < 0 ∨ cl4.slots.size ≤ ((0 : Int32)).toNatClampNeg) := inb_of S4 ⟨by decide, by decide⟩
  refine Go.step (X0.baloadBytes hx (j := (0 : Int32)) (v := (.int w2)) (by rw [e0]; exact Ar4.1) (State.isArrayOf_alike hZ.alike Ar4.2.1) Ar4.2.2 hin4 (Has.at H4 hin4 rfl) (g := (mkF m 17 #[.val (.ref x0), .val (.ref x1), .val (.int (0 : Int32))] [(.int (0 : Int32)), (.ref x0)])) rfl rfl (hb hby d17_17)) ?_
  refine q_aN X0 hx hby d17_18 rfl rfl ?_
  refine q_iN X0 hx hby d17_19 rfl ?_
  obtain ⟨cl5, Ar5, q5, S5, N5, H5, G5⟩ := id r1
  have hin5 : ¬ ((0 : Int32) < 0 ∨ cl5.slots.size ≤ ((0 : Int32)).toNatClampNeg) := inb_of S5 ⟨by decide, by decide⟩
  refine Go.step (X0.baloadBytes hx (j := (0 : Int32)) (v := (.int w2)) (by rw [e0]; exact Ar5.1) (State.isArrayOf_alike hZ.alike Ar5.2.1) Ar5.2.2 hin5 (Has.at H5 hin5 rfl) (g := (mkF m 20 #[.val (.ref x0), .val (.ref x1), .val (.int (0 : Int32))] [(.int (0 : Int32)), (.ref x1), (.int w2)])) rfl rfl (hb hby d17_20)) ?_
  refine q_icY 21 26 X0 hx hby rfl d17_21 (teq (rfl : w2 = w2)).1 (by decide) (by decide) ?_
  refine q_inc X0 hx hby d17_26 rfl (l' := #[.val (.ref x0), .val (.ref x1), .val (.int (1 : Int32))]) rfl ?_
  refine q_go 29 9 X0 hx hby rfl d17_29 (by decide) (by decide) ?_
  refine q_iN X0 hx hby d17_9 rfl ?_
  refine q_aN X0 hx hby d17_10 rfl rfl ?_
  obtain ⟨cl6, Ar6, -, S6, N6, -, -⟩ := id r0
  refine Go.step (X0.arraylength hx (by rw [e0]; exact Ar6.1) (State.isArrayOf_alike hZ.alike Ar6.2.1) (g := (mkF m 11 #[.val (.ref x0), .val (.ref x1), .val (.int (1 : Int32))] [(.ref x0), (.int (1 : Int32))])) rfl rfl (hb hby d17_11)) ?_
  rw [len_of S6 N6]
  show Go _ _ _ _ _ _ _ _ s₁ (mkF m 12 #[.val (.ref x0), .val (.ref x1), .val (.int (1 : Int32))] [(.int (2 : Int32)), (.int (1 : Int32))])
  refine q_icN X0 hx hby d17_12 (tlt (by decide : (1 : Int32) < (2 : Int32))).2.1 ?_
  refine q_aN X0 hx hby d17_15 rfl rfl ?_
  refine q_iN X0 hx hby d17_16 rfl ?_
  obtain ⟨cl7, Ar7, q7, S7, N7, H7, G7⟩ := id r0
  have hin7 : ¬ ((1 : Int32) < 0 ∨ cl7.slots.size ≤ ((1 : Int32)).toNatClampNeg) := inb_of S7 ⟨by decide, by decide⟩
  refine Go.step (X0.baloadBytes hx (j := (1 : Int32)) (v := (.int w3)) (by rw [e0]; exact Ar7.1) (State.isArrayOf_alike hZ.alike Ar7.2.1) Ar7.2.2 hin7 (Has.at H7 hin7 rfl) (g := (mkF m 17 #[.val (.ref x0), .val (.ref x1), .val (.int (1 : Int32))] [(.int (1 : Int32)), (.ref x0)])) rfl rfl (hb hby d17_17)) ?_
  refine q_aN X0 hx hby d17_18 rfl rfl ?_
  refine q_iN X0 hx hby d17_19 rfl ?_
  obtain ⟨cl8, Ar8, q8, S8, N8, H8, G8⟩ := id r1
  have hin8 : ¬ ((1 : Int32) < 0 ∨ cl8.slots.size ≤ ((1 : Int32)).toNatClampNeg) := inb_of S8 ⟨by decide, by decide⟩
  refine Go.step (X0.baloadBytes hx (j := (1 : Int32)) (v := (.int w3)) (by rw [e0]; exact Ar8.1) (State.isArrayOf_alike hZ.alike Ar8.2.1) Ar8.2.2 hin8 (Has.at H8 hin8 rfl) (g := (mkF m 20 #[.val (.ref x0), .val (.ref x1), .val (.int (1 : Int32))] [(.int (1 : Int32)), (.ref x1), (.int w3)])) rfl rfl (hb hby d17_20)) ?_
  refine q_icY 21 26 X0 hx hby rfl d17_21 (teq (rfl : w3 = w3)).1 (by decide) (by decide) ?_
  refine q_inc X0 hx hby d17_26 rfl (l' := #[.val (.ref x0), .val (.ref x1), .val (.int (2 : Int32))]) rfl ?_
  refine q_go 29 9 X0 hx hby rfl d17_29 (by decide) (by decide) ?_
  refine q_iN X0 hx hby d17_9 rfl ?_
  refine q_aN X0 hx hby d17_10 rfl rfl ?_
  obtain ⟨cl9, Ar9, -, S9, N9, -, -⟩ := id r0
  refine Go.step (X0.arraylength hx (by rw [e0]; exact Ar9.1) (State.isArrayOf_alike hZ.alike Ar9.2.1) (g := (mkF m 11 #[.val (.ref x0), .val (.ref x1), .val (.int (2 : Int32))] [(.ref x0), (.int (2 : Int32))])) rfl rfl (hb hby d17_11)) ?_
  rw [len_of S9 N9]
  show Go _ _ _ _ _ _ _ _ s₁ (mkF m 12 #[.val (.ref x0), .val (.ref x1), .val (.int (2 : Int32))] [(.int (2 : Int32)), (.int (2 : Int32))])
  refine q_icY 12 32 X0 hx hby rfl d17_12 (flt (by decide : ¬ ((2 : Int32) < (2 : Int32)))).2.1 (by decide) (by decide) ?_
  refine q_iC X0 hx hby d17_32  ?_
  exact Go.retN X0 hx (t := .boolean) hret (by simp) hlk (hb hby d17_33) (by decide) (by decide) (by show _ ∧ _ ∧ _; rw [e0]; exact ⟨rfl, N0, rfl⟩)
def Q_a16_3 (Z : State)  (h0 : Heap) (v : Option Value) (h : Heap) (L : List Loc) : Prop := v = some (.int (1 : Int32)) ∧ Fr Z.heap.size L ∧ h = h0
theorem rm_a16_3 (l : Launch) (Z : State) (a0 : Array Value) (hw : HW Z a0) (ws : List Jvm.Cond) (cs : Int32) (sv : Value) (GG : GP Z cs sv) (x0 : Addr) (x1 : Addr) (w1 : Int32) (w2 : Int32) (w3 : Addr) (w4 : Addr) (kk5 : ClassId) (w6 : Int32) (w7 : Int32) (kk8 : ClassId) (h0 : Heap) (O0 : Ext Z.heap h0) (r0 : x0 ≠ x1) (r1 : Exa Z h0 x1 "java/lang/String") (r2 : fl_1 Z h0 x0 (.int w1)) (r3 : fl_1 Z h0 x1 (.int w2)) (r4 : w1 = w2) (r5 : fl_0 Z h0 x0 (.ref w3)) (r6 : fl_0 Z h0 x1 (.ref w4)) (r7 : Arv Z h0 w3 kk5 .byte (2 : Int32) [(.int w6), (.int w7)] (.int (0 : Int32))) (r8 : Arv Z h0 w4 kk8 .byte (2 : Int32) [(.int w6), (.int w7)] (.int (0 : Int32))) :
    Met FrameEnd l (⟨"java/lang/String", "equals", "(Ljava/lang/Object;)Z"⟩ : MethodName) jdk_42_method_66_code 3 (some .boolean) ws ⟨1, 0, 0, 14⟩ Z h0 #[(.ref x0), (.ref x1)] (Q_a16_3 Z  h0) := by
  refine own_met "java/lang/String" (plainFor_of_name pn_16) rfl #[.val (.ref x0), .val (.ref x1), .unset] (fun _ => by first | (simp [entryFrame, mkF, argsToLocals, Value.category]; done) | rfl) ?_
  intro p e s m below meth c s₁ hx hby hlk hret hml hZ hown hnm X0 e0
  have N0 := Fr.nil Z.heap.size
  obtain ⟨G_cs, H_cs, G_sv, H_sv⟩ := id GG
  refine q_aN X0 hx hby d16_0 rfl rfl ?_
  refine q_aN X0 hx hby d16_1 rfl rfl ?_
  refine Go.step (fun _ kt_ => Jvm.RoadKit.acmp (g := (mkF m 2 #[.val (.ref x0), .val (.ref x1), .unset] [(.ref x1), (.ref x0)])) X0 hx rfl rfl rfl (pc0 := 2) (pc' := 7) (same := false) rfl (hb hby d16_2) rfl (decide_eq_false fun q => r0 (Value.ref.inj q)) (by decide) (by decide) kt_) ?_
  show Go _ _ _ _ _ _ _ _ s₁ (mkF m 7 #[.val (.ref x0), .val (.ref x1), .unset] [])
  refine q_aN X0 hx hby d16_7 rfl rfl ?_
  obtain ⟨T1, X1, e1, st1⟩ := instY X0 hx hZ hown (wd hw 78 rfl) e0 (Ins.self r1) (g := (mkF m 8 #[.val (.ref x0), .val (.ref x1), .unset] [(.ref x1)])) rfl rfl (hb hby d16_8)
  refine Go.step st1 ?_
  refine q_ifN X1 hx hby d16_11 ((if0 _ _).trans (feq (by decide : ¬ ((1 : Int32) = (0 : Int32)))).1) ?_
  refine q_aN X1 hx hby d16_14 rfl rfl ?_
  obtain ⟨T2, X2, e2, st2⟩ := castY X1 hx hZ hown (wd hw 78 rfl) e1 (Ins.self r1) (g := (mkF m 15 #[.val (.ref x0), .val (.ref x1), .unset] [(.ref x1)])) rfl rfl (hb hby d16_15)
  refine Go.step st2 ?_
  refine q_asN X2 hx hby d16_18 rfl (l' := #[.val (.ref x0), .val (.ref x1), .val (.ref x1)]) rfl ?_
  refine q_gS X2 hx hZ hown (wd hw 48 rfl) e2 (Sta.ext O0 G_cs) hby d16_19 ?_
  intro T3 X3 e3
  refine q_ifN X3 hx hby d16_22 ((if0 _ _).trans (feq H_cs).1) ?_
  refine q_aN X3 hx hby d16_25 rfl rfl ?_
  refine q_gF X3 hx hZ hown (wd hw 28 rfl) e3 r2 hby d16_26 ?_
  intro T4 X4 e4
  refine q_aN X4 hx hby d16_29 rfl rfl ?_
  refine q_gF X4 hx hZ hown (wd hw 28 rfl) e4 r3 hby d16_30 ?_
  intro T5 X5 e5
  refine q_icN X5 hx hby d16_33 (teq r4).2 ?_
  refine q_aN X5 hx hby d16_36 rfl rfl ?_
  refine q_gF X5 hx hZ hown (wd hw 27 rfl) e5 r5 hby d16_37 ?_
  intro T6 X6 e6
  show Go _ _ _ _ _ _ _ _ T6 (mkF m 40 #[.val (.ref x0), .val (.ref x1), .val (.ref x1)] [(.ref w3)])
  refine q_aN X6 hx hby d16_40 rfl rfl ?_
  refine q_gF X6 hx hZ hown (wd hw 27 rfl) e6 r6 hby d16_41 ?_
  intro T7 X7 e7
  refine q_cS [(.ref w3), (.ref w4)] [] 0 X7 hx hZ hown (wd hw 79 rfl) (wd hw 80 rfl) (wd hw 81 rfl) (wd hw 61 rfl) (by decide) e7 (rm_a17_2 l Z a0 hw [] cs sv GG w3 w4 kk5 w6 w7 kk8 h0 O0 r7 r8) hby hml rfl d16_44 pd_LABABRZ rfl rfl (by decide) (by decide) (by decide) (by decide) ?_
  intro v8 T8 L8 Lc8 X8 hQ8 l8
  obtain ⟨rfl, Nq8, e8⟩ := hQ8
  have N8_ : Fr Z.heap.size L8 := by rw [l8]; exact Fr.app N0 Nq8
  refine q_ifN X8 hx hby d16_47 ((if0 _ _).trans (feq (by decide : ¬ ((1 : Int32) = (0 : Int32)))).1) ?_
  refine q_iC X8 hx hby d16_50  ?_
  refine q_go 51 55 X8 hx hby rfl d16_51 (by decide) (by decide) ?_
  exact Go.retN X8 hx (t := .boolean) hret (by simp) hlk (hb hby d16_55) (by decide) (by decide) (by show _ ∧ _ ∧ _; rw [e8]; exact ⟨rfl, N8_, rfl⟩)
theorem d2_59 : decode method_3_code 59 = .ok (.iload_n 0, 1) := by decide +kernel
theorem d2_60 : decode method_3_code 60 = .ok (.iconst 3, 1) := by decide +kernel
theorem d2_61 : decode method_3_code 61 = .ok (.if_icmp .ne 26, 3) := by decide +kernel
theorem d2_64 : decode method_3_code 64 = .ok (.new 7, 3) := by decide +kernel
theorem d2_67 : decode method_3_code 67 = .ok (.dup, 1) := by decide +kernel
theorem d2_68 : decode method_3_code 68 = .ok (.iconst 3, 1) := by decide +kernel
theorem d2_69 : decode method_3_code 69 = .ok (.newarray .char, 2) := by decide +kernel
theorem d2_71 : decode method_3_code 71 = .ok (.dup, 1) := by decide +kernel
theorem d2_72 : decode method_3_code 72 = .ok (.iconst 0, 1) := by decide +kernel
theorem d2_73 : decode method_3_code 73 = .ok (.iload_n 1, 1) := by decide +kernel
theorem d2_74 : decode method_3_code 74 = .ok (.castore, 1) := by decide +kernel
theorem d2_75 : decode method_3_code 75 = .ok (.dup, 1) := by decide +kernel
theorem d2_76 : decode method_3_code 76 = .ok (.iconst 1, 1) := by decide +kernel
theorem d2_77 : decode method_3_code 77 = .ok (.iload_n 2, 1) := by decide +kernel
theorem d2_78 : decode method_3_code 78 = .ok (.castore, 1) := by decide +kernel
theorem d2_79 : decode method_3_code 79 = .ok (.dup, 1) := by decide +kernel
theorem d2_80 : decode method_3_code 80 = .ok (.iconst 2, 1) := by decide +kernel
theorem d2_81 : decode method_3_code 81 = .ok (.iload_n 3, 1) := by decide +kernel
theorem d2_82 : decode method_3_code 82 = .ok (.castore, 1) := by decide +kernel
theorem d2_83 : decode method_3_code 83 = .ok (.invokespecial 9, 3) := by decide +kernel
def Q_a19_2 (Z : State) (x2 : Addr) (w2 : Int32) (w3 : Int32) (w4 : Int32) (kk5 : ClassId) (h0 : Heap) (v : Option Value) (h : Heap) (L : List Loc) : Prop := v = some (.int (3 : Int32)) ∧ Fr Z.heap.size L ∧ Keep h0 h [x2] ∧ Arv Z h x2 kk5 .byte (3 : Int32) [(.int ((w2.toInt8.toInt32).toInt8.toInt32)), (.int ((w3.toInt8.toInt32).toInt8.toInt32)), (.int ((w4.toInt8.toInt32).toInt8.toInt32))] (.int (0 : Int32))
theorem rm_a19_2 (l : Launch) (Z : State) (a0 : Array Value) (hw : HW Z a0) (ws : List Jvm.Cond) (cs : Int32) (sv : Value) (GG : GP Z cs sv) (x0 : Addr) (x2 : Addr) (kk1 : ClassId) (w2 : Int32) (w3 : Int32) (w4 : Int32) (kk5 : ClassId) (h0 : Heap) (O0 : Ext Z.heap h0) (r0 : Arv Z h0 x0 kk1 .char (3 : Int32) [(.int w2), (.int w3), (.int w4)] (.int (0 : Int32))) (r1 : ¬ ((255 : Int32) < w2)) (r2 : Arv Z h0 x2 kk5 .byte (3 : Int32) [(.int (0 : Int32)), (.int (0 : Int32)), (.int (0 : Int32))] (.int (0 : Int32))) (r3 : Z.heap.size ≤ x2) (r4 : x0 ≠ x2) (r5 : ¬ ((255 : Int32) < w3)) (r6 : ¬ ((255 : Int32) < w4)) :
    Met FrameEnd l (⟨"java/lang/StringUTF16", "compress", "([CI[BII)I"⟩ : MethodName) jdk_52_method_21_code 7 (some .int) ws ⟨0, 0, 0, 0⟩ Z h0 #[(.ref x0), (.int (0 : Int32)), (.ref x2), (.int (0 : Int32)), (.int (3 : Int32))] (Q_a19_2 Z x2 w2 w3 w4 kk5 h0) := by
  refine own_met "java/lang/StringUTF16" (plainFor_of_name pn_19) rfl #[.val (.ref x0), .val (.int (0 : Int32)), .val (.ref x2), .val (.int (0 : Int32)), .val (.int (3 : Int32)), .unset, .unset] (fun _ => by first | (simp [entryFrame, mkF, argsToLocals, Value.category]; done) | rfl) ?_
  intro p e s m below meth c s₁ hx hby hlk hret hml hZ hown hnm X0 e0
  have N0 := Fr.nil Z.heap.size
  refine q_iC X0 hx hby d19_0  ?_
  refine q_isL X0 hx hby d19_1 (l' := #[.val (.ref x0), .val (.int (0 : Int32)), .val (.ref x2), .val (.int (0 : Int32)), .val (.int (3 : Int32)), .val (.int (0 : Int32)), .unset]) rfl ?_
  refine q_iL X0 hx hby d19_3 rfl ?_
  refine q_iL X0 hx hby d19_5 rfl ?_
  refine q_icN X0 hx hby d19_7 (tlt (by decide : (0 : Int32) < (3 : Int32))).2.1 ?_
  refine q_aN X0 hx hby d19_10 rfl rfl ?_
  refine q_iN X0 hx hby d19_11 rfl ?_
  obtain ⟨cl1, Ar1, q1, S1, N1, H1, G1⟩ := id r0
  have hin1 : ¬ ((0 : Int32) < 0 ∨ cl1.slots.size ≤ ((0 : Int32)).toNatClampNeg) := inb_of S1 ⟨by decide, by decide⟩
  refine Go.step (X0.caload hx (j := (0 : Int32)) (v := (.int w2)) (by rw [e0]; exact Ar1.1) (State.isArrayOf_alike hZ.alike Ar1.2.1) Ar1.2.2 hin1 (Has.at H1 hin1 rfl) (g := (mkF m 12 #[.val (.ref x0), .val (.int (0 : Int32)), .val (.ref x2), .val (.int (0 : Int32)), .val (.int (3 : Int32)), .val (.int (0 : Int32)), .unset] [(.int (0 : Int32)), (.ref x0)])) rfl rfl (hb hby d19_12)) ?_
  refine q_isL X0 hx hby d19_13 (l' := #[.val (.ref x0), .val (.int (0 : Int32)), .val (.ref x2), .val (.int (0 : Int32)), .val (.int (3 : Int32)), .val (.int (0 : Int32)), .val (.int w2)]) rfl ?_
  refine q_iL X0 hx hby d19_15 rfl ?_
  refine Go.step (fun _ kt_ => XS.sipush X0.here hx rfl (hb hby d19_17)  kt_) ?_
  refine q_icY 20 26 X0 hx hby rfl d19_20 (flt r1).2.2.2 (by decide) (by decide) ?_
  refine q_aN X0 hx hby d19_26 rfl rfl ?_
  refine q_iN X0 hx hby d19_27 rfl ?_
  refine q_iL X0 hx hby d19_28 rfl ?_
  refine Go.step (fun _ kt_ => XS.i2b X0.here hx rfl (hb hby d19_30) rfl kt_) ?_
  show Go _ _ _ _ _ _ _ _ s₁ (mkF m 31 #[.val (.ref x0), .val (.int (0 : Int32)), .val (.ref x2), .val (.int (0 : Int32)), .val (.int (3 : Int32)), .val (.int (0 : Int32)), .val (.int w2)] [(.int (w2.toInt8.toInt32)), (.int (0 : Int32)), (.ref x2)])
  obtain ⟨cl2, Ar2, q2, S2, N2, H2, G2⟩ := id r2
  have hin2 : ¬ ((0 : Int32) < 0 ∨ cl2.slots.size ≤ ((0 : Int32)).toNatClampNeg) := inb_of S2 ⟨by decide, by decide⟩
  obtain ⟨T2, h2, X2, e2, W2, st2⟩ := stB X0 hx hZ e0 Ar2 (j := (0 : Int32)) hin2 (g := (mkF m 31 #[.val (.ref x0), .val (.int (0 : Int32)), .val (.ref x2), .val (.int (0 : Int32)), .val (.int (3 : Int32)), .val (.int (0 : Int32)), .val (.int w2)] [(.int (w2.toInt8.toInt32)), (.int (0 : Int32)), (.ref x2)])) rfl rfl (hb hby d19_31)
  refine Go.step st2 ?_
  have V2 : Arv Z h2 x2 kk5 .byte (3 : Int32) [(.int ((w2.toInt8.toInt32).toInt8.toInt32)), (.int (0 : Int32)), (.int (0 : Int32))] (.int (0 : Int32)) := Arv.set Ar2 q2 S2 N2 H2 G2 (fits_nar_byte _) W2 0 rfl (Nat.le_of_ble_eq_true rfl)
  have N2_ := Fr.snoc X2 N0 r3
  have O2_ : Ext Z.heap h2 := extWr O0 W2 r3
  have K2 := Keep.wr (Keep.refl h0 [x2]) W2 (Or.inl (List.mem_of_getElem? (i := 0) rfl))
  refine q_inc X2 hx hby d19_32 rfl (l' := #[.val (.ref x0), .val (.int (1 : Int32)), .val (.ref x2), .val (.int (0 : Int32)), .val (.int (3 : Int32)), .val (.int (0 : Int32)), .val (.int w2)]) rfl ?_
  refine q_inc X2 hx hby d19_35 rfl (l' := #[.val (.ref x0), .val (.int (1 : Int32)), .val (.ref x2), .val (.int (1 : Int32)), .val (.int (3 : Int32)), .val (.int (0 : Int32)), .val (.int w2)]) rfl ?_
  refine q_inc X2 hx hby d19_38 rfl (l' := #[.val (.ref x0), .val (.int (1 : Int32)), .val (.ref x2), .val (.int (1 : Int32)), .val (.int (3 : Int32)), .val (.int (1 : Int32)), .val (.int w2)]) rfl ?_
  refine q_go 41 3 X2 hx hby rfl d19_41 (by decide) (by decide) ?_
  refine q_iL X2 hx hby d19_3 rfl ?_
  refine q_iL X2 hx hby d19_5 rfl ?_
  refine q_icN X2 hx hby d19_7 (tlt (by decide : (1 : Int32) < (3 : Int32))).2.1 ?_
  refine q_aN X2 hx hby d19_10 rfl rfl ?_
  refine q_iN X2 hx hby d19_11 rfl ?_
  obtain ⟨cl3, Ar3, q3, S3, N3, H3, G3⟩ := id (r0.other W2 r4)
  have hin3 : ¬ ((1 : Int32) < 0 ∨ cl3.slots.size ≤ ((1 : Int32)).toNatClampNeg) := inb_of S3 ⟨by decide, by decide⟩
  refine Go.step (X2.caload hx (j := (1 : Int32)) (v := (.int w3)) (by rw [e2]; exact Ar3.1) (State.isArrayOf_alike hZ.alike Ar3.2.1) Ar3.2.2 hin3 (Has.at H3 hin3 rfl) (g := (mkF m 12 #[.val (.ref x0), .val (.int (1 : Int32)), .val (.ref x2), .val (.int (1 : Int32)), .val (.int (3 : Int32)), .val (.int (1 : Int32)), .val (.int w2)] [(.int (1 : Int32)), (.ref x0)])) rfl rfl (hb hby d19_12)) ?_
  refine q_isL X2 hx hby d19_13 (l' := #[.val (.ref x0), .val (.int (1 : Int32)), .val (.ref x2), .val (.int (1 : Int32)), .val (.int (3 : Int32)), .val (.int (1 : Int32)), .val (.int w3)]) rfl ?_
  refine q_iL X2 hx hby d19_15 rfl ?_
  refine Go.step (fun _ kt_ => XS.sipush X2.here hx rfl (hb hby d19_17)  kt_) ?_
  refine q_icY 20 26 X2 hx hby rfl d19_20 (flt r5).2.2.2 (by decide) (by decide) ?_
  refine q_aN X2 hx hby d19_26 rfl rfl ?_
  refine q_iN X2 hx hby d19_27 rfl ?_
  refine q_iL X2 hx hby d19_28 rfl ?_
  refine Go.step (fun _ kt_ => XS.i2b X2.here hx rfl (hb hby d19_30) rfl kt_) ?_
  show Go _ _ _ _ _ _ _ _ T2 (mkF m 31 #[.val (.ref x0), .val (.int (1 : Int32)), .val (.ref x2), .val (.int (1 : Int32)), .val (.int (3 : Int32)), .val (.int (1 : Int32)), .val (.int w3)] [(.int (w3.toInt8.toInt32)), (.int (1 : Int32)), (.ref x2)])
  obtain ⟨cl4, Ar4, q4, S4, N4, H4, G4⟩ := id V2
  have hin4 : ¬ ((1 : Int32) < 0 ∨ cl4.slots.size ≤ ((1 : Int32)).toNatClampNeg) := inb_of S4 ⟨by decide, by decide⟩
  obtain ⟨T4, h4, X4, e4, W4, st4⟩ := stB X2 hx hZ e2 Ar4 (j := (1 : Int32)) hin4 (g := (mkF m 31 #[.val (.ref x0), .val (.int (1 : Int32)), .val (.ref x2), .val (.int (1 : Int32)), .val (.int (3 : Int32)), .val (.int (1 : Int32)), .val (.int w3)] [(.int (w3.toInt8.toInt32)), (.int (1 : Int32)), (.ref x2)])) rfl rfl (hb hby d19_31)
  refine Go.step st4 ?_
  have V4 : Arv Z h4 x2 kk5 .byte (3 : Int32) [(.int ((w2.toInt8.toInt32).toInt8.toInt32)), (.int ((w3.toInt8.toInt32).toInt8.toInt32)), (.int (0 : Int32))] (.int (0 : Int32)) := Arv.set Ar4 q4 S4 N4 H4 G4 (fits_nar_byte _) W4 1 rfl (Nat.le_of_ble_eq_true rfl)
  have N4_ := Fr.snoc X4 N2_ r3
  have O4_ : Ext Z.heap h4 := extWr O2_ W4 r3
  have K4 := Keep.wr K2 W4 (Or.inl (List.mem_of_getElem? (i := 0) rfl))
  refine q_inc X4 hx hby d19_32 rfl (l' := #[.val (.ref x0), .val (.int (2 : Int32)), .val (.ref x2), .val (.int (1 : Int32)), .val (.int (3 : Int32)), .val (.int (1 : Int32)), .val (.int w3)]) rfl ?_
  refine q_inc X4 hx hby d19_35 rfl (l' := #[.val (.ref x0), .val (.int (2 : Int32)), .val (.ref x2), .val (.int (2 : Int32)), .val (.int (3 : Int32)), .val (.int (1 : Int32)), .val (.int w3)]) rfl ?_
  refine q_inc X4 hx hby d19_38 rfl (l' := #[.val (.ref x0), .val (.int (2 : Int32)), .val (.ref x2), .val (.int (2 : Int32)), .val (.int (3 : Int32)), .val (.int (2 : Int32)), .val (.int w3)]) rfl ?_
  refine q_go 41 3 X4 hx hby rfl d19_41 (by decide) (by decide) ?_
  refine q_iL X4 hx hby d19_3 rfl ?_
  refine q_iL X4 hx hby d19_5 rfl ?_
  refine q_icN X4 hx hby d19_7 (tlt (by decide : (2 : Int32) < (3 : Int32))).2.1 ?_
  refine q_aN X4 hx hby d19_10 rfl rfl ?_
  refine q_iN X4 hx hby d19_11 rfl ?_
  obtain ⟨cl5, Ar5, q5, S5, N5, H5, G5⟩ := id ((r0.other W2 r4).other W4 r4)
  have hin5 : ¬ ((2 : Int32) < 0 ∨ cl5.slots.size ≤ ((2 : Int32)).toNatClampNeg) := inb_of S5 ⟨by decide, by decide⟩
  refine Go.step (X4.caload hx (j := (2 : Int32)) (v := (.int w4)) (by rw [e4]; exact Ar5.1) (State.isArrayOf_alike hZ.alike Ar5.2.1) Ar5.2.2 hin5 (Has.at H5 hin5 rfl) (g := (mkF m 12 #[.val (.ref x0), .val (.int (2 : Int32)), .val (.ref x2), .val (.int (2 : Int32)), .val (.int (3 : Int32)), .val (.int (2 : Int32)), .val (.int w3)] [(.int (2 : Int32)), (.ref x0)])) rfl rfl (hb hby d19_12)) ?_
  refine q_isL X4 hx hby d19_13 (l' := #[.val (.ref x0), .val (.int (2 : Int32)), .val (.ref x2), .val (.int (2 : Int32)), .val (.int (3 : Int32)), .val (.int (2 : Int32)), .val (.int w4)]) rfl ?_
  refine q_iL X4 hx hby d19_15 rfl ?_
  refine Go.step (fun _ kt_ => XS.sipush X4.here hx rfl (hb hby d19_17)  kt_) ?_
  refine q_icY 20 26 X4 hx hby rfl d19_20 (flt r6).2.2.2 (by decide) (by decide) ?_
  refine q_aN X4 hx hby d19_26 rfl rfl ?_
  refine q_iN X4 hx hby d19_27 rfl ?_
  refine q_iL X4 hx hby d19_28 rfl ?_
  refine Go.step (fun _ kt_ => XS.i2b X4.here hx rfl (hb hby d19_30) rfl kt_) ?_
  show Go _ _ _ _ _ _ _ _ T4 (mkF m 31 #[.val (.ref x0), .val (.int (2 : Int32)), .val (.ref x2), .val (.int (2 : Int32)), .val (.int (3 : Int32)), .val (.int (2 : Int32)), .val (.int w4)] [(.int (w4.toInt8.toInt32)), (.int (2 : Int32)), (.ref x2)])
  obtain ⟨cl6, Ar6, q6, S6, N6, H6, G6⟩ := id V4
  have hin6 : ¬ ((2 : Int32) < 0 ∨ cl6.slots.size ≤ ((2 : Int32)).toNatClampNeg) := inb_of S6 ⟨by decide, by decide⟩
  obtain ⟨T6, h6, X6, e6, W6, st6⟩ := stB X4 hx hZ e4 Ar6 (j := (2 : Int32)) hin6 (g := (mkF m 31 #[.val (.ref x0), .val (.int (2 : Int32)), .val (.ref x2), .val (.int (2 : Int32)), .val (.int (3 : Int32)), .val (.int (2 : Int32)), .val (.int w4)] [(.int (w4.toInt8.toInt32)), (.int (2 : Int32)), (.ref x2)])) rfl rfl (hb hby d19_31)
  refine Go.step st6 ?_
  have V6 : Arv Z h6 x2 kk5 .byte (3 : Int32) [(.int ((w2.toInt8.toInt32).toInt8.toInt32)), (.int ((w3.toInt8.toInt32).toInt8.toInt32)), (.int ((w4.toInt8.toInt32).toInt8.toInt32))] (.int (0 : Int32)) := Arv.set Ar6 q6 S6 N6 H6 G6 (fits_nar_byte _) W6 2 rfl (Nat.le_of_ble_eq_true rfl)
  have N6_ := Fr.snoc X6 N4_ r3
  have O6_ : Ext Z.heap h6 := extWr O4_ W6 r3
  have K6 := Keep.wr K4 W6 (Or.inl (List.mem_of_getElem? (i := 0) rfl))
  refine q_inc X6 hx hby d19_32 rfl (l' := #[.val (.ref x0), .val (.int (3 : Int32)), .val (.ref x2), .val (.int (2 : Int32)), .val (.int (3 : Int32)), .val (.int (2 : Int32)), .val (.int w4)]) rfl ?_
  refine q_inc X6 hx hby d19_35 rfl (l' := #[.val (.ref x0), .val (.int (3 : Int32)), .val (.ref x2), .val (.int (3 : Int32)), .val (.int (3 : Int32)), .val (.int (2 : Int32)), .val (.int w4)]) rfl ?_
  refine q_inc X6 hx hby d19_38 rfl (l' := #[.val (.ref x0), .val (.int (3 : Int32)), .val (.ref x2), .val (.int (3 : Int32)), .val (.int (3 : Int32)), .val (.int (3 : Int32)), .val (.int w4)]) rfl ?_
  refine q_go 41 3 X6 hx hby rfl d19_41 (by decide) (by decide) ?_
  refine q_iL X6 hx hby d19_3 rfl ?_
  refine q_iL X6 hx hby d19_5 rfl ?_
  refine q_icY 7 44 X6 hx hby rfl d19_7 (flt (by decide : ¬ ((3 : Int32) < (3 : Int32)))).2.1 (by decide) (by decide) ?_
  refine q_iL X6 hx hby d19_44 rfl ?_
  exact Go.retI X6 hx hret hlk (hb hby d19_46) (by decide) (by decide) (by show Q_a19_2 ..; rw [e6]; exact ⟨rfl, N6_, K6, V6⟩)
def Q_a18_2 (Z : State) (w2 : Int32) (w3 : Int32) (w4 : Int32) (h0 : Heap) (v : Option Value) (h : Heap) (L : List Loc) : Prop := ∃ (b1 : Addr) (k1 : ClassId), v = some (.ref b1) ∧ Fr Z.heap.size L ∧ Keep h0 h [] ∧ h0.size ≤ b1 ∧ Arv Z h b1 k1 .byte (3 : Int32) [(.int ((w2.toInt8.toInt32).toInt8.toInt32)), (.int ((w3.toInt8.toInt32).toInt8.toInt32)), (.int ((w4.toInt8.toInt32).toInt8.toInt32))] (.int (0 : Int32))
theorem rm_a18_2 (l : Launch) (Z : State) (a0 : Array Value) (hw : HW Z a0) (ws : List Jvm.Cond) (cs : Int32) (sv : Value) (GG : GP Z cs sv) (x0 : Addr) (kk1 : ClassId) (w2 : Int32) (w3 : Int32) (w4 : Int32) (h0 : Heap) (O0 : Ext Z.heap h0) (r0 : Arv Z h0 x0 kk1 .char (3 : Int32) [(.int w2), (.int w3), (.int w4)] (.int (0 : Int32))) (r1 : ¬ ((255 : Int32) < w2)) (r2 : ¬ ((255 : Int32) < w3)) (r3 : ¬ ((255 : Int32) < w4)) :
    Met FrameEnd l (⟨"java/lang/StringUTF16", "compress", "([CII)[B"⟩ : MethodName) jdk_52_method_16_code 6 (some (.array .byte)) ws ⟨1, 1, 3, 18⟩ Z h0 #[(.ref x0), (.int (0 : Int32)), (.int (3 : Int32))] (Q_a18_2 Z w2 w3 w4 h0) := by
  refine own_met "java/lang/StringUTF16" (plainFor_of_name pn_18) rfl #[.val (.ref x0), .val (.int (0 : Int32)), .val (.int (3 : Int32)), .unset, .unset, .unset] (fun _ => by first | (simp [entryFrame, mkF, argsToLocals, Value.category]; done) | rfl) ?_
  intro p e s m below meth c s₁ hx hby hlk hret hml hZ hown hnm X0 e0
  have N0 := Fr.nil Z.heap.size
  refine q_iN X0 hx hby d18_0 rfl ?_
  obtain ⟨T1, h1, k1, X1, e1, E1, A1, st1⟩ := newP X0 hx hZ (wd hw 22 rfl) e0 (g := (mkF m 1 #[.val (.ref x0), .val (.int (0 : Int32)), .val (.int (3 : Int32)), .unset, .unset, .unset] [(.int (3 : Int32))])) rfl (hb hby d18_1) rfl (by decide) (cap := 3) (by decide) (by decide) (by decide) (by decide)
  obtain ⟨b1, hb1⟩ : ∃ z, z = h0.size := ⟨_, rfl⟩
  rw [← hb1] at A1 st1
  refine Go.step st1 ?_
  have g_b1 : Z.heap.size ≤ b1 := Nat.le_trans O0.1 (Nat.le_of_eq hb1.symm)
  have O1_ : Ext Z.heap h1 := extTr O0 E1
  have sz_b1 : h0.size ≤ b1 := Nat.le_trans (Keep.refl h0 []).1 (Nat.le_of_eq hb1.symm)
  have K1 := Keep.ext (Keep.refl h0 []) E1
  have V1 : Arv Z h1 b1 k1 .byte (3 : Int32) [(.int (0 : Int32)), (.int (0 : Int32)), (.int (0 : Int32))] (.int (0 : Int32)) := (Arv.new A1 (by decide)).pad (pad_rep [] (.int (0 : Int32)) 3)
  refine q_asN X1 hx hby d18_3 rfl (l' := #[.val (.ref x0), .val (.int (0 : Int32)), .val (.int (3 : Int32)), .val (.ref b1), .unset, .unset]) rfl ?_
  refine q_aN X1 hx hby d18_4 rfl rfl ?_
  refine q_iN X1 hx hby d18_5 rfl ?_
  refine q_aN X1 hx hby d18_6 rfl rfl ?_
  refine q_iC X1 hx hby d18_7  ?_
  refine q_iN X1 hx hby d18_8 rfl ?_
  refine q_cS [(.ref x0), (.int (0 : Int32)), (.ref b1), (.int (0 : Int32)), (.int (3 : Int32))] [] 0 X1 hx hZ hown (wd hw 86 rfl) (wd hw 87 rfl) (wd hw 88 rfl) (wd hw 84 rfl) (by decide) e1 (rm_a19_2 l Z a0 hw [] cs sv GG x0 b1 kk1 w2 w3 w4 k1 h1 O1_ (r0.ext E1) r1 V1 g_b1 (Nat.ne_of_lt (Nat.lt_of_lt_of_le r0.lt (Nat.le_of_eq hb1.symm))) r2 r3) hby hml rfl d18_9 pd_LACIABIIRI rfl rfl (by decide) (by decide) (by decide) (by decide) ?_
  intro v2 T2 L2 Lc2 X2 hQ2 l2
  obtain ⟨rfl, Nq2, Kq2, p2_0⟩ := hQ2
  have O2_ : Ext Z.heap T2.heap := extKeep O1_ Kq2 (allS g_b1 all0)
  have K2 := Keep.trans K1 Kq2 (allS (Or.inr sz_b1) all0)
  have N2_ : Fr Z.heap.size L2 := by rw [l2]; exact Fr.app N0 Nq2
  refine q_isL X2 hx hby d18_12 (l' := #[.val (.ref x0), .val (.int (0 : Int32)), .val (.int (3 : Int32)), .val (.ref b1), .val (.int (3 : Int32)), .unset]) rfl ?_
  refine q_iL X2 hx hby d18_14 rfl ?_
  refine q_iN X2 hx hby d18_16 rfl ?_
  show Go _ _ _ _ _ _ _ _ T2 (mkF m 17 #[.val (.ref x0), .val (.int (0 : Int32)), .val (.int (3 : Int32)), .val (.ref b1), .val (.int (3 : Int32)), .unset] [(.int (3 : Int32)), (.int (3 : Int32))])
  refine q_icY 17 57 X2 hx hby rfl d18_17 (teq (by decide : (3 : Int32) = (3 : Int32))).1 (by decide) (by decide) ?_
  refine q_aN X2 hx hby d18_57 rfl rfl ?_
  exact Go.retA X2 hx hret rfl rfl hlk (hb hby d18_58) (by decide) (by decide) ⟨b1, k1, rfl, N2_, K2, sz_b1, p2_0⟩
def Q_a20_2 (Z : State) (x1 : Int32) (h0 : Heap) (v : Option Value) (h : Heap) (L : List Loc) : Prop := v = some (.int (((((x1 - (3 : Int32)).toUInt32 >>> ((31 : Int32) &&& 31).toUInt32).toInt32).toInt8.toInt32).toInt8.toInt32)) ∧ Fr Z.heap.size L ∧ h = h0
theorem rm_a20_2 (l : Launch) (Z : State) (a0 : Array Value) (hw : HW Z a0) (ws : List Jvm.Cond) (cs : Int32) (sv : Value) (GG : GP Z cs sv) (x0 : Addr) (x1 : Int32) (kk1 : ClassId) (w2 : Int32) (w3 : Int32) (w4 : Int32) (h0 : Heap) (O0 : Ext Z.heap h0) (r0 : Arv Z h0 x0 kk1 .byte (3 : Int32) [(.int w2), (.int w3), (.int w4)] (.int (0 : Int32))) :
    Met FrameEnd l (⟨"java/lang/StringUTF16", "coderFromArrayLen", "([BI)B"⟩ : MethodName) jdk_52_method_15_code 2 (some .byte) ws ⟨0, 0, 0, 0⟩ Z h0 #[(.ref x0), (.int x1)] (Q_a20_2 Z x1 h0) := by
  refine own_met "java/lang/StringUTF16" (plainFor_of_name pn_20) rfl #[.val (.ref x0), .val (.int x1)] (fun _ => by first | (simp [entryFrame, mkF, argsToLocals, Value.category]; done) | rfl) ?_
  intro p e s m below meth c s₁ hx hby hlk hret hml hZ hown hnm X0 e0
  have N0 := Fr.nil Z.heap.size
  refine q_iN X0 hx hby d20_0 rfl ?_
  refine q_aN X0 hx hby d20_1 rfl rfl ?_
  obtain ⟨cl1, Ar1, -, S1, N1, -, -⟩ := id r0
  refine Go.step (X0.arraylength hx (by rw [e0]; exact Ar1.1) (State.isArrayOf_alike hZ.alike Ar1.2.1) (g := (mkF m 2 #[.val (.ref x0), .val (.int x1)] [(.ref x0), (.int x1)])) rfl rfl (hb hby d20_2)) ?_
  rw [len_of S1 N1]
  show Go _ _ _ _ _ _ _ _ s₁ (mkF m 3 #[.val (.ref x0), .val (.int x1)] [(.int (3 : Int32)), (.int x1)])
  refine q_isub X0 hx hby d20_3  ?_
  refine q_bP X0 hx hby d20_4  ?_
  refine Go.step (fun _ kt_ => XS.iushr X0.here hx rfl (hb hby d20_6) rfl kt_) ?_
  show Go _ _ _ _ _ _ _ _ s₁ (mkF m 7 #[.val (.ref x0), .val (.int x1)] [(.int (((x1 - (3 : Int32)).toUInt32 >>> ((31 : Int32) &&& 31).toUInt32).toInt32))])
  refine Go.step (fun _ kt_ => XS.i2b X0.here hx rfl (hb hby d20_7) rfl kt_) ?_
  show Go _ _ _ _ _ _ _ _ s₁ (mkF m 8 #[.val (.ref x0), .val (.int x1)] [(.int ((((x1 - (3 : Int32)).toUInt32 >>> ((31 : Int32) &&& 31).toUInt32).toInt32).toInt8.toInt32))])
  exact Go.retN X0 hx (t := .byte) hret (by simp) hlk (hb hby d20_8) (by decide) (by decide) (by show _ ∧ _ ∧ _; rw [e0]; exact ⟨rfl, N0, rfl⟩)
def Q_a4_3 (Z : State) (x0 : Addr) (w2 : Int32) (w3 : Int32) (w4 : Int32) (h0 : Heap) (v : Option Value) (h : Heap) (L : List Loc) : Prop := ∃ (b1q3 : Addr) (k1q3 : ClassId), v = none ∧ Fr Z.heap.size L ∧ Keep h0 h [x0] ∧ fl_1 Z h x0 (.int (0 : Int32)) ∧ fl_0 Z h x0 (.ref b1q3) ∧ h0.size ≤ b1q3 ∧ Arv Z h b1q3 k1q3 .byte (3 : Int32) [(.int ((w2.toInt8.toInt32).toInt8.toInt32)), (.int ((w3.toInt8.toInt32).toInt8.toInt32)), (.int ((w4.toInt8.toInt32).toInt8.toInt32))] (.int (0 : Int32))
theorem rm_a4_3 (l : Launch) (Z : State) (a0 : Array Value) (hw : HW Z a0) (ws : List Jvm.Cond) (cs : Int32) (sv : Value) (GG : GP Z cs sv) (x0 : Addr) (x1 : Addr) (kk1 : ClassId) (w2 : Int32) (w3 : Int32) (w4 : Int32) (w5 : Int32) (h0 : Heap) (O0 : Ext Z.heap h0) (r0 : Arv Z h0 x1 kk1 .char (3 : Int32) [(.int w2), (.int w3), (.int w4)] (.int (0 : Int32))) (r1 : ¬ ((255 : Int32) < w2)) (r2 : ¬ ((255 : Int32) < w3)) (r3 : ¬ ((255 : Int32) < w4)) (r4 : Exa Z h0 x0 "java/lang/String") (r5 : fl_1 Z h0 x0 (.int w5)) (r6 : Z.heap.size ≤ x0) (r7 : fl_0 Z h0 x0 .null) :
    Met FrameEnd l (⟨"java/lang/String", "<init>", "([CIILjava/lang/Void;)V"⟩ : MethodName) jdk_42_method_149_code 6 none ws ⟨2, 1, 3, 35⟩ Z h0 #[(.ref x0), (.ref x1), (.int (0 : Int32)), (.int (3 : Int32)), .null] (Q_a4_3 Z x0 w2 w3 w4 h0) := by
  refine own_met "java/lang/String" (plainFor_of_name pn_4) rfl #[.val (.ref x0), .val (.ref x1), .val (.int (0 : Int32)), .val (.int (3 : Int32)), .val .null, .unset] (fun _ => by first | (simp [entryFrame, mkF, argsToLocals, Value.category]; done) | rfl) ?_
  intro p e s m below meth c s₁ hx hby hlk hret hml hZ hown hnm X0 e0
  have N0 := Fr.nil Z.heap.size
  obtain ⟨G_cs, H_cs, G_sv, H_sv⟩ := id GG
  refine q_aN X0 hx hby d4_0 rfl rfl ?_
  obtain ⟨T1, X1, e1, st1⟩ := initO X0 hx hZ hown (wd hw 18 rfl) (wd hw 19 rfl) (wd hw 20 rfl) e0 (g := (mkF m 1 #[.val (.ref x0), .val (.ref x1), .val (.int (0 : Int32)), .val (.int (3 : Int32)), .val .null, .unset] [(.ref x0)])) rfl (by rw [hml]; rfl) rfl (hb hby d4_1) (by decide) (W := 0) (by show 2 * 0 + _ ≤ _; exact Nat.le_of_eq rfl) (by decide)
  refine Go.step st1 ?_
  refine q_iN X1 hx hby d4_4 rfl ?_
  refine q_ifY 5 27 X1 hx hby rfl d4_5 ((if0 _ _).trans (feq (by decide : ¬ ((3 : Int32) = (0 : Int32)))).2) (by decide) (by decide) ?_
  refine q_gS X1 hx hZ hown (wd hw 48 rfl) e1 (Sta.ext O0 G_cs) hby d4_27 ?_
  intro T2 X2 e2
  refine q_ifN X2 hx hby d4_30 ((if0 _ _).trans (feq H_cs).1) ?_
  refine q_aN X2 hx hby d4_33 rfl rfl ?_
  refine q_iN X2 hx hby d4_34 rfl ?_
  refine q_iN X2 hx hby d4_35 rfl ?_
  refine q_cS [(.ref x1), (.int (0 : Int32)), (.int (3 : Int32))] [] 0 X2 hx hZ hown (wd hw 82 rfl) (wd hw 83 rfl) (wd hw 85 rfl) (wd hw 84 rfl) (by decide) e2 (rm_a18_2 l Z a0 hw [] cs sv GG x1 kk1 w2 w3 w4 h0 O0 r0 r1 r2 r3) hby hml rfl d4_36 pd_LACIIRAB rfl rfl (by decide) (by decide) (by decide) (by decide) ?_
  intro v3 T3 L3 Lc3 X3 hQ3 l3
  obtain ⟨b1q3, k1q3, rfl, Nq3, Kq3, p3_0, p3_1⟩ := hQ3
  have O3_ : Ext Z.heap T3.heap := extKeep O0 Kq3 all0
  have K3 := Keep.trans (Keep.refl h0 [x0]) Kq3 all0
  have N3_ : Fr Z.heap.size L3 := by rw [l3]; exact Fr.app N0 Nq3
  have g_b1q3 : Z.heap.size ≤ b1q3 := Nat.le_trans O0.1 p3_0
  have sz_b1q3 : h0.size ≤ b1q3 := Nat.le_trans (Keep.refl h0 [x0]).1 p3_0
  refine q_asL X3 hx hby d4_39 rfl (l' := #[.val (.ref x0), .val (.ref x1), .val (.int (0 : Int32)), .val (.int (3 : Int32)), .val .null, .val (.ref b1q3)]) rfl ?_
  refine q_aN X3 hx hby d4_41 rfl rfl ?_
  show Go _ _ _ _ _ _ _ _ T3 (mkF m 42 #[.val (.ref x0), .val (.ref x1), .val (.int (0 : Int32)), .val (.int (3 : Int32)), .val .null, .val (.ref b1q3)] [(.ref x0)])
  refine q_aL X3 hx hby d4_42 rfl rfl ?_
  refine q_iN X3 hx hby d4_44 rfl ?_
  refine q_cS [(.ref b1q3), (.int (3 : Int32))] [(.ref x0)] 1 X3 hx hZ hown (wd hw 89 rfl) (wd hw 90 rfl) (wd hw 91 rfl) (wd hw 84 rfl) (by decide) rfl (rm_a20_2 l Z a0 hw [] cs sv GG b1q3 (3 : Int32) k1q3 ((w2.toInt8.toInt32).toInt8.toInt32) ((w3.toInt8.toInt32).toInt8.toInt32) ((w4.toInt8.toInt32).toInt8.toInt32) T3.heap O3_ p3_1) hby hml rfl d4_45 pd_LABIRB rfl rfl (by decide) (by decide) (by decide) (by decide) ?_
  intro v4 T4 L4 Lc4 X4 hQ4 l4
  obtain ⟨rfl, Nq4, e4⟩ := hQ4
  have N4_ : Fr Z.heap.size L4 := by rw [l4]; exact Fr.app N3_ Nq4
  obtain ⟨T5, h5, X5, e5, W5, st5⟩ := putFN X4 hx hZ hown (wd hw 28 rfl) Via.refl e4 (r5.keep Kq3 nin0) (r4.keep Kq3) (Or.inr ⟨(wd hw 24 rfl), rfl, hnm⟩) (wd hw 8 rfl) (ty := .byte) (v' := (.int (0 : Int32))) pf_B rfl rfl (g := (mkF m 48 #[.val (.ref x0), .val (.ref x1), .val (.int (0 : Int32)), .val (.int (3 : Int32)), .val .null, .val (.ref b1q3)] [(.int (0 : Int32)), (.ref x0)])) rfl rfl (hb hby d4_48)
  refine Go.step st5 ?_
  have N5_ := Fr.snoc X5 N4_ r6
  have O5_ : Ext Z.heap h5 := extWr O3_ W5 r6
  have K5 := Keep.wr K3 W5 (Or.inl (List.mem_of_getElem? (i := 0) rfl))
  have F5 := Fld.same W5 (r5.keep Kq3 nin0)
  refine q_aN X5 hx hby d4_51 rfl rfl ?_
  refine q_aL X5 hx hby d4_52 rfl rfl ?_
  have f6 := (Fld.other W5 (r7.keep Kq3 nin0) (Or.inr (Ne.symm (sn_0 hw))))
  obtain ⟨T7, h7, X7, e7, W7, st7⟩ := putF X5 hx hZ hown (host := "") (Or.inl (wd hw 27 rfl)) Via.refl e5 f6 (Exa.wr W5 (r4.keep Kq3)) (Or.inr ⟨(wd hw 23 rfl), rfl, hnm⟩) (wd hw 8 rfl) (ty := (.array .byte)) pf_AB rfl rfl (g := (mkF m 54 #[.val (.ref x0), .val (.ref x1), .val (.int (0 : Int32)), .val (.int (3 : Int32)), .val .null, .val (.ref b1q3)] [(.ref b1q3), (.ref x0)])) rfl rfl (hb hby d4_54)
  refine Go.step st7 ?_
  have N7_ := Fr.snoc X7 N5_ r6
  have O7_ : Ext Z.heap h7 := extWr O5_ W7 r6
  have K7 := Keep.wr K5 W7 (Or.inl (List.mem_of_getElem? (i := 0) rfl))
  have F7 := Fld.same W7 f6
  have f8 := ((p3_1.other W5 (Ne.symm (Nat.ne_of_lt (Nat.lt_of_lt_of_le r4.lt p3_0)))).other W7 (Ne.symm (Nat.ne_of_lt (Nat.lt_of_lt_of_le r4.lt p3_0))))
  exact Go.retV X7 hx hret hlk (hb hby d4_57) (by decide) (by decide) (by show Q_a4_3 ..; rw [e7]; exact ⟨b1q3, k1q3, rfl, N7_, K7, (Fld.other W7 F5 (Or.inr (sn_0 hw))), F7, sz_b1q3, f8⟩)
def Q_a3_3 (Z : State) (x0 : Addr) (w2 : Int32) (w3 : Int32) (w4 : Int32) (h0 : Heap) (v : Option Value) (h : Heap) (L : List Loc) : Prop := ∃ (b1q3q2 : Addr) (k1q3q2 : ClassId), v = none ∧ Fr Z.heap.size L ∧ Keep h0 h [x0] ∧ fl_1 Z h x0 (.int (0 : Int32)) ∧ fl_0 Z h x0 (.ref b1q3q2) ∧ h0.size ≤ b1q3q2 ∧ Arv Z h b1q3q2 k1q3q2 .byte (3 : Int32) [(.int ((w2.toInt8.toInt32).toInt8.toInt32)), (.int ((w3.toInt8.toInt32).toInt8.toInt32)), (.int ((w4.toInt8.toInt32).toInt8.toInt32))] (.int (0 : Int32))
theorem rm_a3_3 (l : Launch) (Z : State) (a0 : Array Value) (hw : HW Z a0) (ws : List Jvm.Cond) (cs : Int32) (sv : Value) (GG : GP Z cs sv) (x0 : Addr) (x1 : Addr) (kk1 : ClassId) (w2 : Int32) (w3 : Int32) (w4 : Int32) (w5 : Int32) (h0 : Heap) (O0 : Ext Z.heap h0) (r0 : Arv Z h0 x1 kk1 .char (3 : Int32) [(.int w2), (.int w3), (.int w4)] (.int (0 : Int32))) (r1 : ¬ ((255 : Int32) < w2)) (r2 : ¬ ((255 : Int32) < w3)) (r3 : ¬ ((255 : Int32) < w4)) (r4 : Exa Z h0 x0 "java/lang/String") (r5 : fl_1 Z h0 x0 (.int w5)) (r6 : Z.heap.size ≤ x0) (r7 : fl_0 Z h0 x0 .null) :
    Met FrameEnd l (⟨"java/lang/String", "<init>", "([C)V"⟩ : MethodName) jdk_42_method_3_code 2 none ws ⟨3, 1, 3, 52⟩ Z h0 #[(.ref x0), (.ref x1)] (Q_a3_3 Z x0 w2 w3 w4 h0) := by
  refine own_met "java/lang/String" (plainFor_of_name pn_3) rfl #[.val (.ref x0), .val (.ref x1)] (fun _ => by first | (simp [entryFrame, mkF, argsToLocals, Value.category]; done) | rfl) ?_
  intro p e s m below meth c s₁ hx hby hlk hret hml hZ hown hnm X0 e0
  have N0 := Fr.nil Z.heap.size
  refine q_aN X0 hx hby d3_0 rfl rfl ?_
  refine q_aN X0 hx hby d3_1 rfl rfl ?_
  refine q_iC X0 hx hby d3_2  ?_
  refine q_aN X0 hx hby d3_3 rfl rfl ?_
  obtain ⟨cl1, Ar1, -, S1, N1, -, -⟩ := id r0
  refine Go.step (X0.arraylength hx (by rw [e0]; exact Ar1.1) (State.isArrayOf_alike hZ.alike Ar1.2.1) (g := (mkF m 4 #[.val (.ref x0), .val (.ref x1)] [(.ref x1), (.int (0 : Int32)), (.ref x1), (.ref x0)])) rfl rfl (hb hby d3_4)) ?_
  rw [len_of S1 N1]
  show Go _ _ _ _ _ _ _ _ s₁ (mkF m 5 #[.val (.ref x0), .val (.ref x1)] [(.int (3 : Int32)), (.int (0 : Int32)), (.ref x1), (.ref x0)])
  refine q_nl X0 hx hby d3_5  ?_
  refine q_cN [(.ref x1), (.int (0 : Int32)), (.int (3 : Int32)), .null] [] 0 X0 hx hZ hown rfl (wd hw 14 rfl) (wd hw 15 rfl) (wd hw 17 rfl) (wd hw 9 rfl) (by decide) e0 (rm_a4_3 l Z a0 hw [] cs sv GG x0 x1 kk1 w2 w3 w4 w5 h0 O0 r0 r1 r2 r3 r4 r5 r6 r7) hby hml rfl d3_6 pd_LACIILjava_lang_Void_RV rfl rfl (by decide) (by decide) (by decide) (by decide) ?_
  intro v2 T2 L2 Lc2 X2 hQ2 l2
  obtain ⟨b1q3q2, k1q3q2, rfl, Nq2, Kq2, p2_0, p2_1, p2_2, p2_3⟩ := hQ2
  have O2_ : Ext Z.heap T2.heap := extKeep O0 Kq2 (allS r6 all0)
  have K2 := Keep.trans (Keep.refl h0 [x0]) Kq2 (allS (Or.inl (List.mem_of_getElem? (i := 0) rfl)) all0)
  have N2_ : Fr Z.heap.size L2 := by rw [l2]; exact Fr.app N0 Nq2
  have g_b1q3q2 : Z.heap.size ≤ b1q3q2 := Nat.le_trans O0.1 p2_2
  have sz_b1q3q2 : h0.size ≤ b1q3q2 := Nat.le_trans (Keep.refl h0 [x0]).1 p2_2
  exact Go.retV X2 hx hret hlk (hb hby d3_9) (by decide) (by decide) ⟨b1q3q2, k1q3q2, rfl, N2_, K2, p2_0, p2_1, sz_b1q3q2, p2_3⟩
theorem d2_86 : decode method_3_code 86 = .ok (.areturn, 1) := by decide +kernel
def Q_a2_3 (Z : State) (x1 : Int32) (x2 : Int32) (x3 : Int32) (h0 : Heap) (v : Option Value) (h : Heap) (L : List Loc) : Prop := ∃ (b1 : Addr) (b1q3q2q9 : Addr) (k1q3q2q9 : ClassId), v = some (.ref b1) ∧ Fr Z.heap.size L ∧ Keep h0 h [] ∧ h0.size ≤ b1 ∧ Exa Z h b1 "java/lang/String" ∧ fl_1 Z h b1 (.int (0 : Int32)) ∧ fl_0 Z h b1 (.ref b1q3q2q9) ∧ h0.size ≤ b1q3q2q9 ∧ Arv Z h b1q3q2q9 k1q3q2q9 .byte (3 : Int32) [(.int (((x1.toUInt32.toUInt16.toUInt32.toInt32).toInt8.toInt32).toInt8.toInt32)), (.int (((x2.toUInt32.toUInt16.toUInt32.toInt32).toInt8.toInt32).toInt8.toInt32)), (.int (((x3.toUInt32.toUInt16.toUInt32.toInt32).toInt8.toInt32).toInt8.toInt32))] (.int (0 : Int32)) ∧ b1 ≠ b1q3q2q9
theorem rm_a2_3 (l : Launch) (Z : State) (a0 : Array Value) (hw : HW Z a0) (ws : List Jvm.Cond) (cs : Int32) (sv : Value) (GG : GP Z cs sv) (x0 : Int32) (x1 : Int32) (x2 : Int32) (x3 : Int32) (x4 : Int32) (h0 : Heap) (O0 : Ext Z.heap h0) (r0 : ¬ (x0 = (0 : Int32))) (r1 : ¬ (x0 = (1 : Int32))) (r2 : ¬ (x0 = (2 : Int32))) (r3 : x0 = (3 : Int32)) (r4 : ¬ ((255 : Int32) < (x1.toUInt32.toUInt16.toUInt32.toInt32))) (r5 : ¬ ((255 : Int32) < (x2.toUInt32.toUInt16.toUInt32.toInt32))) (r6 : ¬ ((255 : Int32) < (x3.toUInt32.toUInt16.toUInt32.toInt32))) :
    Met FrameEnd l (⟨"com/example/wary_lock/warylock/LockNameRootPinLaw", "mk", "(ICCCC)Ljava/lang/String;"⟩ : MethodName) method_3_code 5 (some (.object "java/lang/String")) ws ⟨4, 3, 10, 66⟩ Z h0 #[(.int x0), (.int x1), (.int x2), (.int x3), (.int x4)] (Q_a2_3 Z x1 x2 x3 h0) := by
  refine own_met "com/example/wary_lock/warylock/LockNameRootPinLaw" (plainFor_of_name pn_2) rfl #[.val (.int x0), .val (.int x1), .val (.int x2), .val (.int x3), .val (.int x4)] (fun _ => by first | (simp [entryFrame, mkF, argsToLocals, Value.category]; done) | rfl) ?_
  intro p e s m below meth c s₁ hx hby hlk hret hml hZ hown hnm X0 e0
  have N0 := Fr.nil Z.heap.size
  refine q_iN X0 hx hby d2_0 rfl ?_
  refine q_ifY 1 15 X0 hx hby rfl d2_1 ((if0 _ _).trans (feq r0).2) (by decide) (by decide) ?_
  refine q_iN X0 hx hby d2_15 rfl ?_
  refine q_iC X0 hx hby d2_16  ?_
  refine q_icY 17 35 X0 hx hby rfl d2_17 (feq r1).2 (by decide) (by decide) ?_
  refine q_iN X0 hx hby d2_35 rfl ?_
  refine q_iC X0 hx hby d2_36  ?_
  refine q_icY 37 59 X0 hx hby rfl d2_37 (feq r2).2 (by decide) (by decide) ?_
  refine q_iN X0 hx hby d2_59 rfl ?_
  refine q_iC X0 hx hby d2_60  ?_
  refine q_icN X0 hx hby d2_61 (teq r3).2 ?_
  show Go _ _ _ _ _ _ _ _ s₁ (mkF m 64 #[.val (.int x0), .val (.int x1), .val (.int x2), .val (.int x3), .val (.int x4)] [])
  obtain ⟨T1, h1, X1, e1, E1, A1, D1, U1, st1⟩ := newO X0 hx hZ hown (wd hw 7 rfl) (wd hw 8 rfl) (wd hw 9 rfl) e0 (g := (mkF m 64 #[.val (.int x0), .val (.int x1), .val (.int x2), .val (.int x3), .val (.int x4)] [])) rfl (hb hby d2_64) (by decide) (by decide)
  obtain ⟨b1, hb1⟩ : ∃ z, z = h0.size := ⟨_, rfl⟩
  rw [← hb1] at A1 D1 U1 st1
  refine Go.step st1 ?_
  have g_b1 : Z.heap.size ≤ b1 := Nat.le_trans O0.1 (Nat.le_of_eq hb1.symm)
  have O1_ : Ext Z.heap h1 := extTr O0 E1
  have sz_b1 : h0.size ≤ b1 := Nat.le_trans (Keep.refl h0 []).1 (Nat.le_of_eq hb1.symm)
  have K1 := Keep.ext (Keep.refl h0 []) E1
  have F1_value : fl_0 Z h1 b1 .null := D1 (Or.inr (wd hw 23 rfl)) (ty := (.array .byte)) pf_AB
  have F1_coder : fl_1 Z h1 b1 (.int (0 : Int32)) := D1 (Or.inr (wd hw 24 rfl)) (ty := .byte) pf_B
  refine q_dup X1 hx hby d2_67 rfl ?_
  refine q_iC X1 hx hby d2_68  ?_
  obtain ⟨T2, h2, k2, X2, e2, E2, A2, st2⟩ := newP X1 hx hZ (wd hw 10 rfl) e1 (g := (mkF m 69 #[.val (.int x0), .val (.int x1), .val (.int x2), .val (.int x3), .val (.int x4)] [(.int (3 : Int32)), (.ref b1), (.ref b1)])) rfl (hb hby d2_69) rfl (by decide) (cap := 3) (by decide) (by decide) (by decide) (by decide)
  obtain ⟨b2, hb2⟩ : ∃ z, z = h1.size := ⟨_, rfl⟩
  rw [← hb2] at A2 st2
  refine Go.step st2 ?_
  have g_b2 : Z.heap.size ≤ b2 := Nat.le_trans O1_.1 (Nat.le_of_eq hb2.symm)
  have O2_ : Ext Z.heap h2 := extTr O1_ E2
  have sz_b2 : h0.size ≤ b2 := Nat.le_trans K1.1 (Nat.le_of_eq hb2.symm)
  have K2 := Keep.ext K1 E2
  have V2 : Arv Z h2 b2 k2 .char (3 : Int32) [(.int (0 : Int32)), (.int (0 : Int32)), (.int (0 : Int32))] (.int (0 : Int32)) := (Arv.new A2 (by decide)).pad (pad_rep [] (.int (0 : Int32)) 3)
  refine q_dup X2 hx hby d2_71 rfl ?_
  refine q_iC X2 hx hby d2_72  ?_
  refine q_iN X2 hx hby d2_73 rfl ?_
  obtain ⟨cl3, Ar3, q3, S3, N3, H3, G3⟩ := id V2
  have hin3 : ¬ ((0 : Int32) < 0 ∨ cl3.slots.size ≤ ((0 : Int32)).toNatClampNeg) := inb_of S3 ⟨by decide, by decide⟩
  obtain ⟨T3, h3, X3, e3, W3, st3⟩ := stC X2 hx hZ e2 Ar3 (j := (0 : Int32)) hin3 (g := (mkF m 74 #[.val (.int x0), .val (.int x1), .val (.int x2), .val (.int x3), .val (.int x4)] [(.int x1), (.int (0 : Int32)), (.ref b2), (.ref b2), (.ref b1), (.ref b1)])) rfl rfl (hb hby d2_74)
  refine Go.step st3 ?_
  have V3 : Arv Z h3 b2 k2 .char (3 : Int32) [(.int (x1.toUInt32.toUInt16.toUInt32.toInt32)), (.int (0 : Int32)), (.int (0 : Int32))] (.int (0 : Int32)) := Arv.set Ar3 q3 S3 N3 H3 G3 (fits_nar_char _) W3 0 rfl (Nat.le_of_ble_eq_true rfl)
  have N3_ := Fr.snoc X3 N0 g_b2
  have O3_ : Ext Z.heap h3 := extWr O2_ W3 g_b2
  have K3 := Keep.wr K2 W3 (Or.inr sz_b2)
  refine q_dup X3 hx hby d2_75 rfl ?_
  refine q_iC X3 hx hby d2_76  ?_
  refine q_iN X3 hx hby d2_77 rfl ?_
  obtain ⟨cl4, Ar4, q4, S4, N4, H4, G4⟩ := id V3
  have hin4 : ¬ ((1 : Int32) < 0 ∨ cl4.slots.size ≤ ((1 : Int32)).toNatClampNeg) := inb_of S4 ⟨by decide, by decide⟩
  obtain ⟨T4, h4, X4, e4, W4, st4⟩ := stC X3 hx hZ e3 Ar4 (j := (1 : Int32)) hin4 (g := (mkF m 78 #[.val (.int x0), .val (.int x1), .val (.int x2), .val (.int x3), .val (.int x4)] [(.int x2), (.int (1 : Int32)), (.ref b2), (.ref b2), (.ref b1), (.ref b1)])) rfl rfl (hb hby d2_78)
  refine Go.step st4 ?_
  have V4 : Arv Z h4 b2 k2 .char (3 : Int32) [(.int (x1.toUInt32.toUInt16.toUInt32.toInt32)), (.int (x2.toUInt32.toUInt16.toUInt32.toInt32)), (.int (0 : Int32))] (.int (0 : Int32)) := Arv.set Ar4 q4 S4 N4 H4 G4 (fits_nar_char _) W4 1 rfl (Nat.le_of_ble_eq_true rfl)
  have N4_ := Fr.snoc X4 N3_ g_b2
  have O4_ : Ext Z.heap h4 := extWr O3_ W4 g_b2
  have K4 := Keep.wr K3 W4 (Or.inr sz_b2)
  refine q_dup X4 hx hby d2_79 rfl ?_
  refine q_iC X4 hx hby d2_80  ?_
  refine q_iN X4 hx hby d2_81 rfl ?_
  obtain ⟨cl5, Ar5, q5, S5, N5, H5, G5⟩ := id V4
  have hin5 : ¬ ((2 : Int32) < 0 ∨ cl5.slots.size ≤ ((2 : Int32)).toNatClampNeg) := inb_of S5 ⟨by decide, by decide⟩
  obtain ⟨T5, h5, X5, e5, W5, st5⟩ := stC X4 hx hZ e4 Ar5 (j := (2 : Int32)) hin5 (g := (mkF m 82 #[.val (.int x0), .val (.int x1), .val (.int x2), .val (.int x3), .val (.int x4)] [(.int x3), (.int (2 : Int32)), (.ref b2), (.ref b2), (.ref b1), (.ref b1)])) rfl rfl (hb hby d2_82)
  refine Go.step st5 ?_
  have V5 : Arv Z h5 b2 k2 .char (3 : Int32) [(.int (x1.toUInt32.toUInt16.toUInt32.toInt32)), (.int (x2.toUInt32.toUInt16.toUInt32.toInt32)), (.int (x3.toUInt32.toUInt16.toUInt32.toInt32))] (.int (0 : Int32)) := Arv.set Ar5 q5 S5 N5 H5 G5 (fits_nar_char _) W5 2 rfl (Nat.le_of_ble_eq_true rfl)
  have N5_ := Fr.snoc X5 N4_ g_b2
  have O5_ : Ext Z.heap h5 := extWr O4_ W5 g_b2
  have K5 := Keep.wr K4 W5 (Or.inr sz_b2)
  have f6 := (Exa.wr W5 (Exa.wr W4 (Exa.wr W3 (Exa.ext E2 A1))))
  have f7 := (Fld.other W5 (Fld.other W4 (Fld.other W3 (Fld.ext E2 F1_coder) (Or.inl (Nat.ne_of_lt (Nat.lt_of_lt_of_le A1.lt (Nat.le_of_eq hb2.symm))))) (Or.inl (Nat.ne_of_lt (Nat.lt_of_lt_of_le A1.lt (Nat.le_of_eq hb2.symm))))) (Or.inl (Nat.ne_of_lt (Nat.lt_of_lt_of_le A1.lt (Nat.le_of_eq hb2.symm)))))
  have f8 := (Fld.other W5 (Fld.other W4 (Fld.other W3 (Fld.ext E2 F1_value) (Or.inl (Nat.ne_of_lt (Nat.lt_of_lt_of_le A1.lt (Nat.le_of_eq hb2.symm))))) (Or.inl (Nat.ne_of_lt (Nat.lt_of_lt_of_le A1.lt (Nat.le_of_eq hb2.symm))))) (Or.inl (Nat.ne_of_lt (Nat.lt_of_lt_of_le A1.lt (Nat.le_of_eq hb2.symm)))))
  refine q_cN [(.ref b2)] [(.ref b1)] 1 X5 hx hZ hown rfl (wd hw 11 rfl) (wd hw 12 rfl) (wd hw 13 rfl) (wd hw 9 rfl) (by decide) e5 (rm_a3_3 l Z a0 hw [] cs sv GG b1 b2 k2 (x1.toUInt32.toUInt16.toUInt32.toInt32) (x2.toUInt32.toUInt16.toUInt32.toInt32) (x3.toUInt32.toUInt16.toUInt32.toInt32) (0 : Int32) h5 O5_ V5 r4 r5 r6 f6 f7 g_b1 f8) hby hml rfl d2_83 pd_LACRV rfl rfl (by decide) (by decide) (by decide) (by decide) ?_
  intro v9 T9 L9 Lc9 X9 hQ9 l9
  obtain ⟨b1q3q2q9, k1q3q2q9, rfl, Nq9, Kq9, p9_0, p9_1, p9_2, p9_3⟩ := hQ9
  have O9_ : Ext Z.heap T9.heap := extKeep O5_ Kq9 (allS g_b1 all0)
  have K9 := Keep.trans K5 Kq9 (allS (Or.inr sz_b1) all0)
  have N9_ : Fr Z.heap.size L9 := by rw [l9]; exact Fr.app N5_ Nq9
  have g_b1q3q2q9 : Z.heap.size ≤ b1q3q2q9 := Nat.le_trans O5_.1 p9_2
  have sz_b1q3q2q9 : h0.size ≤ b1q3q2q9 := Nat.le_trans K5.1 p9_2
  exact Go.retA X9 hx hret rfl rfl hlk (hb hby d2_86) (by decide) (by decide) ⟨b1, b1q3q2q9, k1q3q2q9, rfl, N9_, K9, sz_b1, (f6.keep Kq9), p9_0, p9_1, sz_b1q3q2q9, p9_3, (Nat.ne_of_lt (Nat.lt_of_lt_of_le f6.lt p9_2))⟩
def Q_a10_3 (Z : State) (w6 : Int32) (h0 : Heap) (v : Option Value) (h : Heap) (L : List Loc) : Prop := v = some (.int ((3 : Int32) >>> ((w6.toInt8.toInt32) &&& 31))) ∧ Fr Z.heap.size L ∧ h = h0
theorem rm_a10_3 (l : Launch) (Z : State) (a0 : Array Value) (hw : HW Z a0) (ws : List Jvm.Cond) (cs : Int32) (sv : Value) (GG : GP Z cs sv) (x0 : Addr) (w1 : Addr) (kk2 : ClassId) (w3 : Int32) (w4 : Int32) (w5 : Int32) (w6 : Int32) (h0 : Heap) (O0 : Ext Z.heap h0) (r0 : fl_0 Z h0 x0 (.ref w1)) (r1 : Arv Z h0 w1 kk2 .byte (3 : Int32) [(.int w3), (.int w4), (.int w5)] (.int (0 : Int32))) (r2 : Exa Z h0 x0 "java/lang/String") (r3 : fl_1 Z h0 x0 (.int w6)) :
    Met FrameEnd l (⟨"java/lang/String", "length", "()I"⟩ : MethodName) jdk_42_method_54_code 1 (some .int) ws ⟨1, 0, 0, 13⟩ Z h0 #[(.ref x0)] (Q_a10_3 Z w6 h0) := by
  refine own_met "java/lang/String" (plainFor_of_name pn_10) rfl #[.val (.ref x0)] (fun _ => by first | (simp [entryFrame, mkF, argsToLocals, Value.category]; done) | rfl) ?_
  intro p e s m below meth c s₁ hx hby hlk hret hml hZ hown hnm X0 e0
  have N0 := Fr.nil Z.heap.size
  refine q_aN X0 hx hby d10_0 rfl rfl ?_
  refine q_gF X0 hx hZ hown (wd hw 27 rfl) e0 r0 hby d10_1 ?_
  intro T1 X1 e1
  obtain ⟨cl2, Ar2, -, S2, N2, -, -⟩ := id r1
  refine Go.step (X1.arraylength hx (by rw [e1]; exact Ar2.1) (State.isArrayOf_alike hZ.alike Ar2.2.1) (g := (mkF m 4 #[.val (.ref x0)] [(.ref w1)])) rfl rfl (hb hby d10_4)) ?_
  rw [len_of S2 N2]
  show Go _ _ _ _ _ _ _ _ T1 (mkF m 5 #[.val (.ref x0)] [(.int (3 : Int32))])
  refine q_aN X1 hx hby d10_5 rfl rfl ?_
  refine q_cV [] [(.int (3 : Int32))] 1 X1 hx hZ hown (wd hw 54 rfl) (wd hw 55 rfl) (wd hw 57 rfl) (wd hw 56 rfl) (wd hw 58 rfl) (wd hw 9 rfl) (by decide) e1 r2 (rm_a11_0 l Z a0 hw [] cs sv GG x0 w6 h0 O0 r3) hby hml rfl d10_6 pd_LRB rfl rfl (by decide) (by decide) (by decide) (by decide) ?_
  intro v3 T3 L3 Lc3 X3 hQ3 l3
  obtain ⟨rfl, Nq3, e3⟩ := hQ3
  have N3_ : Fr Z.heap.size L3 := by rw [l3]; exact Fr.app N0 Nq3
  refine Go.step (fun _ kt_ => XS.ishr X3.here hx rfl (hb hby d10_9) rfl kt_) ?_
  show Go _ _ _ _ _ _ _ _ T3 (mkF m 10 #[.val (.ref x0)] [(.int ((3 : Int32) >>> ((w6.toInt8.toInt32) &&& 31)))])
  exact Go.retI X3 hx hret hlk (hb hby d10_10) (by decide) (by decide) (by show _ ∧ _ ∧ _; rw [e3]; exact ⟨rfl, N3_, rfl⟩)
def Q_a12_3 (Z : State) (w2 : Int32) (w3 : Int32) (w4 : Int32) (h0 : Heap) (v : Option Value) (h : Heap) (L : List Loc) : Prop := v = some (.int (ix3 w2 w3 w4 ((47 : Int32).toInt8.toInt32))) ∧ Fr Z.heap.size L ∧ h = h0
theorem rm_a12_3 (l : Launch) (Z : State) (a0 : Array Value) (hw : HW Z a0) (ws : List Jvm.Cond) (cs : Int32) (sv : Value) (GG : GP Z cs sv) (x0 : Addr) (kk1 : ClassId) (w2 : Int32) (w3 : Int32) (w4 : Int32) (h0 : Heap) (O0 : Ext Z.heap h0) (r0 : Arv Z h0 x0 kk1 .byte (3 : Int32) [(.int w2), (.int w3), (.int w4)] (.int (0 : Int32))) :
    Met FrameEnd l (⟨"java/lang/StringLatin1", "indexOf", "([BIII)I"⟩ : MethodName) jdk_43_method_22_code 4 (some .int) ws ⟨1, 0, 0, 17⟩ Z h0 #[(.ref x0), (.int (47 : Int32)), (.int (0 : Int32)), (.int (3 : Int32))] (Q_a12_3 Z w2 w3 w4 h0) := by
  refine own_met "java/lang/StringLatin1" (plainFor_of_name pn_12) rfl #[.val (.ref x0), .val (.int (47 : Int32)), .val (.int (0 : Int32)), .val (.int (3 : Int32))] (fun _ => by first | (simp [entryFrame, mkF, argsToLocals, Value.category]; done) | rfl) ?_
  intro p e s m below meth c s₁ hx hby hlk hret hml hZ hown hnm X0 e0
  have N0 := Fr.nil Z.heap.size
  refine q_iN X0 hx hby d12_0 rfl ?_
  refine q_cS [(.int (47 : Int32))] [] 0 X0 hx hZ hown (wd hw 63 rfl) (wd hw 64 rfl) (wd hw 65 rfl) (wd hw 61 rfl) (by decide) e0 (rm_a13_0 l Z a0 hw [] cs sv GG (47 : Int32) h0 O0 (by decide) (by decide)) hby hml rfl d12_1 pd_LIRZ rfl rfl (by decide) (by decide) (by decide) (by decide) ?_
  intro v1 T1 L1 Lc1 X1 hQ1 l1
  obtain ⟨rfl, Nq1, e1⟩ := hQ1
  have N1_ : Fr Z.heap.size L1 := by rw [l1]; exact Fr.app N0 Nq1
  refine q_ifY 4 9 X1 hx hby rfl d12_4 ((if0 _ _).trans (feq (by decide : ¬ ((1 : Int32) = (0 : Int32)))).2) (by decide) (by decide) ?_
  refine q_iN X1 hx hby d12_9 rfl ?_
  refine q_iC X1 hx hby d12_10  ?_
  refine q_cS [(.int (0 : Int32)), (.int (0 : Int32))] [] 0 X1 hx hZ hown (wd hw 66 rfl) (wd hw 67 rfl) (wd hw 69 rfl) (wd hw 68 rfl) (by decide) e1 (rm_a14_0 l Z a0 hw [] cs sv GG (0 : Int32) (0 : Int32) h0 O0 (by decide)) hby hml rfl d12_11 pd_LIIRI rfl rfl (by decide) (by decide) (by decide) (by decide) ?_
  intro v2 T2 L2 Lc2 X2 hQ2 l2
  obtain ⟨rfl, Nq2, e2⟩ := hQ2
  have N2_ : Fr Z.heap.size L2 := by rw [l2]; exact Fr.app N1_ Nq2
  refine q_isN X2 hx hby d12_14 (l' := #[.val (.ref x0), .val (.int (47 : Int32)), .val (.int (0 : Int32)), .val (.int (3 : Int32))]) rfl ?_
  refine q_iN X2 hx hby d12_15 rfl ?_
  refine q_aN X2 hx hby d12_16 rfl rfl ?_
  obtain ⟨cl3, Ar3, -, S3, N3, -, -⟩ := id r0
  refine Go.step (X2.arraylength hx (by rw [e2]; exact Ar3.1) (State.isArrayOf_alike hZ.alike Ar3.2.1) (g := (mkF m 17 #[.val (.ref x0), .val (.int (47 : Int32)), .val (.int (0 : Int32)), .val (.int (3 : Int32))] [(.ref x0), (.int (3 : Int32))])) rfl rfl (hb hby d12_17)) ?_
  rw [len_of S3 N3]
  show Go _ _ _ _ _ _ _ _ T2 (mkF m 18 #[.val (.ref x0), .val (.int (47 : Int32)), .val (.int (0 : Int32)), .val (.int (3 : Int32))] [(.int (3 : Int32)), (.int (3 : Int32))])
  refine q_cS [(.int (3 : Int32)), (.int (3 : Int32))] [] 0 X2 hx hZ hown (wd hw 70 rfl) (wd hw 71 rfl) (wd hw 72 rfl) (wd hw 68 rfl) (by decide) e2 (rm_a15_0 l Z a0 hw [] cs sv GG (3 : Int32) (3 : Int32) h0 O0 (by decide)) hby hml rfl d12_18 pd_LIIRI rfl rfl (by decide) (by decide) (by decide) (by decide) ?_
  intro v4 T4 L4 Lc4 X4 hQ4 l4
  obtain ⟨rfl, Nq4, e4⟩ := hQ4
  have N4_ : Fr Z.heap.size L4 := by rw [l4]; exact Fr.app N2_ Nq4
  refine q_isN X4 hx hby d12_21 (l' := #[.val (.ref x0), .val (.int (47 : Int32)), .val (.int (0 : Int32)), .val (.int (3 : Int32))]) rfl ?_
  refine q_iN X4 hx hby d12_22 rfl ?_
  refine q_iN X4 hx hby d12_23 rfl ?_
  refine q_icY 24 29 X4 hx hby rfl d12_24 (tlt (by decide : (0 : Int32) < (3 : Int32))).1 (by decide) (by decide) ?_
  refine q_aN X4 hx hby d12_29 rfl rfl ?_
  refine q_iN X4 hx hby d12_30 rfl ?_
  refine q_iN X4 hx hby d12_31 rfl ?_
  refine q_iN X4 hx hby d12_32 rfl ?_
  refine q_cS [(.ref x0), (.int (47 : Int32)), (.int (0 : Int32)), (.int (3 : Int32))] [] 0 X4 hx hZ hown (wd hw 92 rfl) (wd hw 93 rfl) (wd hw 94 rfl) (wd hw 61 rfl) (by decide) e4 (rm_ic3 l Z a0 hw [] cs sv GG x0 (47 : Int32) kk1 w2 w3 w4 h0 O0 r0) hby hml rfl d12_33 pd_LABIIIRI rfl rfl (by decide) (by decide) (by decide) (by decide) ?_
  intro v5 T5 L5 Lc5 X5 hQ5 l5
  obtain ⟨rfl, Nq5, e5⟩ := hQ5
  have N5_ : Fr Z.heap.size L5 := by rw [l5]; exact Fr.app N4_ Nq5
  exact Go.retI X5 hx hret hlk (hb hby d12_36) (by decide) (by decide) (by show _ ∧ _ ∧ _; rw [e5]; exact ⟨rfl, N5_, rfl⟩)
def Q_a8_3 (Z : State) (w3 : Int32) (w4 : Int32) (w5 : Int32) (h0 : Heap) (v : Option Value) (h : Heap) (L : List Loc) : Prop := v = some (.int (ix3 w3 w4 w5 ((47 : Int32).toInt8.toInt32))) ∧ Fr Z.heap.size L ∧ h = h0
theorem rm_a8_3 (l : Launch) (Z : State) (a0 : Array Value) (hw : HW Z a0) (ws : List Jvm.Cond) (cs : Int32) (sv : Value) (GG : GP Z cs sv) (x0 : Addr) (w1 : Addr) (kk2 : ClassId) (w3 : Int32) (w4 : Int32) (w5 : Int32) (h0 : Heap) (O0 : Ext Z.heap h0) (r0 : Exa Z h0 x0 "java/lang/String") (r1 : fl_1 Z h0 x0 (.int (0 : Int32))) (r2 : fl_0 Z h0 x0 (.ref w1)) (r3 : Arv Z h0 w1 kk2 .byte (3 : Int32) [(.int w3), (.int w4), (.int w5)] (.int (0 : Int32))) :
    Met FrameEnd l (⟨"java/lang/String", "indexOf", "(II)I"⟩ : MethodName) jdk_42_method_80_code 3 (some .int) ws ⟨2, 0, 0, 32⟩ Z h0 #[(.ref x0), (.int (47 : Int32)), (.int (0 : Int32))] (Q_a8_3 Z w3 w4 w5 h0) := by
  refine own_met "java/lang/String" (plainFor_of_name pn_8) rfl #[.val (.ref x0), .val (.int (47 : Int32)), .val (.int (0 : Int32))] (fun _ => by first | (simp [entryFrame, mkF, argsToLocals, Value.category]; done) | rfl) ?_
  intro p e s m below meth c s₁ hx hby hlk hret hml hZ hown hnm X0 e0
  have N0 := Fr.nil Z.heap.size
  refine q_aN X0 hx hby d8_0 rfl rfl ?_
  refine q_cV [] [] 0 X0 hx hZ hown (wd hw 43 rfl) (wd hw 44 rfl) (wd hw 46 rfl) (wd hw 45 rfl) (wd hw 47 rfl) (wd hw 9 rfl) (by decide) e0 r0 (rm_a9_0 l Z a0 hw [] cs sv GG x0 (0 : Int32) h0 O0 r1 (by decide)) hby hml rfl d8_1 pd_LRZ rfl rfl (by decide) (by decide) (by decide) (by decide) ?_
  intro v1 T1 L1 Lc1 X1 hQ1 l1
  obtain ⟨rfl, Nq1, e1⟩ := hQ1
  have N1_ : Fr Z.heap.size L1 := by rw [l1]; exact Fr.app N0 Nq1
  refine q_ifN X1 hx hby d8_4 ((if0 _ _).trans (feq (by decide : ¬ ((1 : Int32) = (0 : Int32)))).1) ?_
  refine q_aN X1 hx hby d8_7 rfl rfl ?_
  refine q_gF X1 hx hZ hown (wd hw 27 rfl) e1 r2 hby d8_8 ?_
  intro T2 X2 e2
  refine q_iN X2 hx hby d8_11 rfl ?_
  refine q_iN X2 hx hby d8_12 rfl ?_
  refine q_aN X2 hx hby d8_13 rfl rfl ?_
  refine q_cV [] [(.int (0 : Int32)), (.int (47 : Int32)), (.ref w1)] 3 X2 hx hZ hown (wd hw 49 rfl) (wd hw 50 rfl) (wd hw 52 rfl) (wd hw 51 rfl) (wd hw 53 rfl) (wd hw 9 rfl) (by decide) e2 r0 (rm_a10_3 l Z a0 hw [] cs sv GG x0 w1 kk2 w3 w4 w5 (0 : Int32) h0 O0 r2 r3 r0 r1) hby hml rfl d8_14 pd_LRI rfl rfl (by decide) (by decide) (by decide) (by decide) ?_
  intro v3 T3 L3 Lc3 X3 hQ3 l3
  obtain ⟨rfl, Nq3, e3⟩ := hQ3
  have N3_ : Fr Z.heap.size L3 := by rw [l3]; exact Fr.app N1_ Nq3
  refine q_cS [(.ref w1), (.int (47 : Int32)), (.int (0 : Int32)), (.int (3 : Int32))] [] 0 X3 hx hZ hown (wd hw 59 rfl) (wd hw 60 rfl) (wd hw 62 rfl) (wd hw 61 rfl) (by decide) e3 (rm_a12_3 l Z a0 hw [] cs sv GG w1 kk2 w3 w4 w5 h0 O0 r3) hby hml rfl d8_17 pd_LABIIIRI rfl rfl (by decide) (by decide) (by decide) (by decide) ?_
  intro v4 T4 L4 Lc4 X4 hQ4 l4
  obtain ⟨rfl, Nq4, e4⟩ := hQ4
  have N4_ : Fr Z.heap.size L4 := by rw [l4]; exact Fr.app N3_ Nq4
  refine q_go 20 36 X4 hx hby rfl d8_20 (by decide) (by decide) ?_
  show Go _ _ _ _ _ _ _ _ T4 (mkF m 36 #[.val (.ref x0), .val (.int (47 : Int32)), .val (.int (0 : Int32))] [(.int (ix3 w3 w4 w5 ((47 : Int32).toInt8.toInt32)))])
  exact Go.retI X4 hx hret hlk (hb hby d8_36) (by decide) (by decide) (by show _ ∧ _ ∧ _; rw [e4]; exact ⟨rfl, N4_, rfl⟩)
def Q_a7_3 (Z : State) (w3 : Int32) (w4 : Int32) (w5 : Int32) (h0 : Heap) (v : Option Value) (h : Heap) (L : List Loc) : Prop := v = some (.int (ix3 w3 w4 w5 ((47 : Int32).toInt8.toInt32))) ∧ Fr Z.heap.size L ∧ h = h0
theorem rm_a7_3 (l : Launch) (Z : State) (a0 : Array Value) (hw : HW Z a0) (ws : List Jvm.Cond) (cs : Int32) (sv : Value) (GG : GP Z cs sv) (x0 : Addr) (w1 : Addr) (kk2 : ClassId) (w3 : Int32) (w4 : Int32) (w5 : Int32) (h0 : Heap) (O0 : Ext Z.heap h0) (r0 : Exa Z h0 x0 "java/lang/String") (r1 : fl_1 Z h0 x0 (.int (0 : Int32))) (r2 : fl_0 Z h0 x0 (.ref w1)) (r3 : Arv Z h0 w1 kk2 .byte (3 : Int32) [(.int w3), (.int w4), (.int w5)] (.int (0 : Int32))) :
    Met FrameEnd l (⟨"java/lang/String", "indexOf", "(I)I"⟩ : MethodName) jdk_42_method_79_code 2 (some .int) ws ⟨3, 0, 0, 46⟩ Z h0 #[(.ref x0), (.int (47 : Int32))] (Q_a7_3 Z w3 w4 w5 h0) := by
  refine own_met "java/lang/String" (plainFor_of_name pn_7) rfl #[.val (.ref x0), .val (.int (47 : Int32))] (fun _ => by first | (simp [entryFrame, mkF, argsToLocals, Value.category]; done) | rfl) ?_
  intro p e s m below meth c s₁ hx hby hlk hret hml hZ hown hnm X0 e0
  have N0 := Fr.nil Z.heap.size
  refine q_aN X0 hx hby d7_0 rfl rfl ?_
  refine q_iN X0 hx hby d7_1 rfl ?_
  refine q_iC X0 hx hby d7_2  ?_
  refine q_cV [(.int (47 : Int32)), (.int (0 : Int32))] [] 0 X0 hx hZ hown (wd hw 38 rfl) (wd hw 39 rfl) (wd hw 41 rfl) (wd hw 40 rfl) (wd hw 42 rfl) (wd hw 9 rfl) (by decide) e0 r0 (rm_a8_3 l Z a0 hw [] cs sv GG x0 w1 kk2 w3 w4 w5 h0 O0 r0 r1 r2 r3) hby hml rfl d7_3 pd_LIIRI rfl rfl (by decide) (by decide) (by decide) (by decide) ?_
  intro v1 T1 L1 Lc1 X1 hQ1 l1
  obtain ⟨rfl, Nq1, e1⟩ := hQ1
  have N1_ : Fr Z.heap.size L1 := by rw [l1]; exact Fr.app N0 Nq1
  exact Go.retI X1 hx hret hlk (hb hby d7_6) (by decide) (by decide) (by show _ ∧ _ ∧ _; rw [e1]; exact ⟨rfl, N1_, rfl⟩)
def Q_a22_3 (Z : State)  (h0 : Heap) (v : Option Value) (h : Heap) (L : List Loc) : Prop := ∃ (a1q5 : Addr) (b1q5 : Addr) (kb1q5 : ClassId), v = some (.ref a1q5) ∧ Fr Z.heap.size L ∧ Keep h0 h [] ∧ Exa Z h a1q5 "java/lang/String" ∧ fl_1 Z h a1q5 (.int (0 : Int32)) ∧ fl_0 Z h a1q5 (.ref b1q5) ∧ Arv Z h b1q5 kb1q5 .byte (0 : Int32) [] (.int 0)
theorem rm_a22_3 (l : Launch) (Z : State) (a0 : Array Value) (hw : HW Z a0) (ws : List Jvm.Cond) (cs : Int32) (sv : Value) (GG : GP Z cs sv) (x0 : Addr) (x1 : Int32) (x2 : Int32) (w1 : Addr) (kk2 : ClassId) (w3 : Int32) (w4 : Int32) (w5 : Int32) (w6 : Int32) (h0 : Heap) (O0 : Ext Z.heap h0) (r0 : Exa Z h0 x0 "java/lang/String") (r1 : fl_0 Z h0 x0 (.ref w1)) (r2 : Arv Z h0 w1 kk2 .byte (3 : Int32) [(.int w3), (.int w4), (.int w5)] (.int (0 : Int32))) (r3 : fl_1 Z h0 x0 (.int w6)) (r4 : ¬ (x1 < (0 : Int32))) (r5 : ¬ (x2 < x1)) (r6 : ¬ (((3 : Int32) >>> ((w6.toInt8.toInt32) &&& 31)) < x2)) (r7 : x1 = (0 : Int32)) (r8 : ¬ (x2 = ((3 : Int32) >>> ((w6.toInt8.toInt32) &&& 31)))) (r9 : w6 = (0 : Int32)) (r10 : (x2 - x1) = (0 : Int32)) :
    MetH l (⟨"java/lang/String", "substring", "(II)Ljava/lang/String;"⟩ : MethodName) jdk_42_method_92_code 5 (some (.object "java/lang/String")) ws ⟨2, 2, 4, 29⟩ Z consts_1 [] h0 #[(.ref x0), (.int x1), (.int x2)] (Q_a22_3 Z  h0) := by
  refine own_metH "java/lang/String" (plainFor_of_name pn_22) rfl #[.val (.ref x0), .val (.int x1), .val (.int x2), .unset, .unset] (fun _ => by first | (simp [entryFrame, mkF, argsToLocals, Value.category]; done) | rfl) ?_
  intro p e s m below meth c s₁ hx hby hlk hret hml hZ hown hnm X0 e0 S0 kk0 hh hCH hSF
  have N0 := Fr.nil Z.heap.size
  have wS := own_wS hw
  have hEL := own_EW hw
  have CR0 := CHr.refl hCH
  refine q_aN X0 hx hby d22_0 rfl rfl ?_
  refine q_cV [] [] 0 X0 hx hZ hown (wd hw 49 rfl) (wd hw 50 rfl) (wd hw 52 rfl) (wd hw 51 rfl) (wd hw 53 rfl) (wd hw 9 rfl) (by decide) e0 r0 (rm_a10_3 l Z a0 hw [] cs sv GG x0 w1 kk2 w3 w4 w5 w6 h0 O0 r1 r2 r0 r3) hby hml rfl d22_1 pd_LRI rfl rfl (by decide) (by decide) (by decide) (by decide) ?_
  intro v1 T1 L1 Lc1 X1 hQ1 l1
  obtain ⟨rfl, Nq1, e1⟩ := hQ1
  have N1_ : Fr Z.heap.size L1 := by rw [l1]; exact Fr.app N0 Nq1
  refine q_isN X1 hx hby d22_4 (l' := #[.val (.ref x0), .val (.int x1), .val (.int x2), .val (.int ((3 : Int32) >>> ((w6.toInt8.toInt32) &&& 31))), .unset]) rfl ?_
  refine q_iN X1 hx hby d22_5 rfl ?_
  refine q_iN X1 hx hby d22_6 rfl ?_
  refine q_iN X1 hx hby d22_7 rfl ?_
  refine q_cS [(.int x1), (.int x2), (.int ((3 : Int32) >>> ((w6.toInt8.toInt32) &&& 31)))] [] 0 X1 hx hZ hown (wd hw 100 rfl) (wd hw 101 rfl) (wd hw 102 rfl) (wd hw 9 rfl) (by decide) e1 (rm_cb l Z a0 hw [] cs sv GG x1 x2 ((3 : Int32) >>> ((w6.toInt8.toInt32) &&& 31)) h0 O0 r4 r5 r6) hby hml rfl d22_8 pd_LIIIRV rfl rfl (by decide) (by decide) (by decide) (by decide) ?_
  intro v2 T2 L2 Lc2 X2 hQ2 l2
  obtain ⟨rfl, Nq2, e2⟩ := hQ2
  have N2_ : Fr Z.heap.size L2 := by rw [l2]; exact Fr.app N1_ Nq2
  refine q_iN X2 hx hby d22_11 rfl ?_
  refine q_ifN X2 hx hby d22_12 ((if0 _ _).trans (teq r7).2) ?_
  refine q_iN X2 hx hby d22_15 rfl ?_
  refine q_iN X2 hx hby d22_16 rfl ?_
  show Go _ _ _ _ _ _ _ _ T2 (mkF m 17 #[.val (.ref x0), .val (.int x1), .val (.int x2), .val (.int ((3 : Int32) >>> ((w6.toInt8.toInt32) &&& 31))), .unset] [(.int ((3 : Int32) >>> ((w6.toInt8.toInt32) &&& 31))), (.int x2)])
  refine q_icY 17 22 X2 hx hby rfl d22_17 (feq r8).2 (by decide) (by decide) ?_
  refine q_iN X2 hx hby d22_22 rfl ?_
  refine q_iN X2 hx hby d22_23 rfl ?_
  refine q_isub X2 hx hby d22_24  ?_
  refine q_isL X2 hx hby d22_25 (l' := #[.val (.ref x0), .val (.int x1), .val (.int x2), .val (.int ((3 : Int32) >>> ((w6.toInt8.toInt32) &&& 31))), .val (.int (x2 - x1))]) rfl ?_
  refine q_aN X2 hx hby d22_27 rfl rfl ?_
  refine q_cV [] [] 0 X2 hx hZ hown (wd hw 43 rfl) (wd hw 44 rfl) (wd hw 46 rfl) (wd hw 45 rfl) (wd hw 47 rfl) (wd hw 9 rfl) (by decide) e2 r0 (rm_a9_0 l Z a0 hw [] cs sv GG x0 w6 h0 O0 r3 r9) hby hml rfl d22_28 pd_LRZ rfl rfl (by decide) (by decide) (by decide) (by decide) ?_
  intro v3 T3 L3 Lc3 X3 hQ3 l3
  obtain ⟨rfl, Nq3, e3⟩ := hQ3
  have N3_ : Fr Z.heap.size L3 := by rw [l3]; exact Fr.app N2_ Nq3
  refine q_ifN X3 hx hby d22_31 ((if0 _ _).trans (feq (by decide : ¬ ((1 : Int32) = (0 : Int32)))).1) ?_
  refine q_aN X3 hx hby d22_34 rfl rfl ?_
  refine q_gF X3 hx hZ hown (wd hw 27 rfl) e3 r1 hby d22_35 ?_
  intro T4 X4 e4
  refine q_iN X4 hx hby d22_38 rfl ?_
  show Go _ _ _ _ _ _ _ _ T4 (mkF m 39 #[.val (.ref x0), .val (.int x1), .val (.int x2), .val (.int ((3 : Int32) >>> ((w6.toInt8.toInt32) &&& 31))), .val (.int (x2 - x1))] [(.int x1), (.ref w1)])
  refine q_iL X4 hx hby d22_39 rfl ?_
  obtain ⟨_, _, ⟨T5, L5, k5, n5⟩, -, X5, Sq5, gq5, ⟨Lc5, hQ5, l5, y5, z5, cr5⟩, st5⟩ := callSS X4 hx (y := (⟨"java/lang/StringLatin1", "newString", "([BII)Ljava/lang/String;"⟩ : MethodName)) hown (mvT hZ (wd hw 108 rfl)) (mvT hZ (wd hw 109 rfl)) (mvT hZ (wd hw 61 rfl)) (mvT hZ (wd hw 110 rfl)) (by decide) (own_backH (W := 0) (rm_a25_0 l Z a0 hw [] cs sv GG w1 x1 (x2 - x1) h0 O0 r10) hZ (wd hw 110 rfl) (wd hw 61 rfl) (by decide) (by decide) hEL CR0.1 sg0) (g := (mkF m 41 #[.val (.ref x0), .val (.int x1), .val (.int x2), .val (.int ((3 : Int32) >>> ((w6.toInt8.toInt32) &&& 31))), .val (.int (x2 - x1))] [(.int (x2 - x1)), (.int x1), (.ref w1)])) rfl (by rw [hml]; rfl) (argsL := [(.ref w1), (.int x1), (.int (x2 - x1))]) (rest := []) (lenOf pd_LABIIRLjava_lang_String_ rfl) rfl (by show 2 * 0 + _ ≤ _; exact Nat.le_of_eq rfl) (hb hby d22_41) (fun _ _ => ⟨rfl, e4, (by decide : 0 + 2 ≤ _), (by decide : 0 + 4 ≤ _)⟩)
  dsimp only [Pt.U, Pt.locs, Pt.cells, Pt.slots] at X5 l5 y5 z5 st5 hQ5 Sq5 gq5 cr5
  subst y5 z5
  obtain ⟨X5, S5, hZ5, hown5⟩ := rebS S0 ((congrArg Array.size e4).symm ▸ kk0) X5 Sq5 gq5 hZ hown
  obtain ⟨a1q5, b1q5, kb1q5, rfl, Nq5, Kq5, p5_0, p5_1, p5_2, p5_3⟩ := hQ5
  have O5_ : Ext Z.heap T5.heap := extKeep O0 Kq5 all0
  have CR5 := CHr.trans CR0 cr5
  have K5 := Keep.trans (Keep.refl h0 []) Kq5 all0
  have N5_ : Fr Z.heap.size L5 := by rw [l5]; exact Fr.app N3_ Nq5
  refine Go.trans st5 ?_
  refine q_go 44 57 X5 hx hby rfl d22_44 (by decide) (by decide) ?_
  exact Go.retAH (endH hh rfl X5 hZ5 hEL CR5) X5 S5 (Nat.le_refl _) hx hret rfl rfl hlk (hb hby d22_57) (by decide) (by decide) ⟨a1q5, b1q5, kb1q5, rfl, N5_, K5, p5_0, p5_1, p5_2, p5_3⟩
def Q_a6_6 (Z : State)  (h0 : Heap) (v : Option Value) (h : Heap) (L : List Loc) : Prop := ∃ (a1q5q2 : Addr) (b1q5q2 : Addr) (kb1q5q2 : ClassId), v = some (.ref a1q5q2) ∧ Fr Z.heap.size L ∧ Keep h0 h [] ∧ Exa Z h a1q5q2 "java/lang/String" ∧ fl_1 Z h a1q5q2 (.int (0 : Int32)) ∧ fl_0 Z h a1q5q2 (.ref b1q5q2) ∧ Arv Z h b1q5q2 kb1q5q2 .byte (0 : Int32) [] (.int 0)
theorem rm_a6_6 (l : Launch) (Z : State) (a0 : Array Value) (hw : HW Z a0) (ws : List Jvm.Cond) (cs : Int32) (sv : Value) (GG : GP Z cs sv) (x0 : Addr) (w1 : Addr) (kk2 : ClassId) (w3 : Int32) (w4 : Int32) (w5 : Int32) (h0 : Heap) (O0 : Ext Z.heap h0) (r0 : Exa Z h0 x0 "java/lang/String") (r1 : fl_1 Z h0 x0 (.int (0 : Int32))) (r2 : fl_0 Z h0 x0 (.ref w1)) (r3 : Arv Z h0 w1 kk2 .byte (3 : Int32) [(.int w3), (.int w4), (.int w5)] (.int (0 : Int32))) (r4 : (ix3 w3 w4 w5 ((47 : Int32).toInt8.toInt32)) = (0 : Int32)) :
    MetH l (⟨"com/example/wary_lock/warylock/LockName", "root", "(Ljava/lang/String;)Ljava/lang/String;"⟩ : MethodName) prog_10_method_3_code 2 (some (.object "java/lang/String")) ws ⟨4, 2, 4, 59⟩ Z consts_1 [] h0 #[(.ref x0)] (Q_a6_6 Z  h0) := by
  refine own_metH "com/example/wary_lock/warylock/LockName" (plainFor_of_name pn_6) rfl #[.val (.ref x0), .unset] (fun _ => by first | (simp [entryFrame, mkF, argsToLocals, Value.category]; done) | rfl) ?_
  intro p e s m below meth c s₁ hx hby hlk hret hml hZ hown hnm X0 e0 S0 kk0 hh hCH hSF
  have N0 := Fr.nil Z.heap.size
  have wS := own_wS hw
  have hEL := own_EW hw
  have CR0 := CHr.refl hCH
  refine q_aN X0 hx hby d6_0 rfl rfl ?_
  refine q_bP X0 hx hby d6_1  ?_
  refine q_cV [(.int (47 : Int32))] [] 0 X0 hx hZ hown (wd hw 33 rfl) (wd hw 34 rfl) (wd hw 36 rfl) (wd hw 35 rfl) (wd hw 37 rfl) (wd hw 9 rfl) (by decide) e0 r0 (rm_a7_3 l Z a0 hw [] cs sv GG x0 w1 kk2 w3 w4 w5 h0 O0 r0 r1 r2 r3) hby hml rfl d6_3 pd_LIRI rfl rfl (by decide) (by decide) (by decide) (by decide) ?_
  intro v1 T1 L1 Lc1 X1 hQ1 l1
  obtain ⟨rfl, Nq1, e1⟩ := hQ1
  have N1_ : Fr Z.heap.size L1 := by rw [l1]; exact Fr.app N0 Nq1
  show Go _ _ _ _ _ _ _ _ T1 (mkF m 6 #[.val (.ref x0), .unset] [(.int (ix3 w3 w4 w5 ((47 : Int32).toInt8.toInt32)))])
  rw [r4]
  show Go _ _ _ _ _ _ _ _ T1 (mkF m 6 #[.val (.ref x0), .unset] [(.int (0 : Int32))])
  refine q_isN X1 hx hby d6_6 (l' := #[.val (.ref x0), .val (.int (0 : Int32))]) rfl ?_
  refine q_iN X1 hx hby d6_7 rfl ?_
  refine q_ifY 8 15 X1 hx hby rfl d6_8 ((if0 _ _).trans (flt (by decide : ¬ ((0 : Int32) < (0 : Int32)))).2.1) (by decide) (by decide) ?_
  refine q_aN X1 hx hby d6_15 rfl rfl ?_
  refine q_iC X1 hx hby d6_16  ?_
  refine q_iN X1 hx hby d6_17 rfl ?_
  obtain ⟨cq2, kq2, q2a, q2b, q2c⟩ := isOf hZ e1 r0
  obtain ⟨_, _, ⟨T2, L2, k2, n2⟩, -, X2, Sq2, gq2, ⟨Lc2, hQ2, l2, y2, z2, cr2⟩, st2⟩ := X1.virtualBackS hx (y := (⟨"java/lang/String", "substring", "(II)Ljava/lang/String;"⟩ : MethodName)) (z := (⟨"java/lang/String", "substring", "(II)Ljava/lang/String;"⟩ : MethodName)) hown (mvT hZ (wd hw 95 rfl)) (mvT hZ (wd hw 96 rfl)) (notFace_of_selects (args := #[]) (mvT hZ (wd hw 98 rfl))) (mvT hZ (wd hw 98 rfl)) (mvT hZ (wd hw 97 rfl)) (by decide) (own_backH (W := 0) (rm_a22_3 l Z a0 hw [] cs sv GG x0 (0 : Int32) (0 : Int32) w1 kk2 w3 w4 w5 (0 : Int32) h0 O0 r0 r2 r3 r1 (by decide) (by decide) (by decide) (by decide) (by decide) (by decide) (by decide)) hZ (wd hw 99 rfl) (wd hw 9 rfl) (by decide) (by decide) hEL CR0.1 sg0) q2a q2c (g := (mkF m 18 #[.val (.ref x0), .val (.int (0 : Int32))] [(.int (0 : Int32)), (.int (0 : Int32)), (.ref x0)])) rfl (by rw [hml]; rfl) (Steps.refl _) (argsL := [(.int (0 : Int32)), (.int (0 : Int32))]) (rest := []) (lenOf pd_LIIRLjava_lang_String_ rfl) rfl (by show 2 * 0 + _ ≤ _; exact Nat.le_of_eq rfl) (hb hby d6_18) (fun _ _ => ⟨rfl, e1, (by decide : 0 + 2 ≤ _), (by decide : 0 + 4 ≤ _)⟩)
  dsimp only [Pt.U, Pt.locs, Pt.cells, Pt.slots] at X2 l2 y2 z2 st2 hQ2 Sq2 gq2 cr2
  subst y2 z2
  obtain ⟨X2, S2, hZ2, hown2⟩ := rebS S0 ((congrArg Array.size e1).symm ▸ kk0) X2 Sq2 gq2 hZ hown
  obtain ⟨a1q5q2, b1q5q2, kb1q5q2, rfl, Nq2, Kq2, p2_0, p2_1, p2_2, p2_3⟩ := hQ2
  have O2_ : Ext Z.heap T2.heap := extKeep O0 Kq2 all0
  have CR2 := CHr.trans CR0 cr2
  have K2 := Keep.trans (Keep.refl h0 []) Kq2 all0
  have N2_ : Fr Z.heap.size L2 := by rw [l2]; exact Fr.app N1_ Nq2
  refine Go.trans st2 ?_
  exact Go.retAH (endH hh rfl X2 hZ2 hEL CR2) X2 S2 (Nat.le_refl _) hx hret rfl rfl hlk (hb hby d6_21) (by decide) (by decide) ⟨a1q5q2, b1q5q2, kb1q5q2, rfl, N2_, K2, p2_0, p2_1, p2_2, p2_3⟩
def Q_a27_1 (Z : State) (w2 : Int32) (h0 : Heap) (v : Option Value) (h : Heap) (L : List Loc) : Prop := ∃ (b2 : Addr) (k2 : ClassId), v = some (.ref b2) ∧ Fr Z.heap.size L ∧ Keep h0 h [] ∧ h0.size ≤ b2 ∧ Arv Z h b2 k2 .byte (1 : Int32) [(.int w2)] (.int (0 : Int32))
theorem rm_a27_1 (l : Launch) (Z : State) (a0 : Array Value) (hw : HW Z a0) (ws : List Jvm.Cond) (cs : Int32) (sv : Value) (GG : GP Z cs sv) (x0 : Addr) (kk1 : ClassId) (w2 : Int32) (w3 : Int32) (w4 : Int32) (h0 : Heap) (O0 : Ext Z.heap h0) (r0 : Arv Z h0 x0 kk1 .byte (3 : Int32) [(.int w2), (.int w3), (.int w4)] (.int (0 : Int32))) :
    Met FrameEnd l (⟨"java/util/Arrays", "copyOfRangeByte", "([BII)[B"⟩ : MethodName) jdk_65_method_133_code 5 (some (.array .byte)) ws ⟨1, 1, 1, 18⟩ Z h0 #[(.ref x0), (.int (0 : Int32)), (.int (1 : Int32))] (Q_a27_1 Z w2 h0) := by
  refine own_met "java/util/Arrays" (plainFor_of_name pn_27) rfl #[.val (.ref x0), .val (.int (0 : Int32)), .val (.int (1 : Int32)), .unset, .unset] (fun _ => by first | (simp [entryFrame, mkF, argsToLocals, Value.category]; done) | rfl) ?_
  intro p e s m below meth c s₁ hx hby hlk hret hml hZ hown hnm X0 e0
  have N0 := Fr.nil Z.heap.size
  refine q_iN X0 hx hby d27_0 rfl ?_
  refine q_iN X0 hx hby d27_1 rfl ?_
  refine q_cS [(.int (0 : Int32)), (.int (1 : Int32))] [] 0 X0 hx hZ hown (wd hw 120 rfl) (wd hw 121 rfl) (wd hw 122 rfl) (wd hw 115 rfl) (by decide) e0 (rm_a28_0 l Z a0 hw [] cs sv GG (0 : Int32) (1 : Int32) h0 O0 (by decide)) hby hml rfl d27_2 pd_LIIRV rfl rfl (by decide) (by decide) (by decide) (by decide) ?_
  intro v1 T1 L1 Lc1 X1 hQ1 l1
  obtain ⟨rfl, Nq1, e1⟩ := hQ1
  have N1_ : Fr Z.heap.size L1 := by rw [l1]; exact Fr.app N0 Nq1
  refine q_iN X1 hx hby d27_5 rfl ?_
  refine q_iN X1 hx hby d27_6 rfl ?_
  refine q_isub X1 hx hby d27_7  ?_
  refine q_isN X1 hx hby d27_8 (l' := #[.val (.ref x0), .val (.int (0 : Int32)), .val (.int (1 : Int32)), .val (.int (1 : Int32)), .unset]) rfl ?_
  refine q_iN X1 hx hby d27_9 rfl ?_
  obtain ⟨T2, h2, k2, X2, e2, E2, A2, st2⟩ := newP X1 hx hZ (wd hw 22 rfl) e1 (g := (mkF m 10 #[.val (.ref x0), .val (.int (0 : Int32)), .val (.int (1 : Int32)), .val (.int (1 : Int32)), .unset] [(.int (1 : Int32))])) rfl (hb hby d27_10) rfl (by decide) (cap := 1) (by decide) (by decide) (by decide) (by decide)
  obtain ⟨b2, hb2⟩ : ∃ z, z = h0.size := ⟨_, rfl⟩
  rw [← hb2] at A2 st2
  refine Go.step st2 ?_
  have g_b2 : Z.heap.size ≤ b2 := Nat.le_trans O0.1 (Nat.le_of_eq hb2.symm)
  have O2_ : Ext Z.heap h2 := extTr O0 E2
  have sz_b2 : h0.size ≤ b2 := Nat.le_trans (Keep.refl h0 []).1 (Nat.le_of_eq hb2.symm)
  have K2 := Keep.ext (Keep.refl h0 []) E2
  have V2 : Arv Z h2 b2 k2 .byte (1 : Int32) [(.int (0 : Int32))] (.int (0 : Int32)) := (Arv.new A2 (by decide)).pad (pad_rep [] (.int (0 : Int32)) 1)
  refine q_asL X2 hx hby d27_12 rfl (l' := #[.val (.ref x0), .val (.int (0 : Int32)), .val (.int (1 : Int32)), .val (.int (1 : Int32)), .val (.ref b2)]) rfl ?_
  refine q_aN X2 hx hby d27_14 rfl rfl ?_
  refine q_iN X2 hx hby d27_15 rfl ?_
  refine q_aL X2 hx hby d27_16 rfl rfl ?_
  refine q_iC X2 hx hby d27_18  ?_
  refine q_aN X2 hx hby d27_19 rfl rfl ?_
  obtain ⟨cl3, Ar3, -, S3, N3, -, -⟩ := id (r0.ext E2)
  refine Go.step (X2.arraylength hx (by rw [e2]; exact Ar3.1) (State.isArrayOf_alike hZ.alike Ar3.2.1) (g := (mkF m 20 #[.val (.ref x0), .val (.int (0 : Int32)), .val (.int (1 : Int32)), .val (.int (1 : Int32)), .val (.ref b2)] [(.ref x0), (.int (0 : Int32)), (.ref b2), (.int (0 : Int32)), (.ref x0)])) rfl rfl (hb hby d27_20)) ?_
  rw [len_of S3 N3]
  show Go _ _ _ _ _ _ _ _ T2 (mkF m 21 #[.val (.ref x0), .val (.int (0 : Int32)), .val (.int (1 : Int32)), .val (.int (1 : Int32)), .val (.ref b2)] [(.int (3 : Int32)), (.int (0 : Int32)), (.ref b2), (.int (0 : Int32)), (.ref x0)])
  refine q_iN X2 hx hby d27_21 rfl ?_
  refine q_isub X2 hx hby d27_22  ?_
  refine q_iN X2 hx hby d27_23 rfl ?_
  refine q_cS [(.int (3 : Int32)), (.int (1 : Int32))] [(.int (0 : Int32)), (.ref b2), (.int (0 : Int32)), (.ref x0)] 4 X2 hx hZ hown (wd hw 123 rfl) (wd hw 71 rfl) (wd hw 72 rfl) (wd hw 68 rfl) (by decide) e2 (rm_a15_1 l Z a0 hw [] cs sv GG (3 : Int32) (1 : Int32) h2 O2_ (by decide)) hby hml rfl d27_24 pd_LIIRI rfl rfl (by decide) (by decide) (by decide) (by decide) ?_
  intro v4 T4 L4 Lc4 X4 hQ4 l4
  obtain ⟨rfl, Nq4, e4⟩ := hQ4
  have N4_ : Fr Z.heap.size L4 := by rw [l4]; exact Fr.app N1_ Nq4
  obtain ⟨T5, h5, L5, X5, e5, N5_, K5_, V5_, st5⟩ := cpA X4 hx hZ hown (wd hw 124 rfl) (wd hw 127 rfl) (wd hw 125 rfl) (wd hw 126 rfl) e4 (us := [(.int w2)]) (r0.ext E2) V2 (Or.inl ⟨rfl, rfl⟩) (by decide) (by decide) (by decide) (by decide) (by decide) rfl (by decide) N4_ g_b2 (g := (mkF m 27 #[.val (.ref x0), .val (.int (0 : Int32)), .val (.int (1 : Int32)), .val (.int (1 : Int32)), .val (.ref b2)] [(.int (1 : Int32)), (.int (0 : Int32)), (.ref b2), (.int (0 : Int32)), (.ref x0)])) rfl (by rw [hml]; rfl) rfl (hb hby d27_27) (by decide) (W := 0) (by show 2 * 0 + _ ≤ _; exact Nat.le_of_eq rfl) (by decide)
  refine Go.step st5 ?_
  have V5 : Arv Z h5 b2 k2 .byte (1 : Int32) [(.int w2)] (.int (0 : Int32)) := V5_
  have O5_ : Ext Z.heap h5 := extKeep O2_ K5_ (allS g_b2 all0)
  have K5 := Keep.trans K2 K5_ (allS (Or.inr sz_b2) all0)
  refine q_aL X5 hx hby d27_30 rfl rfl ?_
  exact Go.retA X5 hx hret rfl rfl hlk (hb hby d27_32) (by decide) (by decide) (by show Q_a27_1 ..; rw [e5]; exact ⟨b2, k2, rfl, N5_, K5, sz_b2, V5⟩)
def Q_a26_1 (Z : State) (w2 : Int32) (h0 : Heap) (v : Option Value) (h : Heap) (L : List Loc) : Prop := ∃ (b2q2 : Addr) (k2q2 : ClassId), v = some (.ref b2q2) ∧ Fr Z.heap.size L ∧ Keep h0 h [] ∧ h0.size ≤ b2q2 ∧ Arv Z h b2q2 k2q2 .byte (1 : Int32) [(.int w2)] (.int (0 : Int32))
theorem rm_a26_1 (l : Launch) (Z : State) (a0 : Array Value) (hw : HW Z a0) (ws : List Jvm.Cond) (cs : Int32) (sv : Value) (GG : GP Z cs sv) (x0 : Addr) (kk1 : ClassId) (w2 : Int32) (w3 : Int32) (w4 : Int32) (h0 : Heap) (O0 : Ext Z.heap h0) (r0 : Arv Z h0 x0 kk1 .byte (3 : Int32) [(.int w2), (.int w3), (.int w4)] (.int (0 : Int32))) :
    Met FrameEnd l (⟨"java/util/Arrays", "copyOfRange", "([BII)[B"⟩ : MethodName) jdk_65_method_132_code 3 (some (.array .byte)) ws ⟨2, 1, 1, 34⟩ Z h0 #[(.ref x0), (.int (0 : Int32)), (.int (1 : Int32))] (Q_a26_1 Z w2 h0) := by
  refine own_met "java/util/Arrays" (plainFor_of_name pn_26) rfl #[.val (.ref x0), .val (.int (0 : Int32)), .val (.int (1 : Int32))] (fun _ => by first | (simp [entryFrame, mkF, argsToLocals, Value.category]; done) | rfl) ?_
  intro p e s m below meth c s₁ hx hby hlk hret hml hZ hown hnm X0 e0
  have N0 := Fr.nil Z.heap.size
  refine q_iN X0 hx hby d26_0 rfl ?_
  refine q_ifN X0 hx hby d26_1 ((if0 _ _).trans (teq (by decide : (0 : Int32) = (0 : Int32))).2) ?_
  refine q_iN X0 hx hby d26_4 rfl ?_
  refine q_aN X0 hx hby d26_5 rfl rfl ?_
  obtain ⟨cl1, Ar1, -, S1, N1, -, -⟩ := id r0
  refine Go.step (X0.arraylength hx (by rw [e0]; exact Ar1.1) (State.isArrayOf_alike hZ.alike Ar1.2.1) (g := (mkF m 6 #[.val (.ref x0), .val (.int (0 : Int32)), .val (.int (1 : Int32))] [(.ref x0), (.int (1 : Int32))])) rfl rfl (hb hby d26_6)) ?_
  rw [len_of S1 N1]
  show Go _ _ _ _ _ _ _ _ s₁ (mkF m 7 #[.val (.ref x0), .val (.int (0 : Int32)), .val (.int (1 : Int32))] [(.int (3 : Int32)), (.int (1 : Int32))])
  refine q_icN X0 hx hby d26_7 (feq (by decide : ¬ ((1 : Int32) = (3 : Int32)))).1 ?_
  refine q_aN X0 hx hby d26_10 rfl rfl ?_
  refine q_iN X0 hx hby d26_11 rfl ?_
  refine q_iN X0 hx hby d26_12 rfl ?_
  refine q_cS [(.ref x0), (.int (0 : Int32)), (.int (1 : Int32))] [] 0 X0 hx hZ hown (wd hw 117 rfl) (wd hw 118 rfl) (wd hw 119 rfl) (wd hw 115 rfl) (by decide) e0 (rm_a27_1 l Z a0 hw [] cs sv GG x0 kk1 w2 w3 w4 h0 O0 r0) hby hml rfl d26_13 pd_LABIIRAB rfl rfl (by decide) (by decide) (by decide) (by decide) ?_
  intro v2 T2 L2 Lc2 X2 hQ2 l2
  obtain ⟨b2q2, k2q2, rfl, Nq2, Kq2, p2_0, p2_1⟩ := hQ2
  have O2_ : Ext Z.heap T2.heap := extKeep O0 Kq2 all0
  have K2 := Keep.trans (Keep.refl h0 []) Kq2 all0
  have N2_ : Fr Z.heap.size L2 := by rw [l2]; exact Fr.app N0 Nq2
  have g_b2q2 : Z.heap.size ≤ b2q2 := Nat.le_trans O0.1 p2_0
  have sz_b2q2 : h0.size ≤ b2q2 := Nat.le_trans (Keep.refl h0 []).1 p2_0
  exact Go.retA X2 hx hret rfl rfl hlk (hb hby d26_16) (by decide) (by decide) ⟨b2q2, k2q2, rfl, N2_, K2, sz_b2q2, p2_1⟩
def Q_a25_2 (Z : State) (w2 : Int32) (h0 : Heap) (v : Option Value) (h : Heap) (L : List Loc) : Prop := ∃ (b1 : Addr) (b2q2q2 : Addr) (k2q2q2 : ClassId), v = some (.ref b1) ∧ Fr Z.heap.size L ∧ Keep h0 h [] ∧ h0.size ≤ b1 ∧ Exa Z h b1 "java/lang/String" ∧ fl_0 Z h b1 (.ref b2q2q2) ∧ fl_1 Z h b1 (.int (0 : Int32)) ∧ h0.size ≤ b2q2q2 ∧ Arv Z h b2q2q2 k2q2q2 .byte (1 : Int32) [(.int w2)] (.int (0 : Int32)) ∧ b1 ≠ b2q2q2
theorem rm_a25_2 (l : Launch) (Z : State) (a0 : Array Value) (hw : HW Z a0) (ws : List Jvm.Cond) (cs : Int32) (sv : Value) (GG : GP Z cs sv) (x0 : Addr) (kk1 : ClassId) (w2 : Int32) (w3 : Int32) (w4 : Int32) (h0 : Heap) (O0 : Ext Z.heap h0) (r0 : Arv Z h0 x0 kk1 .byte (3 : Int32) [(.int w2), (.int w3), (.int w4)] (.int (0 : Int32))) :
    Met FrameEnd l (⟨"java/lang/StringLatin1", "newString", "([BII)Ljava/lang/String;"⟩ : MethodName) jdk_43_method_47_code 3 (some (.object "java/lang/String")) ws ⟨3, 2, 5, 50⟩ Z h0 #[(.ref x0), (.int (0 : Int32)), (.int (1 : Int32))] (Q_a25_2 Z w2 h0) := by
  refine own_met "java/lang/StringLatin1" (plainFor_of_name pn_25) rfl #[.val (.ref x0), .val (.int (0 : Int32)), .val (.int (1 : Int32))] (fun _ => by first | (simp [entryFrame, mkF, argsToLocals, Value.category]; done) | rfl) ?_
  intro p e s m below meth c s₁ hx hby hlk hret hml hZ hown hnm X0 e0
  have N0 := Fr.nil Z.heap.size
  refine q_iN X0 hx hby d25_0 rfl ?_
  refine q_ifY 1 7 X0 hx hby rfl d25_1 ((if0 _ _).trans (feq (by decide : ¬ ((1 : Int32) = (0 : Int32)))).2) (by decide) (by decide) ?_
  obtain ⟨T1, h1, X1, e1, E1, A1, D1, U1, st1⟩ := newO X0 hx hZ hown (wd hw 112 rfl) (wd hw 8 rfl) (wd hw 9 rfl) e0 (g := (mkF m 7 #[.val (.ref x0), .val (.int (0 : Int32)), .val (.int (1 : Int32))] [])) rfl (hb hby d25_7) (by decide) (by decide)
  obtain ⟨b1, hb1⟩ : ∃ z, z = h0.size := ⟨_, rfl⟩
  rw [← hb1] at A1 D1 U1 st1
  refine Go.step st1 ?_
  have g_b1 : Z.heap.size ≤ b1 := Nat.le_trans O0.1 (Nat.le_of_eq hb1.symm)
  have O1_ : Ext Z.heap h1 := extTr O0 E1
  have sz_b1 : h0.size ≤ b1 := Nat.le_trans (Keep.refl h0 []).1 (Nat.le_of_eq hb1.symm)
  have K1 := Keep.ext (Keep.refl h0 []) E1
  have F1_value : fl_0 Z h1 b1 .null := D1 (Or.inr (wd hw 23 rfl)) (ty := (.array .byte)) pf_AB
  have F1_coder : fl_1 Z h1 b1 (.int (0 : Int32)) := D1 (Or.inr (wd hw 24 rfl)) (ty := .byte) pf_B
  refine q_dup X1 hx hby d25_10 rfl ?_
  refine q_aN X1 hx hby d25_11 rfl rfl ?_
  refine q_iN X1 hx hby d25_12 rfl ?_
  refine q_iN X1 hx hby d25_13 rfl ?_
  refine q_iN X1 hx hby d25_14 rfl ?_
  refine q_iadd X1 hx hby d25_15  ?_
  refine q_cS [(.ref x0), (.int (0 : Int32)), (.int (1 : Int32))] [(.ref b1), (.ref b1)] 2 X1 hx hZ hown (wd hw 113 rfl) (wd hw 114 rfl) (wd hw 116 rfl) (wd hw 115 rfl) (by decide) e1 (rm_a26_1 l Z a0 hw [] cs sv GG x0 kk1 w2 w3 w4 h1 O1_ (r0.ext E1)) hby hml rfl d25_16 pd_LABIIRAB rfl rfl (by decide) (by decide) (by decide) (by decide) ?_
  intro v2 T2 L2 Lc2 X2 hQ2 l2
  obtain ⟨b2q2q2, k2q2q2, rfl, Nq2, Kq2, p2_0, p2_1⟩ := hQ2
  have O2_ : Ext Z.heap T2.heap := extKeep O1_ Kq2 all0
  have K2 := Keep.trans K1 Kq2 all0
  have N2_ : Fr Z.heap.size L2 := by rw [l2]; exact Fr.app N0 Nq2
  have g_b2q2q2 : Z.heap.size ≤ b2q2q2 := Nat.le_trans O1_.1 p2_0
  have sz_b2q2q2 : h0.size ≤ b2q2q2 := Nat.le_trans K1.1 p2_0
  refine q_iC X2 hx hby d25_19  ?_
  refine q_cN [(.ref b2q2q2), (.int (0 : Int32))] [(.ref b1)] 1 X2 hx hZ hown rfl (wd hw 128 rfl) (wd hw 129 rfl) (wd hw 130 rfl) (wd hw 9 rfl) (by decide) rfl (rm_a29_0 l Z a0 hw [] cs sv GG b1 b2q2q2 (0 : Int32) (0 : Int32) T2.heap O2_ (A1.keep Kq2) (F1_value.keep Kq2 nin0) g_b1 (F1_coder.keep Kq2 nin0)) hby hml rfl d25_20 pd_LABBRV rfl rfl (by decide) (by decide) (by decide) (by decide) ?_
  intro v3 T3 L3 Lc3 X3 hQ3 l3
  obtain ⟨rfl, Nq3, Kq3, p3_0, p3_1⟩ := hQ3
  have O3_ : Ext Z.heap T3.heap := extKeep O2_ Kq3 (allS g_b1 all0)
  have K3 := Keep.trans K2 Kq3 (allS (Or.inr sz_b1) all0)
  have N3_ : Fr Z.heap.size L3 := by rw [l3]; exact Fr.app N2_ Nq3
  have f4 := (p2_1.keep Kq3 (ninS (Ne.symm (Nat.ne_of_lt (Nat.lt_of_lt_of_le A1.lt p2_0))) nin0))
  exact Go.retA X3 hx hret rfl rfl hlk (hb hby d25_23) (by decide) (by decide) ⟨b1, b2q2q2, k2q2q2, rfl, N3_, K3, sz_b1, ((A1.keep Kq2).keep Kq3), p3_0, p3_1, sz_b2q2q2, f4, (Nat.ne_of_lt (Nat.lt_of_lt_of_le A1.lt p2_0))⟩
def Q_a22_4 (Z : State) (w3 : Int32) (h0 : Heap) (v : Option Value) (h : Heap) (L : List Loc) : Prop := ∃ (b1q5 : Addr) (b2q2q2q5 : Addr) (k2q2q2q5 : ClassId), v = some (.ref b1q5) ∧ Fr Z.heap.size L ∧ Keep h0 h [] ∧ h0.size ≤ b1q5 ∧ Exa Z h b1q5 "java/lang/String" ∧ fl_0 Z h b1q5 (.ref b2q2q2q5) ∧ fl_1 Z h b1q5 (.int (0 : Int32)) ∧ h0.size ≤ b2q2q2q5 ∧ Arv Z h b2q2q2q5 k2q2q2q5 .byte (1 : Int32) [(.int w3)] (.int (0 : Int32)) ∧ b1q5 ≠ b2q2q2q5
theorem rm_a22_4 (l : Launch) (Z : State) (a0 : Array Value) (hw : HW Z a0) (ws : List Jvm.Cond) (cs : Int32) (sv : Value) (GG : GP Z cs sv) (x0 : Addr) (w1 : Addr) (kk2 : ClassId) (w3 : Int32) (w4 : Int32) (w5 : Int32) (h0 : Heap) (O0 : Ext Z.heap h0) (r0 : Exa Z h0 x0 "java/lang/String") (r1 : fl_0 Z h0 x0 (.ref w1)) (r2 : Arv Z h0 w1 kk2 .byte (3 : Int32) [(.int w3), (.int w4), (.int w5)] (.int (0 : Int32))) (r3 : fl_1 Z h0 x0 (.int (0 : Int32))) :
    Met FrameEnd l (⟨"java/lang/String", "substring", "(II)Ljava/lang/String;"⟩ : MethodName) jdk_42_method_92_code 5 (some (.object "java/lang/String")) ws ⟨4, 2, 5, 64⟩ Z h0 #[(.ref x0), (.int (0 : Int32)), (.int (1 : Int32))] (Q_a22_4 Z w3 h0) := by
  refine own_met "java/lang/String" (plainFor_of_name pn_22) rfl #[.val (.ref x0), .val (.int (0 : Int32)), .val (.int (1 : Int32)), .unset, .unset] (fun _ => by first | (simp [entryFrame, mkF, argsToLocals, Value.category]; done) | rfl) ?_
  intro p e s m below meth c s₁ hx hby hlk hret hml hZ hown hnm X0 e0
  have N0 := Fr.nil Z.heap.size
  refine q_aN X0 hx hby d22_0 rfl rfl ?_
  refine q_cV [] [] 0 X0 hx hZ hown (wd hw 49 rfl) (wd hw 50 rfl) (wd hw 52 rfl) (wd hw 51 rfl) (wd hw 53 rfl) (wd hw 9 rfl) (by decide) e0 r0 (rm_a10_3 l Z a0 hw [] cs sv GG x0 w1 kk2 w3 w4 w5 (0 : Int32) h0 O0 r1 r2 r0 r3) hby hml rfl d22_1 pd_LRI rfl rfl (by decide) (by decide) (by decide) (by decide) ?_
  intro v1 T1 L1 Lc1 X1 hQ1 l1
  obtain ⟨rfl, Nq1, e1⟩ := hQ1
  have N1_ : Fr Z.heap.size L1 := by rw [l1]; exact Fr.app N0 Nq1
  refine q_isN X1 hx hby d22_4 (l' := #[.val (.ref x0), .val (.int (0 : Int32)), .val (.int (1 : Int32)), .val (.int (3 : Int32)), .unset]) rfl ?_
  refine q_iN X1 hx hby d22_5 rfl ?_
  refine q_iN X1 hx hby d22_6 rfl ?_
  refine q_iN X1 hx hby d22_7 rfl ?_
  refine q_cS [(.int (0 : Int32)), (.int (1 : Int32)), (.int (3 : Int32))] [] 0 X1 hx hZ hown (wd hw 100 rfl) (wd hw 101 rfl) (wd hw 102 rfl) (wd hw 9 rfl) (by decide) e1 (rm_cb l Z a0 hw [] cs sv GG (0 : Int32) (1 : Int32) (3 : Int32) h0 O0 (by decide) (by decide) (by decide)) hby hml rfl d22_8 pd_LIIIRV rfl rfl (by decide) (by decide) (by decide) (by decide) ?_
  intro v2 T2 L2 Lc2 X2 hQ2 l2
  obtain ⟨rfl, Nq2, e2⟩ := hQ2
  have N2_ : Fr Z.heap.size L2 := by rw [l2]; exact Fr.app N1_ Nq2
  refine q_iN X2 hx hby d22_11 rfl ?_
  refine q_ifN X2 hx hby d22_12 ((if0 _ _).trans (teq (by decide : (0 : Int32) = (0 : Int32))).2) ?_
  refine q_iN X2 hx hby d22_15 rfl ?_
  refine q_iN X2 hx hby d22_16 rfl ?_
  show Go _ _ _ _ _ _ _ _ T2 (mkF m 17 #[.val (.ref x0), .val (.int (0 : Int32)), .val (.int (1 : Int32)), .val (.int (3 : Int32)), .unset] [(.int (3 : Int32)), (.int (1 : Int32))])
  refine q_icY 17 22 X2 hx hby rfl d22_17 (feq (by decide : ¬ ((1 : Int32) = (3 : Int32)))).2 (by decide) (by decide) ?_
  refine q_iN X2 hx hby d22_22 rfl ?_
  refine q_iN X2 hx hby d22_23 rfl ?_
  refine q_isub X2 hx hby d22_24  ?_
  refine q_isL X2 hx hby d22_25 (l' := #[.val (.ref x0), .val (.int (0 : Int32)), .val (.int (1 : Int32)), .val (.int (3 : Int32)), .val (.int (1 : Int32))]) rfl ?_
  refine q_aN X2 hx hby d22_27 rfl rfl ?_
  refine q_cV [] [] 0 X2 hx hZ hown (wd hw 43 rfl) (wd hw 44 rfl) (wd hw 46 rfl) (wd hw 45 rfl) (wd hw 47 rfl) (wd hw 9 rfl) (by decide) e2 r0 (rm_a9_0 l Z a0 hw [] cs sv GG x0 (0 : Int32) h0 O0 r3 (by decide)) hby hml rfl d22_28 pd_LRZ rfl rfl (by decide) (by decide) (by decide) (by decide) ?_
  intro v3 T3 L3 Lc3 X3 hQ3 l3
  obtain ⟨rfl, Nq3, e3⟩ := hQ3
  have N3_ : Fr Z.heap.size L3 := by rw [l3]; exact Fr.app N2_ Nq3
  refine q_ifN X3 hx hby d22_31 ((if0 _ _).trans (feq (by decide : ¬ ((1 : Int32) = (0 : Int32)))).1) ?_
  refine q_aN X3 hx hby d22_34 rfl rfl ?_
  refine q_gF X3 hx hZ hown (wd hw 27 rfl) e3 r1 hby d22_35 ?_
  intro T4 X4 e4
  refine q_iN X4 hx hby d22_38 rfl ?_
  show Go _ _ _ _ _ _ _ _ T4 (mkF m 39 #[.val (.ref x0), .val (.int (0 : Int32)), .val (.int (1 : Int32)), .val (.int (3 : Int32)), .val (.int (1 : Int32))] [(.int (0 : Int32)), (.ref w1)])
  refine q_iL X4 hx hby d22_39 rfl ?_
  refine q_cS [(.ref w1), (.int (0 : Int32)), (.int (1 : Int32))] [] 0 X4 hx hZ hown (wd hw 108 rfl) (wd hw 109 rfl) (wd hw 110 rfl) (wd hw 61 rfl) (by decide) e4 (rm_a25_2 l Z a0 hw [] cs sv GG w1 kk2 w3 w4 w5 h0 O0 r2) hby hml rfl d22_41 pd_LABIIRLjava_lang_String_ rfl rfl (by decide) (by decide) (by decide) (by decide) ?_
  intro v5 T5 L5 Lc5 X5 hQ5 l5
  obtain ⟨b1q5, b2q2q2q5, k2q2q2q5, rfl, Nq5, Kq5, p5_0, p5_1, p5_2, p5_3, p5_4, p5_5, p5_6⟩ := hQ5
  have O5_ : Ext Z.heap T5.heap := extKeep O0 Kq5 all0
  have K5 := Keep.trans (Keep.refl h0 []) Kq5 all0
  have N5_ : Fr Z.heap.size L5 := by rw [l5]; exact Fr.app N3_ Nq5
  have g_b1q5 : Z.heap.size ≤ b1q5 := Nat.le_trans O0.1 p5_0
  have sz_b1q5 : h0.size ≤ b1q5 := Nat.le_trans (Keep.refl h0 []).1 p5_0
  have g_b2q2q2q5 : Z.heap.size ≤ b2q2q2q5 := Nat.le_trans O0.1 p5_4
  have sz_b2q2q2q5 : h0.size ≤ b2q2q2q5 := Nat.le_trans (Keep.refl h0 []).1 p5_4
  refine q_go 44 57 X5 hx hby rfl d22_44 (by decide) (by decide) ?_
  exact Go.retA X5 hx hret rfl rfl hlk (hb hby d22_57) (by decide) (by decide) ⟨b1q5, b2q2q2q5, k2q2q2q5, rfl, N5_, K5, sz_b1q5, p5_1, p5_2, p5_3, sz_b2q2q2q5, p5_5, p5_6⟩
def Q_a6_7 (Z : State) (w3 : Int32) (h0 : Heap) (v : Option Value) (h : Heap) (L : List Loc) : Prop := ∃ (b1q5q2 : Addr) (b2q2q2q5q2 : Addr) (k2q2q2q5q2 : ClassId), v = some (.ref b1q5q2) ∧ Fr Z.heap.size L ∧ Keep h0 h [] ∧ h0.size ≤ b1q5q2 ∧ Exa Z h b1q5q2 "java/lang/String" ∧ fl_0 Z h b1q5q2 (.ref b2q2q2q5q2) ∧ fl_1 Z h b1q5q2 (.int (0 : Int32)) ∧ h0.size ≤ b2q2q2q5q2 ∧ Arv Z h b2q2q2q5q2 k2q2q2q5q2 .byte (1 : Int32) [(.int w3)] (.int (0 : Int32)) ∧ b1q5q2 ≠ b2q2q2q5q2
theorem rm_a6_7 (l : Launch) (Z : State) (a0 : Array Value) (hw : HW Z a0) (ws : List Jvm.Cond) (cs : Int32) (sv : Value) (GG : GP Z cs sv) (x0 : Addr) (w1 : Addr) (kk2 : ClassId) (w3 : Int32) (w4 : Int32) (w5 : Int32) (h0 : Heap) (O0 : Ext Z.heap h0) (r0 : Exa Z h0 x0 "java/lang/String") (r1 : fl_1 Z h0 x0 (.int (0 : Int32))) (r2 : fl_0 Z h0 x0 (.ref w1)) (r3 : Arv Z h0 w1 kk2 .byte (3 : Int32) [(.int w3), (.int w4), (.int w5)] (.int (0 : Int32))) (r4 : (ix3 w3 w4 w5 ((47 : Int32).toInt8.toInt32)) = (1 : Int32)) :
    Met FrameEnd l (⟨"com/example/wary_lock/warylock/LockName", "root", "(Ljava/lang/String;)Ljava/lang/String;"⟩ : MethodName) prog_10_method_3_code 2 (some (.object "java/lang/String")) ws ⟨5, 2, 5, 80⟩ Z h0 #[(.ref x0)] (Q_a6_7 Z w3 h0) := by
  refine own_met "com/example/wary_lock/warylock/LockName" (plainFor_of_name pn_6) rfl #[.val (.ref x0), .unset] (fun _ => by first | (simp [entryFrame, mkF, argsToLocals, Value.category]; done) | rfl) ?_
  intro p e s m below meth c s₁ hx hby hlk hret hml hZ hown hnm X0 e0
  have N0 := Fr.nil Z.heap.size
  refine q_aN X0 hx hby d6_0 rfl rfl ?_
  refine q_bP X0 hx hby d6_1  ?_
  refine q_cV [(.int (47 : Int32))] [] 0 X0 hx hZ hown (wd hw 33 rfl) (wd hw 34 rfl) (wd hw 36 rfl) (wd hw 35 rfl) (wd hw 37 rfl) (wd hw 9 rfl) (by decide) e0 r0 (rm_a7_3 l Z a0 hw [] cs sv GG x0 w1 kk2 w3 w4 w5 h0 O0 r0 r1 r2 r3) hby hml rfl d6_3 pd_LIRI rfl rfl (by decide) (by decide) (by decide) (by decide) ?_
  intro v1 T1 L1 Lc1 X1 hQ1 l1
  obtain ⟨rfl, Nq1, e1⟩ := hQ1
  have N1_ : Fr Z.heap.size L1 := by rw [l1]; exact Fr.app N0 Nq1
  show Go _ _ _ _ _ _ _ _ T1 (mkF m 6 #[.val (.ref x0), .unset] [(.int (ix3 w3 w4 w5 ((47 : Int32).toInt8.toInt32)))])
  rw [r4]
  show Go _ _ _ _ _ _ _ _ T1 (mkF m 6 #[.val (.ref x0), .unset] [(.int (1 : Int32))])
  refine q_isN X1 hx hby d6_6 (l' := #[.val (.ref x0), .val (.int (1 : Int32))]) rfl ?_
  refine q_iN X1 hx hby d6_7 rfl ?_
  refine q_ifY 8 15 X1 hx hby rfl d6_8 ((if0 _ _).trans (flt (by decide : ¬ ((1 : Int32) < (0 : Int32)))).2.1) (by decide) (by decide) ?_
  refine q_aN X1 hx hby d6_15 rfl rfl ?_
  refine q_iC X1 hx hby d6_16  ?_
  refine q_iN X1 hx hby d6_17 rfl ?_
  refine q_cV [(.int (0 : Int32)), (.int (1 : Int32))] [] 0 X1 hx hZ hown (wd hw 95 rfl) (wd hw 96 rfl) (wd hw 98 rfl) (wd hw 97 rfl) (wd hw 99 rfl) (wd hw 9 rfl) (by decide) e1 r0 (rm_a22_4 l Z a0 hw [] cs sv GG x0 w1 kk2 w3 w4 w5 h0 O0 r0 r2 r3 r1) hby hml rfl d6_18 pd_LIIRLjava_lang_String_ rfl rfl (by decide) (by decide) (by decide) (by decide) ?_
  intro v2 T2 L2 Lc2 X2 hQ2 l2
  obtain ⟨b1q5q2, b2q2q2q5q2, k2q2q2q5q2, rfl, Nq2, Kq2, p2_0, p2_1, p2_2, p2_3, p2_4, p2_5, p2_6⟩ := hQ2
  have O2_ : Ext Z.heap T2.heap := extKeep O0 Kq2 all0
  have K2 := Keep.trans (Keep.refl h0 []) Kq2 all0
  have N2_ : Fr Z.heap.size L2 := by rw [l2]; exact Fr.app N1_ Nq2
  have g_b1q5q2 : Z.heap.size ≤ b1q5q2 := Nat.le_trans O0.1 p2_0
  have sz_b1q5q2 : h0.size ≤ b1q5q2 := Nat.le_trans (Keep.refl h0 []).1 p2_0
  have g_b2q2q2q5q2 : Z.heap.size ≤ b2q2q2q5q2 := Nat.le_trans O0.1 p2_4
  have sz_b2q2q2q5q2 : h0.size ≤ b2q2q2q5q2 := Nat.le_trans (Keep.refl h0 []).1 p2_4
  exact Go.retA X2 hx hret rfl rfl hlk (hb hby d6_21) (by decide) (by decide) ⟨b1q5q2, b2q2q2q5q2, k2q2q2q5q2, rfl, N2_, K2, sz_b1q5q2, p2_1, p2_2, p2_3, sz_b2q2q2q5q2, p2_5, p2_6⟩
def Q_a27_2 (Z : State) (w2 : Int32) (w3 : Int32) (h0 : Heap) (v : Option Value) (h : Heap) (L : List Loc) : Prop := ∃ (b2 : Addr) (k2 : ClassId), v = some (.ref b2) ∧ Fr Z.heap.size L ∧ Keep h0 h [] ∧ h0.size ≤ b2 ∧ Arv Z h b2 k2 .byte (2 : Int32) [(.int w2), (.int w3)] (.int (0 : Int32))
theorem rm_a27_2 (l : Launch) (Z : State) (a0 : Array Value) (hw : HW Z a0) (ws : List Jvm.Cond) (cs : Int32) (sv : Value) (GG : GP Z cs sv) (x0 : Addr) (kk1 : ClassId) (w2 : Int32) (w3 : Int32) (w4 : Int32) (h0 : Heap) (O0 : Ext Z.heap h0) (r0 : Arv Z h0 x0 kk1 .byte (3 : Int32) [(.int w2), (.int w3), (.int w4)] (.int (0 : Int32))) :
    Met FrameEnd l (⟨"java/util/Arrays", "copyOfRangeByte", "([BII)[B"⟩ : MethodName) jdk_65_method_133_code 5 (some (.array .byte)) ws ⟨1, 1, 2, 18⟩ Z h0 #[(.ref x0), (.int (0 : Int32)), (.int (2 : Int32))] (Q_a27_2 Z w2 w3 h0) := by
  refine own_met "java/util/Arrays" (plainFor_of_name pn_27) rfl #[.val (.ref x0), .val (.int (0 : Int32)), .val (.int (2 : Int32)), .unset, .unset] (fun _ => by first | (simp [entryFrame, mkF, argsToLocals, Value.category]; done) | rfl) ?_
  intro p e s m below meth c s₁ hx hby hlk hret hml hZ hown hnm X0 e0
  have N0 := Fr.nil Z.heap.size
  refine q_iN X0 hx hby d27_0 rfl ?_
  refine q_iN X0 hx hby d27_1 rfl ?_
  refine q_cS [(.int (0 : Int32)), (.int (2 : Int32))] [] 0 X0 hx hZ hown (wd hw 120 rfl) (wd hw 121 rfl) (wd hw 122 rfl) (wd hw 115 rfl) (by decide) e0 (rm_a28_0 l Z a0 hw [] cs sv GG (0 : Int32) (2 : Int32) h0 O0 (by decide)) hby hml rfl d27_2 pd_LIIRV rfl rfl (by decide) (by decide) (by decide) (by decide) ?_
  intro v1 T1 L1 Lc1 X1 hQ1 l1
  obtain ⟨rfl, Nq1, e1⟩ := hQ1
  have N1_ : Fr Z.heap.size L1 := by rw [l1]; exact Fr.app N0 Nq1
  refine q_iN X1 hx hby d27_5 rfl ?_
  refine q_iN X1 hx hby d27_6 rfl ?_
  refine q_isub X1 hx hby d27_7  ?_
  refine q_isN X1 hx hby d27_8 (l' := #[.val (.ref x0), .val (.int (0 : Int32)), .val (.int (2 : Int32)), .val (.int (2 : Int32)), .unset]) rfl ?_
  refine q_iN X1 hx hby d27_9 rfl ?_
  obtain ⟨T2, h2, k2, X2, e2, E2, A2, st2⟩ := newP X1 hx hZ (wd hw 22 rfl) e1 (g := (mkF m 10 #[.val (.ref x0), .val (.int (0 : Int32)), .val (.int (2 : Int32)), .val (.int (2 : Int32)), .unset] [(.int (2 : Int32))])) rfl (hb hby d27_10) rfl (by decide) (cap := 2) (by decide) (by decide) (by decide) (by decide)
  obtain ⟨b2, hb2⟩ : ∃ z, z = h0.size := ⟨_, rfl⟩
  rw [← hb2] at A2 st2
  refine Go.step st2 ?_
  have g_b2 : Z.heap.size ≤ b2 := Nat.le_trans O0.1 (Nat.le_of_eq hb2.symm)
  have O2_ : Ext Z.heap h2 := extTr O0 E2
  have sz_b2 : h0.size ≤ b2 := Nat.le_trans (Keep.refl h0 []).1 (Nat.le_of_eq hb2.symm)
  have K2 := Keep.ext (Keep.refl h0 []) E2
  have V2 : Arv Z h2 b2 k2 .byte (2 : Int32) [(.int (0 : Int32)), (.int (0 : Int32))] (.int (0 : Int32)) := (Arv.new A2 (by decide)).pad (pad_rep [] (.int (0 : Int32)) 2)
  refine q_asL X2 hx hby d27_12 rfl (l' := #[.val (.ref x0), .val (.int (0 : Int32)), .val (.int (2 : Int32)), .val (.int (2 : Int32)), .val (.ref b2)]) rfl ?_
  refine q_aN X2 hx hby d27_14 rfl rfl ?_
  refine q_iN X2 hx hby d27_15 rfl ?_
  refine q_aL X2 hx hby d27_16 rfl rfl ?_
  refine q_iC X2 hx hby d27_18  ?_
  refine q_aN X2 hx hby d27_19 rfl rfl ?_
  obtain ⟨cl3, Ar3, -, S3, N3, -, -⟩ := id (r0.ext E2)
  refine Go.step (X2.arraylength hx (by rw [e2]; exact Ar3.1) (State.isArrayOf_alike hZ.alike Ar3.2.1) (g := (mkF m 20 #[.val (.ref x0), .val (.int (0 : Int32)), .val (.int (2 : Int32)), .val (.int (2 : Int32)), .val (.ref b2)] [(.ref x0), (.int (0 : Int32)), (.ref b2), (.int (0 : Int32)), (.ref x0)])) rfl rfl (hb hby d27_20)) ?_
  rw [len_of S3 N3]
  show Go _ _ _ _ _ _ _ _ T2 (mkF m 21 #[.val (.ref x0), .val (.int (0 : Int32)), .val (.int (2 : Int32)), .val (.int (2 : Int32)), .val (.ref b2)] [(.int (3 : Int32)), (.int (0 : Int32)), (.ref b2), (.int (0 : Int32)), (.ref x0)])
  refine q_iN X2 hx hby d27_21 rfl ?_
  refine q_isub X2 hx hby d27_22  ?_
  refine q_iN X2 hx hby d27_23 rfl ?_
  refine q_cS [(.int (3 : Int32)), (.int (2 : Int32))] [(.int (0 : Int32)), (.ref b2), (.int (0 : Int32)), (.ref x0)] 4 X2 hx hZ hown (wd hw 123 rfl) (wd hw 71 rfl) (wd hw 72 rfl) (wd hw 68 rfl) (by decide) e2 (rm_a15_1 l Z a0 hw [] cs sv GG (3 : Int32) (2 : Int32) h2 O2_ (by decide)) hby hml rfl d27_24 pd_LIIRI rfl rfl (by decide) (by decide) (by decide) (by decide) ?_
  intro v4 T4 L4 Lc4 X4 hQ4 l4
  obtain ⟨rfl, Nq4, e4⟩ := hQ4
  have N4_ : Fr Z.heap.size L4 := by rw [l4]; exact Fr.app N1_ Nq4
  obtain ⟨T5, h5, L5, X5, e5, N5_, K5_, V5_, st5⟩ := cpA X4 hx hZ hown (wd hw 124 rfl) (wd hw 127 rfl) (wd hw 125 rfl) (wd hw 126 rfl) e4 (us := [(.int w2), (.int w3)]) (r0.ext E2) V2 (Or.inl ⟨rfl, rfl⟩) (by decide) (by decide) (by decide) (by decide) (by decide) rfl (by decide) N4_ g_b2 (g := (mkF m 27 #[.val (.ref x0), .val (.int (0 : Int32)), .val (.int (2 : Int32)), .val (.int (2 : Int32)), .val (.ref b2)] [(.int (2 : Int32)), (.int (0 : Int32)), (.ref b2), (.int (0 : Int32)), (.ref x0)])) rfl (by rw [hml]; rfl) rfl (hb hby d27_27) (by decide) (W := 0) (by show 2 * 0 + _ ≤ _; exact Nat.le_of_eq rfl) (by decide)
  refine Go.step st5 ?_
  have V5 : Arv Z h5 b2 k2 .byte (2 : Int32) [(.int w2), (.int w3)] (.int (0 : Int32)) := V5_
  have O5_ : Ext Z.heap h5 := extKeep O2_ K5_ (allS g_b2 all0)
  have K5 := Keep.trans K2 K5_ (allS (Or.inr sz_b2) all0)
  refine q_aL X5 hx hby d27_30 rfl rfl ?_
  exact Go.retA X5 hx hret rfl rfl hlk (hb hby d27_32) (by decide) (by decide) (by show Q_a27_2 ..; rw [e5]; exact ⟨b2, k2, rfl, N5_, K5, sz_b2, V5⟩)
def Q_a26_2 (Z : State) (w2 : Int32) (w3 : Int32) (h0 : Heap) (v : Option Value) (h : Heap) (L : List Loc) : Prop := ∃ (b2q2 : Addr) (k2q2 : ClassId), v = some (.ref b2q2) ∧ Fr Z.heap.size L ∧ Keep h0 h [] ∧ h0.size ≤ b2q2 ∧ Arv Z h b2q2 k2q2 .byte (2 : Int32) [(.int w2), (.int w3)] (.int (0 : Int32))
theorem rm_a26_2 (l : Launch) (Z : State) (a0 : Array Value) (hw : HW Z a0) (ws : List Jvm.Cond) (cs : Int32) (sv : Value) (GG : GP Z cs sv) (x0 : Addr) (kk1 : ClassId) (w2 : Int32) (w3 : Int32) (w4 : Int32) (h0 : Heap) (O0 : Ext Z.heap h0) (r0 : Arv Z h0 x0 kk1 .byte (3 : Int32) [(.int w2), (.int w3), (.int w4)] (.int (0 : Int32))) :
    Met FrameEnd l (⟨"java/util/Arrays", "copyOfRange", "([BII)[B"⟩ : MethodName) jdk_65_method_132_code 3 (some (.array .byte)) ws ⟨2, 1, 2, 34⟩ Z h0 #[(.ref x0), (.int (0 : Int32)), (.int (2 : Int32))] (Q_a26_2 Z w2 w3 h0) := by
  refine own_met "java/util/Arrays" (plainFor_of_name pn_26) rfl #[.val (.ref x0), .val (.int (0 : Int32)), .val (.int (2 : Int32))] (fun _ => by first | (simp [entryFrame, mkF, argsToLocals, Value.category]; done) | rfl) ?_
  intro p e s m below meth c s₁ hx hby hlk hret hml hZ hown hnm X0 e0
  have N0 := Fr.nil Z.heap.size
  refine q_iN X0 hx hby d26_0 rfl ?_
  refine q_ifN X0 hx hby d26_1 ((if0 _ _).trans (teq (by decide : (0 : Int32) = (0 : Int32))).2) ?_
  refine q_iN X0 hx hby d26_4 rfl ?_
  refine q_aN X0 hx hby d26_5 rfl rfl ?_
  obtain ⟨cl1, Ar1, -, S1, N1, -, -⟩ := id r0
  refine Go.step (X0.arraylength hx (by rw [e0]; exact Ar1.1) (State.isArrayOf_alike hZ.alike Ar1.2.1) (g := (mkF m 6 #[.val (.ref x0), .val (.int (0 : Int32)), .val (.int (2 : Int32))] [(.ref x0), (.int (2 : Int32))])) rfl rfl (hb hby d26_6)) ?_
  rw [len_of S1 N1]
  show Go _ _ _ _ _ _ _ _ s₁ (mkF m 7 #[.val (.ref x0), .val (.int (0 : Int32)), .val (.int (2 : Int32))] [(.int (3 : Int32)), (.int (2 : Int32))])
  refine q_icN X0 hx hby d26_7 (feq (by decide : ¬ ((2 : Int32) = (3 : Int32)))).1 ?_
  refine q_aN X0 hx hby d26_10 rfl rfl ?_
  refine q_iN X0 hx hby d26_11 rfl ?_
  refine q_iN X0 hx hby d26_12 rfl ?_
  refine q_cS [(.ref x0), (.int (0 : Int32)), (.int (2 : Int32))] [] 0 X0 hx hZ hown (wd hw 117 rfl) (wd hw 118 rfl) (wd hw 119 rfl) (wd hw 115 rfl) (by decide) e0 (rm_a27_2 l Z a0 hw [] cs sv GG x0 kk1 w2 w3 w4 h0 O0 r0) hby hml rfl d26_13 pd_LABIIRAB rfl rfl (by decide) (by decide) (by decide) (by decide) ?_
  intro v2 T2 L2 Lc2 X2 hQ2 l2
  obtain ⟨b2q2, k2q2, rfl, Nq2, Kq2, p2_0, p2_1⟩ := hQ2
  have O2_ : Ext Z.heap T2.heap := extKeep O0 Kq2 all0
  have K2 := Keep.trans (Keep.refl h0 []) Kq2 all0
  have N2_ : Fr Z.heap.size L2 := by rw [l2]; exact Fr.app N0 Nq2
  have g_b2q2 : Z.heap.size ≤ b2q2 := Nat.le_trans O0.1 p2_0
  have sz_b2q2 : h0.size ≤ b2q2 := Nat.le_trans (Keep.refl h0 []).1 p2_0
  exact Go.retA X2 hx hret rfl rfl hlk (hb hby d26_16) (by decide) (by decide) ⟨b2q2, k2q2, rfl, N2_, K2, sz_b2q2, p2_1⟩
def Q_a25_3 (Z : State) (w2 : Int32) (w3 : Int32) (h0 : Heap) (v : Option Value) (h : Heap) (L : List Loc) : Prop := ∃ (b1 : Addr) (b2q2q2 : Addr) (k2q2q2 : ClassId), v = some (.ref b1) ∧ Fr Z.heap.size L ∧ Keep h0 h [] ∧ h0.size ≤ b1 ∧ Exa Z h b1 "java/lang/String" ∧ fl_0 Z h b1 (.ref b2q2q2) ∧ fl_1 Z h b1 (.int (0 : Int32)) ∧ h0.size ≤ b2q2q2 ∧ Arv Z h b2q2q2 k2q2q2 .byte (2 : Int32) [(.int w2), (.int w3)] (.int (0 : Int32)) ∧ b1 ≠ b2q2q2
theorem rm_a25_3 (l : Launch) (Z : State) (a0 : Array Value) (hw : HW Z a0) (ws : List Jvm.Cond) (cs : Int32) (sv : Value) (GG : GP Z cs sv) (x0 : Addr) (kk1 : ClassId) (w2 : Int32) (w3 : Int32) (w4 : Int32) (h0 : Heap) (O0 : Ext Z.heap h0) (r0 : Arv Z h0 x0 kk1 .byte (3 : Int32) [(.int w2), (.int w3), (.int w4)] (.int (0 : Int32))) :
    Met FrameEnd l (⟨"java/lang/StringLatin1", "newString", "([BII)Ljava/lang/String;"⟩ : MethodName) jdk_43_method_47_code 3 (some (.object "java/lang/String")) ws ⟨3, 2, 6, 50⟩ Z h0 #[(.ref x0), (.int (0 : Int32)), (.int (2 : Int32))] (Q_a25_3 Z w2 w3 h0) := by
  refine own_met "java/lang/StringLatin1" (plainFor_of_name pn_25) rfl #[.val (.ref x0), .val (.int (0 : Int32)), .val (.int (2 : Int32))] (fun _ => by first | (simp [entryFrame, mkF, argsToLocals, Value.category]; done) | rfl) ?_
  intro p e s m below meth c s₁ hx hby hlk hret hml hZ hown hnm X0 e0
  have N0 := Fr.nil Z.heap.size
  refine q_iN X0 hx hby d25_0 rfl ?_
  refine q_ifY 1 7 X0 hx hby rfl d25_1 ((if0 _ _).trans (feq (by decide : ¬ ((2 : Int32) = (0 : Int32)))).2) (by decide) (by decide) ?_
  obtain ⟨T1, h1, X1, e1, E1, A1, D1, U1, st1⟩ := newO X0 hx hZ hown (wd hw 112 rfl) (wd hw 8 rfl) (wd hw 9 rfl) e0 (g := (mkF m 7 #[.val (.ref x0), .val (.int (0 : Int32)), .val (.int (2 : Int32))] [])) rfl (hb hby d25_7) (by decide) (by decide)
  obtain ⟨b1, hb1⟩ : ∃ z, z = h0.size := ⟨_, rfl⟩
  rw [← hb1] at A1 D1 U1 st1
  refine Go.step st1 ?_
  have g_b1 : Z.heap.size ≤ b1 := Nat.le_trans O0.1 (Nat.le_of_eq hb1.symm)
  have O1_ : Ext Z.heap h1 := extTr O0 E1
  have sz_b1 : h0.size ≤ b1 := Nat.le_trans (Keep.refl h0 []).1 (Nat.le_of_eq hb1.symm)
  have K1 := Keep.ext (Keep.refl h0 []) E1
  have F1_value : fl_0 Z h1 b1 .null := D1 (Or.inr (wd hw 23 rfl)) (ty := (.array .byte)) pf_AB
  have F1_coder : fl_1 Z h1 b1 (.int (0 : Int32)) := D1 (Or.inr (wd hw 24 rfl)) (ty := .byte) pf_B
  refine q_dup X1 hx hby d25_10 rfl ?_
  refine q_aN X1 hx hby d25_11 rfl rfl ?_
  refine q_iN X1 hx hby d25_12 rfl ?_
  refine q_iN X1 hx hby d25_13 rfl ?_
  refine q_iN X1 hx hby d25_14 rfl ?_
  refine q_iadd X1 hx hby d25_15  ?_
  refine q_cS [(.ref x0), (.int (0 : Int32)), (.int (2 : Int32))] [(.ref b1), (.ref b1)] 2 X1 hx hZ hown (wd hw 113 rfl) (wd hw 114 rfl) (wd hw 116 rfl) (wd hw 115 rfl) (by decide) e1 (rm_a26_2 l Z a0 hw [] cs sv GG x0 kk1 w2 w3 w4 h1 O1_ (r0.ext E1)) hby hml rfl d25_16 pd_LABIIRAB rfl rfl (by decide) (by decide) (by decide) (by decide) ?_
  intro v2 T2 L2 Lc2 X2 hQ2 l2
  obtain ⟨b2q2q2, k2q2q2, rfl, Nq2, Kq2, p2_0, p2_1⟩ := hQ2
  have O2_ : Ext Z.heap T2.heap := extKeep O1_ Kq2 all0
  have K2 := Keep.trans K1 Kq2 all0
  have N2_ : Fr Z.heap.size L2 := by rw [l2]; exact Fr.app N0 Nq2
  have g_b2q2q2 : Z.heap.size ≤ b2q2q2 := Nat.le_trans O1_.1 p2_0
  have sz_b2q2q2 : h0.size ≤ b2q2q2 := Nat.le_trans K1.1 p2_0
  refine q_iC X2 hx hby d25_19  ?_
  refine q_cN [(.ref b2q2q2), (.int (0 : Int32))] [(.ref b1)] 1 X2 hx hZ hown rfl (wd hw 128 rfl) (wd hw 129 rfl) (wd hw 130 rfl) (wd hw 9 rfl) (by decide) rfl (rm_a29_0 l Z a0 hw [] cs sv GG b1 b2q2q2 (0 : Int32) (0 : Int32) T2.heap O2_ (A1.keep Kq2) (F1_value.keep Kq2 nin0) g_b1 (F1_coder.keep Kq2 nin0)) hby hml rfl d25_20 pd_LABBRV rfl rfl (by decide) (by decide) (by decide) (by decide) ?_
  intro v3 T3 L3 Lc3 X3 hQ3 l3
  obtain ⟨rfl, Nq3, Kq3, p3_0, p3_1⟩ := hQ3
  have O3_ : Ext Z.heap T3.heap := extKeep O2_ Kq3 (allS g_b1 all0)
  have K3 := Keep.trans K2 Kq3 (allS (Or.inr sz_b1) all0)
  have N3_ : Fr Z.heap.size L3 := by rw [l3]; exact Fr.app N2_ Nq3
  have f4 := (p2_1.keep Kq3 (ninS (Ne.symm (Nat.ne_of_lt (Nat.lt_of_lt_of_le A1.lt p2_0))) nin0))
  exact Go.retA X3 hx hret rfl rfl hlk (hb hby d25_23) (by decide) (by decide) ⟨b1, b2q2q2, k2q2q2, rfl, N3_, K3, sz_b1, ((A1.keep Kq2).keep Kq3), p3_0, p3_1, sz_b2q2q2, f4, (Nat.ne_of_lt (Nat.lt_of_lt_of_le A1.lt p2_0))⟩
def Q_a22_5 (Z : State) (w3 : Int32) (w4 : Int32) (h0 : Heap) (v : Option Value) (h : Heap) (L : List Loc) : Prop := ∃ (b1q5 : Addr) (b2q2q2q5 : Addr) (k2q2q2q5 : ClassId), v = some (.ref b1q5) ∧ Fr Z.heap.size L ∧ Keep h0 h [] ∧ h0.size ≤ b1q5 ∧ Exa Z h b1q5 "java/lang/String" ∧ fl_0 Z h b1q5 (.ref b2q2q2q5) ∧ fl_1 Z h b1q5 (.int (0 : Int32)) ∧ h0.size ≤ b2q2q2q5 ∧ Arv Z h b2q2q2q5 k2q2q2q5 .byte (2 : Int32) [(.int w3), (.int w4)] (.int (0 : Int32)) ∧ b1q5 ≠ b2q2q2q5
theorem rm_a22_5 (l : Launch) (Z : State) (a0 : Array Value) (hw : HW Z a0) (ws : List Jvm.Cond) (cs : Int32) (sv : Value) (GG : GP Z cs sv) (x0 : Addr) (w1 : Addr) (kk2 : ClassId) (w3 : Int32) (w4 : Int32) (w5 : Int32) (h0 : Heap) (O0 : Ext Z.heap h0) (r0 : Exa Z h0 x0 "java/lang/String") (r1 : fl_0 Z h0 x0 (.ref w1)) (r2 : Arv Z h0 w1 kk2 .byte (3 : Int32) [(.int w3), (.int w4), (.int w5)] (.int (0 : Int32))) (r3 : fl_1 Z h0 x0 (.int (0 : Int32))) :
    Met FrameEnd l (⟨"java/lang/String", "substring", "(II)Ljava/lang/String;"⟩ : MethodName) jdk_42_method_92_code 5 (some (.object "java/lang/String")) ws ⟨4, 2, 6, 64⟩ Z h0 #[(.ref x0), (.int (0 : Int32)), (.int (2 : Int32))] (Q_a22_5 Z w3 w4 h0) := by
  refine own_met "java/lang/String" (plainFor_of_name pn_22) rfl #[.val (.ref x0), .val (.int (0 : Int32)), .val (.int (2 : Int32)), .unset, .unset] (fun _ => by first | (simp [entryFrame, mkF, argsToLocals, Value.category]; done) | rfl) ?_
  intro p e s m below meth c s₁ hx hby hlk hret hml hZ hown hnm X0 e0
  have N0 := Fr.nil Z.heap.size
  refine q_aN X0 hx hby d22_0 rfl rfl ?_
  refine q_cV [] [] 0 X0 hx hZ hown (wd hw 49 rfl) (wd hw 50 rfl) (wd hw 52 rfl) (wd hw 51 rfl) (wd hw 53 rfl) (wd hw 9 rfl) (by decide) e0 r0 (rm_a10_3 l Z a0 hw [] cs sv GG x0 w1 kk2 w3 w4 w5 (0 : Int32) h0 O0 r1 r2 r0 r3) hby hml rfl d22_1 pd_LRI rfl rfl (by decide) (by decide) (by decide) (by decide) ?_
  intro v1 T1 L1 Lc1 X1 hQ1 l1
  obtain ⟨rfl, Nq1, e1⟩ := hQ1
  have N1_ : Fr Z.heap.size L1 := by rw [l1]; exact Fr.app N0 Nq1
  refine q_isN X1 hx hby d22_4 (l' := #[.val (.ref x0), .val (.int (0 : Int32)), .val (.int (2 : Int32)), .val (.int (3 : Int32)), .unset]) rfl ?_
  refine q_iN X1 hx hby d22_5 rfl ?_
  refine q_iN X1 hx hby d22_6 rfl ?_
  refine q_iN X1 hx hby d22_7 rfl ?_
  refine q_cS [(.int (0 : Int32)), (.int (2 : Int32)), (.int (3 : Int32))] [] 0 X1 hx hZ hown (wd hw 100 rfl) (wd hw 101 rfl) (wd hw 102 rfl) (wd hw 9 rfl) (by decide) e1 (rm_cb l Z a0 hw [] cs sv GG (0 : Int32) (2 : Int32) (3 : Int32) h0 O0 (by decide) (by decide) (by decide)) hby hml rfl d22_8 pd_LIIIRV rfl rfl (by decide) (by decide) (by decide) (by decide) ?_
  intro v2 T2 L2 Lc2 X2 hQ2 l2
  obtain ⟨rfl, Nq2, e2⟩ := hQ2
  have N2_ : Fr Z.heap.size L2 := by rw [l2]; exact Fr.app N1_ Nq2
  refine q_iN X2 hx hby d22_11 rfl ?_
  refine q_ifN X2 hx hby d22_12 ((if0 _ _).trans (teq (by decide : (0 : Int32) = (0 : Int32))).2) ?_
  refine q_iN X2 hx hby d22_15 rfl ?_
  refine q_iN X2 hx hby d22_16 rfl ?_
  show Go _ _ _ _ _ _ _ _ T2 (mkF m 17 #[.val (.ref x0), .val (.int (0 : Int32)), .val (.int (2 : Int32)), .val (.int (3 : Int32)), .unset] [(.int (3 : Int32)), (.int (2 : Int32))])
  refine q_icY 17 22 X2 hx hby rfl d22_17 (feq (by decide : ¬ ((2 : Int32) = (3 : Int32)))).2 (by decide) (by decide) ?_
  refine q_iN X2 hx hby d22_22 rfl ?_
  refine q_iN X2 hx hby d22_23 rfl ?_
  refine q_isub X2 hx hby d22_24  ?_
  refine q_isL X2 hx hby d22_25 (l' := #[.val (.ref x0), .val (.int (0 : Int32)), .val (.int (2 : Int32)), .val (.int (3 : Int32)), .val (.int (2 : Int32))]) rfl ?_
  refine q_aN X2 hx hby d22_27 rfl rfl ?_
  refine q_cV [] [] 0 X2 hx hZ hown (wd hw 43 rfl) (wd hw 44 rfl) (wd hw 46 rfl) (wd hw 45 rfl) (wd hw 47 rfl) (wd hw 9 rfl) (by decide) e2 r0 (rm_a9_0 l Z a0 hw [] cs sv GG x0 (0 : Int32) h0 O0 r3 (by decide)) hby hml rfl d22_28 pd_LRZ rfl rfl (by decide) (by decide) (by decide) (by decide) ?_
  intro v3 T3 L3 Lc3 X3 hQ3 l3
  obtain ⟨rfl, Nq3, e3⟩ := hQ3
  have N3_ : Fr Z.heap.size L3 := by rw [l3]; exact Fr.app N2_ Nq3
  refine q_ifN X3 hx hby d22_31 ((if0 _ _).trans (feq (by decide : ¬ ((1 : Int32) = (0 : Int32)))).1) ?_
  refine q_aN X3 hx hby d22_34 rfl rfl ?_
  refine q_gF X3 hx hZ hown (wd hw 27 rfl) e3 r1 hby d22_35 ?_
  intro T4 X4 e4
  refine q_iN X4 hx hby d22_38 rfl ?_
  show Go _ _ _ _ _ _ _ _ T4 (mkF m 39 #[.val (.ref x0), .val (.int (0 : Int32)), .val (.int (2 : Int32)), .val (.int (3 : Int32)), .val (.int (2 : Int32))] [(.int (0 : Int32)), (.ref w1)])
  refine q_iL X4 hx hby d22_39 rfl ?_
  refine q_cS [(.ref w1), (.int (0 : Int32)), (.int (2 : Int32))] [] 0 X4 hx hZ hown (wd hw 108 rfl) (wd hw 109 rfl) (wd hw 110 rfl) (wd hw 61 rfl) (by decide) e4 (rm_a25_3 l Z a0 hw [] cs sv GG w1 kk2 w3 w4 w5 h0 O0 r2) hby hml rfl d22_41 pd_LABIIRLjava_lang_String_ rfl rfl (by decide) (by decide) (by decide) (by decide) ?_
  intro v5 T5 L5 Lc5 X5 hQ5 l5
  obtain ⟨b1q5, b2q2q2q5, k2q2q2q5, rfl, Nq5, Kq5, p5_0, p5_1, p5_2, p5_3, p5_4, p5_5, p5_6⟩ := hQ5
  have O5_ : Ext Z.heap T5.heap := extKeep O0 Kq5 all0
  have K5 := Keep.trans (Keep.refl h0 []) Kq5 all0
  have N5_ : Fr Z.heap.size L5 := by rw [l5]; exact Fr.app N3_ Nq5
  have g_b1q5 : Z.heap.size ≤ b1q5 := Nat.le_trans O0.1 p5_0
  have sz_b1q5 : h0.size ≤ b1q5 := Nat.le_trans (Keep.refl h0 []).1 p5_0
  have g_b2q2q2q5 : Z.heap.size ≤ b2q2q2q5 := Nat.le_trans O0.1 p5_4
  have sz_b2q2q2q5 : h0.size ≤ b2q2q2q5 := Nat.le_trans (Keep.refl h0 []).1 p5_4
  refine q_go 44 57 X5 hx hby rfl d22_44 (by decide) (by decide) ?_
  exact Go.retA X5 hx hret rfl rfl hlk (hb hby d22_57) (by decide) (by decide) ⟨b1q5, b2q2q2q5, k2q2q2q5, rfl, N5_, K5, sz_b1q5, p5_1, p5_2, p5_3, sz_b2q2q2q5, p5_5, p5_6⟩
def Q_a6_8 (Z : State) (w3 : Int32) (w4 : Int32) (h0 : Heap) (v : Option Value) (h : Heap) (L : List Loc) : Prop := ∃ (b1q5q2 : Addr) (b2q2q2q5q2 : Addr) (k2q2q2q5q2 : ClassId), v = some (.ref b1q5q2) ∧ Fr Z.heap.size L ∧ Keep h0 h [] ∧ h0.size ≤ b1q5q2 ∧ Exa Z h b1q5q2 "java/lang/String" ∧ fl_0 Z h b1q5q2 (.ref b2q2q2q5q2) ∧ fl_1 Z h b1q5q2 (.int (0 : Int32)) ∧ h0.size ≤ b2q2q2q5q2 ∧ Arv Z h b2q2q2q5q2 k2q2q2q5q2 .byte (2 : Int32) [(.int w3), (.int w4)] (.int (0 : Int32)) ∧ b1q5q2 ≠ b2q2q2q5q2
theorem rm_a6_8 (l : Launch) (Z : State) (a0 : Array Value) (hw : HW Z a0) (ws : List Jvm.Cond) (cs : Int32) (sv : Value) (GG : GP Z cs sv) (x0 : Addr) (w1 : Addr) (kk2 : ClassId) (w3 : Int32) (w4 : Int32) (w5 : Int32) (h0 : Heap) (O0 : Ext Z.heap h0) (r0 : Exa Z h0 x0 "java/lang/String") (r1 : fl_1 Z h0 x0 (.int (0 : Int32))) (r2 : fl_0 Z h0 x0 (.ref w1)) (r3 : Arv Z h0 w1 kk2 .byte (3 : Int32) [(.int w3), (.int w4), (.int w5)] (.int (0 : Int32))) (r4 : (ix3 w3 w4 w5 ((47 : Int32).toInt8.toInt32)) = (2 : Int32)) :
    Met FrameEnd l (⟨"com/example/wary_lock/warylock/LockName", "root", "(Ljava/lang/String;)Ljava/lang/String;"⟩ : MethodName) prog_10_method_3_code 2 (some (.object "java/lang/String")) ws ⟨5, 2, 6, 80⟩ Z h0 #[(.ref x0)] (Q_a6_8 Z w3 w4 h0) := by
  refine own_met "com/example/wary_lock/warylock/LockName" (plainFor_of_name pn_6) rfl #[.val (.ref x0), .unset] (fun _ => by first | (simp [entryFrame, mkF, argsToLocals, Value.category]; done) | rfl) ?_
  intro p e s m below meth c s₁ hx hby hlk hret hml hZ hown hnm X0 e0
  have N0 := Fr.nil Z.heap.size
  refine q_aN X0 hx hby d6_0 rfl rfl ?_
  refine q_bP X0 hx hby d6_1  ?_
  refine q_cV [(.int (47 : Int32))] [] 0 X0 hx hZ hown (wd hw 33 rfl) (wd hw 34 rfl) (wd hw 36 rfl) (wd hw 35 rfl) (wd hw 37 rfl) (wd hw 9 rfl) (by decide) e0 r0 (rm_a7_3 l Z a0 hw [] cs sv GG x0 w1 kk2 w3 w4 w5 h0 O0 r0 r1 r2 r3) hby hml rfl d6_3 pd_LIRI rfl rfl (by decide) (by decide) (by decide) (by decide) ?_
  intro v1 T1 L1 Lc1 X1 hQ1 l1
  obtain ⟨rfl, Nq1, e1⟩ := hQ1
  have N1_ : Fr Z.heap.size L1 := by rw [l1]; exact Fr.app N0 Nq1
  show Go _ _ _ _ _ _ _ _ T1 (mkF m 6 #[.val (.ref x0), .unset] [(.int (ix3 w3 w4 w5 ((47 : Int32).toInt8.toInt32)))])
  rw [r4]
  show Go _ _ _ _ _ _ _ _ T1 (mkF m 6 #[.val (.ref x0), .unset] [(.int (2 : Int32))])
  refine q_isN X1 hx hby d6_6 (l' := #[.val (.ref x0), .val (.int (2 : Int32))]) rfl ?_
  refine q_iN X1 hx hby d6_7 rfl ?_
  refine q_ifY 8 15 X1 hx hby rfl d6_8 ((if0 _ _).trans (flt (by decide : ¬ ((2 : Int32) < (0 : Int32)))).2.1) (by decide) (by decide) ?_
  refine q_aN X1 hx hby d6_15 rfl rfl ?_
  refine q_iC X1 hx hby d6_16  ?_
  refine q_iN X1 hx hby d6_17 rfl ?_
  refine q_cV [(.int (0 : Int32)), (.int (2 : Int32))] [] 0 X1 hx hZ hown (wd hw 95 rfl) (wd hw 96 rfl) (wd hw 98 rfl) (wd hw 97 rfl) (wd hw 99 rfl) (wd hw 9 rfl) (by decide) e1 r0 (rm_a22_5 l Z a0 hw [] cs sv GG x0 w1 kk2 w3 w4 w5 h0 O0 r0 r2 r3 r1) hby hml rfl d6_18 pd_LIIRLjava_lang_String_ rfl rfl (by decide) (by decide) (by decide) (by decide) ?_
  intro v2 T2 L2 Lc2 X2 hQ2 l2
  obtain ⟨b1q5q2, b2q2q2q5q2, k2q2q2q5q2, rfl, Nq2, Kq2, p2_0, p2_1, p2_2, p2_3, p2_4, p2_5, p2_6⟩ := hQ2
  have O2_ : Ext Z.heap T2.heap := extKeep O0 Kq2 all0
  have K2 := Keep.trans (Keep.refl h0 []) Kq2 all0
  have N2_ : Fr Z.heap.size L2 := by rw [l2]; exact Fr.app N1_ Nq2
  have g_b1q5q2 : Z.heap.size ≤ b1q5q2 := Nat.le_trans O0.1 p2_0
  have sz_b1q5q2 : h0.size ≤ b1q5q2 := Nat.le_trans (Keep.refl h0 []).1 p2_0
  have g_b2q2q2q5q2 : Z.heap.size ≤ b2q2q2q5q2 := Nat.le_trans O0.1 p2_4
  have sz_b2q2q2q5q2 : h0.size ≤ b2q2q2q5q2 := Nat.le_trans (Keep.refl h0 []).1 p2_4
  exact Go.retA X2 hx hret rfl rfl hlk (hb hby d6_21) (by decide) (by decide) ⟨b1q5q2, b2q2q2q5q2, k2q2q2q5q2, rfl, N2_, K2, sz_b1q5q2, p2_1, p2_2, p2_3, sz_b2q2q2q5q2, p2_5, p2_6⟩
def Q_a6_9 (Z : State) (x0 : Addr) (h0 : Heap) (v : Option Value) (h : Heap) (L : List Loc) : Prop := v = some (.ref x0) ∧ Fr Z.heap.size L ∧ h = h0
theorem rm_a6_9 (l : Launch) (Z : State) (a0 : Array Value) (hw : HW Z a0) (ws : List Jvm.Cond) (cs : Int32) (sv : Value) (GG : GP Z cs sv) (x0 : Addr) (w1 : Addr) (kk2 : ClassId) (w3 : Int32) (w4 : Int32) (w5 : Int32) (h0 : Heap) (O0 : Ext Z.heap h0) (r0 : Exa Z h0 x0 "java/lang/String") (r1 : fl_1 Z h0 x0 (.int (0 : Int32))) (r2 : fl_0 Z h0 x0 (.ref w1)) (r3 : Arv Z h0 w1 kk2 .byte (3 : Int32) [(.int w3), (.int w4), (.int w5)] (.int (0 : Int32))) (r4 : (ix3 w3 w4 w5 ((47 : Int32).toInt8.toInt32)) = (-1 : Int32)) :
    Met FrameEnd l (⟨"com/example/wary_lock/warylock/LockName", "root", "(Ljava/lang/String;)Ljava/lang/String;"⟩ : MethodName) prog_10_method_3_code 2 (some (.object "java/lang/String")) ws ⟨4, 0, 0, 59⟩ Z h0 #[(.ref x0)] (Q_a6_9 Z x0 h0) := by
  refine own_met "com/example/wary_lock/warylock/LockName" (plainFor_of_name pn_6) rfl #[.val (.ref x0), .unset] (fun _ => by first | (simp [entryFrame, mkF, argsToLocals, Value.category]; done) | rfl) ?_
  intro p e s m below meth c s₁ hx hby hlk hret hml hZ hown hnm X0 e0
  have N0 := Fr.nil Z.heap.size
  refine q_aN X0 hx hby d6_0 rfl rfl ?_
  refine q_bP X0 hx hby d6_1  ?_
  refine q_cV [(.int (47 : Int32))] [] 0 X0 hx hZ hown (wd hw 33 rfl) (wd hw 34 rfl) (wd hw 36 rfl) (wd hw 35 rfl) (wd hw 37 rfl) (wd hw 9 rfl) (by decide) e0 r0 (rm_a7_3 l Z a0 hw [] cs sv GG x0 w1 kk2 w3 w4 w5 h0 O0 r0 r1 r2 r3) hby hml rfl d6_3 pd_LIRI rfl rfl (by decide) (by decide) (by decide) (by decide) ?_
  intro v1 T1 L1 Lc1 X1 hQ1 l1
  obtain ⟨rfl, Nq1, e1⟩ := hQ1
  have N1_ : Fr Z.heap.size L1 := by rw [l1]; exact Fr.app N0 Nq1
  show Go _ _ _ _ _ _ _ _ T1 (mkF m 6 #[.val (.ref x0), .unset] [(.int (ix3 w3 w4 w5 ((47 : Int32).toInt8.toInt32)))])
  rw [r4]
  show Go _ _ _ _ _ _ _ _ T1 (mkF m 6 #[.val (.ref x0), .unset] [(.int (-1 : Int32))])
  refine q_isN X1 hx hby d6_6 (l' := #[.val (.ref x0), .val (.int (-1 : Int32))]) rfl ?_
  refine q_iN X1 hx hby d6_7 rfl ?_
  refine q_ifN X1 hx hby d6_8 ((if0 _ _).trans (tlt (by decide : (-1 : Int32) < (0 : Int32))).2.1) ?_
  refine q_aN X1 hx hby d6_11 rfl rfl ?_
  refine q_go 12 21 X1 hx hby rfl d6_12 (by decide) (by decide) ?_
  exact Go.retA X1 hx hret rfl rfl hlk (hb hby d6_21) (by decide) (by decide) (by show _ ∧ _ ∧ _; rw [e1]; exact ⟨rfl, N1_, rfl⟩)
def Q_a17_3 (Z : State)  (h0 : Heap) (v : Option Value) (h : Heap) (L : List Loc) : Prop := v = some (.int (1 : Int32)) ∧ Fr Z.heap.size L ∧ h = h0
theorem rm_a17_3 (l : Launch) (Z : State) (a0 : Array Value) (hw : HW Z a0) (ws : List Jvm.Cond) (cs : Int32) (sv : Value) (GG : GP Z cs sv) (x0 : Addr) (x1 : Addr) (kk1 : ClassId) (w2 : Int32) (w3 : Int32) (w4 : Int32) (kk5 : ClassId) (h0 : Heap) (O0 : Ext Z.heap h0) (r0 : Arv Z h0 x0 kk1 .byte (3 : Int32) [(.int w2), (.int w3), (.int w4)] (.int (0 : Int32))) (r1 : Arv Z h0 x1 kk5 .byte (3 : Int32) [(.int w2), (.int w3), (.int w4)] (.int (0 : Int32))) :
    Met FrameEnd l (⟨"java/lang/StringLatin1", "equals", "([B[B)Z"⟩ : MethodName) jdk_43_method_13_code 3 (some .boolean) ws ⟨0, 0, 0, 0⟩ Z h0 #[(.ref x0), (.ref x1)] (Q_a17_3 Z  h0) := by
  refine own_met "java/lang/StringLatin1" (plainFor_of_name pn_17) rfl #[.val (.ref x0), .val (.ref x1), .unset] (fun _ => by first | (simp [entryFrame, mkF, argsToLocals, Value.category]; done) | rfl) ?_
  intro p e s m below meth c s₁ hx hby hlk hret hml hZ hown hnm X0 e0
  have N0 := Fr.nil Z.heap.size
  refine q_aN X0 hx hby d17_0 rfl rfl ?_
  obtain ⟨cl1, Ar1, -, S1, N1, -, -⟩ := id r0
  refine Go.step (X0.arraylength hx (by rw [e0]; exact Ar1.1) (State.isArrayOf_alike hZ.alike Ar1.2.1) (g := (mkF m 1 #[.val (.ref x0), .val (.ref x1), .unset] [(.ref x0)])) rfl rfl (hb hby d17_1)) ?_
  rw [len_of S1 N1]
  show Go _ _ _ _ _ _ _ _ s₁ (mkF m 2 #[.val (.ref x0), .val (.ref x1), .unset] [(.int (3 : Int32))])
  refine q_aN X0 hx hby d17_2 rfl rfl ?_
  obtain ⟨cl2, Ar2, -, S2, N2, -, -⟩ := id r1
  refine Go.step (X0.arraylength hx (by rw [e0]; exact Ar2.1) (State.isArrayOf_alike hZ.alike Ar2.2.1) (g := (mkF m 3 #[.val (.ref x0), .val (.ref x1), .unset] [(.ref x1), (.int (3 : Int32))])) rfl rfl (hb hby d17_3)) ?_
  rw [len_of S2 N2]
  show Go _ _ _ _ _ _ _ _ s₁ (mkF m 4 #[.val (.ref x0), .val (.ref x1), .unset] [(.int (3 : Int32)), (.int (3 : Int32))])
  refine q_icN X0 hx hby d17_4 (teq (by decide : (3 : Int32) = (3 : Int32))).2 ?_
  refine q_iC X0 hx hby d17_7  ?_
  refine q_isN X0 hx hby d17_8 (l' := #[.val (.ref x0), .val (.ref x1), .val (.int (0 : Int32))]) rfl ?_
  refine q_iN X0 hx hby d17_9 rfl ?_
  refine q_aN X0 hx hby d17_10 rfl rfl ?_
  obtain ⟨cl3, Ar3, -, S3, N3, -, -⟩ := id r0
  refine Go.step (X0.arraylength hx (by rw [e0]; exact Ar3.1) (State.isArrayOf_alike hZ.alike Ar3.2.1) (g := (mkF m 11 #[.val (.ref x0), .val (.ref x1), .val (.int (0 : Int32))] [(.ref x0), (.int (0 : Int32))])) rfl rfl (hb hby d17_11)) ?_
  rw [len_of S3 N3]
  show Go _ _ _ _ _ _ _ _ s₁ (mkF m 12 #[.val (.ref x0), .val (.ref x1), .val (.int (0 : Int32))] [(.int (3 : Int32)), (.int (0 : Int32))])
  refine q_icN X0 hx hby d17_12 (tlt (by decide : (0 : Int32) < (3 : Int32))).2.1 ?_
  refine q_aN X0 hx hby d17_15 rfl rfl ?_
  refine q_iN X0 hx hby d17_16 rfl ?_
  obtain ⟨cl4, Ar4, q4, S4, N4, H4, G4⟩ := id r0
  have hin4 : ¬ ((0 : Int32) < 0 ∨ cl4.slots.size ≤ ((0 : Int32)).toNatClampNeg) := inb_of S4 ⟨by decide, by decide⟩
  refine Go.step (X0.baloadBytes hx (j := (0 : Int32)) (v := (.int w2)) (by rw [e0]; exact Ar4.1) (State.isArrayOf_alike hZ.alike Ar4.2.1) Ar4.2.2 hin4 (Has.at H4 hin4 rfl) (g := (mkF m 17 #[.val (.ref x0), .val (.ref x1), .val (.int (0 : Int32))] [(.int (0 : Int32)), (.ref x0)])) rfl rfl (hb hby d17_17)) ?_
  refine q_aN X0 hx hby d17_18 rfl rfl ?_
  refine q_iN X0 hx hby d17_19 rfl ?_
  obtain ⟨cl5, Ar5, q5, S5, N5, H5, G5⟩ := id r1
  have hin5 : ¬ ((0 : Int32) < 0 ∨ cl5.slots.size ≤ ((0 : Int32)).toNatClampNeg) := inb_of S5 ⟨by decide, by decide⟩
  refine Go.step (X0.baloadBytes hx (j := (0 : Int32)) (v := (.int w2)) (by rw [e0]; exact Ar5.1) (State.isArrayOf_alike hZ.alike Ar5.2.1) Ar5.2.2 hin5 (Has.at H5 hin5 rfl) (g := (mkF m 20 #[.val (.ref x0), .val (.ref x1), .val (.int (0 : Int32))] [(.int (0 : Int32)), (.ref x1), (.int w2)])) rfl rfl (hb hby d17_20)) ?_
  refine q_icY 21 26 X0 hx hby rfl d17_21 (teq (rfl : w2 = w2)).1 (by decide) (by decide) ?_
  refine q_inc X0 hx hby d17_26 rfl (l' := #[.val (.ref x0), .val (.ref x1), .val (.int (1 : Int32))]) rfl ?_
  refine q_go 29 9 X0 hx hby rfl d17_29 (by decide) (by decide) ?_
  refine q_iN X0 hx hby d17_9 rfl ?_
  refine q_aN X0 hx hby d17_10 rfl rfl ?_
  obtain ⟨cl6, Ar6, -, S6, N6, -, -⟩ := id r0
  refine Go.step (X0.arraylength hx (by rw [e0]; exact Ar6.1) (State.isArrayOf_alike hZ.alike Ar6.2.1) (g := (mkF m 11 #[.val (.ref x0), .val (.ref x1), .val (.int (1 : Int32))] [(.ref x0), (.int (1 : Int32))])) rfl rfl (hb hby d17_11)) ?_
  rw [len_of S6 N6]
  show Go _ _ _ _ _ _ _ _ s₁ (mkF m 12 #[.val (.ref x0), .val (.ref x1), .val (.int (1 : Int32))] [(.int (3 : Int32)), (.int (1 : Int32))])
  refine q_icN X0 hx hby d17_12 (tlt (by decide : (1 : Int32) < (3 : Int32))).2.1 ?_
  refine q_aN X0 hx hby d17_15 rfl rfl ?_
  refine q_iN X0 hx hby d17_16 rfl ?_
  obtain ⟨cl7, Ar7, q7, S7, N7, H7, G7⟩ := id r0
  have hin7 : ¬ ((1 : Int32) < 0 ∨ cl7.slots.size ≤ ((1 : Int32)).toNatClampNeg) := inb_of S7 ⟨by decide, by decide⟩
  refine Go.step (X0.baloadBytes hx (j := (1 : Int32)) (v := (.int w3)) (by rw [e0]; exact Ar7.1) (State.isArrayOf_alike hZ.alike Ar7.2.1) Ar7.2.2 hin7 (Has.at H7 hin7 rfl) (g := (mkF m 17 #[.val (.ref x0), .val (.ref x1), .val (.int (1 : Int32))] [(.int (1 : Int32)), (.ref x0)])) rfl rfl (hb hby d17_17)) ?_
  refine q_aN X0 hx hby d17_18 rfl rfl ?_
  refine q_iN X0 hx hby d17_19 rfl ?_
  obtain ⟨cl8, Ar8, q8, S8, N8, H8, G8⟩ := id r1
  have hin8 : ¬ ((1 : Int32) < 0 ∨ cl8.slots.size ≤ ((1 : Int32)).toNatClampNeg) := inb_of S8 ⟨by decide, by decide⟩
  refine Go.step (X0.baloadBytes hx (j := (1 : Int32)) (v := (.int w3)) (by rw [e0]; exact Ar8.1) (State.isArrayOf_alike hZ.alike Ar8.2.1) Ar8.2.2 hin8 (Has.at H8 hin8 rfl) (g := (mkF m 20 #[.val (.ref x0), .val (.ref x1), .val (.int (1 : Int32))] [(.int (1 : Int32)), (.ref x1), (.int w3)])) rfl rfl (hb hby d17_20)) ?_
  refine q_icY 21 26 X0 hx hby rfl d17_21 (teq (rfl : w3 = w3)).1 (by decide) (by decide) ?_
  refine q_inc X0 hx hby d17_26 rfl (l' := #[.val (.ref x0), .val (.ref x1), .val (.int (2 : Int32))]) rfl ?_
  refine q_go 29 9 X0 hx hby rfl d17_29 (by decide) (by decide) ?_
  refine q_iN X0 hx hby d17_9 rfl ?_
  refine q_aN X0 hx hby d17_10 rfl rfl ?_
  obtain ⟨cl9, Ar9, -, S9, N9, -, -⟩ := id r0
  refine Go.step (X0.arraylength hx (by rw [e0]; exact Ar9.1) (State.isArrayOf_alike hZ.alike Ar9.2.1) (g := (mkF m 11 #[.val (.ref x0), .val (.ref x1), .val (.int (2 : Int32))] [(.ref x0), (.int (2 : Int32))])) rfl rfl (hb hby d17_11)) ?_
  rw [len_of S9 N9]
  show Go _ _ _ _ _ _ _ _ s₁ (mkF m 12 #[.val (.ref x0), .val (.ref x1), .val (.int (2 : Int32))] [(.int (3 : Int32)), (.int (2 : Int32))])
  refine q_icN X0 hx hby d17_12 (tlt (by decide : (2 : Int32) < (3 : Int32))).2.1 ?_
  refine q_aN X0 hx hby d17_15 rfl rfl ?_
  refine q_iN X0 hx hby d17_16 rfl ?_
  obtain ⟨cl10, Ar10, q10, S10, N10, H10, G10⟩ := id r0
  have hin10 : ¬ ((2 : Int32) < 0 ∨ cl10.slots.size ≤ ((2 : Int32)).toNatClampNeg) := inb_of S10 ⟨by decide, by decide⟩
  refine Go.step (X0.baloadBytes hx (j := (2 : Int32)) (v := (.int w4)) (by rw [e0]; exact Ar10.1) (State.isArrayOf_alike hZ.alike Ar10.2.1) Ar10.2.2 hin10 (Has.at H10 hin10 rfl) (g := (mkF m 17 #[.val (.ref x0), .val (.ref x1), .val (.int (2 : Int32))] [(.int (2 : Int32)), (.ref x0)])) rfl rfl (hb hby d17_17)) ?_
  refine q_aN X0 hx hby d17_18 rfl rfl ?_
  refine q_iN X0 hx hby d17_19 rfl ?_
  obtain ⟨cl11, Ar11, q11, S11, N11, H11, G11⟩ := id r1
  have hin11 : ¬ ((2 : Int32) < 0 ∨ cl11.slots.size ≤ ((2 : Int32)).toNatClampNeg) := inb_of S11 ⟨by decide, by decide⟩
  refine Go.step (X0.baloadBytes hx (j := (2 : Int32)) (v := (.int w4)) (by rw [e0]; exact Ar11.1) (State.isArrayOf_alike hZ.alike Ar11.2.1) Ar11.2.2 hin11 (Has.at H11 hin11 rfl) (g := (mkF m 20 #[.val (.ref x0), .val (.ref x1), .val (.int (2 : Int32))] [(.int (2 : Int32)), (.ref x1), (.int w4)])) rfl rfl (hb hby d17_20)) ?_
  refine q_icY 21 26 X0 hx hby rfl d17_21 (teq (rfl : w4 = w4)).1 (by decide) (by decide) ?_
  refine q_inc X0 hx hby d17_26 rfl (l' := #[.val (.ref x0), .val (.ref x1), .val (.int (3 : Int32))]) rfl ?_
  refine q_go 29 9 X0 hx hby rfl d17_29 (by decide) (by decide) ?_
  refine q_iN X0 hx hby d17_9 rfl ?_
  refine q_aN X0 hx hby d17_10 rfl rfl ?_
  obtain ⟨cl12, Ar12, -, S12, N12, -, -⟩ := id r0
  refine Go.step (X0.arraylength hx (by rw [e0]; exact Ar12.1) (State.isArrayOf_alike hZ.alike Ar12.2.1) (g := (mkF m 11 #[.val (.ref x0), .val (.ref x1), .val (.int (3 : Int32))] [(.ref x0), (.int (3 : Int32))])) rfl rfl (hb hby d17_11)) ?_
  rw [len_of S12 N12]
  show Go _ _ _ _ _ _ _ _ s₁ (mkF m 12 #[.val (.ref x0), .val (.ref x1), .val (.int (3 : Int32))] [(.int (3 : Int32)), (.int (3 : Int32))])
  refine q_icY 12 32 X0 hx hby rfl d17_12 (flt (by decide : ¬ ((3 : Int32) < (3 : Int32)))).2.1 (by decide) (by decide) ?_
  refine q_iC X0 hx hby d17_32  ?_
  exact Go.retN X0 hx (t := .boolean) hret (by simp) hlk (hb hby d17_33) (by decide) (by decide) (by show _ ∧ _ ∧ _; rw [e0]; exact ⟨rfl, N0, rfl⟩)
def Q_a16_4 (Z : State)  (h0 : Heap) (v : Option Value) (h : Heap) (L : List Loc) : Prop := v = some (.int (1 : Int32)) ∧ Fr Z.heap.size L ∧ h = h0
theorem rm_a16_4 (l : Launch) (Z : State) (a0 : Array Value) (hw : HW Z a0) (ws : List Jvm.Cond) (cs : Int32) (sv : Value) (GG : GP Z cs sv) (x0 : Addr) (x1 : Addr) (w1 : Int32) (w2 : Int32) (w3 : Addr) (w4 : Addr) (kk5 : ClassId) (w6 : Int32) (w7 : Int32) (w8 : Int32) (kk9 : ClassId) (h0 : Heap) (O0 : Ext Z.heap h0) (r0 : x0 ≠ x1) (r1 : Exa Z h0 x1 "java/lang/String") (r2 : fl_1 Z h0 x0 (.int w1)) (r3 : fl_1 Z h0 x1 (.int w2)) (r4 : w1 = w2) (r5 : fl_0 Z h0 x0 (.ref w3)) (r6 : fl_0 Z h0 x1 (.ref w4)) (r7 : Arv Z h0 w3 kk5 .byte (3 : Int32) [(.int w6), (.int w7), (.int w8)] (.int (0 : Int32))) (r8 : Arv Z h0 w4 kk9 .byte (3 : Int32) [(.int w6), (.int w7), (.int w8)] (.int (0 : Int32))) :
    Met FrameEnd l (⟨"java/lang/String", "equals", "(Ljava/lang/Object;)Z"⟩ : MethodName) jdk_42_method_66_code 3 (some .boolean) ws ⟨1, 0, 0, 14⟩ Z h0 #[(.ref x0), (.ref x1)] (Q_a16_4 Z  h0) := by
  refine own_met "java/lang/String" (plainFor_of_name pn_16) rfl #[.val (.ref x0), .val (.ref x1), .unset] (fun _ => by first | (simp [entryFrame, mkF, argsToLocals, Value.category]; done) | rfl) ?_
  intro p e s m below meth c s₁ hx hby hlk hret hml hZ hown hnm X0 e0
  have N0 := Fr.nil Z.heap.size
  obtain ⟨G_cs, H_cs, G_sv, H_sv⟩ := id GG
  refine q_aN X0 hx hby d16_0 rfl rfl ?_
  refine q_aN X0 hx hby d16_1 rfl rfl ?_
  refine Go.step (fun _ kt_ => Jvm.RoadKit.acmp (g := (mkF m 2 #[.val (.ref x0), .val (.ref x1), .unset] [(.ref x1), (.ref x0)])) X0 hx rfl rfl rfl (pc0 := 2) (pc' := 7) (same := false) rfl (hb hby d16_2) rfl (decide_eq_false fun q => r0 (Value.ref.inj q)) (by decide) (by decide) kt_) ?_
  show Go _ _ _ _ _ _ _ _ s₁ (mkF m 7 #[.val (.ref x0), .val (.ref x1), .unset] [])
  refine q_aN X0 hx hby d16_7 rfl rfl ?_
  obtain ⟨T1, X1, e1, st1⟩ := instY X0 hx hZ hown (wd hw 78 rfl) e0 (Ins.self r1) (g := (mkF m 8 #[.val (.ref x0), .val (.ref x1), .unset] [(.ref x1)])) rfl rfl (hb hby d16_8)
  refine Go.step st1 ?_
  refine q_ifN X1 hx hby d16_11 ((if0 _ _).trans (feq (by decide : ¬ ((1 : Int32) = (0 : Int32)))).1) ?_
  refine q_aN X1 hx hby d16_14 rfl rfl ?_
  obtain ⟨T2, X2, e2, st2⟩ := castY X1 hx hZ hown (wd hw 78 rfl) e1 (Ins.self r1) (g := (mkF m 15 #[.val (.ref x0), .val (.ref x1), .unset] [(.ref x1)])) rfl rfl (hb hby d16_15)
  refine Go.step st2 ?_
  refine q_asN X2 hx hby d16_18 rfl (l' := #[.val (.ref x0), .val (.ref x1), .val (.ref x1)]) rfl ?_
  refine q_gS X2 hx hZ hown (wd hw 48 rfl) e2 (Sta.ext O0 G_cs) hby d16_19 ?_
  intro T3 X3 e3
  refine q_ifN X3 hx hby d16_22 ((if0 _ _).trans (feq H_cs).1) ?_
  refine q_aN X3 hx hby d16_25 rfl rfl ?_
  refine q_gF X3 hx hZ hown (wd hw 28 rfl) e3 r2 hby d16_26 ?_
  intro T4 X4 e4
  refine q_aN X4 hx hby d16_29 rfl rfl ?_
  refine q_gF X4 hx hZ hown (wd hw 28 rfl) e4 r3 hby d16_30 ?_
  intro T5 X5 e5
  refine q_icN X5 hx hby d16_33 (teq r4).2 ?_
  refine q_aN X5 hx hby d16_36 rfl rfl ?_
  refine q_gF X5 hx hZ hown (wd hw 27 rfl) e5 r5 hby d16_37 ?_
  intro T6 X6 e6
  show Go _ _ _ _ _ _ _ _ T6 (mkF m 40 #[.val (.ref x0), .val (.ref x1), .val (.ref x1)] [(.ref w3)])
  refine q_aN X6 hx hby d16_40 rfl rfl ?_
  refine q_gF X6 hx hZ hown (wd hw 27 rfl) e6 r6 hby d16_41 ?_
  intro T7 X7 e7
  refine q_cS [(.ref w3), (.ref w4)] [] 0 X7 hx hZ hown (wd hw 79 rfl) (wd hw 80 rfl) (wd hw 81 rfl) (wd hw 61 rfl) (by decide) e7 (rm_a17_3 l Z a0 hw [] cs sv GG w3 w4 kk5 w6 w7 w8 kk9 h0 O0 r7 r8) hby hml rfl d16_44 pd_LABABRZ rfl rfl (by decide) (by decide) (by decide) (by decide) ?_
  intro v8 T8 L8 Lc8 X8 hQ8 l8
  obtain ⟨rfl, Nq8, e8⟩ := hQ8
  have N8_ : Fr Z.heap.size L8 := by rw [l8]; exact Fr.app N0 Nq8
  refine q_ifN X8 hx hby d16_47 ((if0 _ _).trans (feq (by decide : ¬ ((1 : Int32) = (0 : Int32)))).1) ?_
  refine q_iC X8 hx hby d16_50  ?_
  refine q_go 51 55 X8 hx hby rfl d16_51 (by decide) (by decide) ?_
  exact Go.retN X8 hx (t := .boolean) hret (by simp) hlk (hb hby d16_55) (by decide) (by decide) (by show _ ∧ _ ∧ _; rw [e8]; exact ⟨rfl, N8_, rfl⟩)
theorem d2_87 : decode method_3_code 87 = .ok (.new 7, 3) := by decide +kernel
theorem d2_90 : decode method_3_code 90 = .ok (.dup, 1) := by decide +kernel
theorem d2_91 : decode method_3_code 91 = .ok (.iconst 4, 1) := by decide +kernel
theorem d2_92 : decode method_3_code 92 = .ok (.newarray .char, 2) := by decide +kernel
theorem d2_94 : decode method_3_code 94 = .ok (.dup, 1) := by decide +kernel
theorem d2_95 : decode method_3_code 95 = .ok (.iconst 0, 1) := by decide +kernel
theorem d2_96 : decode method_3_code 96 = .ok (.iload_n 1, 1) := by decide +kernel
theorem d2_97 : decode method_3_code 97 = .ok (.castore, 1) := by decide +kernel
theorem d2_98 : decode method_3_code 98 = .ok (.dup, 1) := by decide +kernel
theorem d2_99 : decode method_3_code 99 = .ok (.iconst 1, 1) := by decide +kernel
theorem d2_100 : decode method_3_code 100 = .ok (.iload_n 2, 1) := by decide +kernel
theorem d2_101 : decode method_3_code 101 = .ok (.castore, 1) := by decide +kernel
theorem d2_102 : decode method_3_code 102 = .ok (.dup, 1) := by decide +kernel
theorem d2_103 : decode method_3_code 103 = .ok (.iconst 2, 1) := by decide +kernel
theorem d2_104 : decode method_3_code 104 = .ok (.iload_n 3, 1) := by decide +kernel
theorem d2_105 : decode method_3_code 105 = .ok (.castore, 1) := by decide +kernel
theorem d2_106 : decode method_3_code 106 = .ok (.dup, 1) := by decide +kernel
theorem d2_107 : decode method_3_code 107 = .ok (.iconst 3, 1) := by decide +kernel
theorem d2_108 : decode method_3_code 108 = .ok (.iload 4, 2) := by decide +kernel
theorem d2_110 : decode method_3_code 110 = .ok (.castore, 1) := by decide +kernel
theorem d2_111 : decode method_3_code 111 = .ok (.invokespecial 9, 3) := by decide +kernel
def Q_a19_3 (Z : State) (x2 : Addr) (w2 : Int32) (w3 : Int32) (w4 : Int32) (w5 : Int32) (kk6 : ClassId) (h0 : Heap) (v : Option Value) (h : Heap) (L : List Loc) : Prop := v = some (.int (4 : Int32)) ∧ Fr Z.heap.size L ∧ Keep h0 h [x2] ∧ Arv Z h x2 kk6 .byte (4 : Int32) [(.int ((w2.toInt8.toInt32).toInt8.toInt32)), (.int ((w3.toInt8.toInt32).toInt8.toInt32)), (.int ((w4.toInt8.toInt32).toInt8.toInt32)), (.int ((w5.toInt8.toInt32).toInt8.toInt32))] (.int (0 : Int32))
theorem rm_a19_3 (l : Launch) (Z : State) (a0 : Array Value) (hw : HW Z a0) (ws : List Jvm.Cond) (cs : Int32) (sv : Value) (GG : GP Z cs sv) (x0 : Addr) (x2 : Addr) (kk1 : ClassId) (w2 : Int32) (w3 : Int32) (w4 : Int32) (w5 : Int32) (kk6 : ClassId) (h0 : Heap) (O0 : Ext Z.heap h0) (r0 : Arv Z h0 x0 kk1 .char (4 : Int32) [(.int w2), (.int w3), (.int w4), (.int w5)] (.int (0 : Int32))) (r1 : ¬ ((255 : Int32) < w2)) (r2 : Arv Z h0 x2 kk6 .byte (4 : Int32) [(.int (0 : Int32)), (.int (0 : Int32)), (.int (0 : Int32)), (.int (0 : Int32))] (.int (0 : Int32))) (r3 : Z.heap.size ≤ x2) (r4 : x0 ≠ x2) (r5 : ¬ ((255 : Int32) < w3)) (r6 : ¬ ((255 : Int32) < w4)) (r7 : ¬ ((255 : Int32) < w5)) :
    Met FrameEnd l (⟨"java/lang/StringUTF16", "compress", "([CI[BII)I"⟩ : MethodName) jdk_52_method_21_code 7 (some .int) ws ⟨0, 0, 0, 0⟩ Z h0 #[(.ref x0), (.int (0 : Int32)), (.ref x2), (.int (0 : Int32)), (.int (4 : Int32))] (Q_a19_3 Z x2 w2 w3 w4 w5 kk6 h0) := by
  refine own_met "java/lang/StringUTF16" (plainFor_of_name pn_19) rfl #[.val (.ref x0), .val (.int (0 : Int32)), .val (.ref x2), .val (.int (0 : Int32)), .val (.int (4 : Int32)), .unset, .unset] (fun _ => by first | (simp [entryFrame, mkF, argsToLocals, Value.category]; done) | rfl) ?_
  intro p e s m below meth c s₁ hx hby hlk hret hml hZ hown hnm X0 e0
  have N0 := Fr.nil Z.heap.size
  refine q_iC X0 hx hby d19_0  ?_
  refine q_isL X0 hx hby d19_1 (l' := #[.val (.ref x0), .val (.int (0 : Int32)), .val (.ref x2), .val (.int (0 : Int32)), .val (.int (4 : Int32)), .val (.int (0 : Int32)), .unset]) rfl ?_
  refine q_iL X0 hx hby d19_3 rfl ?_
  refine q_iL X0 hx hby d19_5 rfl ?_
  refine q_icN X0 hx hby d19_7 (tlt (by decide : (0 : Int32) < (4 : Int32))).2.1 ?_
  refine q_aN X0 hx hby d19_10 rfl rfl ?_
  refine q_iN X0 hx hby d19_11 rfl ?_
  obtain ⟨cl1, Ar1, q1, S1, N1, H1, G1⟩ := id r0
  have hin1 : ¬ ((0 : Int32) < 0 ∨ cl1.slots.size ≤ ((0 : Int32)).toNatClampNeg) := inb_of S1 ⟨by decide, by decide⟩
  refine Go.step (X0.caload hx (j := (0 : Int32)) (v := (.int w2)) (by rw [e0]; exact Ar1.1) (State.isArrayOf_alike hZ.alike Ar1.2.1) Ar1.2.2 hin1 (Has.at H1 hin1 rfl) (g := (mkF m 12 #[.val (.ref x0), .val (.int (0 : Int32)), .val (.ref x2), .val (.int (0 : Int32)), .val (.int (4 : Int32)), .val (.int (0 : Int32)), .unset] [(.int (0 : Int32)), (.ref x0)])) rfl rfl (hb hby d19_12)) ?_
  refine q_isL X0 hx hby d19_13 (l' := #[.val (.ref x0), .val (.int (0 : Int32)), .val (.ref x2), .val (.int (0 : Int32)), .val (.int (4 : Int32)), .val (.int (0 : Int32)), .val (.int w2)]) rfl ?_
  refine q_iL X0 hx hby d19_15 rfl ?_
  refine Go.step (fun _ kt_ => XS.sipush X0.here hx rfl (hb hby d19_17)  kt_) ?_
  refine q_icY 20 26 X0 hx hby rfl d19_20 (flt r1).2.2.2 (by decide) (by decide) ?_
  refine q_aN X0 hx hby d19_26 rfl rfl ?_
  refine q_iN X0 hx hby d19_27 rfl ?_
  refine q_iL X0 hx hby d19_28 rfl ?_
  refine Go.step (fun _ kt_ => XS.i2b X0.here hx rfl (hb hby d19_30) rfl kt_) ?_
  show Go _ _ _ _ _ _ _ _ s₁ (mkF m 31 #[.val (.ref x0), .val (.int (0 : Int32)), .val (.ref x2), .val (.int (0 : Int32)), .val (.int (4 : Int32)), .val (.int (0 : Int32)), .val (.int w2)] [(.int (w2.toInt8.toInt32)), (.int (0 : Int32)), (.ref x2)])
  obtain ⟨cl2, Ar2, q2, S2, N2, H2, G2⟩ := id r2
  have hin2 : ¬ ((0 : Int32) < 0 ∨ cl2.slots.size ≤ ((0 : Int32)).toNatClampNeg) := inb_of S2 ⟨by decide, by decide⟩
  obtain ⟨T2, h2, X2, e2, W2, st2⟩ := stB X0 hx hZ e0 Ar2 (j := (0 : Int32)) hin2 (g := (mkF m 31 #[.val (.ref x0), .val (.int (0 : Int32)), .val (.ref x2), .val (.int (0 : Int32)), .val (.int (4 : Int32)), .val (.int (0 : Int32)), .val (.int w2)] [(.int (w2.toInt8.toInt32)), (.int (0 : Int32)), (.ref x2)])) rfl rfl (hb hby d19_31)
  refine Go.step st2 ?_
  have V2 : Arv Z h2 x2 kk6 .byte (4 : Int32) [(.int ((w2.toInt8.toInt32).toInt8.toInt32)), (.int (0 : Int32)), (.int (0 : Int32)), (.int (0 : Int32))] (.int (0 : Int32)) := Arv.set Ar2 q2 S2 N2 H2 G2 (fits_nar_byte _) W2 0 rfl (Nat.le_of_ble_eq_true rfl)
  have N2_ := Fr.snoc X2 N0 r3
  have O2_ : Ext Z.heap h2 := extWr O0 W2 r3
  have K2 := Keep.wr (Keep.refl h0 [x2]) W2 (Or.inl (List.mem_of_getElem? (i := 0) rfl))
  refine q_inc X2 hx hby d19_32 rfl (l' := #[.val (.ref x0), .val (.int (1 : Int32)), .val (.ref x2), .val (.int (0 : Int32)), .val (.int (4 : Int32)), .val (.int (0 : Int32)), .val (.int w2)]) rfl ?_
  refine q_inc X2 hx hby d19_35 rfl (l' := #[.val (.ref x0), .val (.int (1 : Int32)), .val (.ref x2), .val (.int (1 : Int32)), .val (.int (4 : Int32)), .val (.int (0 : Int32)), .val (.int w2)]) rfl ?_
  refine q_inc X2 hx hby d19_38 rfl (l' := #[.val (.ref x0), .val (.int (1 : Int32)), .val (.ref x2), .val (.int (1 : Int32)), .val (.int (4 : Int32)), .val (.int (1 : Int32)), .val (.int w2)]) rfl ?_
  refine q_go 41 3 X2 hx hby rfl d19_41 (by decide) (by decide) ?_
  refine q_iL X2 hx hby d19_3 rfl ?_
  refine q_iL X2 hx hby d19_5 rfl ?_
  refine q_icN X2 hx hby d19_7 (tlt (by decide : (1 : Int32) < (4 : Int32))).2.1 ?_
  refine q_aN X2 hx hby d19_10 rfl rfl ?_
  refine q_iN X2 hx hby d19_11 rfl ?_
  obtain ⟨cl3, Ar3, q3, S3, N3, H3, G3⟩ := id (r0.other W2 r4)
  have hin3 : ¬ ((1 : Int32) < 0 ∨ cl3.slots.size ≤ ((1 : Int32)).toNatClampNeg) := inb_of S3 ⟨by decide, by decide⟩
  refine Go.step (X2.caload hx (j := (1 : Int32)) (v := (.int w3)) (by rw [e2]; exact Ar3.1) (State.isArrayOf_alike hZ.alike Ar3.2.1) Ar3.2.2 hin3 (Has.at H3 hin3 rfl) (g := (mkF m 12 #[.val (.ref x0), .val (.int (1 : Int32)), .val (.ref x2), .val (.int (1 : Int32)), .val (.int (4 : Int32)), .val (.int (1 : Int32)), .val (.int w2)] [(.int (1 : Int32)), (.ref x0)])) rfl rfl (hb hby d19_12)) ?_
  refine q_isL X2 hx hby d19_13 (l' := #[.val (.ref x0), .val (.int (1 : Int32)), .val (.ref x2), .val (.int (1 : Int32)), .val (.int (4 : Int32)), .val (.int (1 : Int32)), .val (.int w3)]) rfl ?_
  refine q_iL X2 hx hby d19_15 rfl ?_
  refine Go.step (fun _ kt_ => XS.sipush X2.here hx rfl (hb hby d19_17)  kt_) ?_
  refine q_icY 20 26 X2 hx hby rfl d19_20 (flt r5).2.2.2 (by decide) (by decide) ?_
  refine q_aN X2 hx hby d19_26 rfl rfl ?_
  refine q_iN X2 hx hby d19_27 rfl ?_
  refine q_iL X2 hx hby d19_28 rfl ?_
  refine Go.step (fun _ kt_ => XS.i2b X2.here hx rfl (hb hby d19_30) rfl kt_) ?_
  show Go _ _ _ _ _ _ _ _ T2 (mkF m 31 #[.val (.ref x0), .val (.int (1 : Int32)), .val (.ref x2), .val (.int (1 : Int32)), .val (.int (4 : Int32)), .val (.int (1 : Int32)), .val (.int w3)] [(.int (w3.toInt8.toInt32)), (.int (1 : Int32)), (.ref x2)])
  obtain ⟨cl4, Ar4, q4, S4, N4, H4, G4⟩ := id V2
  have hin4 : ¬ ((1 : Int32) < 0 ∨ cl4.slots.size ≤ ((1 : Int32)).toNatClampNeg) := inb_of S4 ⟨by decide, by decide⟩
  obtain ⟨T4, h4, X4, e4, W4, st4⟩ := stB X2 hx hZ e2 Ar4 (j := (1 : Int32)) hin4 (g := (mkF m 31 #[.val (.ref x0), .val (.int (1 : Int32)), .val (.ref x2), .val (.int (1 : Int32)), .val (.int (4 : Int32)), .val (.int (1 : Int32)), .val (.int w3)] [(.int (w3.toInt8.toInt32)), (.int (1 : Int32)), (.ref x2)])) rfl rfl (hb hby d19_31)
  refine Go.step st4 ?_
  have V4 : Arv Z h4 x2 kk6 .byte (4 : Int32) [(.int ((w2.toInt8.toInt32).toInt8.toInt32)), (.int ((w3.toInt8.toInt32).toInt8.toInt32)), (.int (0 : Int32)), (.int (0 : Int32))] (.int (0 : Int32)) := Arv.set Ar4 q4 S4 N4 H4 G4 (fits_nar_byte _) W4 1 rfl (Nat.le_of_ble_eq_true rfl)
  have N4_ := Fr.snoc X4 N2_ r3
  have O4_ : Ext Z.heap h4 := extWr O2_ W4 r3
  have K4 := Keep.wr K2 W4 (Or.inl (List.mem_of_getElem? (i := 0) rfl))
  refine q_inc X4 hx hby d19_32 rfl (l' := #[.val (.ref x0), .val (.int (2 : Int32)), .val (.ref x2), .val (.int (1 : Int32)), .val (.int (4 : Int32)), .val (.int (1 : Int32)), .val (.int w3)]) rfl ?_
  refine q_inc X4 hx hby d19_35 rfl (l' := #[.val (.ref x0), .val (.int (2 : Int32)), .val (.ref x2), .val (.int (2 : Int32)), .val (.int (4 : Int32)), .val (.int (1 : Int32)), .val (.int w3)]) rfl ?_
  refine q_inc X4 hx hby d19_38 rfl (l' := #[.val (.ref x0), .val (.int (2 : Int32)), .val (.ref x2), .val (.int (2 : Int32)), .val (.int (4 : Int32)), .val (.int (2 : Int32)), .val (.int w3)]) rfl ?_
  refine q_go 41 3 X4 hx hby rfl d19_41 (by decide) (by decide) ?_
  refine q_iL X4 hx hby d19_3 rfl ?_
  refine q_iL X4 hx hby d19_5 rfl ?_
  refine q_icN X4 hx hby d19_7 (tlt (by decide : (2 : Int32) < (4 : Int32))).2.1 ?_
  refine q_aN X4 hx hby d19_10 rfl rfl ?_
  refine q_iN X4 hx hby d19_11 rfl ?_
  obtain ⟨cl5, Ar5, q5, S5, N5, H5, G5⟩ := id ((r0.other W2 r4).other W4 r4)
  have hin5 : ¬ ((2 : Int32) < 0 ∨ cl5.slots.size ≤ ((2 : Int32)).toNatClampNeg) := inb_of S5 ⟨by decide, by decide⟩
  refine Go.step (X4.caload hx (j := (2 : Int32)) (v := (.int w4)) (by rw [e4]; exact Ar5.1) (State.isArrayOf_alike hZ.alike Ar5.2.1) Ar5.2.2 hin5 (Has.at H5 hin5 rfl) (g := (mkF m 12 #[.val (.ref x0), .val (.int (2 : Int32)), .val (.ref x2), .val (.int (2 : Int32)), .val (.int (4 : Int32)), .val (.int (2 : Int32)), .val (.int w3)] [(.int (2 : Int32)), (.ref x0)])) rfl rfl (hb hby d19_12)) ?_
  refine q_isL X4 hx hby d19_13 (l' := #[.val (.ref x0), .val (.int (2 : Int32)), .val (.ref x2), .val (.int (2 : Int32)), .val (.int (4 : Int32)), .val (.int (2 : Int32)), .val (.int w4)]) rfl ?_
  refine q_iL X4 hx hby d19_15 rfl ?_
  refine Go.step (fun _ kt_ => XS.sipush X4.here hx rfl (hb hby d19_17)  kt_) ?_
  refine q_icY 20 26 X4 hx hby rfl d19_20 (flt r6).2.2.2 (by decide) (by decide) ?_
  refine q_aN X4 hx hby d19_26 rfl rfl ?_
  refine q_iN X4 hx hby d19_27 rfl ?_
  refine q_iL X4 hx hby d19_28 rfl ?_
  refine Go.step (fun _ kt_ => XS.i2b X4.here hx rfl (hb hby d19_30) rfl kt_) ?_
  show Go _ _ _ _ _ _ _ _ T4 (mkF m 31 #[.val (.ref x0), .val (.int (2 : Int32)), .val (.ref x2), .val (.int (2 : Int32)), .val (.int (4 : Int32)), .val (.int (2 : Int32)), .val (.int w4)] [(.int (w4.toInt8.toInt32)), (.int (2 : Int32)), (.ref x2)])
  obtain ⟨cl6, Ar6, q6, S6, N6, H6, G6⟩ := id V4
  have hin6 : ¬ ((2 : Int32) < 0 ∨ cl6.slots.size ≤ ((2 : Int32)).toNatClampNeg) := inb_of S6 ⟨by decide, by decide⟩
  obtain ⟨T6, h6, X6, e6, W6, st6⟩ := stB X4 hx hZ e4 Ar6 (j := (2 : Int32)) hin6 (g := (mkF m 31 #[.val (.ref x0), .val (.int (2 : Int32)), .val (.ref x2), .val (.int (2 : Int32)), .val (.int (4 : Int32)), .val (.int (2 : Int32)), .val (.int w4)] [(.int (w4.toInt8.toInt32)), (.int (2 : Int32)), (.ref x2)])) rfl rfl (hb hby d19_31)
  refine Go.step st6 ?_
  have V6 : Arv Z h6 x2 kk6 .byte (4 : Int32) [(.int ((w2.toInt8.toInt32).toInt8.toInt32)), (.int ((w3.toInt8.toInt32).toInt8.toInt32)), (.int ((w4.toInt8.toInt32).toInt8.toInt32)), (.int (0 : Int32))] (.int (0 : Int32)) := Arv.set Ar6 q6 S6 N6 H6 G6 (fits_nar_byte _) W6 2 rfl (Nat.le_of_ble_eq_true rfl)
  have N6_ := Fr.snoc X6 N4_ r3
  have O6_ : Ext Z.heap h6 := extWr O4_ W6 r3
  have K6 := Keep.wr K4 W6 (Or.inl (List.mem_of_getElem? (i := 0) rfl))
  refine q_inc X6 hx hby d19_32 rfl (l' := #[.val (.ref x0), .val (.int (3 : Int32)), .val (.ref x2), .val (.int (2 : Int32)), .val (.int (4 : Int32)), .val (.int (2 : Int32)), .val (.int w4)]) rfl ?_
  refine q_inc X6 hx hby d19_35 rfl (l' := #[.val (.ref x0), .val (.int (3 : Int32)), .val (.ref x2), .val (.int (3 : Int32)), .val (.int (4 : Int32)), .val (.int (2 : Int32)), .val (.int w4)]) rfl ?_
  refine q_inc X6 hx hby d19_38 rfl (l' := #[.val (.ref x0), .val (.int (3 : Int32)), .val (.ref x2), .val (.int (3 : Int32)), .val (.int (4 : Int32)), .val (.int (3 : Int32)), .val (.int w4)]) rfl ?_
  refine q_go 41 3 X6 hx hby rfl d19_41 (by decide) (by decide) ?_
  refine q_iL X6 hx hby d19_3 rfl ?_
  refine q_iL X6 hx hby d19_5 rfl ?_
  refine q_icN X6 hx hby d19_7 (tlt (by decide : (3 : Int32) < (4 : Int32))).2.1 ?_
  refine q_aN X6 hx hby d19_10 rfl rfl ?_
  refine q_iN X6 hx hby d19_11 rfl ?_
  have f8 := (((r0.other W2 r4).other W4 r4).other W6 r4)
  obtain ⟨cl7, Ar7, q7, S7, N7, H7, G7⟩ := id f8
  have hin7 : ¬ ((3 : Int32) < 0 ∨ cl7.slots.size ≤ ((3 : Int32)).toNatClampNeg) := inb_of S7 ⟨by decide, by decide⟩
  refine Go.step (X6.caload hx (j := (3 : Int32)) (v := (.int w5)) (by rw [e6]; exact Ar7.1) (State.isArrayOf_alike hZ.alike Ar7.2.1) Ar7.2.2 hin7 (Has.at H7 hin7 rfl) (g := (mkF m 12 #[.val (.ref x0), .val (.int (3 : Int32)), .val (.ref x2), .val (.int (3 : Int32)), .val (.int (4 : Int32)), .val (.int (3 : Int32)), .val (.int w4)] [(.int (3 : Int32)), (.ref x0)])) rfl rfl (hb hby d19_12)) ?_
  refine q_isL X6 hx hby d19_13 (l' := #[.val (.ref x0), .val (.int (3 : Int32)), .val (.ref x2), .val (.int (3 : Int32)), .val (.int (4 : Int32)), .val (.int (3 : Int32)), .val (.int w5)]) rfl ?_
  refine q_iL X6 hx hby d19_15 rfl ?_
  refine Go.step (fun _ kt_ => XS.sipush X6.here hx rfl (hb hby d19_17)  kt_) ?_
  refine q_icY 20 26 X6 hx hby rfl d19_20 (flt r7).2.2.2 (by decide) (by decide) ?_
  refine q_aN X6 hx hby d19_26 rfl rfl ?_
  refine q_iN X6 hx hby d19_27 rfl ?_
  refine q_iL X6 hx hby d19_28 rfl ?_
  refine Go.step (fun _ kt_ => XS.i2b X6.here hx rfl (hb hby d19_30) rfl kt_) ?_
  show Go _ _ _ _ _ _ _ _ T6 (mkF m 31 #[.val (.ref x0), .val (.int (3 : Int32)), .val (.ref x2), .val (.int (3 : Int32)), .val (.int (4 : Int32)), .val (.int (3 : Int32)), .val (.int w5)] [(.int (w5.toInt8.toInt32)), (.int (3 : Int32)), (.ref x2)])
  obtain ⟨cl9, Ar9, q9, S9, N9, H9, G9⟩ := id V6
  have hin9 : ¬ ((3 : Int32) < 0 ∨ cl9.slots.size ≤ ((3 : Int32)).toNatClampNeg) := inb_of S9 ⟨by decide, by decide⟩
  obtain ⟨T9, h9, X9, e9, W9, st9⟩ := stB X6 hx hZ e6 Ar9 (j := (3 : Int32)) hin9 (g := (mkF m 31 #[.val (.ref x0), .val (.int (3 : Int32)), .val (.ref x2), .val (.int (3 : Int32)), .val (.int (4 : Int32)), .val (.int (3 : Int32)), .val (.int w5)] [(.int (w5.toInt8.toInt32)), (.int (3 : Int32)), (.ref x2)])) rfl rfl (hb hby d19_31)
  refine Go.step st9 ?_
  have V9 : Arv Z h9 x2 kk6 .byte (4 : Int32) [(.int ((w2.toInt8.toInt32).toInt8.toInt32)), (.int ((w3.toInt8.toInt32).toInt8.toInt32)), (.int ((w4.toInt8.toInt32).toInt8.toInt32)), (.int ((w5.toInt8.toInt32).toInt8.toInt32))] (.int (0 : Int32)) := Arv.set Ar9 q9 S9 N9 H9 G9 (fits_nar_byte _) W9 3 rfl (Nat.le_of_ble_eq_true rfl)
  have N9_ := Fr.snoc X9 N6_ r3
  have O9_ : Ext Z.heap h9 := extWr O6_ W9 r3
  have K9 := Keep.wr K6 W9 (Or.inl (List.mem_of_getElem? (i := 0) rfl))
  refine q_inc X9 hx hby d19_32 rfl (l' := #[.val (.ref x0), .val (.int (4 : Int32)), .val (.ref x2), .val (.int (3 : Int32)), .val (.int (4 : Int32)), .val (.int (3 : Int32)), .val (.int w5)]) rfl ?_
  refine q_inc X9 hx hby d19_35 rfl (l' := #[.val (.ref x0), .val (.int (4 : Int32)), .val (.ref x2), .val (.int (4 : Int32)), .val (.int (4 : Int32)), .val (.int (3 : Int32)), .val (.int w5)]) rfl ?_
  refine q_inc X9 hx hby d19_38 rfl (l' := #[.val (.ref x0), .val (.int (4 : Int32)), .val (.ref x2), .val (.int (4 : Int32)), .val (.int (4 : Int32)), .val (.int (4 : Int32)), .val (.int w5)]) rfl ?_
  refine q_go 41 3 X9 hx hby rfl d19_41 (by decide) (by decide) ?_
  refine q_iL X9 hx hby d19_3 rfl ?_
  refine q_iL X9 hx hby d19_5 rfl ?_
  refine q_icY 7 44 X9 hx hby rfl d19_7 (flt (by decide : ¬ ((4 : Int32) < (4 : Int32)))).2.1 (by decide) (by decide) ?_
  refine q_iL X9 hx hby d19_44 rfl ?_
  exact Go.retI X9 hx hret hlk (hb hby d19_46) (by decide) (by decide) (by show Q_a19_3 ..; rw [e9]; exact ⟨rfl, N9_, K9, V9⟩)
def Q_a18_3 (Z : State) (w2 : Int32) (w3 : Int32) (w4 : Int32) (w5 : Int32) (h0 : Heap) (v : Option Value) (h : Heap) (L : List Loc) : Prop := ∃ (b1 : Addr) (k1 : ClassId), v = some (.ref b1) ∧ Fr Z.heap.size L ∧ Keep h0 h [] ∧ h0.size ≤ b1 ∧ Arv Z h b1 k1 .byte (4 : Int32) [(.int ((w2.toInt8.toInt32).toInt8.toInt32)), (.int ((w3.toInt8.toInt32).toInt8.toInt32)), (.int ((w4.toInt8.toInt32).toInt8.toInt32)), (.int ((w5.toInt8.toInt32).toInt8.toInt32))] (.int (0 : Int32))
theorem rm_a18_3 (l : Launch) (Z : State) (a0 : Array Value) (hw : HW Z a0) (ws : List Jvm.Cond) (cs : Int32) (sv : Value) (GG : GP Z cs sv) (x0 : Addr) (kk1 : ClassId) (w2 : Int32) (w3 : Int32) (w4 : Int32) (w5 : Int32) (h0 : Heap) (O0 : Ext Z.heap h0) (r0 : Arv Z h0 x0 kk1 .char (4 : Int32) [(.int w2), (.int w3), (.int w4), (.int w5)] (.int (0 : Int32))) (r1 : ¬ ((255 : Int32) < w2)) (r2 : ¬ ((255 : Int32) < w3)) (r3 : ¬ ((255 : Int32) < w4)) (r4 : ¬ ((255 : Int32) < w5)) :
    Met FrameEnd l (⟨"java/lang/StringUTF16", "compress", "([CII)[B"⟩ : MethodName) jdk_52_method_16_code 6 (some (.array .byte)) ws ⟨1, 1, 4, 18⟩ Z h0 #[(.ref x0), (.int (0 : Int32)), (.int (4 : Int32))] (Q_a18_3 Z w2 w3 w4 w5 h0) := by
  refine own_met "java/lang/StringUTF16" (plainFor_of_name pn_18) rfl #[.val (.ref x0), .val (.int (0 : Int32)), .val (.int (4 : Int32)), .unset, .unset, .unset] (fun _ => by first | (simp [entryFrame, mkF, argsToLocals, Value.category]; done) | rfl) ?_
  intro p e s m below meth c s₁ hx hby hlk hret hml hZ hown hnm X0 e0
  have N0 := Fr.nil Z.heap.size
  refine q_iN X0 hx hby d18_0 rfl ?_
  obtain ⟨T1, h1, k1, X1, e1, E1, A1, st1⟩ := newP X0 hx hZ (wd hw 22 rfl) e0 (g := (mkF m 1 #[.val (.ref x0), .val (.int (0 : Int32)), .val (.int (4 : Int32)), .unset, .unset, .unset] [(.int (4 : Int32))])) rfl (hb hby d18_1) rfl (by decide) (cap := 4) (by decide) (by decide) (by decide) (by decide)
  obtain ⟨b1, hb1⟩ : ∃ z, z = h0.size := ⟨_, rfl⟩
  rw [← hb1] at A1 st1
  refine Go.step st1 ?_
  have g_b1 : Z.heap.size ≤ b1 := Nat.le_trans O0.1 (Nat.le_of_eq hb1.symm)
  have O1_ : Ext Z.heap h1 := extTr O0 E1
  have sz_b1 : h0.size ≤ b1 := Nat.le_trans (Keep.refl h0 []).1 (Nat.le_of_eq hb1.symm)
  have K1 := Keep.ext (Keep.refl h0 []) E1
  have V1 : Arv Z h1 b1 k1 .byte (4 : Int32) [(.int (0 : Int32)), (.int (0 : Int32)), (.int (0 : Int32)), (.int (0 : Int32))] (.int (0 : Int32)) := (Arv.new A1 (by decide)).pad (pad_rep [] (.int (0 : Int32)) 4)
  refine q_asN X1 hx hby d18_3 rfl (l' := #[.val (.ref x0), .val (.int (0 : Int32)), .val (.int (4 : Int32)), .val (.ref b1), .unset, .unset]) rfl ?_
  refine q_aN X1 hx hby d18_4 rfl rfl ?_
  refine q_iN X1 hx hby d18_5 rfl ?_
  refine q_aN X1 hx hby d18_6 rfl rfl ?_
  refine q_iC X1 hx hby d18_7  ?_
  refine q_iN X1 hx hby d18_8 rfl ?_
  refine q_cS [(.ref x0), (.int (0 : Int32)), (.ref b1), (.int (0 : Int32)), (.int (4 : Int32))] [] 0 X1 hx hZ hown (wd hw 86 rfl) (wd hw 87 rfl) (wd hw 88 rfl) (wd hw 84 rfl) (by decide) e1 (rm_a19_3 l Z a0 hw [] cs sv GG x0 b1 kk1 w2 w3 w4 w5 k1 h1 O1_ (r0.ext E1) r1 V1 g_b1 (Nat.ne_of_lt (Nat.lt_of_lt_of_le r0.lt (Nat.le_of_eq hb1.symm))) r2 r3 r4) hby hml rfl d18_9 pd_LACIABIIRI rfl rfl (by decide) (by decide) (by decide) (by decide) ?_
  intro v2 T2 L2 Lc2 X2 hQ2 l2
  obtain ⟨rfl, Nq2, Kq2, p2_0⟩ := hQ2
  have O2_ : Ext Z.heap T2.heap := extKeep O1_ Kq2 (allS g_b1 all0)
  have K2 := Keep.trans K1 Kq2 (allS (Or.inr sz_b1) all0)
  have N2_ : Fr Z.heap.size L2 := by rw [l2]; exact Fr.app N0 Nq2
  refine q_isL X2 hx hby d18_12 (l' := #[.val (.ref x0), .val (.int (0 : Int32)), .val (.int (4 : Int32)), .val (.ref b1), .val (.int (4 : Int32)), .unset]) rfl ?_
  refine q_iL X2 hx hby d18_14 rfl ?_
  refine q_iN X2 hx hby d18_16 rfl ?_
  show Go _ _ _ _ _ _ _ _ T2 (mkF m 17 #[.val (.ref x0), .val (.int (0 : Int32)), .val (.int (4 : Int32)), .val (.ref b1), .val (.int (4 : Int32)), .unset] [(.int (4 : Int32)), (.int (4 : Int32))])
  refine q_icY 17 57 X2 hx hby rfl d18_17 (teq (by decide : (4 : Int32) = (4 : Int32))).1 (by decide) (by decide) ?_
  refine q_aN X2 hx hby d18_57 rfl rfl ?_
  exact Go.retA X2 hx hret rfl rfl hlk (hb hby d18_58) (by decide) (by decide) ⟨b1, k1, rfl, N2_, K2, sz_b1, p2_0⟩
def Q_a20_3 (Z : State) (x1 : Int32) (h0 : Heap) (v : Option Value) (h : Heap) (L : List Loc) : Prop := v = some (.int (((((x1 - (4 : Int32)).toUInt32 >>> ((31 : Int32) &&& 31).toUInt32).toInt32).toInt8.toInt32).toInt8.toInt32)) ∧ Fr Z.heap.size L ∧ h = h0
theorem rm_a20_3 (l : Launch) (Z : State) (a0 : Array Value) (hw : HW Z a0) (ws : List Jvm.Cond) (cs : Int32) (sv : Value) (GG : GP Z cs sv) (x0 : Addr) (x1 : Int32) (kk1 : ClassId) (w2 : Int32) (w3 : Int32) (w4 : Int32) (w5 : Int32) (h0 : Heap) (O0 : Ext Z.heap h0) (r0 : Arv Z h0 x0 kk1 .byte (4 : Int32) [(.int w2), (.int w3), (.int w4), (.int w5)] (.int (0 : Int32))) :
    Met FrameEnd l (⟨"java/lang/StringUTF16", "coderFromArrayLen", "([BI)B"⟩ : MethodName) jdk_52_method_15_code 2 (some .byte) ws ⟨0, 0, 0, 0⟩ Z h0 #[(.ref x0), (.int x1)] (Q_a20_3 Z x1 h0) := by
  refine own_met "java/lang/StringUTF16" (plainFor_of_name pn_20) rfl #[.val (.ref x0), .val (.int x1)] (fun _ => by first | (simp [entryFrame, mkF, argsToLocals, Value.category]; done) | rfl) ?_
  intro p e s m below meth c s₁ hx hby hlk hret hml hZ hown hnm X0 e0
  have N0 := Fr.nil Z.heap.size
  refine q_iN X0 hx hby d20_0 rfl ?_
  refine q_aN X0 hx hby d20_1 rfl rfl ?_
  obtain ⟨cl1, Ar1, -, S1, N1, -, -⟩ := id r0
  refine Go.step (X0.arraylength hx (by rw [e0]; exact Ar1.1) (State.isArrayOf_alike hZ.alike Ar1.2.1) (g := (mkF m 2 #[.val (.ref x0), .val (.int x1)] [(.ref x0), (.int x1)])) rfl rfl (hb hby d20_2)) ?_
  rw [len_of S1 N1]
  show Go _ _ _ _ _ _ _ _ s₁ (mkF m 3 #[.val (.ref x0), .val (.int x1)] [(.int (4 : Int32)), (.int x1)])
  refine q_isub X0 hx hby d20_3  ?_
  refine q_bP X0 hx hby d20_4  ?_
  refine Go.step (fun _ kt_ => XS.iushr X0.here hx rfl (hb hby d20_6) rfl kt_) ?_
  show Go _ _ _ _ _ _ _ _ s₁ (mkF m 7 #[.val (.ref x0), .val (.int x1)] [(.int (((x1 - (4 : Int32)).toUInt32 >>> ((31 : Int32) &&& 31).toUInt32).toInt32))])
  refine Go.step (fun _ kt_ => XS.i2b X0.here hx rfl (hb hby d20_7) rfl kt_) ?_
  show Go _ _ _ _ _ _ _ _ s₁ (mkF m 8 #[.val (.ref x0), .val (.int x1)] [(.int ((((x1 - (4 : Int32)).toUInt32 >>> ((31 : Int32) &&& 31).toUInt32).toInt32).toInt8.toInt32))])
  exact Go.retN X0 hx (t := .byte) hret (by simp) hlk (hb hby d20_8) (by decide) (by decide) (by show _ ∧ _ ∧ _; rw [e0]; exact ⟨rfl, N0, rfl⟩)
def Q_a4_4 (Z : State) (x0 : Addr) (w2 : Int32) (w3 : Int32) (w4 : Int32) (w5 : Int32) (h0 : Heap) (v : Option Value) (h : Heap) (L : List Loc) : Prop := ∃ (b1q3 : Addr) (k1q3 : ClassId), v = none ∧ Fr Z.heap.size L ∧ Keep h0 h [x0] ∧ fl_1 Z h x0 (.int (0 : Int32)) ∧ fl_0 Z h x0 (.ref b1q3) ∧ h0.size ≤ b1q3 ∧ Arv Z h b1q3 k1q3 .byte (4 : Int32) [(.int ((w2.toInt8.toInt32).toInt8.toInt32)), (.int ((w3.toInt8.toInt32).toInt8.toInt32)), (.int ((w4.toInt8.toInt32).toInt8.toInt32)), (.int ((w5.toInt8.toInt32).toInt8.toInt32))] (.int (0 : Int32))
theorem rm_a4_4 (l : Launch) (Z : State) (a0 : Array Value) (hw : HW Z a0) (ws : List Jvm.Cond) (cs : Int32) (sv : Value) (GG : GP Z cs sv) (x0 : Addr) (x1 : Addr) (kk1 : ClassId) (w2 : Int32) (w3 : Int32) (w4 : Int32) (w5 : Int32) (w6 : Int32) (h0 : Heap) (O0 : Ext Z.heap h0) (r0 : Arv Z h0 x1 kk1 .char (4 : Int32) [(.int w2), (.int w3), (.int w4), (.int w5)] (.int (0 : Int32))) (r1 : ¬ ((255 : Int32) < w2)) (r2 : ¬ ((255 : Int32) < w3)) (r3 : ¬ ((255 : Int32) < w4)) (r4 : ¬ ((255 : Int32) < w5)) (r5 : Exa Z h0 x0 "java/lang/String") (r6 : fl_1 Z h0 x0 (.int w6)) (r7 : Z.heap.size ≤ x0) (r8 : fl_0 Z h0 x0 .null) :
    Met FrameEnd l (⟨"java/lang/String", "<init>", "([CIILjava/lang/Void;)V"⟩ : MethodName) jdk_42_method_149_code 6 none ws ⟨2, 1, 4, 35⟩ Z h0 #[(.ref x0), (.ref x1), (.int (0 : Int32)), (.int (4 : Int32)), .null] (Q_a4_4 Z x0 w2 w3 w4 w5 h0) := by
  refine own_met "java/lang/String" (plainFor_of_name pn_4) rfl #[.val (.ref x0), .val (.ref x1), .val (.int (0 : Int32)), .val (.int (4 : Int32)), .val .null, .unset] (fun _ => by first | (simp [entryFrame, mkF, argsToLocals, Value.category]; done) | rfl) ?_
  intro p e s m below meth c s₁ hx hby hlk hret hml hZ hown hnm X0 e0
  have N0 := Fr.nil Z.heap.size
  obtain ⟨G_cs, H_cs, G_sv, H_sv⟩ := id GG
  refine q_aN X0 hx hby d4_0 rfl rfl ?_
  obtain ⟨T1, X1, e1, st1⟩ := initO X0 hx hZ hown (wd hw 18 rfl) (wd hw 19 rfl) (wd hw 20 rfl) e0 (g := (mkF m 1 #[.val (.ref x0), .val (.ref x1), .val (.int (0 : Int32)), .val (.int (4 : Int32)), .val .null, .unset] [(.ref x0)])) rfl (by rw [hml]; rfl) rfl (hb hby d4_1) (by decide) (W := 0) (by show 2 * 0 + _ ≤ _; exact Nat.le_of_eq rfl) (by decide)
  refine Go.step st1 ?_
  refine q_iN X1 hx hby d4_4 rfl ?_
  refine q_ifY 5 27 X1 hx hby rfl d4_5 ((if0 _ _).trans (feq (by decide : ¬ ((4 : Int32) = (0 : Int32)))).2) (by decide) (by decide) ?_
  refine q_gS X1 hx hZ hown (wd hw 48 rfl) e1 (Sta.ext O0 G_cs) hby d4_27 ?_
  intro T2 X2 e2
  refine q_ifN X2 hx hby d4_30 ((if0 _ _).trans (feq H_cs).1) ?_
  refine q_aN X2 hx hby d4_33 rfl rfl ?_
  refine q_iN X2 hx hby d4_34 rfl ?_
  refine q_iN X2 hx hby d4_35 rfl ?_
  refine q_cS [(.ref x1), (.int (0 : Int32)), (.int (4 : Int32))] [] 0 X2 hx hZ hown (wd hw 82 rfl) (wd hw 83 rfl) (wd hw 85 rfl) (wd hw 84 rfl) (by decide) e2 (rm_a18_3 l Z a0 hw [] cs sv GG x1 kk1 w2 w3 w4 w5 h0 O0 r0 r1 r2 r3 r4) hby hml rfl d4_36 pd_LACIIRAB rfl rfl (by decide) (by decide) (by decide) (by decide) ?_
  intro v3 T3 L3 Lc3 X3 hQ3 l3
  obtain ⟨b1q3, k1q3, rfl, Nq3, Kq3, p3_0, p3_1⟩ := hQ3
  have O3_ : Ext Z.heap T3.heap := extKeep O0 Kq3 all0
  have K3 := Keep.trans (Keep.refl h0 [x0]) Kq3 all0
  have N3_ : Fr Z.heap.size L3 := by rw [l3]; exact Fr.app N0 Nq3
  have g_b1q3 : Z.heap.size ≤ b1q3 := Nat.le_trans O0.1 p3_0
  have sz_b1q3 : h0.size ≤ b1q3 := Nat.le_trans (Keep.refl h0 [x0]).1 p3_0
  refine q_asL X3 hx hby d4_39 rfl (l' := #[.val (.ref x0), .val (.ref x1), .val (.int (0 : Int32)), .val (.int (4 : Int32)), .val .null, .val (.ref b1q3)]) rfl ?_
  refine q_aN X3 hx hby d4_41 rfl rfl ?_
  show Go _ _ _ _ _ _ _ _ T3 (mkF m 42 #[.val (.ref x0), .val (.ref x1), .val (.int (0 : Int32)), .val (.int (4 : Int32)), .val .null, .val (.ref b1q3)] [(.ref x0)])
  refine q_aL X3 hx hby d4_42 rfl rfl ?_
  refine q_iN X3 hx hby d4_44 rfl ?_
  refine q_cS [(.ref b1q3), (.int (4 : Int32))] [(.ref x0)] 1 X3 hx hZ hown (wd hw 89 rfl) (wd hw 90 rfl) (wd hw 91 rfl) (wd hw 84 rfl) (by decide) rfl (rm_a20_3 l Z a0 hw [] cs sv GG b1q3 (4 : Int32) k1q3 ((w2.toInt8.toInt32).toInt8.toInt32) ((w3.toInt8.toInt32).toInt8.toInt32) ((w4.toInt8.toInt32).toInt8.toInt32) ((w5.toInt8.toInt32).toInt8.toInt32) T3.heap O3_ p3_1) hby hml rfl d4_45 pd_LABIRB rfl rfl (by decide) (by decide) (by decide) (by decide) ?_
  intro v4 T4 L4 Lc4 X4 hQ4 l4
  obtain ⟨rfl, Nq4, e4⟩ := hQ4
  have N4_ : Fr Z.heap.size L4 := by rw [l4]; exact Fr.app N3_ Nq4
  obtain ⟨T5, h5, X5, e5, W5, st5⟩ := putFN X4 hx hZ hown (wd hw 28 rfl) Via.refl e4 (r6.keep Kq3 nin0) (r5.keep Kq3) (Or.inr ⟨(wd hw 24 rfl), rfl, hnm⟩) (wd hw 8 rfl) (ty := .byte) (v' := (.int (0 : Int32))) pf_B rfl rfl (g := (mkF m 48 #[.val (.ref x0), .val (.ref x1), .val (.int (0 : Int32)), .val (.int (4 : Int32)), .val .null, .val (.ref b1q3)] [(.int (0 : Int32)), (.ref x0)])) rfl rfl (hb hby d4_48)
  refine Go.step st5 ?_
  have N5_ := Fr.snoc X5 N4_ r7
  have O5_ : Ext Z.heap h5 := extWr O3_ W5 r7
  have K5 := Keep.wr K3 W5 (Or.inl (List.mem_of_getElem? (i := 0) rfl))
  have F5 := Fld.same W5 (r6.keep Kq3 nin0)
  refine q_aN X5 hx hby d4_51 rfl rfl ?_
  refine q_aL X5 hx hby d4_52 rfl rfl ?_
  have f6 := (Fld.other W5 (r8.keep Kq3 nin0) (Or.inr (Ne.symm (sn_0 hw))))
  obtain ⟨T7, h7, X7, e7, W7, st7⟩ := putF X5 hx hZ hown (host := "") (Or.inl (wd hw 27 rfl)) Via.refl e5 f6 (Exa.wr W5 (r5.keep Kq3)) (Or.inr ⟨(wd hw 23 rfl), rfl, hnm⟩) (wd hw 8 rfl) (ty := (.array .byte)) pf_AB rfl rfl (g := (mkF m 54 #[.val (.ref x0), .val (.ref x1), .val (.int (0 : Int32)), .val (.int (4 : Int32)), .val .null, .val (.ref b1q3)] [(.ref b1q3), (.ref x0)])) rfl rfl (hb hby d4_54)
  refine Go.step st7 ?_
  have N7_ := Fr.snoc X7 N5_ r7
  have O7_ : Ext Z.heap h7 := extWr O5_ W7 r7
  have K7 := Keep.wr K5 W7 (Or.inl (List.mem_of_getElem? (i := 0) rfl))
  have F7 := Fld.same W7 f6
  have f8 := ((p3_1.other W5 (Ne.symm (Nat.ne_of_lt (Nat.lt_of_lt_of_le r5.lt p3_0)))).other W7 (Ne.symm (Nat.ne_of_lt (Nat.lt_of_lt_of_le r5.lt p3_0))))
  exact Go.retV X7 hx hret hlk (hb hby d4_57) (by decide) (by decide) (by show Q_a4_4 ..; rw [e7]; exact ⟨b1q3, k1q3, rfl, N7_, K7, (Fld.other W7 F5 (Or.inr (sn_0 hw))), F7, sz_b1q3, f8⟩)
def Q_a3_4 (Z : State) (x0 : Addr) (w2 : Int32) (w3 : Int32) (w4 : Int32) (w5 : Int32) (h0 : Heap) (v : Option Value) (h : Heap) (L : List Loc) : Prop := ∃ (b1q3q2 : Addr) (k1q3q2 : ClassId), v = none ∧ Fr Z.heap.size L ∧ Keep h0 h [x0] ∧ fl_1 Z h x0 (.int (0 : Int32)) ∧ fl_0 Z h x0 (.ref b1q3q2) ∧ h0.size ≤ b1q3q2 ∧ Arv Z h b1q3q2 k1q3q2 .byte (4 : Int32) [(.int ((w2.toInt8.toInt32).toInt8.toInt32)), (.int ((w3.toInt8.toInt32).toInt8.toInt32)), (.int ((w4.toInt8.toInt32).toInt8.toInt32)), (.int ((w5.toInt8.toInt32).toInt8.toInt32))] (.int (0 : Int32))
theorem rm_a3_4 (l : Launch) (Z : State) (a0 : Array Value) (hw : HW Z a0) (ws : List Jvm.Cond) (cs : Int32) (sv : Value) (GG : GP Z cs sv) (x0 : Addr) (x1 : Addr) (kk1 : ClassId) (w2 : Int32) (w3 : Int32) (w4 : Int32) (w5 : Int32) (w6 : Int32) (h0 : Heap) (O0 : Ext Z.heap h0) (r0 : Arv Z h0 x1 kk1 .char (4 : Int32) [(.int w2), (.int w3), (.int w4), (.int w5)] (.int (0 : Int32))) (r1 : ¬ ((255 : Int32) < w2)) (r2 : ¬ ((255 : Int32) < w3)) (r3 : ¬ ((255 : Int32) < w4)) (r4 : ¬ ((255 : Int32) < w5)) (r5 : Exa Z h0 x0 "java/lang/String") (r6 : fl_1 Z h0 x0 (.int w6)) (r7 : Z.heap.size ≤ x0) (r8 : fl_0 Z h0 x0 .null) :
    Met FrameEnd l (⟨"java/lang/String", "<init>", "([C)V"⟩ : MethodName) jdk_42_method_3_code 2 none ws ⟨3, 1, 4, 52⟩ Z h0 #[(.ref x0), (.ref x1)] (Q_a3_4 Z x0 w2 w3 w4 w5 h0) := by
  refine own_met "java/lang/String" (plainFor_of_name pn_3) rfl #[.val (.ref x0), .val (.ref x1)] (fun _ => by first | (simp [entryFrame, mkF, argsToLocals, Value.category]; done) | rfl) ?_
  intro p e s m below meth c s₁ hx hby hlk hret hml hZ hown hnm X0 e0
  have N0 := Fr.nil Z.heap.size
  refine q_aN X0 hx hby d3_0 rfl rfl ?_
  refine q_aN X0 hx hby d3_1 rfl rfl ?_
  refine q_iC X0 hx hby d3_2  ?_
  refine q_aN X0 hx hby d3_3 rfl rfl ?_
  obtain ⟨cl1, Ar1, -, S1, N1, -, -⟩ := id r0
  refine Go.step (X0.arraylength hx (by rw [e0]; exact Ar1.1) (State.isArrayOf_alike hZ.alike Ar1.2.1) (g := (mkF m 4 #[.val (.ref x0), .val (.ref x1)] [(.ref x1), (.int (0 : Int32)), (.ref x1), (.ref x0)])) rfl rfl (hb hby d3_4)) ?_
  rw [len_of S1 N1]
  show Go _ _ _ _ _ _ _ _ s₁ (mkF m 5 #[.val (.ref x0), .val (.ref x1)] [(.int (4 : Int32)), (.int (0 : Int32)), (.ref x1), (.ref x0)])
  refine q_nl X0 hx hby d3_5  ?_
  refine q_cN [(.ref x1), (.int (0 : Int32)), (.int (4 : Int32)), .null] [] 0 X0 hx hZ hown rfl (wd hw 14 rfl) (wd hw 15 rfl) (wd hw 17 rfl) (wd hw 9 rfl) (by decide) e0 (rm_a4_4 l Z a0 hw [] cs sv GG x0 x1 kk1 w2 w3 w4 w5 w6 h0 O0 r0 r1 r2 r3 r4 r5 r6 r7 r8) hby hml rfl d3_6 pd_LACIILjava_lang_Void_RV rfl rfl (by decide) (by decide) (by decide) (by decide) ?_
  intro v2 T2 L2 Lc2 X2 hQ2 l2
  obtain ⟨b1q3q2, k1q3q2, rfl, Nq2, Kq2, p2_0, p2_1, p2_2, p2_3⟩ := hQ2
  have O2_ : Ext Z.heap T2.heap := extKeep O0 Kq2 (allS r7 all0)
  have K2 := Keep.trans (Keep.refl h0 [x0]) Kq2 (allS (Or.inl (List.mem_of_getElem? (i := 0) rfl)) all0)
  have N2_ : Fr Z.heap.size L2 := by rw [l2]; exact Fr.app N0 Nq2
  have g_b1q3q2 : Z.heap.size ≤ b1q3q2 := Nat.le_trans O0.1 p2_2
  have sz_b1q3q2 : h0.size ≤ b1q3q2 := Nat.le_trans (Keep.refl h0 [x0]).1 p2_2
  exact Go.retV X2 hx hret hlk (hb hby d3_9) (by decide) (by decide) ⟨b1q3q2, k1q3q2, rfl, N2_, K2, p2_0, p2_1, sz_b1q3q2, p2_3⟩
theorem d2_114 : decode method_3_code 114 = .ok (.areturn, 1) := by decide +kernel
def Q_a2_4 (Z : State) (x1 : Int32) (x2 : Int32) (x3 : Int32) (x4 : Int32) (h0 : Heap) (v : Option Value) (h : Heap) (L : List Loc) : Prop := ∃ (b1 : Addr) (b1q3q2q12 : Addr) (k1q3q2q12 : ClassId), v = some (.ref b1) ∧ Fr Z.heap.size L ∧ Keep h0 h [] ∧ h0.size ≤ b1 ∧ Exa Z h b1 "java/lang/String" ∧ fl_1 Z h b1 (.int (0 : Int32)) ∧ fl_0 Z h b1 (.ref b1q3q2q12) ∧ h0.size ≤ b1q3q2q12 ∧ Arv Z h b1q3q2q12 k1q3q2q12 .byte (4 : Int32) [(.int (((x1.toUInt32.toUInt16.toUInt32.toInt32).toInt8.toInt32).toInt8.toInt32)), (.int (((x2.toUInt32.toUInt16.toUInt32.toInt32).toInt8.toInt32).toInt8.toInt32)), (.int (((x3.toUInt32.toUInt16.toUInt32.toInt32).toInt8.toInt32).toInt8.toInt32)), (.int (((x4.toUInt32.toUInt16.toUInt32.toInt32).toInt8.toInt32).toInt8.toInt32))] (.int (0 : Int32)) ∧ b1 ≠ b1q3q2q12
theorem rm_a2_4 (l : Launch) (Z : State) (a0 : Array Value) (hw : HW Z a0) (ws : List Jvm.Cond) (cs : Int32) (sv : Value) (GG : GP Z cs sv) (x0 : Int32) (x1 : Int32) (x2 : Int32) (x3 : Int32) (x4 : Int32) (h0 : Heap) (O0 : Ext Z.heap h0) (r0 : ¬ (x0 = (0 : Int32))) (r1 : ¬ (x0 = (1 : Int32))) (r2 : ¬ (x0 = (2 : Int32))) (r3 : ¬ (x0 = (3 : Int32))) (r4 : ¬ ((255 : Int32) < (x1.toUInt32.toUInt16.toUInt32.toInt32))) (r5 : ¬ ((255 : Int32) < (x2.toUInt32.toUInt16.toUInt32.toInt32))) (r6 : ¬ ((255 : Int32) < (x3.toUInt32.toUInt16.toUInt32.toInt32))) (r7 : ¬ ((255 : Int32) < (x4.toUInt32.toUInt16.toUInt32.toInt32))) :
    Met FrameEnd l (⟨"com/example/wary_lock/warylock/LockNameRootPinLaw", "mk", "(ICCCC)Ljava/lang/String;"⟩ : MethodName) method_3_code 5 (some (.object "java/lang/String")) ws ⟨4, 3, 12, 66⟩ Z h0 #[(.int x0), (.int x1), (.int x2), (.int x3), (.int x4)] (Q_a2_4 Z x1 x2 x3 x4 h0) := by
  refine own_met "com/example/wary_lock/warylock/LockNameRootPinLaw" (plainFor_of_name pn_2) rfl #[.val (.int x0), .val (.int x1), .val (.int x2), .val (.int x3), .val (.int x4)] (fun _ => by first | (simp [entryFrame, mkF, argsToLocals, Value.category]; done) | rfl) ?_
  intro p e s m below meth c s₁ hx hby hlk hret hml hZ hown hnm X0 e0
  have N0 := Fr.nil Z.heap.size
  refine q_iN X0 hx hby d2_0 rfl ?_
  refine q_ifY 1 15 X0 hx hby rfl d2_1 ((if0 _ _).trans (feq r0).2) (by decide) (by decide) ?_
  refine q_iN X0 hx hby d2_15 rfl ?_
  refine q_iC X0 hx hby d2_16  ?_
  refine q_icY 17 35 X0 hx hby rfl d2_17 (feq r1).2 (by decide) (by decide) ?_
  refine q_iN X0 hx hby d2_35 rfl ?_
  refine q_iC X0 hx hby d2_36  ?_
  refine q_icY 37 59 X0 hx hby rfl d2_37 (feq r2).2 (by decide) (by decide) ?_
  refine q_iN X0 hx hby d2_59 rfl ?_
  refine q_iC X0 hx hby d2_60  ?_
  refine q_icY 61 87 X0 hx hby rfl d2_61 (feq r3).2 (by decide) (by decide) ?_
  show Go _ _ _ _ _ _ _ _ s₁ (mkF m 87 #[.val (.int x0), .val (.int x1), .val (.int x2), .val (.int x3), .val (.int x4)] [])
  obtain ⟨T1, h1, X1, e1, E1, A1, D1, U1, st1⟩ := newO X0 hx hZ hown (wd hw 7 rfl) (wd hw 8 rfl) (wd hw 9 rfl) e0 (g := (mkF m 87 #[.val (.int x0), .val (.int x1), .val (.int x2), .val (.int x3), .val (.int x4)] [])) rfl (hb hby d2_87) (by decide) (by decide)
  obtain ⟨b1, hb1⟩ : ∃ z, z = h0.size := ⟨_, rfl⟩
  rw [← hb1] at A1 D1 U1 st1
  refine Go.step st1 ?_
  have g_b1 : Z.heap.size ≤ b1 := Nat.le_trans O0.1 (Nat.le_of_eq hb1.symm)
  have O1_ : Ext Z.heap h1 := extTr O0 E1
  have sz_b1 : h0.size ≤ b1 := Nat.le_trans (Keep.refl h0 []).1 (Nat.le_of_eq hb1.symm)
  have K1 := Keep.ext (Keep.refl h0 []) E1
  have F1_value : fl_0 Z h1 b1 .null := D1 (Or.inr (wd hw 23 rfl)) (ty := (.array .byte)) pf_AB
  have F1_coder : fl_1 Z h1 b1 (.int (0 : Int32)) := D1 (Or.inr (wd hw 24 rfl)) (ty := .byte) pf_B
  refine q_dup X1 hx hby d2_90 rfl ?_
  refine q_iC X1 hx hby d2_91  ?_
  obtain ⟨T2, h2, k2, X2, e2, E2, A2, st2⟩ := newP X1 hx hZ (wd hw 10 rfl) e1 (g := (mkF m 92 #[.val (.int x0), .val (.int x1), .val (.int x2), .val (.int x3), .val (.int x4)] [(.int (4 : Int32)), (.ref b1), (.ref b1)])) rfl (hb hby d2_92) rfl (by decide) (cap := 4) (by decide) (by decide) (by decide) (by decide)
  obtain ⟨b2, hb2⟩ : ∃ z, z = h1.size := ⟨_, rfl⟩
  rw [← hb2] at A2 st2
  refine Go.step st2 ?_
  have g_b2 : Z.heap.size ≤ b2 := Nat.le_trans O1_.1 (Nat.le_of_eq hb2.symm)
  have O2_ : Ext Z.heap h2 := extTr O1_ E2
  have sz_b2 : h0.size ≤ b2 := Nat.le_trans K1.1 (Nat.le_of_eq hb2.symm)
  have K2 := Keep.ext K1 E2
  have V2 : Arv Z h2 b2 k2 .char (4 : Int32) [(.int (0 : Int32)), (.int (0 : Int32)), (.int (0 : Int32)), (.int (0 : Int32))] (.int (0 : Int32)) := (Arv.new A2 (by decide)).pad (pad_rep [] (.int (0 : Int32)) 4)
  refine q_dup X2 hx hby d2_94 rfl ?_
  refine q_iC X2 hx hby d2_95  ?_
  refine q_iN X2 hx hby d2_96 rfl ?_
  obtain ⟨cl3, Ar3, q3, S3, N3, H3, G3⟩ := id V2
  have hin3 : ¬ ((0 : Int32) < 0 ∨ cl3.slots.size ≤ ((0 : Int32)).toNatClampNeg) := inb_of S3 ⟨by decide, by decide⟩
  obtain ⟨T3, h3, X3, e3, W3, st3⟩ := stC X2 hx hZ e2 Ar3 (j := (0 : Int32)) hin3 (g := (mkF m 97 #[.val (.int x0), .val (.int x1), .val (.int x2), .val (.int x3), .val (.int x4)] [(.int x1), (.int (0 : Int32)), (.ref b2), (.ref b2), (.ref b1), (.ref b1)])) rfl rfl (hb hby d2_97)
  refine Go.step st3 ?_
  have V3 : Arv Z h3 b2 k2 .char (4 : Int32) [(.int (x1.toUInt32.toUInt16.toUInt32.toInt32)), (.int (0 : Int32)), (.int (0 : Int32)), (.int (0 : Int32))] (.int (0 : Int32)) := Arv.set Ar3 q3 S3 N3 H3 G3 (fits_nar_char _) W3 0 rfl (Nat.le_of_ble_eq_true rfl)
  have N3_ := Fr.snoc X3 N0 g_b2
  have O3_ : Ext Z.heap h3 := extWr O2_ W3 g_b2
  have K3 := Keep.wr K2 W3 (Or.inr sz_b2)
  refine q_dup X3 hx hby d2_98 rfl ?_
  refine q_iC X3 hx hby d2_99  ?_
  refine q_iN X3 hx hby d2_100 rfl ?_
  obtain ⟨cl4, Ar4, q4, S4, N4, H4, G4⟩ := id V3
  have hin4 : ¬ ((1 : Int32) < 0 ∨ cl4.slots.size ≤ ((1 : Int32)).toNatClampNeg) := inb_of S4 ⟨by decide, by decide⟩
  obtain ⟨T4, h4, X4, e4, W4, st4⟩ := stC X3 hx hZ e3 Ar4 (j := (1 : Int32)) hin4 (g := (mkF m 101 #[.val (.int x0), .val (.int x1), .val (.int x2), .val (.int x3), .val (.int x4)] [(.int x2), (.int (1 : Int32)), (.ref b2), (.ref b2), (.ref b1), (.ref b1)])) rfl rfl (hb hby d2_101)
  refine Go.step st4 ?_
  have V4 : Arv Z h4 b2 k2 .char (4 : Int32) [(.int (x1.toUInt32.toUInt16.toUInt32.toInt32)), (.int (x2.toUInt32.toUInt16.toUInt32.toInt32)), (.int (0 : Int32)), (.int (0 : Int32))] (.int (0 : Int32)) := Arv.set Ar4 q4 S4 N4 H4 G4 (fits_nar_char _) W4 1 rfl (Nat.le_of_ble_eq_true rfl)
  have N4_ := Fr.snoc X4 N3_ g_b2
  have O4_ : Ext Z.heap h4 := extWr O3_ W4 g_b2
  have K4 := Keep.wr K3 W4 (Or.inr sz_b2)
  refine q_dup X4 hx hby d2_102 rfl ?_
  refine q_iC X4 hx hby d2_103  ?_
  refine q_iN X4 hx hby d2_104 rfl ?_
  obtain ⟨cl5, Ar5, q5, S5, N5, H5, G5⟩ := id V4
  have hin5 : ¬ ((2 : Int32) < 0 ∨ cl5.slots.size ≤ ((2 : Int32)).toNatClampNeg) := inb_of S5 ⟨by decide, by decide⟩
  obtain ⟨T5, h5, X5, e5, W5, st5⟩ := stC X4 hx hZ e4 Ar5 (j := (2 : Int32)) hin5 (g := (mkF m 105 #[.val (.int x0), .val (.int x1), .val (.int x2), .val (.int x3), .val (.int x4)] [(.int x3), (.int (2 : Int32)), (.ref b2), (.ref b2), (.ref b1), (.ref b1)])) rfl rfl (hb hby d2_105)
  refine Go.step st5 ?_
  have V5 : Arv Z h5 b2 k2 .char (4 : Int32) [(.int (x1.toUInt32.toUInt16.toUInt32.toInt32)), (.int (x2.toUInt32.toUInt16.toUInt32.toInt32)), (.int (x3.toUInt32.toUInt16.toUInt32.toInt32)), (.int (0 : Int32))] (.int (0 : Int32)) := Arv.set Ar5 q5 S5 N5 H5 G5 (fits_nar_char _) W5 2 rfl (Nat.le_of_ble_eq_true rfl)
  have N5_ := Fr.snoc X5 N4_ g_b2
  have O5_ : Ext Z.heap h5 := extWr O4_ W5 g_b2
  have K5 := Keep.wr K4 W5 (Or.inr sz_b2)
  refine q_dup X5 hx hby d2_106 rfl ?_
  refine q_iC X5 hx hby d2_107  ?_
  refine q_iL X5 hx hby d2_108 rfl ?_
  obtain ⟨cl6, Ar6, q6, S6, N6, H6, G6⟩ := id V5
  have hin6 : ¬ ((3 : Int32) < 0 ∨ cl6.slots.size ≤ ((3 : Int32)).toNatClampNeg) := inb_of S6 ⟨by decide, by decide⟩
  obtain ⟨T6, h6, X6, e6, W6, st6⟩ := stC X5 hx hZ e5 Ar6 (j := (3 : Int32)) hin6 (g := (mkF m 110 #[.val (.int x0), .val (.int x1), .val (.int x2), .val (.int x3), .val (.int x4)] [(.int x4), (.int (3 : Int32)), (.ref b2), (.ref b2), (.ref b1), (.ref b1)])) rfl rfl (hb hby d2_110)
  refine Go.step st6 ?_
  have V6 : Arv Z h6 b2 k2 .char (4 : Int32) [(.int (x1.toUInt32.toUInt16.toUInt32.toInt32)), (.int (x2.toUInt32.toUInt16.toUInt32.toInt32)), (.int (x3.toUInt32.toUInt16.toUInt32.toInt32)), (.int (x4.toUInt32.toUInt16.toUInt32.toInt32))] (.int (0 : Int32)) := Arv.set Ar6 q6 S6 N6 H6 G6 (fits_nar_char _) W6 3 rfl (Nat.le_of_ble_eq_true rfl)
  have N6_ := Fr.snoc X6 N5_ g_b2
  have O6_ : Ext Z.heap h6 := extWr O5_ W6 g_b2
  have K6 := Keep.wr K5 W6 (Or.inr sz_b2)
  have f7 := (Exa.wr W5 (Exa.wr W4 (Exa.wr W3 (Exa.ext E2 A1))))
  have f8 := (Fld.other W5 (Fld.other W4 (Fld.other W3 (Fld.ext E2 F1_coder) (Or.inl (Nat.ne_of_lt (Nat.lt_of_lt_of_le A1.lt (Nat.le_of_eq hb2.symm))))) (Or.inl (Nat.ne_of_lt (Nat.lt_of_lt_of_le A1.lt (Nat.le_of_eq hb2.symm))))) (Or.inl (Nat.ne_of_lt (Nat.lt_of_lt_of_le A1.lt (Nat.le_of_eq hb2.symm)))))
  have f9 := (Fld.other W6 f8 (Or.inl (Nat.ne_of_lt (Nat.lt_of_lt_of_le A1.lt (Nat.le_of_eq hb2.symm)))))
  have f10 := (Fld.other W5 (Fld.other W4 (Fld.other W3 (Fld.ext E2 F1_value) (Or.inl (Nat.ne_of_lt (Nat.lt_of_lt_of_le A1.lt (Nat.le_of_eq hb2.symm))))) (Or.inl (Nat.ne_of_lt (Nat.lt_of_lt_of_le A1.lt (Nat.le_of_eq hb2.symm))))) (Or.inl (Nat.ne_of_lt (Nat.lt_of_lt_of_le A1.lt (Nat.le_of_eq hb2.symm)))))
  have f11 := (Fld.other W6 f10 (Or.inl (Nat.ne_of_lt (Nat.lt_of_lt_of_le A1.lt (Nat.le_of_eq hb2.symm)))))
  refine q_cN [(.ref b2)] [(.ref b1)] 1 X6 hx hZ hown rfl (wd hw 11 rfl) (wd hw 12 rfl) (wd hw 13 rfl) (wd hw 9 rfl) (by decide) e6 (rm_a3_4 l Z a0 hw [] cs sv GG b1 b2 k2 (x1.toUInt32.toUInt16.toUInt32.toInt32) (x2.toUInt32.toUInt16.toUInt32.toInt32) (x3.toUInt32.toUInt16.toUInt32.toInt32) (x4.toUInt32.toUInt16.toUInt32.toInt32) (0 : Int32) h6 O6_ V6 r4 r5 r6 r7 (Exa.wr W6 f7) f9 g_b1 f11) hby hml rfl d2_111 pd_LACRV rfl rfl (by decide) (by decide) (by decide) (by decide) ?_
  intro v12 T12 L12 Lc12 X12 hQ12 l12
  obtain ⟨b1q3q2q12, k1q3q2q12, rfl, Nq12, Kq12, p12_0, p12_1, p12_2, p12_3⟩ := hQ12
  have O12_ : Ext Z.heap T12.heap := extKeep O6_ Kq12 (allS g_b1 all0)
  have K12 := Keep.trans K6 Kq12 (allS (Or.inr sz_b1) all0)
  have N12_ : Fr Z.heap.size L12 := by rw [l12]; exact Fr.app N6_ Nq12
  have g_b1q3q2q12 : Z.heap.size ≤ b1q3q2q12 := Nat.le_trans O6_.1 p12_2
  have sz_b1q3q2q12 : h0.size ≤ b1q3q2q12 := Nat.le_trans K6.1 p12_2
  exact Go.retA X12 hx hret rfl rfl hlk (hb hby d2_114) (by decide) (by decide) ⟨b1, b1q3q2q12, k1q3q2q12, rfl, N12_, K12, sz_b1, ((Exa.wr W6 f7).keep Kq12), p12_0, p12_1, sz_b1q3q2q12, p12_3, (Nat.ne_of_lt (Nat.lt_of_lt_of_le (Exa.wr W6 f7).lt p12_2))⟩
def Q_a10_4 (Z : State) (w7 : Int32) (h0 : Heap) (v : Option Value) (h : Heap) (L : List Loc) : Prop := v = some (.int ((4 : Int32) >>> ((w7.toInt8.toInt32) &&& 31))) ∧ Fr Z.heap.size L ∧ h = h0
theorem rm_a10_4 (l : Launch) (Z : State) (a0 : Array Value) (hw : HW Z a0) (ws : List Jvm.Cond) (cs : Int32) (sv : Value) (GG : GP Z cs sv) (x0 : Addr) (w1 : Addr) (kk2 : ClassId) (w3 : Int32) (w4 : Int32) (w5 : Int32) (w6 : Int32) (w7 : Int32) (h0 : Heap) (O0 : Ext Z.heap h0) (r0 : fl_0 Z h0 x0 (.ref w1)) (r1 : Arv Z h0 w1 kk2 .byte (4 : Int32) [(.int w3), (.int w4), (.int w5), (.int w6)] (.int (0 : Int32))) (r2 : Exa Z h0 x0 "java/lang/String") (r3 : fl_1 Z h0 x0 (.int w7)) :
    Met FrameEnd l (⟨"java/lang/String", "length", "()I"⟩ : MethodName) jdk_42_method_54_code 1 (some .int) ws ⟨1, 0, 0, 13⟩ Z h0 #[(.ref x0)] (Q_a10_4 Z w7 h0) := by
  refine own_met "java/lang/String" (plainFor_of_name pn_10) rfl #[.val (.ref x0)] (fun _ => by first | (simp [entryFrame, mkF, argsToLocals, Value.category]; done) | rfl) ?_
  intro p e s m below meth c s₁ hx hby hlk hret hml hZ hown hnm X0 e0
  have N0 := Fr.nil Z.heap.size
  refine q_aN X0 hx hby d10_0 rfl rfl ?_
  refine q_gF X0 hx hZ hown (wd hw 27 rfl) e0 r0 hby d10_1 ?_
  intro T1 X1 e1
  obtain ⟨cl2, Ar2, -, S2, N2, -, -⟩ := id r1
  refine Go.step (X1.arraylength hx (by rw [e1]; exact Ar2.1) (State.isArrayOf_alike hZ.alike Ar2.2.1) (g := (mkF m 4 #[.val (.ref x0)] [(.ref w1)])) rfl rfl (hb hby d10_4)) ?_
  rw [len_of S2 N2]
  show Go _ _ _ _ _ _ _ _ T1 (mkF m 5 #[.val (.ref x0)] [(.int (4 : Int32))])
  refine q_aN X1 hx hby d10_5 rfl rfl ?_
  refine q_cV [] [(.int (4 : Int32))] 1 X1 hx hZ hown (wd hw 54 rfl) (wd hw 55 rfl) (wd hw 57 rfl) (wd hw 56 rfl) (wd hw 58 rfl) (wd hw 9 rfl) (by decide) e1 r2 (rm_a11_0 l Z a0 hw [] cs sv GG x0 w7 h0 O0 r3) hby hml rfl d10_6 pd_LRB rfl rfl (by decide) (by decide) (by decide) (by decide) ?_
  intro v3 T3 L3 Lc3 X3 hQ3 l3
  obtain ⟨rfl, Nq3, e3⟩ := hQ3
  have N3_ : Fr Z.heap.size L3 := by rw [l3]; exact Fr.app N0 Nq3
  refine Go.step (fun _ kt_ => XS.ishr X3.here hx rfl (hb hby d10_9) rfl kt_) ?_
  show Go _ _ _ _ _ _ _ _ T3 (mkF m 10 #[.val (.ref x0)] [(.int ((4 : Int32) >>> ((w7.toInt8.toInt32) &&& 31)))])
  exact Go.retI X3 hx hret hlk (hb hby d10_10) (by decide) (by decide) (by show _ ∧ _ ∧ _; rw [e3]; exact ⟨rfl, N3_, rfl⟩)
def Q_a12_4 (Z : State) (w2 : Int32) (w3 : Int32) (w4 : Int32) (w5 : Int32) (h0 : Heap) (v : Option Value) (h : Heap) (L : List Loc) : Prop := v = some (.int (ix4 w2 w3 w4 w5 ((47 : Int32).toInt8.toInt32))) ∧ Fr Z.heap.size L ∧ h = h0
theorem rm_a12_4 (l : Launch) (Z : State) (a0 : Array Value) (hw : HW Z a0) (ws : List Jvm.Cond) (cs : Int32) (sv : Value) (GG : GP Z cs sv) (x0 : Addr) (kk1 : ClassId) (w2 : Int32) (w3 : Int32) (w4 : Int32) (w5 : Int32) (h0 : Heap) (O0 : Ext Z.heap h0) (r0 : Arv Z h0 x0 kk1 .byte (4 : Int32) [(.int w2), (.int w3), (.int w4), (.int w5)] (.int (0 : Int32))) :
    Met FrameEnd l (⟨"java/lang/StringLatin1", "indexOf", "([BIII)I"⟩ : MethodName) jdk_43_method_22_code 4 (some .int) ws ⟨1, 0, 0, 17⟩ Z h0 #[(.ref x0), (.int (47 : Int32)), (.int (0 : Int32)), (.int (4 : Int32))] (Q_a12_4 Z w2 w3 w4 w5 h0) := by
  refine own_met "java/lang/StringLatin1" (plainFor_of_name pn_12) rfl #[.val (.ref x0), .val (.int (47 : Int32)), .val (.int (0 : Int32)), .val (.int (4 : Int32))] (fun _ => by first | (simp [entryFrame, mkF, argsToLocals, Value.category]; done) | rfl) ?_
  intro p e s m below meth c s₁ hx hby hlk hret hml hZ hown hnm X0 e0
  have N0 := Fr.nil Z.heap.size
  refine q_iN X0 hx hby d12_0 rfl ?_
  refine q_cS [(.int (47 : Int32))] [] 0 X0 hx hZ hown (wd hw 63 rfl) (wd hw 64 rfl) (wd hw 65 rfl) (wd hw 61 rfl) (by decide) e0 (rm_a13_0 l Z a0 hw [] cs sv GG (47 : Int32) h0 O0 (by decide) (by decide)) hby hml rfl d12_1 pd_LIRZ rfl rfl (by decide) (by decide) (by decide) (by decide) ?_
  intro v1 T1 L1 Lc1 X1 hQ1 l1
  obtain ⟨rfl, Nq1, e1⟩ := hQ1
  have N1_ : Fr Z.heap.size L1 := by rw [l1]; exact Fr.app N0 Nq1
  refine q_ifY 4 9 X1 hx hby rfl d12_4 ((if0 _ _).trans (feq (by decide : ¬ ((1 : Int32) = (0 : Int32)))).2) (by decide) (by decide) ?_
  refine q_iN X1 hx hby d12_9 rfl ?_
  refine q_iC X1 hx hby d12_10  ?_
  refine q_cS [(.int (0 : Int32)), (.int (0 : Int32))] [] 0 X1 hx hZ hown (wd hw 66 rfl) (wd hw 67 rfl) (wd hw 69 rfl) (wd hw 68 rfl) (by decide) e1 (rm_a14_0 l Z a0 hw [] cs sv GG (0 : Int32) (0 : Int32) h0 O0 (by decide)) hby hml rfl d12_11 pd_LIIRI rfl rfl (by decide) (by decide) (by decide) (by decide) ?_
  intro v2 T2 L2 Lc2 X2 hQ2 l2
  obtain ⟨rfl, Nq2, e2⟩ := hQ2
  have N2_ : Fr Z.heap.size L2 := by rw [l2]; exact Fr.app N1_ Nq2
  refine q_isN X2 hx hby d12_14 (l' := #[.val (.ref x0), .val (.int (47 : Int32)), .val (.int (0 : Int32)), .val (.int (4 : Int32))]) rfl ?_
  refine q_iN X2 hx hby d12_15 rfl ?_
  refine q_aN X2 hx hby d12_16 rfl rfl ?_
  obtain ⟨cl3, Ar3, -, S3, N3, -, -⟩ := id r0
  refine Go.step (X2.arraylength hx (by rw [e2]; exact Ar3.1) (State.isArrayOf_alike hZ.alike Ar3.2.1) (g := (mkF m 17 #[.val (.ref x0), .val (.int (47 : Int32)), .val (.int (0 : Int32)), .val (.int (4 : Int32))] [(.ref x0), (.int (4 : Int32))])) rfl rfl (hb hby d12_17)) ?_
  rw [len_of S3 N3]
  show Go _ _ _ _ _ _ _ _ T2 (mkF m 18 #[.val (.ref x0), .val (.int (47 : Int32)), .val (.int (0 : Int32)), .val (.int (4 : Int32))] [(.int (4 : Int32)), (.int (4 : Int32))])
  refine q_cS [(.int (4 : Int32)), (.int (4 : Int32))] [] 0 X2 hx hZ hown (wd hw 70 rfl) (wd hw 71 rfl) (wd hw 72 rfl) (wd hw 68 rfl) (by decide) e2 (rm_a15_0 l Z a0 hw [] cs sv GG (4 : Int32) (4 : Int32) h0 O0 (by decide)) hby hml rfl d12_18 pd_LIIRI rfl rfl (by decide) (by decide) (by decide) (by decide) ?_
  intro v4 T4 L4 Lc4 X4 hQ4 l4
  obtain ⟨rfl, Nq4, e4⟩ := hQ4
  have N4_ : Fr Z.heap.size L4 := by rw [l4]; exact Fr.app N2_ Nq4
  refine q_isN X4 hx hby d12_21 (l' := #[.val (.ref x0), .val (.int (47 : Int32)), .val (.int (0 : Int32)), .val (.int (4 : Int32))]) rfl ?_
  refine q_iN X4 hx hby d12_22 rfl ?_
  refine q_iN X4 hx hby d12_23 rfl ?_
  refine q_icY 24 29 X4 hx hby rfl d12_24 (tlt (by decide : (0 : Int32) < (4 : Int32))).1 (by decide) (by decide) ?_
  refine q_aN X4 hx hby d12_29 rfl rfl ?_
  refine q_iN X4 hx hby d12_30 rfl ?_
  refine q_iN X4 hx hby d12_31 rfl ?_
  refine q_iN X4 hx hby d12_32 rfl ?_
  refine q_cS [(.ref x0), (.int (47 : Int32)), (.int (0 : Int32)), (.int (4 : Int32))] [] 0 X4 hx hZ hown (wd hw 92 rfl) (wd hw 93 rfl) (wd hw 94 rfl) (wd hw 61 rfl) (by decide) e4 (rm_ic4 l Z a0 hw [] cs sv GG x0 (47 : Int32) kk1 w2 w3 w4 w5 h0 O0 r0) hby hml rfl d12_33 pd_LABIIIRI rfl rfl (by decide) (by decide) (by decide) (by decide) ?_
  intro v5 T5 L5 Lc5 X5 hQ5 l5
  obtain ⟨rfl, Nq5, e5⟩ := hQ5
  have N5_ : Fr Z.heap.size L5 := by rw [l5]; exact Fr.app N4_ Nq5
  exact Go.retI X5 hx hret hlk (hb hby d12_36) (by decide) (by decide) (by show _ ∧ _ ∧ _; rw [e5]; exact ⟨rfl, N5_, rfl⟩)
def Q_a8_4 (Z : State) (w3 : Int32) (w4 : Int32) (w5 : Int32) (w6 : Int32) (h0 : Heap) (v : Option Value) (h : Heap) (L : List Loc) : Prop := v = some (.int (ix4 w3 w4 w5 w6 ((47 : Int32).toInt8.toInt32))) ∧ Fr Z.heap.size L ∧ h = h0
theorem rm_a8_4 (l : Launch) (Z : State) (a0 : Array Value) (hw : HW Z a0) (ws : List Jvm.Cond) (cs : Int32) (sv : Value) (GG : GP Z cs sv) (x0 : Addr) (w1 : Addr) (kk2 : ClassId) (w3 : Int32) (w4 : Int32) (w5 : Int32) (w6 : Int32) (h0 : Heap) (O0 : Ext Z.heap h0) (r0 : Exa Z h0 x0 "java/lang/String") (r1 : fl_1 Z h0 x0 (.int (0 : Int32))) (r2 : fl_0 Z h0 x0 (.ref w1)) (r3 : Arv Z h0 w1 kk2 .byte (4 : Int32) [(.int w3), (.int w4), (.int w5), (.int w6)] (.int (0 : Int32))) :
    Met FrameEnd l (⟨"java/lang/String", "indexOf", "(II)I"⟩ : MethodName) jdk_42_method_80_code 3 (some .int) ws ⟨2, 0, 0, 32⟩ Z h0 #[(.ref x0), (.int (47 : Int32)), (.int (0 : Int32))] (Q_a8_4 Z w3 w4 w5 w6 h0) := by
  refine own_met "java/lang/String" (plainFor_of_name pn_8) rfl #[.val (.ref x0), .val (.int (47 : Int32)), .val (.int (0 : Int32))] (fun _ => by first | (simp [entryFrame, mkF, argsToLocals, Value.category]; done) | rfl) ?_
  intro p e s m below meth c s₁ hx hby hlk hret hml hZ hown hnm X0 e0
  have N0 := Fr.nil Z.heap.size
  refine q_aN X0 hx hby d8_0 rfl rfl ?_
  refine q_cV [] [] 0 X0 hx hZ hown (wd hw 43 rfl) (wd hw 44 rfl) (wd hw 46 rfl) (wd hw 45 rfl) (wd hw 47 rfl) (wd hw 9 rfl) (by decide) e0 r0 (rm_a9_0 l Z a0 hw [] cs sv GG x0 (0 : Int32) h0 O0 r1 (by decide)) hby hml rfl d8_1 pd_LRZ rfl rfl (by decide) (by decide) (by decide) (by decide) ?_
  intro v1 T1 L1 Lc1 X1 hQ1 l1
  obtain ⟨rfl, Nq1, e1⟩ := hQ1
  have N1_ : Fr Z.heap.size L1 := by rw [l1]; exact Fr.app N0 Nq1
  refine q_ifN X1 hx hby d8_4 ((if0 _ _).trans (feq (by decide : ¬ ((1 : Int32) = (0 : Int32)))).1) ?_
  refine q_aN X1 hx hby d8_7 rfl rfl ?_
  refine q_gF X1 hx hZ hown (wd hw 27 rfl) e1 r2 hby d8_8 ?_
  intro T2 X2 e2
  refine q_iN X2 hx hby d8_11 rfl ?_
  refine q_iN X2 hx hby d8_12 rfl ?_
  refine q_aN X2 hx hby d8_13 rfl rfl ?_
  refine q_cV [] [(.int (0 : Int32)), (.int (47 : Int32)), (.ref w1)] 3 X2 hx hZ hown (wd hw 49 rfl) (wd hw 50 rfl) (wd hw 52 rfl) (wd hw 51 rfl) (wd hw 53 rfl) (wd hw 9 rfl) (by decide) e2 r0 (rm_a10_4 l Z a0 hw [] cs sv GG x0 w1 kk2 w3 w4 w5 w6 (0 : Int32) h0 O0 r2 r3 r0 r1) hby hml rfl d8_14 pd_LRI rfl rfl (by decide) (by decide) (by decide) (by decide) ?_
  intro v3 T3 L3 Lc3 X3 hQ3 l3
  obtain ⟨rfl, Nq3, e3⟩ := hQ3
  have N3_ : Fr Z.heap.size L3 := by rw [l3]; exact Fr.app N1_ Nq3
  refine q_cS [(.ref w1), (.int (47 : Int32)), (.int (0 : Int32)), (.int (4 : Int32))] [] 0 X3 hx hZ hown (wd hw 59 rfl) (wd hw 60 rfl) (wd hw 62 rfl) (wd hw 61 rfl) (by decide) e3 (rm_a12_4 l Z a0 hw [] cs sv GG w1 kk2 w3 w4 w5 w6 h0 O0 r3) hby hml rfl d8_17 pd_LABIIIRI rfl rfl (by decide) (by decide) (by decide) (by decide) ?_
  intro v4 T4 L4 Lc4 X4 hQ4 l4
  obtain ⟨rfl, Nq4, e4⟩ := hQ4
  have N4_ : Fr Z.heap.size L4 := by rw [l4]; exact Fr.app N3_ Nq4
  refine q_go 20 36 X4 hx hby rfl d8_20 (by decide) (by decide) ?_
  show Go _ _ _ _ _ _ _ _ T4 (mkF m 36 #[.val (.ref x0), .val (.int (47 : Int32)), .val (.int (0 : Int32))] [(.int (ix4 w3 w4 w5 w6 ((47 : Int32).toInt8.toInt32)))])
  exact Go.retI X4 hx hret hlk (hb hby d8_36) (by decide) (by decide) (by show _ ∧ _ ∧ _; rw [e4]; exact ⟨rfl, N4_, rfl⟩)
def Q_a7_4 (Z : State) (w3 : Int32) (w4 : Int32) (w5 : Int32) (w6 : Int32) (h0 : Heap) (v : Option Value) (h : Heap) (L : List Loc) : Prop := v = some (.int (ix4 w3 w4 w5 w6 ((47 : Int32).toInt8.toInt32))) ∧ Fr Z.heap.size L ∧ h = h0
theorem rm_a7_4 (l : Launch) (Z : State) (a0 : Array Value) (hw : HW Z a0) (ws : List Jvm.Cond) (cs : Int32) (sv : Value) (GG : GP Z cs sv) (x0 : Addr) (w1 : Addr) (kk2 : ClassId) (w3 : Int32) (w4 : Int32) (w5 : Int32) (w6 : Int32) (h0 : Heap) (O0 : Ext Z.heap h0) (r0 : Exa Z h0 x0 "java/lang/String") (r1 : fl_1 Z h0 x0 (.int (0 : Int32))) (r2 : fl_0 Z h0 x0 (.ref w1)) (r3 : Arv Z h0 w1 kk2 .byte (4 : Int32) [(.int w3), (.int w4), (.int w5), (.int w6)] (.int (0 : Int32))) :
    Met FrameEnd l (⟨"java/lang/String", "indexOf", "(I)I"⟩ : MethodName) jdk_42_method_79_code 2 (some .int) ws ⟨3, 0, 0, 46⟩ Z h0 #[(.ref x0), (.int (47 : Int32))] (Q_a7_4 Z w3 w4 w5 w6 h0) := by
  refine own_met "java/lang/String" (plainFor_of_name pn_7) rfl #[.val (.ref x0), .val (.int (47 : Int32))] (fun _ => by first | (simp [entryFrame, mkF, argsToLocals, Value.category]; done) | rfl) ?_
  intro p e s m below meth c s₁ hx hby hlk hret hml hZ hown hnm X0 e0
  have N0 := Fr.nil Z.heap.size
  refine q_aN X0 hx hby d7_0 rfl rfl ?_
  refine q_iN X0 hx hby d7_1 rfl ?_
  refine q_iC X0 hx hby d7_2  ?_
  refine q_cV [(.int (47 : Int32)), (.int (0 : Int32))] [] 0 X0 hx hZ hown (wd hw 38 rfl) (wd hw 39 rfl) (wd hw 41 rfl) (wd hw 40 rfl) (wd hw 42 rfl) (wd hw 9 rfl) (by decide) e0 r0 (rm_a8_4 l Z a0 hw [] cs sv GG x0 w1 kk2 w3 w4 w5 w6 h0 O0 r0 r1 r2 r3) hby hml rfl d7_3 pd_LIIRI rfl rfl (by decide) (by decide) (by decide) (by decide) ?_
  intro v1 T1 L1 Lc1 X1 hQ1 l1
  obtain ⟨rfl, Nq1, e1⟩ := hQ1
  have N1_ : Fr Z.heap.size L1 := by rw [l1]; exact Fr.app N0 Nq1
  exact Go.retI X1 hx hret hlk (hb hby d7_6) (by decide) (by decide) (by show _ ∧ _ ∧ _; rw [e1]; exact ⟨rfl, N1_, rfl⟩)
def Q_a22_6 (Z : State)  (h0 : Heap) (v : Option Value) (h : Heap) (L : List Loc) : Prop := ∃ (a1q5 : Addr) (b1q5 : Addr) (kb1q5 : ClassId), v = some (.ref a1q5) ∧ Fr Z.heap.size L ∧ Keep h0 h [] ∧ Exa Z h a1q5 "java/lang/String" ∧ fl_1 Z h a1q5 (.int (0 : Int32)) ∧ fl_0 Z h a1q5 (.ref b1q5) ∧ Arv Z h b1q5 kb1q5 .byte (0 : Int32) [] (.int 0)
theorem rm_a22_6 (l : Launch) (Z : State) (a0 : Array Value) (hw : HW Z a0) (ws : List Jvm.Cond) (cs : Int32) (sv : Value) (GG : GP Z cs sv) (x0 : Addr) (x1 : Int32) (x2 : Int32) (w1 : Addr) (kk2 : ClassId) (w3 : Int32) (w4 : Int32) (w5 : Int32) (w6 : Int32) (w7 : Int32) (h0 : Heap) (O0 : Ext Z.heap h0) (r0 : Exa Z h0 x0 "java/lang/String") (r1 : fl_0 Z h0 x0 (.ref w1)) (r2 : Arv Z h0 w1 kk2 .byte (4 : Int32) [(.int w3), (.int w4), (.int w5), (.int w6)] (.int (0 : Int32))) (r3 : fl_1 Z h0 x0 (.int w7)) (r4 : ¬ (x1 < (0 : Int32))) (r5 : ¬ (x2 < x1)) (r6 : ¬ (((4 : Int32) >>> ((w7.toInt8.toInt32) &&& 31)) < x2)) (r7 : x1 = (0 : Int32)) (r8 : ¬ (x2 = ((4 : Int32) >>> ((w7.toInt8.toInt32) &&& 31)))) (r9 : w7 = (0 : Int32)) (r10 : (x2 - x1) = (0 : Int32)) :
    MetH l (⟨"java/lang/String", "substring", "(II)Ljava/lang/String;"⟩ : MethodName) jdk_42_method_92_code 5 (some (.object "java/lang/String")) ws ⟨2, 2, 4, 29⟩ Z consts_1 [] h0 #[(.ref x0), (.int x1), (.int x2)] (Q_a22_6 Z  h0) := by
  refine own_metH "java/lang/String" (plainFor_of_name pn_22) rfl #[.val (.ref x0), .val (.int x1), .val (.int x2), .unset, .unset] (fun _ => by first | (simp [entryFrame, mkF, argsToLocals, Value.category]; done) | rfl) ?_
  intro p e s m below meth c s₁ hx hby hlk hret hml hZ hown hnm X0 e0 S0 kk0 hh hCH hSF
  have N0 := Fr.nil Z.heap.size
  have wS := own_wS hw
  have hEL := own_EW hw
  have CR0 := CHr.refl hCH
  refine q_aN X0 hx hby d22_0 rfl rfl ?_
  refine q_cV [] [] 0 X0 hx hZ hown (wd hw 49 rfl) (wd hw 50 rfl) (wd hw 52 rfl) (wd hw 51 rfl) (wd hw 53 rfl) (wd hw 9 rfl) (by decide) e0 r0 (rm_a10_4 l Z a0 hw [] cs sv GG x0 w1 kk2 w3 w4 w5 w6 w7 h0 O0 r1 r2 r0 r3) hby hml rfl d22_1 pd_LRI rfl rfl (by decide) (by decide) (by decide) (by decide) ?_
  intro v1 T1 L1 Lc1 X1 hQ1 l1
  obtain ⟨rfl, Nq1, e1⟩ := hQ1
  have N1_ : Fr Z.heap.size L1 := by rw [l1]; exact Fr.app N0 Nq1
  refine q_isN X1 hx hby d22_4 (l' := #[.val (.ref x0), .val (.int x1), .val (.int x2), .val (.int ((4 : Int32) >>> ((w7.toInt8.toInt32) &&& 31))), .unset]) rfl ?_
  refine q_iN X1 hx hby d22_5 rfl ?_
  refine q_iN X1 hx hby d22_6 rfl ?_
  refine q_iN X1 hx hby d22_7 rfl ?_
  refine q_cS [(.int x1), (.int x2), (.int ((4 : Int32) >>> ((w7.toInt8.toInt32) &&& 31)))] [] 0 X1 hx hZ hown (wd hw 100 rfl) (wd hw 101 rfl) (wd hw 102 rfl) (wd hw 9 rfl) (by decide) e1 (rm_cb l Z a0 hw [] cs sv GG x1 x2 ((4 : Int32) >>> ((w7.toInt8.toInt32) &&& 31)) h0 O0 r4 r5 r6) hby hml rfl d22_8 pd_LIIIRV rfl rfl (by decide) (by decide) (by decide) (by decide) ?_
  intro v2 T2 L2 Lc2 X2 hQ2 l2
  obtain ⟨rfl, Nq2, e2⟩ := hQ2
  have N2_ : Fr Z.heap.size L2 := by rw [l2]; exact Fr.app N1_ Nq2
  refine q_iN X2 hx hby d22_11 rfl ?_
  refine q_ifN X2 hx hby d22_12 ((if0 _ _).trans (teq r7).2) ?_
  refine q_iN X2 hx hby d22_15 rfl ?_
  refine q_iN X2 hx hby d22_16 rfl ?_
  show Go _ _ _ _ _ _ _ _ T2 (mkF m 17 #[.val (.ref x0), .val (.int x1), .val (.int x2), .val (.int ((4 : Int32) >>> ((w7.toInt8.toInt32) &&& 31))), .unset] [(.int ((4 : Int32) >>> ((w7.toInt8.toInt32) &&& 31))), (.int x2)])
  refine q_icY 17 22 X2 hx hby rfl d22_17 (feq r8).2 (by decide) (by decide) ?_
  refine q_iN X2 hx hby d22_22 rfl ?_
  refine q_iN X2 hx hby d22_23 rfl ?_
  refine q_isub X2 hx hby d22_24  ?_
  refine q_isL X2 hx hby d22_25 (l' := #[.val (.ref x0), .val (.int x1), .val (.int x2), .val (.int ((4 : Int32) >>> ((w7.toInt8.toInt32) &&& 31))), .val (.int (x2 - x1))]) rfl ?_
  refine q_aN X2 hx hby d22_27 rfl rfl ?_
  refine q_cV [] [] 0 X2 hx hZ hown (wd hw 43 rfl) (wd hw 44 rfl) (wd hw 46 rfl) (wd hw 45 rfl) (wd hw 47 rfl) (wd hw 9 rfl) (by decide) e2 r0 (rm_a9_0 l Z a0 hw [] cs sv GG x0 w7 h0 O0 r3 r9) hby hml rfl d22_28 pd_LRZ rfl rfl (by decide) (by decide) (by decide) (by decide) ?_
  intro v3 T3 L3 Lc3 X3 hQ3 l3
  obtain ⟨rfl, Nq3, e3⟩ := hQ3
  have N3_ : Fr Z.heap.size L3 := by rw [l3]; exact Fr.app N2_ Nq3
  refine q_ifN X3 hx hby d22_31 ((if0 _ _).trans (feq (by decide : ¬ ((1 : Int32) = (0 : Int32)))).1) ?_
  refine q_aN X3 hx hby d22_34 rfl rfl ?_
  refine q_gF X3 hx hZ hown (wd hw 27 rfl) e3 r1 hby d22_35 ?_
  intro T4 X4 e4
  refine q_iN X4 hx hby d22_38 rfl ?_
  show Go _ _ _ _ _ _ _ _ T4 (mkF m 39 #[.val (.ref x0), .val (.int x1), .val (.int x2), .val (.int ((4 : Int32) >>> ((w7.toInt8.toInt32) &&& 31))), .val (.int (x2 - x1))] [(.int x1), (.ref w1)])
  refine q_iL X4 hx hby d22_39 rfl ?_
  obtain ⟨_, _, ⟨T5, L5, k5, n5⟩, -, X5, Sq5, gq5, ⟨Lc5, hQ5, l5, y5, z5, cr5⟩, st5⟩ := callSS X4 hx (y := (⟨"java/lang/StringLatin1", "newString", "([BII)Ljava/lang/String;"⟩ : MethodName)) hown (mvT hZ (wd hw 108 rfl)) (mvT hZ (wd hw 109 rfl)) (mvT hZ (wd hw 61 rfl)) (mvT hZ (wd hw 110 rfl)) (by decide) (own_backH (W := 0) (rm_a25_0 l Z a0 hw [] cs sv GG w1 x1 (x2 - x1) h0 O0 r10) hZ (wd hw 110 rfl) (wd hw 61 rfl) (by decide) (by decide) hEL CR0.1 sg0) (g := (mkF m 41 #[.val (.ref x0), .val (.int x1), .val (.int x2), .val (.int ((4 : Int32) >>> ((w7.toInt8.toInt32) &&& 31))), .val (.int (x2 - x1))] [(.int (x2 - x1)), (.int x1), (.ref w1)])) rfl (by rw [hml]; rfl) (argsL := [(.ref w1), (.int x1), (.int (x2 - x1))]) (rest := []) (lenOf pd_LABIIRLjava_lang_String_ rfl) rfl (by show 2 * 0 + _ ≤ _; exact Nat.le_of_eq rfl) (hb hby d22_41) (fun _ _ => ⟨rfl, e4, (by decide : 0 + 2 ≤ _), (by decide : 0 + 4 ≤ _)⟩)
  dsimp only [Pt.U, Pt.locs, Pt.cells, Pt.slots] at X5 l5 y5 z5 st5 hQ5 Sq5 gq5 cr5
  subst y5 z5
  obtain ⟨X5, S5, hZ5, hown5⟩ := rebS S0 ((congrArg Array.size e4).symm ▸ kk0) X5 Sq5 gq5 hZ hown
  obtain ⟨a1q5, b1q5, kb1q5, rfl, Nq5, Kq5, p5_0, p5_1, p5_2, p5_3⟩ := hQ5
  have O5_ : Ext Z.heap T5.heap := extKeep O0 Kq5 all0
  have CR5 := CHr.trans CR0 cr5
  have K5 := Keep.trans (Keep.refl h0 []) Kq5 all0
  have N5_ : Fr Z.heap.size L5 := by rw [l5]; exact Fr.app N3_ Nq5
  refine Go.trans st5 ?_
  refine q_go 44 57 X5 hx hby rfl d22_44 (by decide) (by decide) ?_
  exact Go.retAH (endH hh rfl X5 hZ5 hEL CR5) X5 S5 (Nat.le_refl _) hx hret rfl rfl hlk (hb hby d22_57) (by decide) (by decide) ⟨a1q5, b1q5, kb1q5, rfl, N5_, K5, p5_0, p5_1, p5_2, p5_3⟩
def Q_a6_10 (Z : State)  (h0 : Heap) (v : Option Value) (h : Heap) (L : List Loc) : Prop := ∃ (a1q5q2 : Addr) (b1q5q2 : Addr) (kb1q5q2 : ClassId), v = some (.ref a1q5q2) ∧ Fr Z.heap.size L ∧ Keep h0 h [] ∧ Exa Z h a1q5q2 "java/lang/String" ∧ fl_1 Z h a1q5q2 (.int (0 : Int32)) ∧ fl_0 Z h a1q5q2 (.ref b1q5q2) ∧ Arv Z h b1q5q2 kb1q5q2 .byte (0 : Int32) [] (.int 0)
theorem rm_a6_10 (l : Launch) (Z : State) (a0 : Array Value) (hw : HW Z a0) (ws : List Jvm.Cond) (cs : Int32) (sv : Value) (GG : GP Z cs sv) (x0 : Addr) (w1 : Addr) (kk2 : ClassId) (w3 : Int32) (w4 : Int32) (w5 : Int32) (w6 : Int32) (h0 : Heap) (O0 : Ext Z.heap h0) (r0 : Exa Z h0 x0 "java/lang/String") (r1 : fl_1 Z h0 x0 (.int (0 : Int32))) (r2 : fl_0 Z h0 x0 (.ref w1)) (r3 : Arv Z h0 w1 kk2 .byte (4 : Int32) [(.int w3), (.int w4), (.int w5), (.int w6)] (.int (0 : Int32))) (r4 : (ix4 w3 w4 w5 w6 ((47 : Int32).toInt8.toInt32)) = (0 : Int32)) :
    MetH l (⟨"com/example/wary_lock/warylock/LockName", "root", "(Ljava/lang/String;)Ljava/lang/String;"⟩ : MethodName) prog_10_method_3_code 2 (some (.object "java/lang/String")) ws ⟨4, 2, 4, 59⟩ Z consts_1 [] h0 #[(.ref x0)] (Q_a6_10 Z  h0) := by
  refine own_metH "com/example/wary_lock/warylock/LockName" (plainFor_of_name pn_6) rfl #[.val (.ref x0), .unset] (fun _ => by first | (simp [entryFrame, mkF, argsToLocals, Value.category]; done) | rfl) ?_
  intro p e s m below meth c s₁ hx hby hlk hret hml hZ hown hnm X0 e0 S0 kk0 hh hCH hSF
  have N0 := Fr.nil Z.heap.size
  have wS := own_wS hw
  have hEL := own_EW hw
  have CR0 := CHr.refl hCH
  refine q_aN X0 hx hby d6_0 rfl rfl ?_
  refine q_bP X0 hx hby d6_1  ?_
  refine q_cV [(.int (47 : Int32))] [] 0 X0 hx hZ hown (wd hw 33 rfl) (wd hw 34 rfl) (wd hw 36 rfl) (wd hw 35 rfl) (wd hw 37 rfl) (wd hw 9 rfl) (by decide) e0 r0 (rm_a7_4 l Z a0 hw [] cs sv GG x0 w1 kk2 w3 w4 w5 w6 h0 O0 r0 r1 r2 r3) hby hml rfl d6_3 pd_LIRI rfl rfl (by decide) (by decide) (by decide) (by decide) ?_
  intro v1 T1 L1 Lc1 X1 hQ1 l1
  obtain ⟨rfl, Nq1, e1⟩ := hQ1
  have N1_ : Fr Z.heap.size L1 := by rw [l1]; exact Fr.app N0 Nq1
  show Go _ _ _ _ _ _ _ _ T1 (mkF m 6 #[.val (.ref x0), .unset] [(.int (ix4 w3 w4 w5 w6 ((47 : Int32).toInt8.toInt32)))])
  rw [r4]
  show Go _ _ _ _ _ _ _ _ T1 (mkF m 6 #[.val (.ref x0), .unset] [(.int (0 : Int32))])
  refine q_isN X1 hx hby d6_6 (l' := #[.val (.ref x0), .val (.int (0 : Int32))]) rfl ?_
  refine q_iN X1 hx hby d6_7 rfl ?_
  refine q_ifY 8 15 X1 hx hby rfl d6_8 ((if0 _ _).trans (flt (by decide : ¬ ((0 : Int32) < (0 : Int32)))).2.1) (by decide) (by decide) ?_
  refine q_aN X1 hx hby d6_15 rfl rfl ?_
  refine q_iC X1 hx hby d6_16  ?_
  refine q_iN X1 hx hby d6_17 rfl ?_
  obtain ⟨cq2, kq2, q2a, q2b, q2c⟩ := isOf hZ e1 r0
  obtain ⟨_, _, ⟨T2, L2, k2, n2⟩, -, X2, Sq2, gq2, ⟨Lc2, hQ2, l2, y2, z2, cr2⟩, st2⟩ := X1.virtualBackS hx (y := (⟨"java/lang/String", "substring", "(II)Ljava/lang/String;"⟩ : MethodName)) (z := (⟨"java/lang/String", "substring", "(II)Ljava/lang/String;"⟩ : MethodName)) hown (mvT hZ (wd hw 95 rfl)) (mvT hZ (wd hw 96 rfl)) (notFace_of_selects (args := #[]) (mvT hZ (wd hw 98 rfl))) (mvT hZ (wd hw 98 rfl)) (mvT hZ (wd hw 97 rfl)) (by decide) (own_backH (W := 0) (rm_a22_6 l Z a0 hw [] cs sv GG x0 (0 : Int32) (0 : Int32) w1 kk2 w3 w4 w5 w6 (0 : Int32) h0 O0 r0 r2 r3 r1 (by decide) (by decide) (by decide) (by decide) (by decide) (by decide) (by decide)) hZ (wd hw 99 rfl) (wd hw 9 rfl) (by decide) (by decide) hEL CR0.1 sg0) q2a q2c (g := (mkF m 18 #[.val (.ref x0), .val (.int (0 : Int32))] [(.int (0 : Int32)), (.int (0 : Int32)), (.ref x0)])) rfl (by rw [hml]; rfl) (Steps.refl _) (argsL := [(.int (0 : Int32)), (.int (0 : Int32))]) (rest := []) (lenOf pd_LIIRLjava_lang_String_ rfl) rfl (by show 2 * 0 + _ ≤ _; exact Nat.le_of_eq rfl) (hb hby d6_18) (fun _ _ => ⟨rfl, e1, (by decide : 0 + 2 ≤ _), (by decide : 0 + 4 ≤ _)⟩)
  dsimp only [Pt.U, Pt.locs, Pt.cells, Pt.slots] at X2 l2 y2 z2 st2 hQ2 Sq2 gq2 cr2
  subst y2 z2
  obtain ⟨X2, S2, hZ2, hown2⟩ := rebS S0 ((congrArg Array.size e1).symm ▸ kk0) X2 Sq2 gq2 hZ hown
  obtain ⟨a1q5q2, b1q5q2, kb1q5q2, rfl, Nq2, Kq2, p2_0, p2_1, p2_2, p2_3⟩ := hQ2
  have O2_ : Ext Z.heap T2.heap := extKeep O0 Kq2 all0
  have CR2 := CHr.trans CR0 cr2
  have K2 := Keep.trans (Keep.refl h0 []) Kq2 all0
  have N2_ : Fr Z.heap.size L2 := by rw [l2]; exact Fr.app N1_ Nq2
  refine Go.trans st2 ?_
  exact Go.retAH (endH hh rfl X2 hZ2 hEL CR2) X2 S2 (Nat.le_refl _) hx hret rfl rfl hlk (hb hby d6_21) (by decide) (by decide) ⟨a1q5q2, b1q5q2, kb1q5q2, rfl, N2_, K2, p2_0, p2_1, p2_2, p2_3⟩
def Q_a27_3 (Z : State) (w2 : Int32) (h0 : Heap) (v : Option Value) (h : Heap) (L : List Loc) : Prop := ∃ (b2 : Addr) (k2 : ClassId), v = some (.ref b2) ∧ Fr Z.heap.size L ∧ Keep h0 h [] ∧ h0.size ≤ b2 ∧ Arv Z h b2 k2 .byte (1 : Int32) [(.int w2)] (.int (0 : Int32))
theorem rm_a27_3 (l : Launch) (Z : State) (a0 : Array Value) (hw : HW Z a0) (ws : List Jvm.Cond) (cs : Int32) (sv : Value) (GG : GP Z cs sv) (x0 : Addr) (kk1 : ClassId) (w2 : Int32) (w3 : Int32) (w4 : Int32) (w5 : Int32) (h0 : Heap) (O0 : Ext Z.heap h0) (r0 : Arv Z h0 x0 kk1 .byte (4 : Int32) [(.int w2), (.int w3), (.int w4), (.int w5)] (.int (0 : Int32))) :
    Met FrameEnd l (⟨"java/util/Arrays", "copyOfRangeByte", "([BII)[B"⟩ : MethodName) jdk_65_method_133_code 5 (some (.array .byte)) ws ⟨1, 1, 1, 18⟩ Z h0 #[(.ref x0), (.int (0 : Int32)), (.int (1 : Int32))] (Q_a27_3 Z w2 h0) := by
  refine own_met "java/util/Arrays" (plainFor_of_name pn_27) rfl #[.val (.ref x0), .val (.int (0 : Int32)), .val (.int (1 : Int32)), .unset, .unset] (fun _ => by first | (simp [entryFrame, mkF, argsToLocals, Value.category]; done) | rfl) ?_
  intro p e s m below meth c s₁ hx hby hlk hret hml hZ hown hnm X0 e0
  have N0 := Fr.nil Z.heap.size
  refine q_iN X0 hx hby d27_0 rfl ?_
  refine q_iN X0 hx hby d27_1 rfl ?_
  refine q_cS [(.int (0 : Int32)), (.int (1 : Int32))] [] 0 X0 hx hZ hown (wd hw 120 rfl) (wd hw 121 rfl) (wd hw 122 rfl) (wd hw 115 rfl) (by decide) e0 (rm_a28_0 l Z a0 hw [] cs sv GG (0 : Int32) (1 : Int32) h0 O0 (by decide)) hby hml rfl d27_2 pd_LIIRV rfl rfl (by decide) (by decide) (by decide) (by decide) ?_
  intro v1 T1 L1 Lc1 X1 hQ1 l1
  obtain ⟨rfl, Nq1, e1⟩ := hQ1
  have N1_ : Fr Z.heap.size L1 := by rw [l1]; exact Fr.app N0 Nq1
  refine q_iN X1 hx hby d27_5 rfl ?_
  refine q_iN X1 hx hby d27_6 rfl ?_
  refine q_isub X1 hx hby d27_7  ?_
  refine q_isN X1 hx hby d27_8 (l' := #[.val (.ref x0), .val (.int (0 : Int32)), .val (.int (1 : Int32)), .val (.int (1 : Int32)), .unset]) rfl ?_
  refine q_iN X1 hx hby d27_9 rfl ?_
  obtain ⟨T2, h2, k2, X2, e2, E2, A2, st2⟩ := newP X1 hx hZ (wd hw 22 rfl) e1 (g := (mkF m 10 #[.val (.ref x0), .val (.int (0 : Int32)), .val (.int (1 : Int32)), .val (.int (1 : Int32)), .unset] [(.int (1 : Int32))])) rfl (hb hby d27_10) rfl (by decide) (cap := 1) (by decide) (by decide) (by decide) (by decide)
  obtain ⟨b2, hb2⟩ : ∃ z, z = h0.size := ⟨_, rfl⟩
  rw [← hb2] at A2 st2
  refine Go.step st2 ?_
  have g_b2 : Z.heap.size ≤ b2 := Nat.le_trans O0.1 (Nat.le_of_eq hb2.symm)
  have O2_ : Ext Z.heap h2 := extTr O0 E2
  have sz_b2 : h0.size ≤ b2 := Nat.le_trans (Keep.refl h0 []).1 (Nat.le_of_eq hb2.symm)
  have K2 := Keep.ext (Keep.refl h0 []) E2
  have V2 : Arv Z h2 b2 k2 .byte (1 : Int32) [(.int (0 : Int32))] (.int (0 : Int32)) := (Arv.new A2 (by decide)).pad (pad_rep [] (.int (0 : Int32)) 1)
  refine q_asL X2 hx hby d27_12 rfl (l' := #[.val (.ref x0), .val (.int (0 : Int32)), .val (.int (1 : Int32)), .val (.int (1 : Int32)), .val (.ref b2)]) rfl ?_
  refine q_aN X2 hx hby d27_14 rfl rfl ?_
  refine q_iN X2 hx hby d27_15 rfl ?_
  refine q_aL X2 hx hby d27_16 rfl rfl ?_
  refine q_iC X2 hx hby d27_18  ?_
  refine q_aN X2 hx hby d27_19 rfl rfl ?_
  obtain ⟨cl3, Ar3, -, S3, N3, -, -⟩ := id (r0.ext E2)
  refine Go.step (X2.arraylength hx (by rw [e2]; exact Ar3.1) (State.isArrayOf_alike hZ.alike Ar3.2.1) (g := (mkF m 20 #[.val (.ref x0), .val (.int (0 : Int32)), .val (.int (1 : Int32)), .val (.int (1 : Int32)), .val (.ref b2)] [(.ref x0), (.int (0 : Int32)), (.ref b2), (.int (0 : Int32)), (.ref x0)])) rfl rfl (hb hby d27_20)) ?_
  rw [len_of S3 N3]
  show Go _ _ _ _ _ _ _ _ T2 (mkF m 21 #[.val (.ref x0), .val (.int (0 : Int32)), .val (.int (1 : Int32)), .val (.int (1 : Int32)), .val (.ref b2)] [(.int (4 : Int32)), (.int (0 : Int32)), (.ref b2), (.int (0 : Int32)), (.ref x0)])
  refine q_iN X2 hx hby d27_21 rfl ?_
  refine q_isub X2 hx hby d27_22  ?_
  refine q_iN X2 hx hby d27_23 rfl ?_
  refine q_cS [(.int (4 : Int32)), (.int (1 : Int32))] [(.int (0 : Int32)), (.ref b2), (.int (0 : Int32)), (.ref x0)] 4 X2 hx hZ hown (wd hw 123 rfl) (wd hw 71 rfl) (wd hw 72 rfl) (wd hw 68 rfl) (by decide) e2 (rm_a15_1 l Z a0 hw [] cs sv GG (4 : Int32) (1 : Int32) h2 O2_ (by decide)) hby hml rfl d27_24 pd_LIIRI rfl rfl (by decide) (by decide) (by decide) (by decide) ?_
  intro v4 T4 L4 Lc4 X4 hQ4 l4
  obtain ⟨rfl, Nq4, e4⟩ := hQ4
  have N4_ : Fr Z.heap.size L4 := by rw [l4]; exact Fr.app N1_ Nq4
  obtain ⟨T5, h5, L5, X5, e5, N5_, K5_, V5_, st5⟩ := cpA X4 hx hZ hown (wd hw 124 rfl) (wd hw 127 rfl) (wd hw 125 rfl) (wd hw 126 rfl) e4 (us := [(.int w2)]) (r0.ext E2) V2 (Or.inl ⟨rfl, rfl⟩) (by decide) (by decide) (by decide) (by decide) (by decide) rfl (by decide) N4_ g_b2 (g := (mkF m 27 #[.val (.ref x0), .val (.int (0 : Int32)), .val (.int (1 : Int32)), .val (.int (1 : Int32)), .val (.ref b2)] [(.int (1 : Int32)), (.int (0 : Int32)), (.ref b2), (.int (0 : Int32)), (.ref x0)])) rfl (by rw [hml]; rfl) rfl (hb hby d27_27) (by decide) (W := 0) (by show 2 * 0 + _ ≤ _; exact Nat.le_of_eq rfl) (by decide)
  refine Go.step st5 ?_
  have V5 : Arv Z h5 b2 k2 .byte (1 : Int32) [(.int w2)] (.int (0 : Int32)) := V5_
  have O5_ : Ext Z.heap h5 := extKeep O2_ K5_ (allS g_b2 all0)
  have K5 := Keep.trans K2 K5_ (allS (Or.inr sz_b2) all0)
  refine q_aL X5 hx hby d27_30 rfl rfl ?_
  exact Go.retA X5 hx hret rfl rfl hlk (hb hby d27_32) (by decide) (by decide) (by show Q_a27_3 ..; rw [e5]; exact ⟨b2, k2, rfl, N5_, K5, sz_b2, V5⟩)
def Q_a26_3 (Z : State) (w2 : Int32) (h0 : Heap) (v : Option Value) (h : Heap) (L : List Loc) : Prop := ∃ (b2q2 : Addr) (k2q2 : ClassId), v = some (.ref b2q2) ∧ Fr Z.heap.size L ∧ Keep h0 h [] ∧ h0.size ≤ b2q2 ∧ Arv Z h b2q2 k2q2 .byte (1 : Int32) [(.int w2)] (.int (0 : Int32))
theorem rm_a26_3 (l : Launch) (Z : State) (a0 : Array Value) (hw : HW Z a0) (ws : List Jvm.Cond) (cs : Int32) (sv : Value) (GG : GP Z cs sv) (x0 : Addr) (kk1 : ClassId) (w2 : Int32) (w3 : Int32) (w4 : Int32) (w5 : Int32) (h0 : Heap) (O0 : Ext Z.heap h0) (r0 : Arv Z h0 x0 kk1 .byte (4 : Int32) [(.int w2), (.int w3), (.int w4), (.int w5)] (.int (0 : Int32))) :
    Met FrameEnd l (⟨"java/util/Arrays", "copyOfRange", "([BII)[B"⟩ : MethodName) jdk_65_method_132_code 3 (some (.array .byte)) ws ⟨2, 1, 1, 34⟩ Z h0 #[(.ref x0), (.int (0 : Int32)), (.int (1 : Int32))] (Q_a26_3 Z w2 h0) := by
  refine own_met "java/util/Arrays" (plainFor_of_name pn_26) rfl #[.val (.ref x0), .val (.int (0 : Int32)), .val (.int (1 : Int32))] (fun _ => by first | (simp [entryFrame, mkF, argsToLocals, Value.category]; done) | rfl) ?_
  intro p e s m below meth c s₁ hx hby hlk hret hml hZ hown hnm X0 e0
  have N0 := Fr.nil Z.heap.size
  refine q_iN X0 hx hby d26_0 rfl ?_
  refine q_ifN X0 hx hby d26_1 ((if0 _ _).trans (teq (by decide : (0 : Int32) = (0 : Int32))).2) ?_
  refine q_iN X0 hx hby d26_4 rfl ?_
  refine q_aN X0 hx hby d26_5 rfl rfl ?_
  obtain ⟨cl1, Ar1, -, S1, N1, -, -⟩ := id r0
  refine Go.step (X0.arraylength hx (by rw [e0]; exact Ar1.1) (State.isArrayOf_alike hZ.alike Ar1.2.1) (g := (mkF m 6 #[.val (.ref x0), .val (.int (0 : Int32)), .val (.int (1 : Int32))] [(.ref x0), (.int (1 : Int32))])) rfl rfl (hb hby d26_6)) ?_
  rw [len_of S1 N1]
  show Go _ _ _ _ _ _ _ _ s₁ (mkF m 7 #[.val (.ref x0), .val (.int (0 : Int32)), .val (.int (1 : Int32))] [(.int (4 : Int32)), (.int (1 : Int32))])
  refine q_icN X0 hx hby d26_7 (feq (by decide : ¬ ((1 : Int32) = (4 : Int32)))).1 ?_
  refine q_aN X0 hx hby d26_10 rfl rfl ?_
  refine q_iN X0 hx hby d26_11 rfl ?_
  refine q_iN X0 hx hby d26_12 rfl ?_
  refine q_cS [(.ref x0), (.int (0 : Int32)), (.int (1 : Int32))] [] 0 X0 hx hZ hown (wd hw 117 rfl) (wd hw 118 rfl) (wd hw 119 rfl) (wd hw 115 rfl) (by decide) e0 (rm_a27_3 l Z a0 hw [] cs sv GG x0 kk1 w2 w3 w4 w5 h0 O0 r0) hby hml rfl d26_13 pd_LABIIRAB rfl rfl (by decide) (by decide) (by decide) (by decide) ?_
  intro v2 T2 L2 Lc2 X2 hQ2 l2
  obtain ⟨b2q2, k2q2, rfl, Nq2, Kq2, p2_0, p2_1⟩ := hQ2
  have O2_ : Ext Z.heap T2.heap := extKeep O0 Kq2 all0
  have K2 := Keep.trans (Keep.refl h0 []) Kq2 all0
  have N2_ : Fr Z.heap.size L2 := by rw [l2]; exact Fr.app N0 Nq2
  have g_b2q2 : Z.heap.size ≤ b2q2 := Nat.le_trans O0.1 p2_0
  have sz_b2q2 : h0.size ≤ b2q2 := Nat.le_trans (Keep.refl h0 []).1 p2_0
  exact Go.retA X2 hx hret rfl rfl hlk (hb hby d26_16) (by decide) (by decide) ⟨b2q2, k2q2, rfl, N2_, K2, sz_b2q2, p2_1⟩
def Q_a25_4 (Z : State) (w2 : Int32) (h0 : Heap) (v : Option Value) (h : Heap) (L : List Loc) : Prop := ∃ (b1 : Addr) (b2q2q2 : Addr) (k2q2q2 : ClassId), v = some (.ref b1) ∧ Fr Z.heap.size L ∧ Keep h0 h [] ∧ h0.size ≤ b1 ∧ Exa Z h b1 "java/lang/String" ∧ fl_0 Z h b1 (.ref b2q2q2) ∧ fl_1 Z h b1 (.int (0 : Int32)) ∧ h0.size ≤ b2q2q2 ∧ Arv Z h b2q2q2 k2q2q2 .byte (1 : Int32) [(.int w2)] (.int (0 : Int32)) ∧ b1 ≠ b2q2q2
theorem rm_a25_4 (l : Launch) (Z : State) (a0 : Array Value) (hw : HW Z a0) (ws : List Jvm.Cond) (cs : Int32) (sv : Value) (GG : GP Z cs sv) (x0 : Addr) (kk1 : ClassId) (w2 : Int32) (w3 : Int32) (w4 : Int32) (w5 : Int32) (h0 : Heap) (O0 : Ext Z.heap h0) (r0 : Arv Z h0 x0 kk1 .byte (4 : Int32) [(.int w2), (.int w3), (.int w4), (.int w5)] (.int (0 : Int32))) :
    Met FrameEnd l (⟨"java/lang/StringLatin1", "newString", "([BII)Ljava/lang/String;"⟩ : MethodName) jdk_43_method_47_code 3 (some (.object "java/lang/String")) ws ⟨3, 2, 5, 50⟩ Z h0 #[(.ref x0), (.int (0 : Int32)), (.int (1 : Int32))] (Q_a25_4 Z w2 h0) := by
  refine own_met "java/lang/StringLatin1" (plainFor_of_name pn_25) rfl #[.val (.ref x0), .val (.int (0 : Int32)), .val (.int (1 : Int32))] (fun _ => by first | (simp [entryFrame, mkF, argsToLocals, Value.category]; done) | rfl) ?_
  intro p e s m below meth c s₁ hx hby hlk hret hml hZ hown hnm X0 e0
  have N0 := Fr.nil Z.heap.size
  refine q_iN X0 hx hby d25_0 rfl ?_
  refine q_ifY 1 7 X0 hx hby rfl d25_1 ((if0 _ _).trans (feq (by decide : ¬ ((1 : Int32) = (0 : Int32)))).2) (by decide) (by decide) ?_
  obtain ⟨T1, h1, X1, e1, E1, A1, D1, U1, st1⟩ := newO X0 hx hZ hown (wd hw 112 rfl) (wd hw 8 rfl) (wd hw 9 rfl) e0 (g := (mkF m 7 #[.val (.ref x0), .val (.int (0 : Int32)), .val (.int (1 : Int32))] [])) rfl (hb hby d25_7) (by decide) (by decide)
  obtain ⟨b1, hb1⟩ : ∃ z, z = h0.size := ⟨_, rfl⟩
  rw [← hb1] at A1 D1 U1 st1
  refine Go.step st1 ?_
  have g_b1 : Z.heap.size ≤ b1 := Nat.le_trans O0.1 (Nat.le_of_eq hb1.symm)
  have O1_ : Ext Z.heap h1 := extTr O0 E1
  have sz_b1 : h0.size ≤ b1 := Nat.le_trans (Keep.refl h0 []).1 (Nat.le_of_eq hb1.symm)
  have K1 := Keep.ext (Keep.refl h0 []) E1
  have F1_value : fl_0 Z h1 b1 .null := D1 (Or.inr (wd hw 23 rfl)) (ty := (.array .byte)) pf_AB
  have F1_coder : fl_1 Z h1 b1 (.int (0 : Int32)) := D1 (Or.inr (wd hw 24 rfl)) (ty := .byte) pf_B
  refine q_dup X1 hx hby d25_10 rfl ?_
  refine q_aN X1 hx hby d25_11 rfl rfl ?_
  refine q_iN X1 hx hby d25_12 rfl ?_
  refine q_iN X1 hx hby d25_13 rfl ?_
  refine q_iN X1 hx hby d25_14 rfl ?_
  refine q_iadd X1 hx hby d25_15  ?_
  refine q_cS [(.ref x0), (.int (0 : Int32)), (.int (1 : Int32))] [(.ref b1), (.ref b1)] 2 X1 hx hZ hown (wd hw 113 rfl) (wd hw 114 rfl) (wd hw 116 rfl) (wd hw 115 rfl) (by decide) e1 (rm_a26_3 l Z a0 hw [] cs sv GG x0 kk1 w2 w3 w4 w5 h1 O1_ (r0.ext E1)) hby hml rfl d25_16 pd_LABIIRAB rfl rfl (by decide) (by decide) (by decide) (by decide) ?_
  intro v2 T2 L2 Lc2 X2 hQ2 l2
  obtain ⟨b2q2q2, k2q2q2, rfl, Nq2, Kq2, p2_0, p2_1⟩ := hQ2
  have O2_ : Ext Z.heap T2.heap := extKeep O1_ Kq2 all0
  have K2 := Keep.trans K1 Kq2 all0
  have N2_ : Fr Z.heap.size L2 := by rw [l2]; exact Fr.app N0 Nq2
  have g_b2q2q2 : Z.heap.size ≤ b2q2q2 := Nat.le_trans O1_.1 p2_0
  have sz_b2q2q2 : h0.size ≤ b2q2q2 := Nat.le_trans K1.1 p2_0
  refine q_iC X2 hx hby d25_19  ?_
  refine q_cN [(.ref b2q2q2), (.int (0 : Int32))] [(.ref b1)] 1 X2 hx hZ hown rfl (wd hw 128 rfl) (wd hw 129 rfl) (wd hw 130 rfl) (wd hw 9 rfl) (by decide) rfl (rm_a29_0 l Z a0 hw [] cs sv GG b1 b2q2q2 (0 : Int32) (0 : Int32) T2.heap O2_ (A1.keep Kq2) (F1_value.keep Kq2 nin0) g_b1 (F1_coder.keep Kq2 nin0)) hby hml rfl d25_20 pd_LABBRV rfl rfl (by decide) (by decide) (by decide) (by decide) ?_
  intro v3 T3 L3 Lc3 X3 hQ3 l3
  obtain ⟨rfl, Nq3, Kq3, p3_0, p3_1⟩ := hQ3
  have O3_ : Ext Z.heap T3.heap := extKeep O2_ Kq3 (allS g_b1 all0)
  have K3 := Keep.trans K2 Kq3 (allS (Or.inr sz_b1) all0)
  have N3_ : Fr Z.heap.size L3 := by rw [l3]; exact Fr.app N2_ Nq3
  have f4 := (p2_1.keep Kq3 (ninS (Ne.symm (Nat.ne_of_lt (Nat.lt_of_lt_of_le A1.lt p2_0))) nin0))
  exact Go.retA X3 hx hret rfl rfl hlk (hb hby d25_23) (by decide) (by decide) ⟨b1, b2q2q2, k2q2q2, rfl, N3_, K3, sz_b1, ((A1.keep Kq2).keep Kq3), p3_0, p3_1, sz_b2q2q2, f4, (Nat.ne_of_lt (Nat.lt_of_lt_of_le A1.lt p2_0))⟩
def Q_a22_7 (Z : State) (w3 : Int32) (h0 : Heap) (v : Option Value) (h : Heap) (L : List Loc) : Prop := ∃ (b1q5 : Addr) (b2q2q2q5 : Addr) (k2q2q2q5 : ClassId), v = some (.ref b1q5) ∧ Fr Z.heap.size L ∧ Keep h0 h [] ∧ h0.size ≤ b1q5 ∧ Exa Z h b1q5 "java/lang/String" ∧ fl_0 Z h b1q5 (.ref b2q2q2q5) ∧ fl_1 Z h b1q5 (.int (0 : Int32)) ∧ h0.size ≤ b2q2q2q5 ∧ Arv Z h b2q2q2q5 k2q2q2q5 .byte (1 : Int32) [(.int w3)] (.int (0 : Int32)) ∧ b1q5 ≠ b2q2q2q5
theorem rm_a22_7 (l : Launch) (Z : State) (a0 : Array Value) (hw : HW Z a0) (ws : List Jvm.Cond) (cs : Int32) (sv : Value) (GG : GP Z cs sv) (x0 : Addr) (w1 : Addr) (kk2 : ClassId) (w3 : Int32) (w4 : Int32) (w5 : Int32) (w6 : Int32) (h0 : Heap) (O0 : Ext Z.heap h0) (r0 : Exa Z h0 x0 "java/lang/String") (r1 : fl_0 Z h0 x0 (.ref w1)) (r2 : Arv Z h0 w1 kk2 .byte (4 : Int32) [(.int w3), (.int w4), (.int w5), (.int w6)] (.int (0 : Int32))) (r3 : fl_1 Z h0 x0 (.int (0 : Int32))) :
    Met FrameEnd l (⟨"java/lang/String", "substring", "(II)Ljava/lang/String;"⟩ : MethodName) jdk_42_method_92_code 5 (some (.object "java/lang/String")) ws ⟨4, 2, 5, 64⟩ Z h0 #[(.ref x0), (.int (0 : Int32)), (.int (1 : Int32))] (Q_a22_7 Z w3 h0) := by
  refine own_met "java/lang/String" (plainFor_of_name pn_22) rfl #[.val (.ref x0), .val (.int (0 : Int32)), .val (.int (1 : Int32)), .unset, .unset] (fun _ => by first | (simp [entryFrame, mkF, argsToLocals, Value.category]; done) | rfl) ?_
  intro p e s m below meth c s₁ hx hby hlk hret hml hZ hown hnm X0 e0
  have N0 := Fr.nil Z.heap.size
  refine q_aN X0 hx hby d22_0 rfl rfl ?_
  refine q_cV [] [] 0 X0 hx hZ hown (wd hw 49 rfl) (wd hw 50 rfl) (wd hw 52 rfl) (wd hw 51 rfl) (wd hw 53 rfl) (wd hw 9 rfl) (by decide) e0 r0 (rm_a10_4 l Z a0 hw [] cs sv GG x0 w1 kk2 w3 w4 w5 w6 (0 : Int32) h0 O0 r1 r2 r0 r3) hby hml rfl d22_1 pd_LRI rfl rfl (by decide) (by decide) (by decide) (by decide) ?_
  intro v1 T1 L1 Lc1 X1 hQ1 l1
  obtain ⟨rfl, Nq1, e1⟩ := hQ1
  have N1_ : Fr Z.heap.size L1 := by rw [l1]; exact Fr.app N0 Nq1
  refine q_isN X1 hx hby d22_4 (l' := #[.val (.ref x0), .val (.int (0 : Int32)), .val (.int (1 : Int32)), .val (.int (4 : Int32)), .unset]) rfl ?_
  refine q_iN X1 hx hby d22_5 rfl ?_
  refine q_iN X1 hx hby d22_6 rfl ?_
  refine q_iN X1 hx hby d22_7 rfl ?_
  refine q_cS [(.int (0 : Int32)), (.int (1 : Int32)), (.int (4 : Int32))] [] 0 X1 hx hZ hown (wd hw 100 rfl) (wd hw 101 rfl) (wd hw 102 rfl) (wd hw 9 rfl) (by decide) e1 (rm_cb l Z a0 hw [] cs sv GG (0 : Int32) (1 : Int32) (4 : Int32) h0 O0 (by decide) (by decide) (by decide)) hby hml rfl d22_8 pd_LIIIRV rfl rfl (by decide) (by decide) (by decide) (by decide) ?_
  intro v2 T2 L2 Lc2 X2 hQ2 l2
  obtain ⟨rfl, Nq2, e2⟩ := hQ2
  have N2_ : Fr Z.heap.size L2 := by rw [l2]; exact Fr.app N1_ Nq2
  refine q_iN X2 hx hby d22_11 rfl ?_
  refine q_ifN X2 hx hby d22_12 ((if0 _ _).trans (teq (by decide : (0 : Int32) = (0 : Int32))).2) ?_
  refine q_iN X2 hx hby d22_15 rfl ?_
  refine q_iN X2 hx hby d22_16 rfl ?_
  show Go _ _ _ _ _ _ _ _ T2 (mkF m 17 #[.val (.ref x0), .val (.int (0 : Int32)), .val (.int (1 : Int32)), .val (.int (4 : Int32)), .unset] [(.int (4 : Int32)), (.int (1 : Int32))])
  refine q_icY 17 22 X2 hx hby rfl d22_17 (feq (by decide : ¬ ((1 : Int32) = (4 : Int32)))).2 (by decide) (by decide) ?_
  refine q_iN X2 hx hby d22_22 rfl ?_
  refine q_iN X2 hx hby d22_23 rfl ?_
  refine q_isub X2 hx hby d22_24  ?_
  refine q_isL X2 hx hby d22_25 (l' := #[.val (.ref x0), .val (.int (0 : Int32)), .val (.int (1 : Int32)), .val (.int (4 : Int32)), .val (.int (1 : Int32))]) rfl ?_
  refine q_aN X2 hx hby d22_27 rfl rfl ?_
  refine q_cV [] [] 0 X2 hx hZ hown (wd hw 43 rfl) (wd hw 44 rfl) (wd hw 46 rfl) (wd hw 45 rfl) (wd hw 47 rfl) (wd hw 9 rfl) (by decide) e2 r0 (rm_a9_0 l Z a0 hw [] cs sv GG x0 (0 : Int32) h0 O0 r3 (by decide)) hby hml rfl d22_28 pd_LRZ rfl rfl (by decide) (by decide) (by decide) (by decide) ?_
  intro v3 T3 L3 Lc3 X3 hQ3 l3
  obtain ⟨rfl, Nq3, e3⟩ := hQ3
  have N3_ : Fr Z.heap.size L3 := by rw [l3]; exact Fr.app N2_ Nq3
  refine q_ifN X3 hx hby d22_31 ((if0 _ _).trans (feq (by decide : ¬ ((1 : Int32) = (0 : Int32)))).1) ?_
  refine q_aN X3 hx hby d22_34 rfl rfl ?_
  refine q_gF X3 hx hZ hown (wd hw 27 rfl) e3 r1 hby d22_35 ?_
  intro T4 X4 e4
  refine q_iN X4 hx hby d22_38 rfl ?_
  show Go _ _ _ _ _ _ _ _ T4 (mkF m 39 #[.val (.ref x0), .val (.int (0 : Int32)), .val (.int (1 : Int32)), .val (.int (4 : Int32)), .val (.int (1 : Int32))] [(.int (0 : Int32)), (.ref w1)])
  refine q_iL X4 hx hby d22_39 rfl ?_
  refine q_cS [(.ref w1), (.int (0 : Int32)), (.int (1 : Int32))] [] 0 X4 hx hZ hown (wd hw 108 rfl) (wd hw 109 rfl) (wd hw 110 rfl) (wd hw 61 rfl) (by decide) e4 (rm_a25_4 l Z a0 hw [] cs sv GG w1 kk2 w3 w4 w5 w6 h0 O0 r2) hby hml rfl d22_41 pd_LABIIRLjava_lang_String_ rfl rfl (by decide) (by decide) (by decide) (by decide) ?_
  intro v5 T5 L5 Lc5 X5 hQ5 l5
  obtain ⟨b1q5, b2q2q2q5, k2q2q2q5, rfl, Nq5, Kq5, p5_0, p5_1, p5_2, p5_3, p5_4, p5_5, p5_6⟩ := hQ5
  have O5_ : Ext Z.heap T5.heap := extKeep O0 Kq5 all0
  have K5 := Keep.trans (Keep.refl h0 []) Kq5 all0
  have N5_ : Fr Z.heap.size L5 := by rw [l5]; exact Fr.app N3_ Nq5
  have g_b1q5 : Z.heap.size ≤ b1q5 := Nat.le_trans O0.1 p5_0
  have sz_b1q5 : h0.size ≤ b1q5 := Nat.le_trans (Keep.refl h0 []).1 p5_0
  have g_b2q2q2q5 : Z.heap.size ≤ b2q2q2q5 := Nat.le_trans O0.1 p5_4
  have sz_b2q2q2q5 : h0.size ≤ b2q2q2q5 := Nat.le_trans (Keep.refl h0 []).1 p5_4
  refine q_go 44 57 X5 hx hby rfl d22_44 (by decide) (by decide) ?_
  exact Go.retA X5 hx hret rfl rfl hlk (hb hby d22_57) (by decide) (by decide) ⟨b1q5, b2q2q2q5, k2q2q2q5, rfl, N5_, K5, sz_b1q5, p5_1, p5_2, p5_3, sz_b2q2q2q5, p5_5, p5_6⟩
def Q_a6_11 (Z : State) (w3 : Int32) (h0 : Heap) (v : Option Value) (h : Heap) (L : List Loc) : Prop := ∃ (b1q5q2 : Addr) (b2q2q2q5q2 : Addr) (k2q2q2q5q2 : ClassId), v = some (.ref b1q5q2) ∧ Fr Z.heap.size L ∧ Keep h0 h [] ∧ h0.size ≤ b1q5q2 ∧ Exa Z h b1q5q2 "java/lang/String" ∧ fl_0 Z h b1q5q2 (.ref b2q2q2q5q2) ∧ fl_1 Z h b1q5q2 (.int (0 : Int32)) ∧ h0.size ≤ b2q2q2q5q2 ∧ Arv Z h b2q2q2q5q2 k2q2q2q5q2 .byte (1 : Int32) [(.int w3)] (.int (0 : Int32)) ∧ b1q5q2 ≠ b2q2q2q5q2
theorem rm_a6_11 (l : Launch) (Z : State) (a0 : Array Value) (hw : HW Z a0) (ws : List Jvm.Cond) (cs : Int32) (sv : Value) (GG : GP Z cs sv) (x0 : Addr) (w1 : Addr) (kk2 : ClassId) (w3 : Int32) (w4 : Int32) (w5 : Int32) (w6 : Int32) (h0 : Heap) (O0 : Ext Z.heap h0) (r0 : Exa Z h0 x0 "java/lang/String") (r1 : fl_1 Z h0 x0 (.int (0 : Int32))) (r2 : fl_0 Z h0 x0 (.ref w1)) (r3 : Arv Z h0 w1 kk2 .byte (4 : Int32) [(.int w3), (.int w4), (.int w5), (.int w6)] (.int (0 : Int32))) (r4 : (ix4 w3 w4 w5 w6 ((47 : Int32).toInt8.toInt32)) = (1 : Int32)) :
    Met FrameEnd l (⟨"com/example/wary_lock/warylock/LockName", "root", "(Ljava/lang/String;)Ljava/lang/String;"⟩ : MethodName) prog_10_method_3_code 2 (some (.object "java/lang/String")) ws ⟨5, 2, 5, 80⟩ Z h0 #[(.ref x0)] (Q_a6_11 Z w3 h0) := by
  refine own_met "com/example/wary_lock/warylock/LockName" (plainFor_of_name pn_6) rfl #[.val (.ref x0), .unset] (fun _ => by first | (simp [entryFrame, mkF, argsToLocals, Value.category]; done) | rfl) ?_
  intro p e s m below meth c s₁ hx hby hlk hret hml hZ hown hnm X0 e0
  have N0 := Fr.nil Z.heap.size
  refine q_aN X0 hx hby d6_0 rfl rfl ?_
  refine q_bP X0 hx hby d6_1  ?_
  refine q_cV [(.int (47 : Int32))] [] 0 X0 hx hZ hown (wd hw 33 rfl) (wd hw 34 rfl) (wd hw 36 rfl) (wd hw 35 rfl) (wd hw 37 rfl) (wd hw 9 rfl) (by decide) e0 r0 (rm_a7_4 l Z a0 hw [] cs sv GG x0 w1 kk2 w3 w4 w5 w6 h0 O0 r0 r1 r2 r3) hby hml rfl d6_3 pd_LIRI rfl rfl (by decide) (by decide) (by decide) (by decide) ?_
  intro v1 T1 L1 Lc1 X1 hQ1 l1
  obtain ⟨rfl, Nq1, e1⟩ := hQ1
  have N1_ : Fr Z.heap.size L1 := by rw [l1]; exact Fr.app N0 Nq1
  show Go _ _ _ _ _ _ _ _ T1 (mkF m 6 #[.val (.ref x0), .unset] [(.int (ix4 w3 w4 w5 w6 ((47 : Int32).toInt8.toInt32)))])
  rw [r4]
  show Go _ _ _ _ _ _ _ _ T1 (mkF m 6 #[.val (.ref x0), .unset] [(.int (1 : Int32))])
  refine q_isN X1 hx hby d6_6 (l' := #[.val (.ref x0), .val (.int (1 : Int32))]) rfl ?_
  refine q_iN X1 hx hby d6_7 rfl ?_
  refine q_ifY 8 15 X1 hx hby rfl d6_8 ((if0 _ _).trans (flt (by decide : ¬ ((1 : Int32) < (0 : Int32)))).2.1) (by decide) (by decide) ?_
  refine q_aN X1 hx hby d6_15 rfl rfl ?_
  refine q_iC X1 hx hby d6_16  ?_
  refine q_iN X1 hx hby d6_17 rfl ?_
  refine q_cV [(.int (0 : Int32)), (.int (1 : Int32))] [] 0 X1 hx hZ hown (wd hw 95 rfl) (wd hw 96 rfl) (wd hw 98 rfl) (wd hw 97 rfl) (wd hw 99 rfl) (wd hw 9 rfl) (by decide) e1 r0 (rm_a22_7 l Z a0 hw [] cs sv GG x0 w1 kk2 w3 w4 w5 w6 h0 O0 r0 r2 r3 r1) hby hml rfl d6_18 pd_LIIRLjava_lang_String_ rfl rfl (by decide) (by decide) (by decide) (by decide) ?_
  intro v2 T2 L2 Lc2 X2 hQ2 l2
  obtain ⟨b1q5q2, b2q2q2q5q2, k2q2q2q5q2, rfl, Nq2, Kq2, p2_0, p2_1, p2_2, p2_3, p2_4, p2_5, p2_6⟩ := hQ2
  have O2_ : Ext Z.heap T2.heap := extKeep O0 Kq2 all0
  have K2 := Keep.trans (Keep.refl h0 []) Kq2 all0
  have N2_ : Fr Z.heap.size L2 := by rw [l2]; exact Fr.app N1_ Nq2
  have g_b1q5q2 : Z.heap.size ≤ b1q5q2 := Nat.le_trans O0.1 p2_0
  have sz_b1q5q2 : h0.size ≤ b1q5q2 := Nat.le_trans (Keep.refl h0 []).1 p2_0
  have g_b2q2q2q5q2 : Z.heap.size ≤ b2q2q2q5q2 := Nat.le_trans O0.1 p2_4
  have sz_b2q2q2q5q2 : h0.size ≤ b2q2q2q5q2 := Nat.le_trans (Keep.refl h0 []).1 p2_4
  exact Go.retA X2 hx hret rfl rfl hlk (hb hby d6_21) (by decide) (by decide) ⟨b1q5q2, b2q2q2q5q2, k2q2q2q5q2, rfl, N2_, K2, sz_b1q5q2, p2_1, p2_2, p2_3, sz_b2q2q2q5q2, p2_5, p2_6⟩
def Q_a27_4 (Z : State) (w2 : Int32) (w3 : Int32) (h0 : Heap) (v : Option Value) (h : Heap) (L : List Loc) : Prop := ∃ (b2 : Addr) (k2 : ClassId), v = some (.ref b2) ∧ Fr Z.heap.size L ∧ Keep h0 h [] ∧ h0.size ≤ b2 ∧ Arv Z h b2 k2 .byte (2 : Int32) [(.int w2), (.int w3)] (.int (0 : Int32))
theorem rm_a27_4 (l : Launch) (Z : State) (a0 : Array Value) (hw : HW Z a0) (ws : List Jvm.Cond) (cs : Int32) (sv : Value) (GG : GP Z cs sv) (x0 : Addr) (kk1 : ClassId) (w2 : Int32) (w3 : Int32) (w4 : Int32) (w5 : Int32) (h0 : Heap) (O0 : Ext Z.heap h0) (r0 : Arv Z h0 x0 kk1 .byte (4 : Int32) [(.int w2), (.int w3), (.int w4), (.int w5)] (.int (0 : Int32))) :
    Met FrameEnd l (⟨"java/util/Arrays", "copyOfRangeByte", "([BII)[B"⟩ : MethodName) jdk_65_method_133_code 5 (some (.array .byte)) ws ⟨1, 1, 2, 18⟩ Z h0 #[(.ref x0), (.int (0 : Int32)), (.int (2 : Int32))] (Q_a27_4 Z w2 w3 h0) := by
  refine own_met "java/util/Arrays" (plainFor_of_name pn_27) rfl #[.val (.ref x0), .val (.int (0 : Int32)), .val (.int (2 : Int32)), .unset, .unset] (fun _ => by first | (simp [entryFrame, mkF, argsToLocals, Value.category]; done) | rfl) ?_
  intro p e s m below meth c s₁ hx hby hlk hret hml hZ hown hnm X0 e0
  have N0 := Fr.nil Z.heap.size
  refine q_iN X0 hx hby d27_0 rfl ?_
  refine q_iN X0 hx hby d27_1 rfl ?_
  refine q_cS [(.int (0 : Int32)), (.int (2 : Int32))] [] 0 X0 hx hZ hown (wd hw 120 rfl) (wd hw 121 rfl) (wd hw 122 rfl) (wd hw 115 rfl) (by decide) e0 (rm_a28_0 l Z a0 hw [] cs sv GG (0 : Int32) (2 : Int32) h0 O0 (by decide)) hby hml rfl d27_2 pd_LIIRV rfl rfl (by decide) (by decide) (by decide) (by decide) ?_
  intro v1 T1 L1 Lc1 X1 hQ1 l1
  obtain ⟨rfl, Nq1, e1⟩ := hQ1
  have N1_ : Fr Z.heap.size L1 := by rw [l1]; exact Fr.app N0 Nq1
  refine q_iN X1 hx hby d27_5 rfl ?_
  refine q_iN X1 hx hby d27_6 rfl ?_
  refine q_isub X1 hx hby d27_7  ?_
  refine q_isN X1 hx hby d27_8 (l' := #[.val (.ref x0), .val (.int (0 : Int32)), .val (.int (2 : Int32)), .val (.int (2 : Int32)), .unset]) rfl ?_
  refine q_iN X1 hx hby d27_9 rfl ?_
  obtain ⟨T2, h2, k2, X2, e2, E2, A2, st2⟩ := newP X1 hx hZ (wd hw 22 rfl) e1 (g := (mkF m 10 #[.val (.ref x0), .val (.int (0 : Int32)), .val (.int (2 : Int32)), .val (.int (2 : Int32)), .unset] [(.int (2 : Int32))])) rfl (hb hby d27_10) rfl (by decide) (cap := 2) (by decide) (by decide) (by decide) (by decide)
  obtain ⟨b2, hb2⟩ : ∃ z, z = h0.size := ⟨_, rfl⟩
  rw [← hb2] at A2 st2
  refine Go.step st2 ?_
  have g_b2 : Z.heap.size ≤ b2 := Nat.le_trans O0.1 (Nat.le_of_eq hb2.symm)
  have O2_ : Ext Z.heap h2 := extTr O0 E2
  have sz_b2 : h0.size ≤ b2 := Nat.le_trans (Keep.refl h0 []).1 (Nat.le_of_eq hb2.symm)
  have K2 := Keep.ext (Keep.refl h0 []) E2
  have V2 : Arv Z h2 b2 k2 .byte (2 : Int32) [(.int (0 : Int32)), (.int (0 : Int32))] (.int (0 : Int32)) := (Arv.new A2 (by decide)).pad (pad_rep [] (.int (0 : Int32)) 2)
  refine q_asL X2 hx hby d27_12 rfl (l' := #[.val (.ref x0), .val (.int (0 : Int32)), .val (.int (2 : Int32)), .val (.int (2 : Int32)), .val (.ref b2)]) rfl ?_
  refine q_aN X2 hx hby d27_14 rfl rfl ?_
  refine q_iN X2 hx hby d27_15 rfl ?_
  refine q_aL X2 hx hby d27_16 rfl rfl ?_
  refine q_iC X2 hx hby d27_18  ?_
  refine q_aN X2 hx hby d27_19 rfl rfl ?_
  obtain ⟨cl3, Ar3, -, S3, N3, -, -⟩ := id (r0.ext E2)
  refine Go.step (X2.arraylength hx (by rw [e2]; exact Ar3.1) (State.isArrayOf_alike hZ.alike Ar3.2.1) (g := (mkF m 20 #[.val (.ref x0), .val (.int (0 : Int32)), .val (.int (2 : Int32)), .val (.int (2 : Int32)), .val (.ref b2)] [(.ref x0), (.int (0 : Int32)), (.ref b2), (.int (0 : Int32)), (.ref x0)])) rfl rfl (hb hby d27_20)) ?_
  rw [len_of S3 N3]
  show Go _ _ _ _ _ _ _ _ T2 (mkF m 21 #[.val (.ref x0), .val (.int (0 : Int32)), .val (.int (2 : Int32)), .val (.int (2 : Int32)), .val (.ref b2)] [(.int (4 : Int32)), (.int (0 : Int32)), (.ref b2), (.int (0 : Int32)), (.ref x0)])
  refine q_iN X2 hx hby d27_21 rfl ?_
  refine q_isub X2 hx hby d27_22  ?_
  refine q_iN X2 hx hby d27_23 rfl ?_
  refine q_cS [(.int (4 : Int32)), (.int (2 : Int32))] [(.int (0 : Int32)), (.ref b2), (.int (0 : Int32)), (.ref x0)] 4 X2 hx hZ hown (wd hw 123 rfl) (wd hw 71 rfl) (wd hw 72 rfl) (wd hw 68 rfl) (by decide) e2 (rm_a15_1 l Z a0 hw [] cs sv GG (4 : Int32) (2 : Int32) h2 O2_ (by decide)) hby hml rfl d27_24 pd_LIIRI rfl rfl (by decide) (by decide) (by decide) (by decide) ?_
  intro v4 T4 L4 Lc4 X4 hQ4 l4
  obtain ⟨rfl, Nq4, e4⟩ := hQ4
  have N4_ : Fr Z.heap.size L4 := by rw [l4]; exact Fr.app N1_ Nq4
  obtain ⟨T5, h5, L5, X5, e5, N5_, K5_, V5_, st5⟩ := cpA X4 hx hZ hown (wd hw 124 rfl) (wd hw 127 rfl) (wd hw 125 rfl) (wd hw 126 rfl) e4 (us := [(.int w2), (.int w3)]) (r0.ext E2) V2 (Or.inl ⟨rfl, rfl⟩) (by decide) (by decide) (by decide) (by decide) (by decide) rfl (by decide) N4_ g_b2 (g := (mkF m 27 #[.val (.ref x0), .val (.int (0 : Int32)), .val (.int (2 : Int32)), .val (.int (2 : Int32)), .val (.ref b2)] [(.int (2 : Int32)), (.int (0 : Int32)), (.ref b2), (.int (0 : Int32)), (.ref x0)])) rfl (by rw [hml]; rfl) rfl (hb hby d27_27) (by decide) (W := 0) (by show 2 * 0 + _ ≤ _; exact Nat.le_of_eq rfl) (by decide)
  refine Go.step st5 ?_
  have V5 : Arv Z h5 b2 k2 .byte (2 : Int32) [(.int w2), (.int w3)] (.int (0 : Int32)) := V5_
  have O5_ : Ext Z.heap h5 := extKeep O2_ K5_ (allS g_b2 all0)
  have K5 := Keep.trans K2 K5_ (allS (Or.inr sz_b2) all0)
  refine q_aL X5 hx hby d27_30 rfl rfl ?_
  exact Go.retA X5 hx hret rfl rfl hlk (hb hby d27_32) (by decide) (by decide) (by show Q_a27_4 ..; rw [e5]; exact ⟨b2, k2, rfl, N5_, K5, sz_b2, V5⟩)
def Q_a26_4 (Z : State) (w2 : Int32) (w3 : Int32) (h0 : Heap) (v : Option Value) (h : Heap) (L : List Loc) : Prop := ∃ (b2q2 : Addr) (k2q2 : ClassId), v = some (.ref b2q2) ∧ Fr Z.heap.size L ∧ Keep h0 h [] ∧ h0.size ≤ b2q2 ∧ Arv Z h b2q2 k2q2 .byte (2 : Int32) [(.int w2), (.int w3)] (.int (0 : Int32))
theorem rm_a26_4 (l : Launch) (Z : State) (a0 : Array Value) (hw : HW Z a0) (ws : List Jvm.Cond) (cs : Int32) (sv : Value) (GG : GP Z cs sv) (x0 : Addr) (kk1 : ClassId) (w2 : Int32) (w3 : Int32) (w4 : Int32) (w5 : Int32) (h0 : Heap) (O0 : Ext Z.heap h0) (r0 : Arv Z h0 x0 kk1 .byte (4 : Int32) [(.int w2), (.int w3), (.int w4), (.int w5)] (.int (0 : Int32))) :
    Met FrameEnd l (⟨"java/util/Arrays", "copyOfRange", "([BII)[B"⟩ : MethodName) jdk_65_method_132_code 3 (some (.array .byte)) ws ⟨2, 1, 2, 34⟩ Z h0 #[(.ref x0), (.int (0 : Int32)), (.int (2 : Int32))] (Q_a26_4 Z w2 w3 h0) := by
  refine own_met "java/util/Arrays" (plainFor_of_name pn_26) rfl #[.val (.ref x0), .val (.int (0 : Int32)), .val (.int (2 : Int32))] (fun _ => by first | (simp [entryFrame, mkF, argsToLocals, Value.category]; done) | rfl) ?_
  intro p e s m below meth c s₁ hx hby hlk hret hml hZ hown hnm X0 e0
  have N0 := Fr.nil Z.heap.size
  refine q_iN X0 hx hby d26_0 rfl ?_
  refine q_ifN X0 hx hby d26_1 ((if0 _ _).trans (teq (by decide : (0 : Int32) = (0 : Int32))).2) ?_
  refine q_iN X0 hx hby d26_4 rfl ?_
  refine q_aN X0 hx hby d26_5 rfl rfl ?_
  obtain ⟨cl1, Ar1, -, S1, N1, -, -⟩ := id r0
  refine Go.step (X0.arraylength hx (by rw [e0]; exact Ar1.1) (State.isArrayOf_alike hZ.alike Ar1.2.1) (g := (mkF m 6 #[.val (.ref x0), .val (.int (0 : Int32)), .val (.int (2 : Int32))] [(.ref x0), (.int (2 : Int32))])) rfl rfl (hb hby d26_6)) ?_
  rw [len_of S1 N1]
  show Go _ _ _ _ _ _ _ _ s₁ (mkF m 7 #[.val (.ref x0), .val (.int (0 : Int32)), .val (.int (2 : Int32))] [(.int (4 : Int32)), (.int (2 : Int32))])
  refine q_icN X0 hx hby d26_7 (feq (by decide : ¬ ((2 : Int32) = (4 : Int32)))).1 ?_
  refine q_aN X0 hx hby d26_10 rfl rfl ?_
  refine q_iN X0 hx hby d26_11 rfl ?_
  refine q_iN X0 hx hby d26_12 rfl ?_
  refine q_cS [(.ref x0), (.int (0 : Int32)), (.int (2 : Int32))] [] 0 X0 hx hZ hown (wd hw 117 rfl) (wd hw 118 rfl) (wd hw 119 rfl) (wd hw 115 rfl) (by decide) e0 (rm_a27_4 l Z a0 hw [] cs sv GG x0 kk1 w2 w3 w4 w5 h0 O0 r0) hby hml rfl d26_13 pd_LABIIRAB rfl rfl (by decide) (by decide) (by decide) (by decide) ?_
  intro v2 T2 L2 Lc2 X2 hQ2 l2
  obtain ⟨b2q2, k2q2, rfl, Nq2, Kq2, p2_0, p2_1⟩ := hQ2
  have O2_ : Ext Z.heap T2.heap := extKeep O0 Kq2 all0
  have K2 := Keep.trans (Keep.refl h0 []) Kq2 all0
  have N2_ : Fr Z.heap.size L2 := by rw [l2]; exact Fr.app N0 Nq2
  have g_b2q2 : Z.heap.size ≤ b2q2 := Nat.le_trans O0.1 p2_0
  have sz_b2q2 : h0.size ≤ b2q2 := Nat.le_trans (Keep.refl h0 []).1 p2_0
  exact Go.retA X2 hx hret rfl rfl hlk (hb hby d26_16) (by decide) (by decide) ⟨b2q2, k2q2, rfl, N2_, K2, sz_b2q2, p2_1⟩
def Q_a25_5 (Z : State) (w2 : Int32) (w3 : Int32) (h0 : Heap) (v : Option Value) (h : Heap) (L : List Loc) : Prop := ∃ (b1 : Addr) (b2q2q2 : Addr) (k2q2q2 : ClassId), v = some (.ref b1) ∧ Fr Z.heap.size L ∧ Keep h0 h [] ∧ h0.size ≤ b1 ∧ Exa Z h b1 "java/lang/String" ∧ fl_0 Z h b1 (.ref b2q2q2) ∧ fl_1 Z h b1 (.int (0 : Int32)) ∧ h0.size ≤ b2q2q2 ∧ Arv Z h b2q2q2 k2q2q2 .byte (2 : Int32) [(.int w2), (.int w3)] (.int (0 : Int32)) ∧ b1 ≠ b2q2q2
theorem rm_a25_5 (l : Launch) (Z : State) (a0 : Array Value) (hw : HW Z a0) (ws : List Jvm.Cond) (cs : Int32) (sv : Value) (GG : GP Z cs sv) (x0 : Addr) (kk1 : ClassId) (w2 : Int32) (w3 : Int32) (w4 : Int32) (w5 : Int32) (h0 : Heap) (O0 : Ext Z.heap h0) (r0 : Arv Z h0 x0 kk1 .byte (4 : Int32) [(.int w2), (.int w3), (.int w4), (.int w5)] (.int (0 : Int32))) :
    Met FrameEnd l (⟨"java/lang/StringLatin1", "newString", "([BII)Ljava/lang/String;"⟩ : MethodName) jdk_43_method_47_code 3 (some (.object "java/lang/String")) ws ⟨3, 2, 6, 50⟩ Z h0 #[(.ref x0), (.int (0 : Int32)), (.int (2 : Int32))] (Q_a25_5 Z w2 w3 h0) := by
  refine own_met "java/lang/StringLatin1" (plainFor_of_name pn_25) rfl #[.val (.ref x0), .val (.int (0 : Int32)), .val (.int (2 : Int32))] (fun _ => by first | (simp [entryFrame, mkF, argsToLocals, Value.category]; done) | rfl) ?_
  intro p e s m below meth c s₁ hx hby hlk hret hml hZ hown hnm X0 e0
  have N0 := Fr.nil Z.heap.size
  refine q_iN X0 hx hby d25_0 rfl ?_
  refine q_ifY 1 7 X0 hx hby rfl d25_1 ((if0 _ _).trans (feq (by decide : ¬ ((2 : Int32) = (0 : Int32)))).2) (by decide) (by decide) ?_
  obtain ⟨T1, h1, X1, e1, E1, A1, D1, U1, st1⟩ := newO X0 hx hZ hown (wd hw 112 rfl) (wd hw 8 rfl) (wd hw 9 rfl) e0 (g := (mkF m 7 #[.val (.ref x0), .val (.int (0 : Int32)), .val (.int (2 : Int32))] [])) rfl (hb hby d25_7) (by decide) (by decide)
  obtain ⟨b1, hb1⟩ : ∃ z, z = h0.size := ⟨_, rfl⟩
  rw [← hb1] at A1 D1 U1 st1
  refine Go.step st1 ?_
  have g_b1 : Z.heap.size ≤ b1 := Nat.le_trans O0.1 (Nat.le_of_eq hb1.symm)
  have O1_ : Ext Z.heap h1 := extTr O0 E1
  have sz_b1 : h0.size ≤ b1 := Nat.le_trans (Keep.refl h0 []).1 (Nat.le_of_eq hb1.symm)
  have K1 := Keep.ext (Keep.refl h0 []) E1
  have F1_value : fl_0 Z h1 b1 .null := D1 (Or.inr (wd hw 23 rfl)) (ty := (.array .byte)) pf_AB
  have F1_coder : fl_1 Z h1 b1 (.int (0 : Int32)) := D1 (Or.inr (wd hw 24 rfl)) (ty := .byte) pf_B
  refine q_dup X1 hx hby d25_10 rfl ?_
  refine q_aN X1 hx hby d25_11 rfl rfl ?_
  refine q_iN X1 hx hby d25_12 rfl ?_
  refine q_iN X1 hx hby d25_13 rfl ?_
  refine q_iN X1 hx hby d25_14 rfl ?_
  refine q_iadd X1 hx hby d25_15  ?_
  refine q_cS [(.ref x0), (.int (0 : Int32)), (.int (2 : Int32))] [(.ref b1), (.ref b1)] 2 X1 hx hZ hown (wd hw 113 rfl) (wd hw 114 rfl) (wd hw 116 rfl) (wd hw 115 rfl) (by decide) e1 (rm_a26_4 l Z a0 hw [] cs sv GG x0 kk1 w2 w3 w4 w5 h1 O1_ (r0.ext E1)) hby hml rfl d25_16 pd_LABIIRAB rfl rfl (by decide) (by decide) (by decide) (by decide) ?_
  intro v2 T2 L2 Lc2 X2 hQ2 l2
  obtain ⟨b2q2q2, k2q2q2, rfl, Nq2, Kq2, p2_0, p2_1⟩ := hQ2
  have O2_ : Ext Z.heap T2.heap := extKeep O1_ Kq2 all0
  have K2 := Keep.trans K1 Kq2 all0
  have N2_ : Fr Z.heap.size L2 := by rw [l2]; exact Fr.app N0 Nq2
  have g_b2q2q2 : Z.heap.size ≤ b2q2q2 := Nat.le_trans O1_.1 p2_0
  have sz_b2q2q2 : h0.size ≤ b2q2q2 := Nat.le_trans K1.1 p2_0
  refine q_iC X2 hx hby d25_19  ?_
  refine q_cN [(.ref b2q2q2), (.int (0 : Int32))] [(.ref b1)] 1 X2 hx hZ hown rfl (wd hw 128 rfl) (wd hw 129 rfl) (wd hw 130 rfl) (wd hw 9 rfl) (by decide) rfl (rm_a29_0 l Z a0 hw [] cs sv GG b1 b2q2q2 (0 : Int32) (0 : Int32) T2.heap O2_ (A1.keep Kq2) (F1_value.keep Kq2 nin0) g_b1 (F1_coder.keep Kq2 nin0)) hby hml rfl d25_20 pd_LABBRV rfl rfl (by decide) (by decide) (by decide) (by decide) ?_
  intro v3 T3 L3 Lc3 X3 hQ3 l3
  obtain ⟨rfl, Nq3, Kq3, p3_0, p3_1⟩ := hQ3
  have O3_ : Ext Z.heap T3.heap := extKeep O2_ Kq3 (allS g_b1 all0)
  have K3 := Keep.trans K2 Kq3 (allS (Or.inr sz_b1) all0)
  have N3_ : Fr Z.heap.size L3 := by rw [l3]; exact Fr.app N2_ Nq3
  have f4 := (p2_1.keep Kq3 (ninS (Ne.symm (Nat.ne_of_lt (Nat.lt_of_lt_of_le A1.lt p2_0))) nin0))
  exact Go.retA X3 hx hret rfl rfl hlk (hb hby d25_23) (by decide) (by decide) ⟨b1, b2q2q2, k2q2q2, rfl, N3_, K3, sz_b1, ((A1.keep Kq2).keep Kq3), p3_0, p3_1, sz_b2q2q2, f4, (Nat.ne_of_lt (Nat.lt_of_lt_of_le A1.lt p2_0))⟩
def Q_a22_8 (Z : State) (w3 : Int32) (w4 : Int32) (h0 : Heap) (v : Option Value) (h : Heap) (L : List Loc) : Prop := ∃ (b1q5 : Addr) (b2q2q2q5 : Addr) (k2q2q2q5 : ClassId), v = some (.ref b1q5) ∧ Fr Z.heap.size L ∧ Keep h0 h [] ∧ h0.size ≤ b1q5 ∧ Exa Z h b1q5 "java/lang/String" ∧ fl_0 Z h b1q5 (.ref b2q2q2q5) ∧ fl_1 Z h b1q5 (.int (0 : Int32)) ∧ h0.size ≤ b2q2q2q5 ∧ Arv Z h b2q2q2q5 k2q2q2q5 .byte (2 : Int32) [(.int w3), (.int w4)] (.int (0 : Int32)) ∧ b1q5 ≠ b2q2q2q5
theorem rm_a22_8 (l : Launch) (Z : State) (a0 : Array Value) (hw : HW Z a0) (ws : List Jvm.Cond) (cs : Int32) (sv : Value) (GG : GP Z cs sv) (x0 : Addr) (w1 : Addr) (kk2 : ClassId) (w3 : Int32) (w4 : Int32) (w5 : Int32) (w6 : Int32) (h0 : Heap) (O0 : Ext Z.heap h0) (r0 : Exa Z h0 x0 "java/lang/String") (r1 : fl_0 Z h0 x0 (.ref w1)) (r2 : Arv Z h0 w1 kk2 .byte (4 : Int32) [(.int w3), (.int w4), (.int w5), (.int w6)] (.int (0 : Int32))) (r3 : fl_1 Z h0 x0 (.int (0 : Int32))) :
    Met FrameEnd l (⟨"java/lang/String", "substring", "(II)Ljava/lang/String;"⟩ : MethodName) jdk_42_method_92_code 5 (some (.object "java/lang/String")) ws ⟨4, 2, 6, 64⟩ Z h0 #[(.ref x0), (.int (0 : Int32)), (.int (2 : Int32))] (Q_a22_8 Z w3 w4 h0) := by
  refine own_met "java/lang/String" (plainFor_of_name pn_22) rfl #[.val (.ref x0), .val (.int (0 : Int32)), .val (.int (2 : Int32)), .unset, .unset] (fun _ => by first | (simp [entryFrame, mkF, argsToLocals, Value.category]; done) | rfl) ?_
  intro p e s m below meth c s₁ hx hby hlk hret hml hZ hown hnm X0 e0
  have N0 := Fr.nil Z.heap.size
  refine q_aN X0 hx hby d22_0 rfl rfl ?_
  refine q_cV [] [] 0 X0 hx hZ hown (wd hw 49 rfl) (wd hw 50 rfl) (wd hw 52 rfl) (wd hw 51 rfl) (wd hw 53 rfl) (wd hw 9 rfl) (by decide) e0 r0 (rm_a10_4 l Z a0 hw [] cs sv GG x0 w1 kk2 w3 w4 w5 w6 (0 : Int32) h0 O0 r1 r2 r0 r3) hby hml rfl d22_1 pd_LRI rfl rfl (by decide) (by decide) (by decide) (by decide) ?_
  intro v1 T1 L1 Lc1 X1 hQ1 l1
  obtain ⟨rfl, Nq1, e1⟩ := hQ1
  have N1_ : Fr Z.heap.size L1 := by rw [l1]; exact Fr.app N0 Nq1
  refine q_isN X1 hx hby d22_4 (l' := #[.val (.ref x0), .val (.int (0 : Int32)), .val (.int (2 : Int32)), .val (.int (4 : Int32)), .unset]) rfl ?_
  refine q_iN X1 hx hby d22_5 rfl ?_
  refine q_iN X1 hx hby d22_6 rfl ?_
  refine q_iN X1 hx hby d22_7 rfl ?_
  refine q_cS [(.int (0 : Int32)), (.int (2 : Int32)), (.int (4 : Int32))] [] 0 X1 hx hZ hown (wd hw 100 rfl) (wd hw 101 rfl) (wd hw 102 rfl) (wd hw 9 rfl) (by decide) e1 (rm_cb l Z a0 hw [] cs sv GG (0 : Int32) (2 : Int32) (4 : Int32) h0 O0 (by decide) (by decide) (by decide)) hby hml rfl d22_8 pd_LIIIRV rfl rfl (by decide) (by decide) (by decide) (by decide) ?_
  intro v2 T2 L2 Lc2 X2 hQ2 l2
  obtain ⟨rfl, Nq2, e2⟩ := hQ2
  have N2_ : Fr Z.heap.size L2 := by rw [l2]; exact Fr.app N1_ Nq2
  refine q_iN X2 hx hby d22_11 rfl ?_
  refine q_ifN X2 hx hby d22_12 ((if0 _ _).trans (teq (by decide : (0 : Int32) = (0 : Int32))).2) ?_
  refine q_iN X2 hx hby d22_15 rfl ?_
  refine q_iN X2 hx hby d22_16 rfl ?_
  show Go _ _ _ _ _ _ _ _ T2 (mkF m 17 #[.val (.ref x0), .val (.int (0 : Int32)), .val (.int (2 : Int32)), .val (.int (4 : Int32)), .unset] [(.int (4 : Int32)), (.int (2 : Int32))])
  refine q_icY 17 22 X2 hx hby rfl d22_17 (feq (by decide : ¬ ((2 : Int32) = (4 : Int32)))).2 (by decide) (by decide) ?_
  refine q_iN X2 hx hby d22_22 rfl ?_
  refine q_iN X2 hx hby d22_23 rfl ?_
  refine q_isub X2 hx hby d22_24  ?_
  refine q_isL X2 hx hby d22_25 (l' := #[.val (.ref x0), .val (.int (0 : Int32)), .val (.int (2 : Int32)), .val (.int (4 : Int32)), .val (.int (2 : Int32))]) rfl ?_
  refine q_aN X2 hx hby d22_27 rfl rfl ?_
  refine q_cV [] [] 0 X2 hx hZ hown (wd hw 43 rfl) (wd hw 44 rfl) (wd hw 46 rfl) (wd hw 45 rfl) (wd hw 47 rfl) (wd hw 9 rfl) (by decide) e2 r0 (rm_a9_0 l Z a0 hw [] cs sv GG x0 (0 : Int32) h0 O0 r3 (by decide)) hby hml rfl d22_28 pd_LRZ rfl rfl (by decide) (by decide) (by decide) (by decide) ?_
  intro v3 T3 L3 Lc3 X3 hQ3 l3
  obtain ⟨rfl, Nq3, e3⟩ := hQ3
  have N3_ : Fr Z.heap.size L3 := by rw [l3]; exact Fr.app N2_ Nq3
  refine q_ifN X3 hx hby d22_31 ((if0 _ _).trans (feq (by decide : ¬ ((1 : Int32) = (0 : Int32)))).1) ?_
  refine q_aN X3 hx hby d22_34 rfl rfl ?_
  refine q_gF X3 hx hZ hown (wd hw 27 rfl) e3 r1 hby d22_35 ?_
  intro T4 X4 e4
  refine q_iN X4 hx hby d22_38 rfl ?_
  show Go _ _ _ _ _ _ _ _ T4 (mkF m 39 #[.val (.ref x0), .val (.int (0 : Int32)), .val (.int (2 : Int32)), .val (.int (4 : Int32)), .val (.int (2 : Int32))] [(.int (0 : Int32)), (.ref w1)])
  refine q_iL X4 hx hby d22_39 rfl ?_
  refine q_cS [(.ref w1), (.int (0 : Int32)), (.int (2 : Int32))] [] 0 X4 hx hZ hown (wd hw 108 rfl) (wd hw 109 rfl) (wd hw 110 rfl) (wd hw 61 rfl) (by decide) e4 (rm_a25_5 l Z a0 hw [] cs sv GG w1 kk2 w3 w4 w5 w6 h0 O0 r2) hby hml rfl d22_41 pd_LABIIRLjava_lang_String_ rfl rfl (by decide) (by decide) (by decide) (by decide) ?_
  intro v5 T5 L5 Lc5 X5 hQ5 l5
  obtain ⟨b1q5, b2q2q2q5, k2q2q2q5, rfl, Nq5, Kq5, p5_0, p5_1, p5_2, p5_3, p5_4, p5_5, p5_6⟩ := hQ5
  have O5_ : Ext Z.heap T5.heap := extKeep O0 Kq5 all0
  have K5 := Keep.trans (Keep.refl h0 []) Kq5 all0
  have N5_ : Fr Z.heap.size L5 := by rw [l5]; exact Fr.app N3_ Nq5
  have g_b1q5 : Z.heap.size ≤ b1q5 := Nat.le_trans O0.1 p5_0
  have sz_b1q5 : h0.size ≤ b1q5 := Nat.le_trans (Keep.refl h0 []).1 p5_0
  have g_b2q2q2q5 : Z.heap.size ≤ b2q2q2q5 := Nat.le_trans O0.1 p5_4
  have sz_b2q2q2q5 : h0.size ≤ b2q2q2q5 := Nat.le_trans (Keep.refl h0 []).1 p5_4
  refine q_go 44 57 X5 hx hby rfl d22_44 (by decide) (by decide) ?_
  exact Go.retA X5 hx hret rfl rfl hlk (hb hby d22_57) (by decide) (by decide) ⟨b1q5, b2q2q2q5, k2q2q2q5, rfl, N5_, K5, sz_b1q5, p5_1, p5_2, p5_3, sz_b2q2q2q5, p5_5, p5_6⟩
def Q_a6_12 (Z : State) (w3 : Int32) (w4 : Int32) (h0 : Heap) (v : Option Value) (h : Heap) (L : List Loc) : Prop := ∃ (b1q5q2 : Addr) (b2q2q2q5q2 : Addr) (k2q2q2q5q2 : ClassId), v = some (.ref b1q5q2) ∧ Fr Z.heap.size L ∧ Keep h0 h [] ∧ h0.size ≤ b1q5q2 ∧ Exa Z h b1q5q2 "java/lang/String" ∧ fl_0 Z h b1q5q2 (.ref b2q2q2q5q2) ∧ fl_1 Z h b1q5q2 (.int (0 : Int32)) ∧ h0.size ≤ b2q2q2q5q2 ∧ Arv Z h b2q2q2q5q2 k2q2q2q5q2 .byte (2 : Int32) [(.int w3), (.int w4)] (.int (0 : Int32)) ∧ b1q5q2 ≠ b2q2q2q5q2
theorem rm_a6_12 (l : Launch) (Z : State) (a0 : Array Value) (hw : HW Z a0) (ws : List Jvm.Cond) (cs : Int32) (sv : Value) (GG : GP Z cs sv) (x0 : Addr) (w1 : Addr) (kk2 : ClassId) (w3 : Int32) (w4 : Int32) (w5 : Int32) (w6 : Int32) (h0 : Heap) (O0 : Ext Z.heap h0) (r0 : Exa Z h0 x0 "java/lang/String") (r1 : fl_1 Z h0 x0 (.int (0 : Int32))) (r2 : fl_0 Z h0 x0 (.ref w1)) (r3 : Arv Z h0 w1 kk2 .byte (4 : Int32) [(.int w3), (.int w4), (.int w5), (.int w6)] (.int (0 : Int32))) (r4 : (ix4 w3 w4 w5 w6 ((47 : Int32).toInt8.toInt32)) = (2 : Int32)) :
    Met FrameEnd l (⟨"com/example/wary_lock/warylock/LockName", "root", "(Ljava/lang/String;)Ljava/lang/String;"⟩ : MethodName) prog_10_method_3_code 2 (some (.object "java/lang/String")) ws ⟨5, 2, 6, 80⟩ Z h0 #[(.ref x0)] (Q_a6_12 Z w3 w4 h0) := by
  refine own_met "com/example/wary_lock/warylock/LockName" (plainFor_of_name pn_6) rfl #[.val (.ref x0), .unset] (fun _ => by first | (simp [entryFrame, mkF, argsToLocals, Value.category]; done) | rfl) ?_
  intro p e s m below meth c s₁ hx hby hlk hret hml hZ hown hnm X0 e0
  have N0 := Fr.nil Z.heap.size
  refine q_aN X0 hx hby d6_0 rfl rfl ?_
  refine q_bP X0 hx hby d6_1  ?_
  refine q_cV [(.int (47 : Int32))] [] 0 X0 hx hZ hown (wd hw 33 rfl) (wd hw 34 rfl) (wd hw 36 rfl) (wd hw 35 rfl) (wd hw 37 rfl) (wd hw 9 rfl) (by decide) e0 r0 (rm_a7_4 l Z a0 hw [] cs sv GG x0 w1 kk2 w3 w4 w5 w6 h0 O0 r0 r1 r2 r3) hby hml rfl d6_3 pd_LIRI rfl rfl (by decide) (by decide) (by decide) (by decide) ?_
  intro v1 T1 L1 Lc1 X1 hQ1 l1
  obtain ⟨rfl, Nq1, e1⟩ := hQ1
  have N1_ : Fr Z.heap.size L1 := by rw [l1]; exact Fr.app N0 Nq1
  show Go _ _ _ _ _ _ _ _ T1 (mkF m 6 #[.val (.ref x0), .unset] [(.int (ix4 w3 w4 w5 w6 ((47 : Int32).toInt8.toInt32)))])
  rw [r4]
  show Go _ _ _ _ _ _ _ _ T1 (mkF m 6 #[.val (.ref x0), .unset] [(.int (2 : Int32))])
  refine q_isN X1 hx hby d6_6 (l' := #[.val (.ref x0), .val (.int (2 : Int32))]) rfl ?_
  refine q_iN X1 hx hby d6_7 rfl ?_
  refine q_ifY 8 15 X1 hx hby rfl d6_8 ((if0 _ _).trans (flt (by decide : ¬ ((2 : Int32) < (0 : Int32)))).2.1) (by decide) (by decide) ?_
  refine q_aN X1 hx hby d6_15 rfl rfl ?_
  refine q_iC X1 hx hby d6_16  ?_
  refine q_iN X1 hx hby d6_17 rfl ?_
  refine q_cV [(.int (0 : Int32)), (.int (2 : Int32))] [] 0 X1 hx hZ hown (wd hw 95 rfl) (wd hw 96 rfl) (wd hw 98 rfl) (wd hw 97 rfl) (wd hw 99 rfl) (wd hw 9 rfl) (by decide) e1 r0 (rm_a22_8 l Z a0 hw [] cs sv GG x0 w1 kk2 w3 w4 w5 w6 h0 O0 r0 r2 r3 r1) hby hml rfl d6_18 pd_LIIRLjava_lang_String_ rfl rfl (by decide) (by decide) (by decide) (by decide) ?_
  intro v2 T2 L2 Lc2 X2 hQ2 l2
  obtain ⟨b1q5q2, b2q2q2q5q2, k2q2q2q5q2, rfl, Nq2, Kq2, p2_0, p2_1, p2_2, p2_3, p2_4, p2_5, p2_6⟩ := hQ2
  have O2_ : Ext Z.heap T2.heap := extKeep O0 Kq2 all0
  have K2 := Keep.trans (Keep.refl h0 []) Kq2 all0
  have N2_ : Fr Z.heap.size L2 := by rw [l2]; exact Fr.app N1_ Nq2
  have g_b1q5q2 : Z.heap.size ≤ b1q5q2 := Nat.le_trans O0.1 p2_0
  have sz_b1q5q2 : h0.size ≤ b1q5q2 := Nat.le_trans (Keep.refl h0 []).1 p2_0
  have g_b2q2q2q5q2 : Z.heap.size ≤ b2q2q2q5q2 := Nat.le_trans O0.1 p2_4
  have sz_b2q2q2q5q2 : h0.size ≤ b2q2q2q5q2 := Nat.le_trans (Keep.refl h0 []).1 p2_4
  exact Go.retA X2 hx hret rfl rfl hlk (hb hby d6_21) (by decide) (by decide) ⟨b1q5q2, b2q2q2q5q2, k2q2q2q5q2, rfl, N2_, K2, sz_b1q5q2, p2_1, p2_2, p2_3, sz_b2q2q2q5q2, p2_5, p2_6⟩
def Q_a27_5 (Z : State) (w2 : Int32) (w3 : Int32) (w4 : Int32) (h0 : Heap) (v : Option Value) (h : Heap) (L : List Loc) : Prop := ∃ (b2 : Addr) (k2 : ClassId), v = some (.ref b2) ∧ Fr Z.heap.size L ∧ Keep h0 h [] ∧ h0.size ≤ b2 ∧ Arv Z h b2 k2 .byte (3 : Int32) [(.int w2), (.int w3), (.int w4)] (.int (0 : Int32))
theorem rm_a27_5 (l : Launch) (Z : State) (a0 : Array Value) (hw : HW Z a0) (ws : List Jvm.Cond) (cs : Int32) (sv : Value) (GG : GP Z cs sv) (x0 : Addr) (kk1 : ClassId) (w2 : Int32) (w3 : Int32) (w4 : Int32) (w5 : Int32) (h0 : Heap) (O0 : Ext Z.heap h0) (r0 : Arv Z h0 x0 kk1 .byte (4 : Int32) [(.int w2), (.int w3), (.int w4), (.int w5)] (.int (0 : Int32))) :
    Met FrameEnd l (⟨"java/util/Arrays", "copyOfRangeByte", "([BII)[B"⟩ : MethodName) jdk_65_method_133_code 5 (some (.array .byte)) ws ⟨1, 1, 3, 18⟩ Z h0 #[(.ref x0), (.int (0 : Int32)), (.int (3 : Int32))] (Q_a27_5 Z w2 w3 w4 h0) := by
  refine own_met "java/util/Arrays" (plainFor_of_name pn_27) rfl #[.val (.ref x0), .val (.int (0 : Int32)), .val (.int (3 : Int32)), .unset, .unset] (fun _ => by first | (simp [entryFrame, mkF, argsToLocals, Value.category]; done) | rfl) ?_
  intro p e s m below meth c s₁ hx hby hlk hret hml hZ hown hnm X0 e0
  have N0 := Fr.nil Z.heap.size
  refine q_iN X0 hx hby d27_0 rfl ?_
  refine q_iN X0 hx hby d27_1 rfl ?_
  refine q_cS [(.int (0 : Int32)), (.int (3 : Int32))] [] 0 X0 hx hZ hown (wd hw 120 rfl) (wd hw 121 rfl) (wd hw 122 rfl) (wd hw 115 rfl) (by decide) e0 (rm_a28_0 l Z a0 hw [] cs sv GG (0 : Int32) (3 : Int32) h0 O0 (by decide)) hby hml rfl d27_2 pd_LIIRV rfl rfl (by decide) (by decide) (by decide) (by decide) ?_
  intro v1 T1 L1 Lc1 X1 hQ1 l1
  obtain ⟨rfl, Nq1, e1⟩ := hQ1
  have N1_ : Fr Z.heap.size L1 := by rw [l1]; exact Fr.app N0 Nq1
  refine q_iN X1 hx hby d27_5 rfl ?_
  refine q_iN X1 hx hby d27_6 rfl ?_
  refine q_isub X1 hx hby d27_7  ?_
  refine q_isN X1 hx hby d27_8 (l' := #[.val (.ref x0), .val (.int (0 : Int32)), .val (.int (3 : Int32)), .val (.int (3 : Int32)), .unset]) rfl ?_
  refine q_iN X1 hx hby d27_9 rfl ?_
  obtain ⟨T2, h2, k2, X2, e2, E2, A2, st2⟩ := newP X1 hx hZ (wd hw 22 rfl) e1 (g := (mkF m 10 #[.val (.ref x0), .val (.int (0 : Int32)), .val (.int (3 : Int32)), .val (.int (3 : Int32)), .unset] [(.int (3 : Int32))])) rfl (hb hby d27_10) rfl (by decide) (cap := 3) (by decide) (by decide) (by decide) (by decide)
  obtain ⟨b2, hb2⟩ : ∃ z, z = h0.size := ⟨_, rfl⟩
  rw [← hb2] at A2 st2
  refine Go.step st2 ?_
  have g_b2 : Z.heap.size ≤ b2 := Nat.le_trans O0.1 (Nat.le_of_eq hb2.symm)
  have O2_ : Ext Z.heap h2 := extTr O0 E2
  have sz_b2 : h0.size ≤ b2 := Nat.le_trans (Keep.refl h0 []).1 (Nat.le_of_eq hb2.symm)
  have K2 := Keep.ext (Keep.refl h0 []) E2
  have V2 : Arv Z h2 b2 k2 .byte (3 : Int32) [(.int (0 : Int32)), (.int (0 : Int32)), (.int (0 : Int32))] (.int (0 : Int32)) := (Arv.new A2 (by decide)).pad (pad_rep [] (.int (0 : Int32)) 3)
  refine q_asL X2 hx hby d27_12 rfl (l' := #[.val (.ref x0), .val (.int (0 : Int32)), .val (.int (3 : Int32)), .val (.int (3 : Int32)), .val (.ref b2)]) rfl ?_
  refine q_aN X2 hx hby d27_14 rfl rfl ?_
  refine q_iN X2 hx hby d27_15 rfl ?_
  refine q_aL X2 hx hby d27_16 rfl rfl ?_
  refine q_iC X2 hx hby d27_18  ?_
  refine q_aN X2 hx hby d27_19 rfl rfl ?_
  obtain ⟨cl3, Ar3, -, S3, N3, -, -⟩ := id (r0.ext E2)
  refine Go.step (X2.arraylength hx (by rw [e2]; exact Ar3.1) (State.isArrayOf_alike hZ.alike Ar3.2.1) (g := (mkF m 20 #[.val (.ref x0), .val (.int (0 : Int32)), .val (.int (3 : Int32)), .val (.int (3 : Int32)), .val (.ref b2)] [(.ref x0), (.int (0 : Int32)), (.ref b2), (.int (0 : Int32)), (.ref x0)])) rfl rfl (hb hby d27_20)) ?_
  rw [len_of S3 N3]
  show Go _ _ _ _ _ _ _ _ T2 (mkF m 21 #[.val (.ref x0), .val (.int (0 : Int32)), .val (.int (3 : Int32)), .val (.int (3 : Int32)), .val (.ref b2)] [(.int (4 : Int32)), (.int (0 : Int32)), (.ref b2), (.int (0 : Int32)), (.ref x0)])
  refine q_iN X2 hx hby d27_21 rfl ?_
  refine q_isub X2 hx hby d27_22  ?_
  refine q_iN X2 hx hby d27_23 rfl ?_
  refine q_cS [(.int (4 : Int32)), (.int (3 : Int32))] [(.int (0 : Int32)), (.ref b2), (.int (0 : Int32)), (.ref x0)] 4 X2 hx hZ hown (wd hw 123 rfl) (wd hw 71 rfl) (wd hw 72 rfl) (wd hw 68 rfl) (by decide) e2 (rm_a15_1 l Z a0 hw [] cs sv GG (4 : Int32) (3 : Int32) h2 O2_ (by decide)) hby hml rfl d27_24 pd_LIIRI rfl rfl (by decide) (by decide) (by decide) (by decide) ?_
  intro v4 T4 L4 Lc4 X4 hQ4 l4
  obtain ⟨rfl, Nq4, e4⟩ := hQ4
  have N4_ : Fr Z.heap.size L4 := by rw [l4]; exact Fr.app N1_ Nq4
  obtain ⟨T5, h5, L5, X5, e5, N5_, K5_, V5_, st5⟩ := cpA X4 hx hZ hown (wd hw 124 rfl) (wd hw 127 rfl) (wd hw 125 rfl) (wd hw 126 rfl) e4 (us := [(.int w2), (.int w3), (.int w4)]) (r0.ext E2) V2 (Or.inl ⟨rfl, rfl⟩) (by decide) (by decide) (by decide) (by decide) (by decide) rfl (by decide) N4_ g_b2 (g := (mkF m 27 #[.val (.ref x0), .val (.int (0 : Int32)), .val (.int (3 : Int32)), .val (.int (3 : Int32)), .val (.ref b2)] [(.int (3 : Int32)), (.int (0 : Int32)), (.ref b2), (.int (0 : Int32)), (.ref x0)])) rfl (by rw [hml]; rfl) rfl (hb hby d27_27) (by decide) (W := 0) (by show 2 * 0 + _ ≤ _; exact Nat.le_of_eq rfl) (by decide)
  refine Go.step st5 ?_
  have V5 : Arv Z h5 b2 k2 .byte (3 : Int32) [(.int w2), (.int w3), (.int w4)] (.int (0 : Int32)) := V5_
  have O5_ : Ext Z.heap h5 := extKeep O2_ K5_ (allS g_b2 all0)
  have K5 := Keep.trans K2 K5_ (allS (Or.inr sz_b2) all0)
  refine q_aL X5 hx hby d27_30 rfl rfl ?_
  exact Go.retA X5 hx hret rfl rfl hlk (hb hby d27_32) (by decide) (by decide) (by show Q_a27_5 ..; rw [e5]; exact ⟨b2, k2, rfl, N5_, K5, sz_b2, V5⟩)
def Q_a26_5 (Z : State) (w2 : Int32) (w3 : Int32) (w4 : Int32) (h0 : Heap) (v : Option Value) (h : Heap) (L : List Loc) : Prop := ∃ (b2q2 : Addr) (k2q2 : ClassId), v = some (.ref b2q2) ∧ Fr Z.heap.size L ∧ Keep h0 h [] ∧ h0.size ≤ b2q2 ∧ Arv Z h b2q2 k2q2 .byte (3 : Int32) [(.int w2), (.int w3), (.int w4)] (.int (0 : Int32))
theorem rm_a26_5 (l : Launch) (Z : State) (a0 : Array Value) (hw : HW Z a0) (ws : List Jvm.Cond) (cs : Int32) (sv : Value) (GG : GP Z cs sv) (x0 : Addr) (kk1 : ClassId) (w2 : Int32) (w3 : Int32) (w4 : Int32) (w5 : Int32) (h0 : Heap) (O0 : Ext Z.heap h0) (r0 : Arv Z h0 x0 kk1 .byte (4 : Int32) [(.int w2), (.int w3), (.int w4), (.int w5)] (.int (0 : Int32))) :
    Met FrameEnd l (⟨"java/util/Arrays", "copyOfRange", "([BII)[B"⟩ : MethodName) jdk_65_method_132_code 3 (some (.array .byte)) ws ⟨2, 1, 3, 34⟩ Z h0 #[(.ref x0), (.int (0 : Int32)), (.int (3 : Int32))] (Q_a26_5 Z w2 w3 w4 h0) := by
  refine own_met "java/util/Arrays" (plainFor_of_name pn_26) rfl #[.val (.ref x0), .val (.int (0 : Int32)), .val (.int (3 : Int32))] (fun _ => by first | (simp [entryFrame, mkF, argsToLocals, Value.category]; done) | rfl) ?_
  intro p e s m below meth c s₁ hx hby hlk hret hml hZ hown hnm X0 e0
  have N0 := Fr.nil Z.heap.size
  refine q_iN X0 hx hby d26_0 rfl ?_
  refine q_ifN X0 hx hby d26_1 ((if0 _ _).trans (teq (by decide : (0 : Int32) = (0 : Int32))).2) ?_
  refine q_iN X0 hx hby d26_4 rfl ?_
  refine q_aN X0 hx hby d26_5 rfl rfl ?_
  obtain ⟨cl1, Ar1, -, S1, N1, -, -⟩ := id r0
  refine Go.step (X0.arraylength hx (by rw [e0]; exact Ar1.1) (State.isArrayOf_alike hZ.alike Ar1.2.1) (g := (mkF m 6 #[.val (.ref x0), .val (.int (0 : Int32)), .val (.int (3 : Int32))] [(.ref x0), (.int (3 : Int32))])) rfl rfl (hb hby d26_6)) ?_
  rw [len_of S1 N1]
  show Go _ _ _ _ _ _ _ _ s₁ (mkF m 7 #[.val (.ref x0), .val (.int (0 : Int32)), .val (.int (3 : Int32))] [(.int (4 : Int32)), (.int (3 : Int32))])
  refine q_icN X0 hx hby d26_7 (feq (by decide : ¬ ((3 : Int32) = (4 : Int32)))).1 ?_
  refine q_aN X0 hx hby d26_10 rfl rfl ?_
  refine q_iN X0 hx hby d26_11 rfl ?_
  refine q_iN X0 hx hby d26_12 rfl ?_
  refine q_cS [(.ref x0), (.int (0 : Int32)), (.int (3 : Int32))] [] 0 X0 hx hZ hown (wd hw 117 rfl) (wd hw 118 rfl) (wd hw 119 rfl) (wd hw 115 rfl) (by decide) e0 (rm_a27_5 l Z a0 hw [] cs sv GG x0 kk1 w2 w3 w4 w5 h0 O0 r0) hby hml rfl d26_13 pd_LABIIRAB rfl rfl (by decide) (by decide) (by decide) (by decide) ?_
  intro v2 T2 L2 Lc2 X2 hQ2 l2
  obtain ⟨b2q2, k2q2, rfl, Nq2, Kq2, p2_0, p2_1⟩ := hQ2
  have O2_ : Ext Z.heap T2.heap := extKeep O0 Kq2 all0
  have K2 := Keep.trans (Keep.refl h0 []) Kq2 all0
  have N2_ : Fr Z.heap.size L2 := by rw [l2]; exact Fr.app N0 Nq2
  have g_b2q2 : Z.heap.size ≤ b2q2 := Nat.le_trans O0.1 p2_0
  have sz_b2q2 : h0.size ≤ b2q2 := Nat.le_trans (Keep.refl h0 []).1 p2_0
  exact Go.retA X2 hx hret rfl rfl hlk (hb hby d26_16) (by decide) (by decide) ⟨b2q2, k2q2, rfl, N2_, K2, sz_b2q2, p2_1⟩
def Q_a25_6 (Z : State) (w2 : Int32) (w3 : Int32) (w4 : Int32) (h0 : Heap) (v : Option Value) (h : Heap) (L : List Loc) : Prop := ∃ (b1 : Addr) (b2q2q2 : Addr) (k2q2q2 : ClassId), v = some (.ref b1) ∧ Fr Z.heap.size L ∧ Keep h0 h [] ∧ h0.size ≤ b1 ∧ Exa Z h b1 "java/lang/String" ∧ fl_0 Z h b1 (.ref b2q2q2) ∧ fl_1 Z h b1 (.int (0 : Int32)) ∧ h0.size ≤ b2q2q2 ∧ Arv Z h b2q2q2 k2q2q2 .byte (3 : Int32) [(.int w2), (.int w3), (.int w4)] (.int (0 : Int32)) ∧ b1 ≠ b2q2q2
theorem rm_a25_6 (l : Launch) (Z : State) (a0 : Array Value) (hw : HW Z a0) (ws : List Jvm.Cond) (cs : Int32) (sv : Value) (GG : GP Z cs sv) (x0 : Addr) (kk1 : ClassId) (w2 : Int32) (w3 : Int32) (w4 : Int32) (w5 : Int32) (h0 : Heap) (O0 : Ext Z.heap h0) (r0 : Arv Z h0 x0 kk1 .byte (4 : Int32) [(.int w2), (.int w3), (.int w4), (.int w5)] (.int (0 : Int32))) :
    Met FrameEnd l (⟨"java/lang/StringLatin1", "newString", "([BII)Ljava/lang/String;"⟩ : MethodName) jdk_43_method_47_code 3 (some (.object "java/lang/String")) ws ⟨3, 2, 7, 50⟩ Z h0 #[(.ref x0), (.int (0 : Int32)), (.int (3 : Int32))] (Q_a25_6 Z w2 w3 w4 h0) := by
  refine own_met "java/lang/StringLatin1" (plainFor_of_name pn_25) rfl #[.val (.ref x0), .val (.int (0 : Int32)), .val (.int (3 : Int32))] (fun _ => by first | (simp [entryFrame, mkF, argsToLocals, Value.category]; done) | rfl) ?_
  intro p e s m below meth c s₁ hx hby hlk hret hml hZ hown hnm X0 e0
  have N0 := Fr.nil Z.heap.size
  refine q_iN X0 hx hby d25_0 rfl ?_
  refine q_ifY 1 7 X0 hx hby rfl d25_1 ((if0 _ _).trans (feq (by decide : ¬ ((3 : Int32) = (0 : Int32)))).2) (by decide) (by decide) ?_
  obtain ⟨T1, h1, X1, e1, E1, A1, D1, U1, st1⟩ := newO X0 hx hZ hown (wd hw 112 rfl) (wd hw 8 rfl) (wd hw 9 rfl) e0 (g := (mkF m 7 #[.val (.ref x0), .val (.int (0 : Int32)), .val (.int (3 : Int32))] [])) rfl (hb hby d25_7) (by decide) (by decide)
  obtain ⟨b1, hb1⟩ : ∃ z, z = h0.size := ⟨_, rfl⟩
  rw [← hb1] at A1 D1 U1 st1
  refine Go.step st1 ?_
  have g_b1 : Z.heap.size ≤ b1 := Nat.le_trans O0.1 (Nat.le_of_eq hb1.symm)
  have O1_ : Ext Z.heap h1 := extTr O0 E1
  have sz_b1 : h0.size ≤ b1 := Nat.le_trans (Keep.refl h0 []).1 (Nat.le_of_eq hb1.symm)
  have K1 := Keep.ext (Keep.refl h0 []) E1
  have F1_value : fl_0 Z h1 b1 .null := D1 (Or.inr (wd hw 23 rfl)) (ty := (.array .byte)) pf_AB
  have F1_coder : fl_1 Z h1 b1 (.int (0 : Int32)) := D1 (Or.inr (wd hw 24 rfl)) (ty := .byte) pf_B
  refine q_dup X1 hx hby d25_10 rfl ?_
  refine q_aN X1 hx hby d25_11 rfl rfl ?_
  refine q_iN X1 hx hby d25_12 rfl ?_
  refine q_iN X1 hx hby d25_13 rfl ?_
  refine q_iN X1 hx hby d25_14 rfl ?_
  refine q_iadd X1 hx hby d25_15  ?_
  refine q_cS [(.ref x0), (.int (0 : Int32)), (.int (3 : Int32))] [(.ref b1), (.ref b1)] 2 X1 hx hZ hown (wd hw 113 rfl) (wd hw 114 rfl) (wd hw 116 rfl) (wd hw 115 rfl) (by decide) e1 (rm_a26_5 l Z a0 hw [] cs sv GG x0 kk1 w2 w3 w4 w5 h1 O1_ (r0.ext E1)) hby hml rfl d25_16 pd_LABIIRAB rfl rfl (by decide) (by decide) (by decide) (by decide) ?_
  intro v2 T2 L2 Lc2 X2 hQ2 l2
  obtain ⟨b2q2q2, k2q2q2, rfl, Nq2, Kq2, p2_0, p2_1⟩ := hQ2
  have O2_ : Ext Z.heap T2.heap := extKeep O1_ Kq2 all0
  have K2 := Keep.trans K1 Kq2 all0
  have N2_ : Fr Z.heap.size L2 := by rw [l2]; exact Fr.app N0 Nq2
  have g_b2q2q2 : Z.heap.size ≤ b2q2q2 := Nat.le_trans O1_.1 p2_0
  have sz_b2q2q2 : h0.size ≤ b2q2q2 := Nat.le_trans K1.1 p2_0
  refine q_iC X2 hx hby d25_19  ?_
  refine q_cN [(.ref b2q2q2), (.int (0 : Int32))] [(.ref b1)] 1 X2 hx hZ hown rfl (wd hw 128 rfl) (wd hw 129 rfl) (wd hw 130 rfl) (wd hw 9 rfl) (by decide) rfl (rm_a29_0 l Z a0 hw [] cs sv GG b1 b2q2q2 (0 : Int32) (0 : Int32) T2.heap O2_ (A1.keep Kq2) (F1_value.keep Kq2 nin0) g_b1 (F1_coder.keep Kq2 nin0)) hby hml rfl d25_20 pd_LABBRV rfl rfl (by decide) (by decide) (by decide) (by decide) ?_
  intro v3 T3 L3 Lc3 X3 hQ3 l3
  obtain ⟨rfl, Nq3, Kq3, p3_0, p3_1⟩ := hQ3
  have O3_ : Ext Z.heap T3.heap := extKeep O2_ Kq3 (allS g_b1 all0)
  have K3 := Keep.trans K2 Kq3 (allS (Or.inr sz_b1) all0)
  have N3_ : Fr Z.heap.size L3 := by rw [l3]; exact Fr.app N2_ Nq3
  have f4 := (p2_1.keep Kq3 (ninS (Ne.symm (Nat.ne_of_lt (Nat.lt_of_lt_of_le A1.lt p2_0))) nin0))
  exact Go.retA X3 hx hret rfl rfl hlk (hb hby d25_23) (by decide) (by decide) ⟨b1, b2q2q2, k2q2q2, rfl, N3_, K3, sz_b1, ((A1.keep Kq2).keep Kq3), p3_0, p3_1, sz_b2q2q2, f4, (Nat.ne_of_lt (Nat.lt_of_lt_of_le A1.lt p2_0))⟩
def Q_a22_9 (Z : State) (w3 : Int32) (w4 : Int32) (w5 : Int32) (h0 : Heap) (v : Option Value) (h : Heap) (L : List Loc) : Prop := ∃ (b1q5 : Addr) (b2q2q2q5 : Addr) (k2q2q2q5 : ClassId), v = some (.ref b1q5) ∧ Fr Z.heap.size L ∧ Keep h0 h [] ∧ h0.size ≤ b1q5 ∧ Exa Z h b1q5 "java/lang/String" ∧ fl_0 Z h b1q5 (.ref b2q2q2q5) ∧ fl_1 Z h b1q5 (.int (0 : Int32)) ∧ h0.size ≤ b2q2q2q5 ∧ Arv Z h b2q2q2q5 k2q2q2q5 .byte (3 : Int32) [(.int w3), (.int w4), (.int w5)] (.int (0 : Int32)) ∧ b1q5 ≠ b2q2q2q5
theorem rm_a22_9 (l : Launch) (Z : State) (a0 : Array Value) (hw : HW Z a0) (ws : List Jvm.Cond) (cs : Int32) (sv : Value) (GG : GP Z cs sv) (x0 : Addr) (w1 : Addr) (kk2 : ClassId) (w3 : Int32) (w4 : Int32) (w5 : Int32) (w6 : Int32) (h0 : Heap) (O0 : Ext Z.heap h0) (r0 : Exa Z h0 x0 "java/lang/String") (r1 : fl_0 Z h0 x0 (.ref w1)) (r2 : Arv Z h0 w1 kk2 .byte (4 : Int32) [(.int w3), (.int w4), (.int w5), (.int w6)] (.int (0 : Int32))) (r3 : fl_1 Z h0 x0 (.int (0 : Int32))) :
    Met FrameEnd l (⟨"java/lang/String", "substring", "(II)Ljava/lang/String;"⟩ : MethodName) jdk_42_method_92_code 5 (some (.object "java/lang/String")) ws ⟨4, 2, 7, 64⟩ Z h0 #[(.ref x0), (.int (0 : Int32)), (.int (3 : Int32))] (Q_a22_9 Z w3 w4 w5 h0) := by
  refine own_met "java/lang/String" (plainFor_of_name pn_22) rfl #[.val (.ref x0), .val (.int (0 : Int32)), .val (.int (3 : Int32)), .unset, .unset] (fun _ => by first | (simp [entryFrame, mkF, argsToLocals, Value.category]; done) | rfl) ?_
  intro p e s m below meth c s₁ hx hby hlk hret hml hZ hown hnm X0 e0
  have N0 := Fr.nil Z.heap.size
  refine q_aN X0 hx hby d22_0 rfl rfl ?_
  refine q_cV [] [] 0 X0 hx hZ hown (wd hw 49 rfl) (wd hw 50 rfl) (wd hw 52 rfl) (wd hw 51 rfl) (wd hw 53 rfl) (wd hw 9 rfl) (by decide) e0 r0 (rm_a10_4 l Z a0 hw [] cs sv GG x0 w1 kk2 w3 w4 w5 w6 (0 : Int32) h0 O0 r1 r2 r0 r3) hby hml rfl d22_1 pd_LRI rfl rfl (by decide) (by decide) (by decide) (by decide) ?_
  intro v1 T1 L1 Lc1 X1 hQ1 l1
  obtain ⟨rfl, Nq1, e1⟩ := hQ1
  have N1_ : Fr Z.heap.size L1 := by rw [l1]; exact Fr.app N0 Nq1
  refine q_isN X1 hx hby d22_4 (l' := #[.val (.ref x0), .val (.int (0 : Int32)), .val (.int (3 : Int32)), .val (.int (4 : Int32)), .unset]) rfl ?_
  refine q_iN X1 hx hby d22_5 rfl ?_
  refine q_iN X1 hx hby d22_6 rfl ?_
  refine q_iN X1 hx hby d22_7 rfl ?_
  refine q_cS [(.int (0 : Int32)), (.int (3 : Int32)), (.int (4 : Int32))] [] 0 X1 hx hZ hown (wd hw 100 rfl) (wd hw 101 rfl) (wd hw 102 rfl) (wd hw 9 rfl) (by decide) e1 (rm_cb l Z a0 hw [] cs sv GG (0 : Int32) (3 : Int32) (4 : Int32) h0 O0 (by decide) (by decide) (by decide)) hby hml rfl d22_8 pd_LIIIRV rfl rfl (by decide) (by decide) (by decide) (by decide) ?_
  intro v2 T2 L2 Lc2 X2 hQ2 l2
  obtain ⟨rfl, Nq2, e2⟩ := hQ2
  have N2_ : Fr Z.heap.size L2 := by rw [l2]; exact Fr.app N1_ Nq2
  refine q_iN X2 hx hby d22_11 rfl ?_
  refine q_ifN X2 hx hby d22_12 ((if0 _ _).trans (teq (by decide : (0 : Int32) = (0 : Int32))).2) ?_
  refine q_iN X2 hx hby d22_15 rfl ?_
  refine q_iN X2 hx hby d22_16 rfl ?_
  show Go _ _ _ _ _ _ _ _ T2 (mkF m 17 #[.val (.ref x0), .val (.int (0 : Int32)), .val (.int (3 : Int32)), .val (.int (4 : Int32)), .unset] [(.int (4 : Int32)), (.int (3 : Int32))])
  refine q_icY 17 22 X2 hx hby rfl d22_17 (feq (by decide : ¬ ((3 : Int32) = (4 : Int32)))).2 (by decide) (by decide) ?_
  refine q_iN X2 hx hby d22_22 rfl ?_
  refine q_iN X2 hx hby d22_23 rfl ?_
  refine q_isub X2 hx hby d22_24  ?_
  refine q_isL X2 hx hby d22_25 (l' := #[.val (.ref x0), .val (.int (0 : Int32)), .val (.int (3 : Int32)), .val (.int (4 : Int32)), .val (.int (3 : Int32))]) rfl ?_
  refine q_aN X2 hx hby d22_27 rfl rfl ?_
  refine q_cV [] [] 0 X2 hx hZ hown (wd hw 43 rfl) (wd hw 44 rfl) (wd hw 46 rfl) (wd hw 45 rfl) (wd hw 47 rfl) (wd hw 9 rfl) (by decide) e2 r0 (rm_a9_0 l Z a0 hw [] cs sv GG x0 (0 : Int32) h0 O0 r3 (by decide)) hby hml rfl d22_28 pd_LRZ rfl rfl (by decide) (by decide) (by decide) (by decide) ?_
  intro v3 T3 L3 Lc3 X3 hQ3 l3
  obtain ⟨rfl, Nq3, e3⟩ := hQ3
  have N3_ : Fr Z.heap.size L3 := by rw [l3]; exact Fr.app N2_ Nq3
  refine q_ifN X3 hx hby d22_31 ((if0 _ _).trans (feq (by decide : ¬ ((1 : Int32) = (0 : Int32)))).1) ?_
  refine q_aN X3 hx hby d22_34 rfl rfl ?_
  refine q_gF X3 hx hZ hown (wd hw 27 rfl) e3 r1 hby d22_35 ?_
  intro T4 X4 e4
  refine q_iN X4 hx hby d22_38 rfl ?_
  show Go _ _ _ _ _ _ _ _ T4 (mkF m 39 #[.val (.ref x0), .val (.int (0 : Int32)), .val (.int (3 : Int32)), .val (.int (4 : Int32)), .val (.int (3 : Int32))] [(.int (0 : Int32)), (.ref w1)])
  refine q_iL X4 hx hby d22_39 rfl ?_
  refine q_cS [(.ref w1), (.int (0 : Int32)), (.int (3 : Int32))] [] 0 X4 hx hZ hown (wd hw 108 rfl) (wd hw 109 rfl) (wd hw 110 rfl) (wd hw 61 rfl) (by decide) e4 (rm_a25_6 l Z a0 hw [] cs sv GG w1 kk2 w3 w4 w5 w6 h0 O0 r2) hby hml rfl d22_41 pd_LABIIRLjava_lang_String_ rfl rfl (by decide) (by decide) (by decide) (by decide) ?_
  intro v5 T5 L5 Lc5 X5 hQ5 l5
  obtain ⟨b1q5, b2q2q2q5, k2q2q2q5, rfl, Nq5, Kq5, p5_0, p5_1, p5_2, p5_3, p5_4, p5_5, p5_6⟩ := hQ5
  have O5_ : Ext Z.heap T5.heap := extKeep O0 Kq5 all0
  have K5 := Keep.trans (Keep.refl h0 []) Kq5 all0
  have N5_ : Fr Z.heap.size L5 := by rw [l5]; exact Fr.app N3_ Nq5
  have g_b1q5 : Z.heap.size ≤ b1q5 := Nat.le_trans O0.1 p5_0
  have sz_b1q5 : h0.size ≤ b1q5 := Nat.le_trans (Keep.refl h0 []).1 p5_0
  have g_b2q2q2q5 : Z.heap.size ≤ b2q2q2q5 := Nat.le_trans O0.1 p5_4
  have sz_b2q2q2q5 : h0.size ≤ b2q2q2q5 := Nat.le_trans (Keep.refl h0 []).1 p5_4
  refine q_go 44 57 X5 hx hby rfl d22_44 (by decide) (by decide) ?_
  exact Go.retA X5 hx hret rfl rfl hlk (hb hby d22_57) (by decide) (by decide) ⟨b1q5, b2q2q2q5, k2q2q2q5, rfl, N5_, K5, sz_b1q5, p5_1, p5_2, p5_3, sz_b2q2q2q5, p5_5, p5_6⟩
def Q_a6_13 (Z : State) (w3 : Int32) (w4 : Int32) (w5 : Int32) (h0 : Heap) (v : Option Value) (h : Heap) (L : List Loc) : Prop := ∃ (b1q5q2 : Addr) (b2q2q2q5q2 : Addr) (k2q2q2q5q2 : ClassId), v = some (.ref b1q5q2) ∧ Fr Z.heap.size L ∧ Keep h0 h [] ∧ h0.size ≤ b1q5q2 ∧ Exa Z h b1q5q2 "java/lang/String" ∧ fl_0 Z h b1q5q2 (.ref b2q2q2q5q2) ∧ fl_1 Z h b1q5q2 (.int (0 : Int32)) ∧ h0.size ≤ b2q2q2q5q2 ∧ Arv Z h b2q2q2q5q2 k2q2q2q5q2 .byte (3 : Int32) [(.int w3), (.int w4), (.int w5)] (.int (0 : Int32)) ∧ b1q5q2 ≠ b2q2q2q5q2
theorem rm_a6_13 (l : Launch) (Z : State) (a0 : Array Value) (hw : HW Z a0) (ws : List Jvm.Cond) (cs : Int32) (sv : Value) (GG : GP Z cs sv) (x0 : Addr) (w1 : Addr) (kk2 : ClassId) (w3 : Int32) (w4 : Int32) (w5 : Int32) (w6 : Int32) (h0 : Heap) (O0 : Ext Z.heap h0) (r0 : Exa Z h0 x0 "java/lang/String") (r1 : fl_1 Z h0 x0 (.int (0 : Int32))) (r2 : fl_0 Z h0 x0 (.ref w1)) (r3 : Arv Z h0 w1 kk2 .byte (4 : Int32) [(.int w3), (.int w4), (.int w5), (.int w6)] (.int (0 : Int32))) (r4 : (ix4 w3 w4 w5 w6 ((47 : Int32).toInt8.toInt32)) = (3 : Int32)) :
    Met FrameEnd l (⟨"com/example/wary_lock/warylock/LockName", "root", "(Ljava/lang/String;)Ljava/lang/String;"⟩ : MethodName) prog_10_method_3_code 2 (some (.object "java/lang/String")) ws ⟨5, 2, 7, 80⟩ Z h0 #[(.ref x0)] (Q_a6_13 Z w3 w4 w5 h0) := by
  refine own_met "com/example/wary_lock/warylock/LockName" (plainFor_of_name pn_6) rfl #[.val (.ref x0), .unset] (fun _ => by first | (simp [entryFrame, mkF, argsToLocals, Value.category]; done) | rfl) ?_
  intro p e s m below meth c s₁ hx hby hlk hret hml hZ hown hnm X0 e0
  have N0 := Fr.nil Z.heap.size
  refine q_aN X0 hx hby d6_0 rfl rfl ?_
  refine q_bP X0 hx hby d6_1  ?_
  refine q_cV [(.int (47 : Int32))] [] 0 X0 hx hZ hown (wd hw 33 rfl) (wd hw 34 rfl) (wd hw 36 rfl) (wd hw 35 rfl) (wd hw 37 rfl) (wd hw 9 rfl) (by decide) e0 r0 (rm_a7_4 l Z a0 hw [] cs sv GG x0 w1 kk2 w3 w4 w5 w6 h0 O0 r0 r1 r2 r3) hby hml rfl d6_3 pd_LIRI rfl rfl (by decide) (by decide) (by decide) (by decide) ?_
  intro v1 T1 L1 Lc1 X1 hQ1 l1
  obtain ⟨rfl, Nq1, e1⟩ := hQ1
  have N1_ : Fr Z.heap.size L1 := by rw [l1]; exact Fr.app N0 Nq1
  show Go _ _ _ _ _ _ _ _ T1 (mkF m 6 #[.val (.ref x0), .unset] [(.int (ix4 w3 w4 w5 w6 ((47 : Int32).toInt8.toInt32)))])
  rw [r4]
  show Go _ _ _ _ _ _ _ _ T1 (mkF m 6 #[.val (.ref x0), .unset] [(.int (3 : Int32))])
  refine q_isN X1 hx hby d6_6 (l' := #[.val (.ref x0), .val (.int (3 : Int32))]) rfl ?_
  refine q_iN X1 hx hby d6_7 rfl ?_
  refine q_ifY 8 15 X1 hx hby rfl d6_8 ((if0 _ _).trans (flt (by decide : ¬ ((3 : Int32) < (0 : Int32)))).2.1) (by decide) (by decide) ?_
  refine q_aN X1 hx hby d6_15 rfl rfl ?_
  refine q_iC X1 hx hby d6_16  ?_
  refine q_iN X1 hx hby d6_17 rfl ?_
  refine q_cV [(.int (0 : Int32)), (.int (3 : Int32))] [] 0 X1 hx hZ hown (wd hw 95 rfl) (wd hw 96 rfl) (wd hw 98 rfl) (wd hw 97 rfl) (wd hw 99 rfl) (wd hw 9 rfl) (by decide) e1 r0 (rm_a22_9 l Z a0 hw [] cs sv GG x0 w1 kk2 w3 w4 w5 w6 h0 O0 r0 r2 r3 r1) hby hml rfl d6_18 pd_LIIRLjava_lang_String_ rfl rfl (by decide) (by decide) (by decide) (by decide) ?_
  intro v2 T2 L2 Lc2 X2 hQ2 l2
  obtain ⟨b1q5q2, b2q2q2q5q2, k2q2q2q5q2, rfl, Nq2, Kq2, p2_0, p2_1, p2_2, p2_3, p2_4, p2_5, p2_6⟩ := hQ2
  have O2_ : Ext Z.heap T2.heap := extKeep O0 Kq2 all0
  have K2 := Keep.trans (Keep.refl h0 []) Kq2 all0
  have N2_ : Fr Z.heap.size L2 := by rw [l2]; exact Fr.app N1_ Nq2
  have g_b1q5q2 : Z.heap.size ≤ b1q5q2 := Nat.le_trans O0.1 p2_0
  have sz_b1q5q2 : h0.size ≤ b1q5q2 := Nat.le_trans (Keep.refl h0 []).1 p2_0
  have g_b2q2q2q5q2 : Z.heap.size ≤ b2q2q2q5q2 := Nat.le_trans O0.1 p2_4
  have sz_b2q2q2q5q2 : h0.size ≤ b2q2q2q5q2 := Nat.le_trans (Keep.refl h0 []).1 p2_4
  exact Go.retA X2 hx hret rfl rfl hlk (hb hby d6_21) (by decide) (by decide) ⟨b1q5q2, b2q2q2q5q2, k2q2q2q5q2, rfl, N2_, K2, sz_b1q5q2, p2_1, p2_2, p2_3, sz_b2q2q2q5q2, p2_5, p2_6⟩
def Q_a6_14 (Z : State) (x0 : Addr) (h0 : Heap) (v : Option Value) (h : Heap) (L : List Loc) : Prop := v = some (.ref x0) ∧ Fr Z.heap.size L ∧ h = h0
theorem rm_a6_14 (l : Launch) (Z : State) (a0 : Array Value) (hw : HW Z a0) (ws : List Jvm.Cond) (cs : Int32) (sv : Value) (GG : GP Z cs sv) (x0 : Addr) (w1 : Addr) (kk2 : ClassId) (w3 : Int32) (w4 : Int32) (w5 : Int32) (w6 : Int32) (h0 : Heap) (O0 : Ext Z.heap h0) (r0 : Exa Z h0 x0 "java/lang/String") (r1 : fl_1 Z h0 x0 (.int (0 : Int32))) (r2 : fl_0 Z h0 x0 (.ref w1)) (r3 : Arv Z h0 w1 kk2 .byte (4 : Int32) [(.int w3), (.int w4), (.int w5), (.int w6)] (.int (0 : Int32))) (r4 : (ix4 w3 w4 w5 w6 ((47 : Int32).toInt8.toInt32)) = (-1 : Int32)) :
    Met FrameEnd l (⟨"com/example/wary_lock/warylock/LockName", "root", "(Ljava/lang/String;)Ljava/lang/String;"⟩ : MethodName) prog_10_method_3_code 2 (some (.object "java/lang/String")) ws ⟨4, 0, 0, 59⟩ Z h0 #[(.ref x0)] (Q_a6_14 Z x0 h0) := by
  refine own_met "com/example/wary_lock/warylock/LockName" (plainFor_of_name pn_6) rfl #[.val (.ref x0), .unset] (fun _ => by first | (simp [entryFrame, mkF, argsToLocals, Value.category]; done) | rfl) ?_
  intro p e s m below meth c s₁ hx hby hlk hret hml hZ hown hnm X0 e0
  have N0 := Fr.nil Z.heap.size
  refine q_aN X0 hx hby d6_0 rfl rfl ?_
  refine q_bP X0 hx hby d6_1  ?_
  refine q_cV [(.int (47 : Int32))] [] 0 X0 hx hZ hown (wd hw 33 rfl) (wd hw 34 rfl) (wd hw 36 rfl) (wd hw 35 rfl) (wd hw 37 rfl) (wd hw 9 rfl) (by decide) e0 r0 (rm_a7_4 l Z a0 hw [] cs sv GG x0 w1 kk2 w3 w4 w5 w6 h0 O0 r0 r1 r2 r3) hby hml rfl d6_3 pd_LIRI rfl rfl (by decide) (by decide) (by decide) (by decide) ?_
  intro v1 T1 L1 Lc1 X1 hQ1 l1
  obtain ⟨rfl, Nq1, e1⟩ := hQ1
  have N1_ : Fr Z.heap.size L1 := by rw [l1]; exact Fr.app N0 Nq1
  show Go _ _ _ _ _ _ _ _ T1 (mkF m 6 #[.val (.ref x0), .unset] [(.int (ix4 w3 w4 w5 w6 ((47 : Int32).toInt8.toInt32)))])
  rw [r4]
  show Go _ _ _ _ _ _ _ _ T1 (mkF m 6 #[.val (.ref x0), .unset] [(.int (-1 : Int32))])
  refine q_isN X1 hx hby d6_6 (l' := #[.val (.ref x0), .val (.int (-1 : Int32))]) rfl ?_
  refine q_iN X1 hx hby d6_7 rfl ?_
  refine q_ifN X1 hx hby d6_8 ((if0 _ _).trans (tlt (by decide : (-1 : Int32) < (0 : Int32))).2.1) ?_
  refine q_aN X1 hx hby d6_11 rfl rfl ?_
  refine q_go 12 21 X1 hx hby rfl d6_12 (by decide) (by decide) ?_
  exact Go.retA X1 hx hret rfl rfl hlk (hb hby d6_21) (by decide) (by decide) (by show _ ∧ _ ∧ _; rw [e1]; exact ⟨rfl, N1_, rfl⟩)
def Q_a17_4 (Z : State)  (h0 : Heap) (v : Option Value) (h : Heap) (L : List Loc) : Prop := v = some (.int (1 : Int32)) ∧ Fr Z.heap.size L ∧ h = h0
theorem rm_a17_4 (l : Launch) (Z : State) (a0 : Array Value) (hw : HW Z a0) (ws : List Jvm.Cond) (cs : Int32) (sv : Value) (GG : GP Z cs sv) (x0 : Addr) (x1 : Addr) (kk1 : ClassId) (w2 : Int32) (w3 : Int32) (w4 : Int32) (w5 : Int32) (kk6 : ClassId) (h0 : Heap) (O0 : Ext Z.heap h0) (r0 : Arv Z h0 x0 kk1 .byte (4 : Int32) [(.int w2), (.int w3), (.int w4), (.int w5)] (.int (0 : Int32))) (r1 : Arv Z h0 x1 kk6 .byte (4 : Int32) [(.int w2), (.int w3), (.int w4), (.int w5)] (.int (0 : Int32))) :
    Met FrameEnd l (⟨"java/lang/StringLatin1", "equals", "([B[B)Z"⟩ : MethodName) jdk_43_method_13_code 3 (some .boolean) ws ⟨0, 0, 0, 0⟩ Z h0 #[(.ref x0), (.ref x1)] (Q_a17_4 Z  h0) := by
  refine own_met "java/lang/StringLatin1" (plainFor_of_name pn_17) rfl #[.val (.ref x0), .val (.ref x1), .unset] (fun _ => by first | (simp [entryFrame, mkF, argsToLocals, Value.category]; done) | rfl) ?_
  intro p e s m below meth c s₁ hx hby hlk hret hml hZ hown hnm X0 e0
  have N0 := Fr.nil Z.heap.size
  refine q_aN X0 hx hby d17_0 rfl rfl ?_
  obtain ⟨cl1, Ar1, -, S1, N1, -, -⟩ := id r0
  refine Go.step (X0.arraylength hx (by rw [e0]; exact Ar1.1) (State.isArrayOf_alike hZ.alike Ar1.2.1) (g := (mkF m 1 #[.val (.ref x0), .val (.ref x1), .unset] [(.ref x0)])) rfl rfl (hb hby d17_1)) ?_
  rw [len_of S1 N1]
  show Go _ _ _ _ _ _ _ _ s₁ (mkF m 2 #[.val (.ref x0), .val (.ref x1), .unset] [(.int (4 : Int32))])
  refine q_aN X0 hx hby d17_2 rfl rfl ?_
  obtain ⟨cl2, Ar2, -, S2, N2, -, -⟩ := id r1
  refine Go.step (X0.arraylength hx (by rw [e0]; exact Ar2.1) (State.isArrayOf_alike hZ.alike Ar2.2.1) (g := (mkF m 3 #[.val (.ref x0), .val (.ref x1), .unset] [(.ref x1), (.int (4 : Int32))])) rfl rfl (hb hby d17_3)) ?_
  rw [len_of S2 N2]
  show Go _ _ _ _ _ _ _ _ s₁ (mkF m 4 #[.val (.ref x0), .val (.ref x1), .unset] [(.int (4 : Int32)), (.int (4 : Int32))])
  refine q_icN X0 hx hby d17_4 (teq (by decide : (4 : Int32) = (4 : Int32))).2 ?_
  refine q_iC X0 hx hby d17_7  ?_
  refine q_isN X0 hx hby d17_8 (l' := #[.val (.ref x0), .val (.ref x1), .val (.int (0 : Int32))]) rfl ?_
  refine q_iN X0 hx hby d17_9 rfl ?_
  refine q_aN X0 hx hby d17_10 rfl rfl ?_
  obtain ⟨cl3, Ar3, -, S3, N3, -, -⟩ := id r0
  refine Go.step (X0.arraylength hx (by rw [e0]; exact Ar3.1) (State.isArrayOf_alike hZ.alike Ar3.2.1) (g := (mkF m 11 #[.val (.ref x0), .val (.ref x1), .val (.int (0 : Int32))] [(.ref x0), (.int (0 : Int32))])) rfl rfl (hb hby d17_11)) ?_
  rw [len_of S3 N3]
  show Go _ _ _ _ _ _ _ _ s₁ (mkF m 12 #[.val (.ref x0), .val (.ref x1), .val (.int (0 : Int32))] [(.int (4 : Int32)), (.int (0 : Int32))])
  refine q_icN X0 hx hby d17_12 (tlt (by decide : (0 : Int32) < (4 : Int32))).2.1 ?_
  refine q_aN X0 hx hby d17_15 rfl rfl ?_
  refine q_iN X0 hx hby d17_16 rfl ?_
  obtain ⟨cl4, Ar4, q4, S4, N4, H4, G4⟩ := id r0
  have hin4 : ¬ ((0 : Int32) < 0 ∨ cl4.slots.size ≤ ((0 : Int32)).toNatClampNeg) := inb_of S4 ⟨by decide, by decide⟩
  refine Go.step (X0.baloadBytes hx (j := (0 : Int32)) (v := (.int w2)) (by rw [e0]; exact Ar4.1) (State.isArrayOf_alike hZ.alike Ar4.2.1) Ar4.2.2 hin4 (Has.at H4 hin4 rfl) (g := (mkF m 17 #[.val (.ref x0), .val (.ref x1), .val (.int (0 : Int32))] [(.int (0 : Int32)), (.ref x0)])) rfl rfl (hb hby d17_17)) ?_
  refine q_aN X0 hx hby d17_18 rfl rfl ?_
  refine q_iN X0 hx hby d17_19 rfl ?_
  obtain ⟨cl5, Ar5, q5, S5, N5, H5, G5⟩ := id r1
  have hin5 : ¬ ((0 : Int32) < 0 ∨ cl5.slots.size ≤ ((0 : Int32)).toNatClampNeg) := inb_of S5 ⟨by decide, by decide⟩
  refine Go.step (X0.baloadBytes hx (j := (0 : Int32)) (v := (.int w2)) (by rw [e0]; exact Ar5.1) (State.isArrayOf_alike hZ.alike Ar5.2.1) Ar5.2.2 hin5 (Has.at H5 hin5 rfl) (g := (mkF m 20 #[.val (.ref x0), .val (.ref x1), .val (.int (0 : Int32))] [(.int (0 : Int32)), (.ref x1), (.int w2)])) rfl rfl (hb hby d17_20)) ?_
  refine q_icY 21 26 X0 hx hby rfl d17_21 (teq (rfl : w2 = w2)).1 (by decide) (by decide) ?_
  refine q_inc X0 hx hby d17_26 rfl (l' := #[.val (.ref x0), .val (.ref x1), .val (.int (1 : Int32))]) rfl ?_
  refine q_go 29 9 X0 hx hby rfl d17_29 (by decide) (by decide) ?_
  refine q_iN X0 hx hby d17_9 rfl ?_
  refine q_aN X0 hx hby d17_10 rfl rfl ?_
  obtain ⟨cl6, Ar6, -, S6, N6, -, -⟩ := id r0
  refine Go.step (X0.arraylength hx (by rw [e0]; exact Ar6.1) (State.isArrayOf_alike hZ.alike Ar6.2.1) (g := (mkF m 11 #[.val (.ref x0), .val (.ref x1), .val (.int (1 : Int32))] [(.ref x0), (.int (1 : Int32))])) rfl rfl (hb hby d17_11)) ?_
  rw [len_of S6 N6]
  show Go _ _ _ _ _ _ _ _ s₁ (mkF m 12 #[.val (.ref x0), .val (.ref x1), .val (.int (1 : Int32))] [(.int (4 : Int32)), (.int (1 : Int32))])
  refine q_icN X0 hx hby d17_12 (tlt (by decide : (1 : Int32) < (4 : Int32))).2.1 ?_
  refine q_aN X0 hx hby d17_15 rfl rfl ?_
  refine q_iN X0 hx hby d17_16 rfl ?_
  obtain ⟨cl7, Ar7, q7, S7, N7, H7, G7⟩ := id r0
  have hin7 : ¬ ((1 : Int32) < 0 ∨ cl7.slots.size ≤ ((1 : Int32)).toNatClampNeg) := inb_of S7 ⟨by decide, by decide⟩
  refine Go.step (X0.baloadBytes hx (j := (1 : Int32)) (v := (.int w3)) (by rw [e0]; exact Ar7.1) (State.isArrayOf_alike hZ.alike Ar7.2.1) Ar7.2.2 hin7 (Has.at H7 hin7 rfl) (g := (mkF m 17 #[.val (.ref x0), .val (.ref x1), .val (.int (1 : Int32))] [(.int (1 : Int32)), (.ref x0)])) rfl rfl (hb hby d17_17)) ?_
  refine q_aN X0 hx hby d17_18 rfl rfl ?_
  refine q_iN X0 hx hby d17_19 rfl ?_
  obtain ⟨cl8, Ar8, q8, S8, N8, H8, G8⟩ := id r1
  have hin8 : ¬ ((1 : Int32) < 0 ∨ cl8.slots.size ≤ ((1 : Int32)).toNatClampNeg) := inb_of S8 ⟨by decide, by decide⟩
  refine Go.step (X0.baloadBytes hx (j := (1 : Int32)) (v := (.int w3)) (by rw [e0]; exact Ar8.1) (State.isArrayOf_alike hZ.alike Ar8.2.1) Ar8.2.2 hin8 (Has.at H8 hin8 rfl) (g := (mkF m 20 #[.val (.ref x0), .val (.ref x1), .val (.int (1 : Int32))] [(.int (1 : Int32)), (.ref x1), (.int w3)])) rfl rfl (hb hby d17_20)) ?_
  refine q_icY 21 26 X0 hx hby rfl d17_21 (teq (rfl : w3 = w3)).1 (by decide) (by decide) ?_
  refine q_inc X0 hx hby d17_26 rfl (l' := #[.val (.ref x0), .val (.ref x1), .val (.int (2 : Int32))]) rfl ?_
  refine q_go 29 9 X0 hx hby rfl d17_29 (by decide) (by decide) ?_
  refine q_iN X0 hx hby d17_9 rfl ?_
  refine q_aN X0 hx hby d17_10 rfl rfl ?_
  obtain ⟨cl9, Ar9, -, S9, N9, -, -⟩ := id r0
  refine Go.step (X0.arraylength hx (by rw [e0]; exact Ar9.1) (State.isArrayOf_alike hZ.alike Ar9.2.1) (g := (mkF m 11 #[.val (.ref x0), .val (.ref x1), .val (.int (2 : Int32))] [(.ref x0), (.int (2 : Int32))])) rfl rfl (hb hby d17_11)) ?_
  rw [len_of S9 N9]
  show Go _ _ _ _ _ _ _ _ s₁ (mkF m 12 #[.val (.ref x0), .val (.ref x1), .val (.int (2 : Int32))] [(.int (4 : Int32)), (.int (2 : Int32))])
  refine q_icN X0 hx hby d17_12 (tlt (by decide : (2 : Int32) < (4 : Int32))).2.1 ?_
  refine q_aN X0 hx hby d17_15 rfl rfl ?_
  refine q_iN X0 hx hby d17_16 rfl ?_
  obtain ⟨cl10, Ar10, q10, S10, N10, H10, G10⟩ := id r0
  have hin10 : ¬ ((2 : Int32) < 0 ∨ cl10.slots.size ≤ ((2 : Int32)).toNatClampNeg) := inb_of S10 ⟨by decide, by decide⟩
  refine Go.step (X0.baloadBytes hx (j := (2 : Int32)) (v := (.int w4)) (by rw [e0]; exact Ar10.1) (State.isArrayOf_alike hZ.alike Ar10.2.1) Ar10.2.2 hin10 (Has.at H10 hin10 rfl) (g := (mkF m 17 #[.val (.ref x0), .val (.ref x1), .val (.int (2 : Int32))] [(.int (2 : Int32)), (.ref x0)])) rfl rfl (hb hby d17_17)) ?_
  refine q_aN X0 hx hby d17_18 rfl rfl ?_
  refine q_iN X0 hx hby d17_19 rfl ?_
  obtain ⟨cl11, Ar11, q11, S11, N11, H11, G11⟩ := id r1
  have hin11 : ¬ ((2 : Int32) < 0 ∨ cl11.slots.size ≤ ((2 : Int32)).toNatClampNeg) := inb_of S11 ⟨by decide, by decide⟩
  refine Go.step (X0.baloadBytes hx (j := (2 : Int32)) (v := (.int w4)) (by rw [e0]; exact Ar11.1) (State.isArrayOf_alike hZ.alike Ar11.2.1) Ar11.2.2 hin11 (Has.at H11 hin11 rfl) (g := (mkF m 20 #[.val (.ref x0), .val (.ref x1), .val (.int (2 : Int32))] [(.int (2 : Int32)), (.ref x1), (.int w4)])) rfl rfl (hb hby d17_20)) ?_
  refine q_icY 21 26 X0 hx hby rfl d17_21 (teq (rfl : w4 = w4)).1 (by decide) (by decide) ?_
  refine q_inc X0 hx hby d17_26 rfl (l' := #[.val (.ref x0), .val (.ref x1), .val (.int (3 : Int32))]) rfl ?_
  refine q_go 29 9 X0 hx hby rfl d17_29 (by decide) (by decide) ?_
  refine q_iN X0 hx hby d17_9 rfl ?_
  refine q_aN X0 hx hby d17_10 rfl rfl ?_
  obtain ⟨cl12, Ar12, -, S12, N12, -, -⟩ := id r0
  refine Go.step (X0.arraylength hx (by rw [e0]; exact Ar12.1) (State.isArrayOf_alike hZ.alike Ar12.2.1) (g := (mkF m 11 #[.val (.ref x0), .val (.ref x1), .val (.int (3 : Int32))] [(.ref x0), (.int (3 : Int32))])) rfl rfl (hb hby d17_11)) ?_
  rw [len_of S12 N12]
  show Go _ _ _ _ _ _ _ _ s₁ (mkF m 12 #[.val (.ref x0), .val (.ref x1), .val (.int (3 : Int32))] [(.int (4 : Int32)), (.int (3 : Int32))])
  refine q_icN X0 hx hby d17_12 (tlt (by decide : (3 : Int32) < (4 : Int32))).2.1 ?_
  refine q_aN X0 hx hby d17_15 rfl rfl ?_
  refine q_iN X0 hx hby d17_16 rfl ?_
  obtain ⟨cl13, Ar13, q13, S13, N13, H13, G13⟩ := id r0
  have hin13 : ¬ ((3 : Int32) < 0 ∨ cl13.slots.size ≤ ((3 : Int32)).toNatClampNeg) := inb_of S13 ⟨by decide, by decide⟩
  refine Go.step (X0.baloadBytes hx (j := (3 : Int32)) (v := (.int w5)) (by rw [e0]; exact Ar13.1) (State.isArrayOf_alike hZ.alike Ar13.2.1) Ar13.2.2 hin13 (Has.at H13 hin13 rfl) (g := (mkF m 17 #[.val (.ref x0), .val (.ref x1), .val (.int (3 : Int32))] [(.int (3 : Int32)), (.ref x0)])) rfl rfl (hb hby d17_17)) ?_
  refine q_aN X0 hx hby d17_18 rfl rfl ?_
  refine q_iN X0 hx hby d17_19 rfl ?_
  obtain ⟨cl14, Ar14, q14, S14, N14, H14, G14⟩ := id r1
  have hin14 : ¬ ((3 : Int32) < 0 ∨ cl14.slots.size ≤ ((3 : Int32)).toNatClampNeg) := inb_of S14 ⟨by decide, by decide⟩
  refine Go.step (X0.baloadBytes hx (j := (3 : Int32)) (v := (.int w5)) (by rw [e0]; exact Ar14.1) (State.isArrayOf_alike hZ.alike Ar14.2.1) Ar14.2.2 hin14 (Has.at H14 hin14 rfl) (g := (mkF m 20 #[.val (.ref x0), .val (.ref x1), .val (.int (3 : Int32))] [(.int (3 : Int32)), (.ref x1), (.int w5)])) rfl rfl (hb hby d17_20)) ?_
  refine q_icY 21 26 X0 hx hby rfl d17_21 (teq (rfl : w5 = w5)).1 (by decide) (by decide) ?_
  refine q_inc X0 hx hby d17_26 rfl (l' := #[.val (.ref x0), .val (.ref x1), .val (.int (4 : Int32))]) rfl ?_
  refine q_go 29 9 X0 hx hby rfl d17_29 (by decide) (by decide) ?_
  refine q_iN X0 hx hby d17_9 rfl ?_
  refine q_aN X0 hx hby d17_10 rfl rfl ?_
  obtain ⟨cl15, Ar15, -, S15, N15, -, -⟩ := id r0
  refine Go.step (X0.arraylength hx (by rw [e0]; exact Ar15.1) (State.isArrayOf_alike hZ.alike Ar15.2.1) (g := (mkF m 11 #[.val (.ref x0), .val (.ref x1), .val (.int (4 : Int32))] [(.ref x0), (.int (4 : Int32))])) rfl rfl (hb hby d17_11)) ?_
  rw [len_of S15 N15]
  show Go _ _ _ _ _ _ _ _ s₁ (mkF m 12 #[.val (.ref x0), .val (.ref x1), .val (.int (4 : Int32))] [(.int (4 : Int32)), (.int (4 : Int32))])
  refine q_icY 12 32 X0 hx hby rfl d17_12 (flt (by decide : ¬ ((4 : Int32) < (4 : Int32)))).2.1 (by decide) (by decide) ?_
  refine q_iC X0 hx hby d17_32  ?_
  exact Go.retN X0 hx (t := .boolean) hret (by simp) hlk (hb hby d17_33) (by decide) (by decide) (by show _ ∧ _ ∧ _; rw [e0]; exact ⟨rfl, N0, rfl⟩)
def Q_a16_5 (Z : State)  (h0 : Heap) (v : Option Value) (h : Heap) (L : List Loc) : Prop := v = some (.int (1 : Int32)) ∧ Fr Z.heap.size L ∧ h = h0
theorem rm_a16_5 (l : Launch) (Z : State) (a0 : Array Value) (hw : HW Z a0) (ws : List Jvm.Cond) (cs : Int32) (sv : Value) (GG : GP Z cs sv) (x0 : Addr) (x1 : Addr) (w1 : Int32) (w2 : Int32) (w3 : Addr) (w4 : Addr) (kk5 : ClassId) (w6 : Int32) (w7 : Int32) (w8 : Int32) (w9 : Int32) (kk10 : ClassId) (h0 : Heap) (O0 : Ext Z.heap h0) (r0 : x0 ≠ x1) (r1 : Exa Z h0 x1 "java/lang/String") (r2 : fl_1 Z h0 x0 (.int w1)) (r3 : fl_1 Z h0 x1 (.int w2)) (r4 : w1 = w2) (r5 : fl_0 Z h0 x0 (.ref w3)) (r6 : fl_0 Z h0 x1 (.ref w4)) (r7 : Arv Z h0 w3 kk5 .byte (4 : Int32) [(.int w6), (.int w7), (.int w8), (.int w9)] (.int (0 : Int32))) (r8 : Arv Z h0 w4 kk10 .byte (4 : Int32) [(.int w6), (.int w7), (.int w8), (.int w9)] (.int (0 : Int32))) :
    Met FrameEnd l (⟨"java/lang/String", "equals", "(Ljava/lang/Object;)Z"⟩ : MethodName) jdk_42_method_66_code 3 (some .boolean) ws ⟨1, 0, 0, 14⟩ Z h0 #[(.ref x0), (.ref x1)] (Q_a16_5 Z  h0) := by
  refine own_met "java/lang/String" (plainFor_of_name pn_16) rfl #[.val (.ref x0), .val (.ref x1), .unset] (fun _ => by first | (simp [entryFrame, mkF, argsToLocals, Value.category]; done) | rfl) ?_
  intro p e s m below meth c s₁ hx hby hlk hret hml hZ hown hnm X0 e0
  have N0 := Fr.nil Z.heap.size
  obtain ⟨G_cs, H_cs, G_sv, H_sv⟩ := id GG
  refine q_aN X0 hx hby d16_0 rfl rfl ?_
  refine q_aN X0 hx hby d16_1 rfl rfl ?_
  refine Go.step (fun _ kt_ => Jvm.RoadKit.acmp (g := (mkF m 2 #[.val (.ref x0), .val (.ref x1), .unset] [(.ref x1), (.ref x0)])) X0 hx rfl rfl rfl (pc0 := 2) (pc' := 7) (same := false) rfl (hb hby d16_2) rfl (decide_eq_false fun q => r0 (Value.ref.inj q)) (by decide) (by decide) kt_) ?_
  show Go _ _ _ _ _ _ _ _ s₁ (mkF m 7 #[.val (.ref x0), .val (.ref x1), .unset] [])
  refine q_aN X0 hx hby d16_7 rfl rfl ?_
  obtain ⟨T1, X1, e1, st1⟩ := instY X0 hx hZ hown (wd hw 78 rfl) e0 (Ins.self r1) (g := (mkF m 8 #[.val (.ref x0), .val (.ref x1), .unset] [(.ref x1)])) rfl rfl (hb hby d16_8)
  refine Go.step st1 ?_
  refine q_ifN X1 hx hby d16_11 ((if0 _ _).trans (feq (by decide : ¬ ((1 : Int32) = (0 : Int32)))).1) ?_
  refine q_aN X1 hx hby d16_14 rfl rfl ?_
  obtain ⟨T2, X2, e2, st2⟩ := castY X1 hx hZ hown (wd hw 78 rfl) e1 (Ins.self r1) (g := (mkF m 15 #[.val (.ref x0), .val (.ref x1), .unset] [(.ref x1)])) rfl rfl (hb hby d16_15)
  refine Go.step st2 ?_
  refine q_asN X2 hx hby d16_18 rfl (l' := #[.val (.ref x0), .val (.ref x1), .val (.ref x1)]) rfl ?_
  refine q_gS X2 hx hZ hown (wd hw 48 rfl) e2 (Sta.ext O0 G_cs) hby d16_19 ?_
  intro T3 X3 e3
  refine q_ifN X3 hx hby d16_22 ((if0 _ _).trans (feq H_cs).1) ?_
  refine q_aN X3 hx hby d16_25 rfl rfl ?_
  refine q_gF X3 hx hZ hown (wd hw 28 rfl) e3 r2 hby d16_26 ?_
  intro T4 X4 e4
  refine q_aN X4 hx hby d16_29 rfl rfl ?_
  refine q_gF X4 hx hZ hown (wd hw 28 rfl) e4 r3 hby d16_30 ?_
  intro T5 X5 e5
  refine q_icN X5 hx hby d16_33 (teq r4).2 ?_
  refine q_aN X5 hx hby d16_36 rfl rfl ?_
  refine q_gF X5 hx hZ hown (wd hw 27 rfl) e5 r5 hby d16_37 ?_
  intro T6 X6 e6
  show Go _ _ _ _ _ _ _ _ T6 (mkF m 40 #[.val (.ref x0), .val (.ref x1), .val (.ref x1)] [(.ref w3)])
  refine q_aN X6 hx hby d16_40 rfl rfl ?_
  refine q_gF X6 hx hZ hown (wd hw 27 rfl) e6 r6 hby d16_41 ?_
  intro T7 X7 e7
  refine q_cS [(.ref w3), (.ref w4)] [] 0 X7 hx hZ hown (wd hw 79 rfl) (wd hw 80 rfl) (wd hw 81 rfl) (wd hw 61 rfl) (by decide) e7 (rm_a17_4 l Z a0 hw [] cs sv GG w3 w4 kk5 w6 w7 w8 w9 kk10 h0 O0 r7 r8) hby hml rfl d16_44 pd_LABABRZ rfl rfl (by decide) (by decide) (by decide) (by decide) ?_
  intro v8 T8 L8 Lc8 X8 hQ8 l8
  obtain ⟨rfl, Nq8, e8⟩ := hQ8
  have N8_ : Fr Z.heap.size L8 := by rw [l8]; exact Fr.app N0 Nq8
  refine q_ifN X8 hx hby d16_47 ((if0 _ _).trans (feq (by decide : ¬ ((1 : Int32) = (0 : Int32)))).1) ?_
  refine q_iC X8 hx hby d16_50  ?_
  refine q_go 51 55 X8 hx hby rfl d16_51 (by decide) (by decide) ?_
  exact Go.retN X8 hx (t := .boolean) hret (by simp) hlk (hb hby d16_55) (by decide) (by decide) (by show _ ∧ _ ∧ _; rw [e8]; exact ⟨rfl, N8_, rfl⟩)
theorem pn_0 : plainName "com/example/wary_lock/warylock/LockNameRootPinLaw" = true := by first | (simp [plainName, overriddenIn]; done) | decide +kernel
def Q_0 (Z : State)  (h0 : Heap) (v : Option Value) (h : Heap) (L : List Loc) : Prop := v = some (.int 1) ∧ Fr Z.heap.size L ∧ True
theorem rm_0 (l : Launch) (Z : State) (a0 : Array Value) (hw : HW Z a0) (ws : List Jvm.Cond) (cs : Int32) (sv : Value) (GG : GP Z cs sv) (x0 : Int32) (x1 : Int32) (x2 : Int32) (x3 : Int32) (x4 : Int32) (h0 : Heap) (O0 : Ext Z.heap h0) :
    MetH l x code maxLocals ret ws room_1 Z consts_1 [] h0 #[(.int x0), (.int x1), (.int x2), (.int x3), (.int x4)] (Q_0 Z  h0) := by
  refine own_metH "com/example/wary_lock/warylock/LockNameRootPinLaw" (plainFor_of_name pn_0) rfl #[.val (.int x0), .val (.int x1), .val (.int x2), .val (.int x3), .val (.int x4), .unset, .unset, .unset, .unset, .unset, .unset, .unset, .unset, .unset] (fun _ => by first | (simp [entryFrame, mkF, argsToLocals, Value.category, maxLocals]; done) | rfl) ?_
  intro p e s m below meth c s₁ hx hby hlk hret hml hZ hown hnm X0 e0 S0 kk0 hh hCH hSF
  have N0 := Fr.nil Z.heap.size
  have wS := own_wS hw
  have hEL := own_EW hw
  have CR0 := CHr.refl hCH
  refine q_iN X0 hx hby at_0 rfl ?_
  refine q_bP X0 hx hby at_1  ?_
  refine q_iand X0 hx hby at_3  ?_
  refine q_iC X0 hx hby at_4  ?_
  refine Go.step (fun _ kt_ => iremM X0 hx rfl (hb hby at_5) rfl (by decide) kt_) ?_
  show Go _ _ _ _ _ _ _ _ s₁ (mkF m 6 #[.val (.int x0), .val (.int x1), .val (.int x2), .val (.int x3), .val (.int x4), .unset, .unset, .unset, .unset, .unset, .unset, .unset, .unset, .unset] [(.int ((x0 &&& (7 : Int32)) % (5 : Int32)))])
  refine q_isL X0 hx hby at_6 (l' := #[.val (.int x0), .val (.int x1), .val (.int x2), .val (.int x3), .val (.int x4), .val (.int ((x0 &&& (7 : Int32)) % (5 : Int32))), .unset, .unset, .unset, .unset, .unset, .unset, .unset, .unset]) rfl ?_
  refine q_iN X0 hx hby at_8 rfl ?_
  obtain ⟨c0, hc0⟩ : ∃ r : Int32, r = (if ((x1.toUInt32 >>> ((8 : Int32) &&& 31).toUInt32).toInt32 &&& (3 : Int32)) = (0 : Int32) then (47 : Int32) else (((x1 &&& (255 : Int32)).toUInt32.toUInt16.toUInt32.toInt32).toUInt32.toUInt16.toUInt32.toInt32)) := ⟨_, rfl⟩
  obtain ⟨hl0, he0⟩ := own_chf (own_ch hc0)
  refine q_cS [(.int x1)] [] 0 X0 hx hZ hown (wd hw 0 rfl) (wd hw 1 rfl) (wd hw 3 rfl) (wd hw 2 rfl) (by decide) e0 (rm_ch l Z a0 hw [] cs sv GG x1 c0 h0 O0 hc0) hby hml rfl at_9 pd_LIRC rfl rfl (by decide) (by decide) (by decide) (by decide) ?_
  intro v1 T1 L1 Lc1 X1 hQ1 l1
  obtain ⟨rfl, Nq1, e1⟩ := hQ1
  have N1_ : Fr Z.heap.size L1 := by rw [l1]; exact Fr.app N0 Nq1
  refine q_isL X1 hx hby at_12 (l' := #[.val (.int x0), .val (.int x1), .val (.int x2), .val (.int x3), .val (.int x4), .val (.int ((x0 &&& (7 : Int32)) % (5 : Int32))), .val (.int c0), .unset, .unset, .unset, .unset, .unset, .unset, .unset]) rfl ?_
  refine q_iN X1 hx hby at_14 rfl ?_
  obtain ⟨c1, hc1⟩ : ∃ r : Int32, r = (if ((x2.toUInt32 >>> ((8 : Int32) &&& 31).toUInt32).toInt32 &&& (3 : Int32)) = (0 : Int32) then (47 : Int32) else (((x2 &&& (255 : Int32)).toUInt32.toUInt16.toUInt32.toInt32).toUInt32.toUInt16.toUInt32.toInt32)) := ⟨_, rfl⟩
  obtain ⟨hl1, he1⟩ := own_chf (own_ch hc1)
  refine q_cS [(.int x2)] [] 0 X1 hx hZ hown (wd hw 0 rfl) (wd hw 1 rfl) (wd hw 3 rfl) (wd hw 2 rfl) (by decide) e1 (rm_ch l Z a0 hw [] cs sv GG x2 c1 h0 O0 hc1) hby hml rfl at_15 pd_LIRC rfl rfl (by decide) (by decide) (by decide) (by decide) ?_
  intro v2 T2 L2 Lc2 X2 hQ2 l2
  obtain ⟨rfl, Nq2, e2⟩ := hQ2
  have N2_ : Fr Z.heap.size L2 := by rw [l2]; exact Fr.app N1_ Nq2
  refine q_isL X2 hx hby at_18 (l' := #[.val (.int x0), .val (.int x1), .val (.int x2), .val (.int x3), .val (.int x4), .val (.int ((x0 &&& (7 : Int32)) % (5 : Int32))), .val (.int c0), .val (.int c1), .unset, .unset, .unset, .unset, .unset, .unset]) rfl ?_
  refine q_iN X2 hx hby at_20 rfl ?_
  obtain ⟨c2, hc2⟩ : ∃ r : Int32, r = (if ((x3.toUInt32 >>> ((8 : Int32) &&& 31).toUInt32).toInt32 &&& (3 : Int32)) = (0 : Int32) then (47 : Int32) else (((x3 &&& (255 : Int32)).toUInt32.toUInt16.toUInt32.toInt32).toUInt32.toUInt16.toUInt32.toInt32)) := ⟨_, rfl⟩
  obtain ⟨hl2, he2⟩ := own_chf (own_ch hc2)
  refine q_cS [(.int x3)] [] 0 X2 hx hZ hown (wd hw 0 rfl) (wd hw 1 rfl) (wd hw 3 rfl) (wd hw 2 rfl) (by decide) e2 (rm_ch l Z a0 hw [] cs sv GG x3 c2 h0 O0 hc2) hby hml rfl at_21 pd_LIRC rfl rfl (by decide) (by decide) (by decide) (by decide) ?_
  intro v3 T3 L3 Lc3 X3 hQ3 l3
  obtain ⟨rfl, Nq3, e3⟩ := hQ3
  have N3_ : Fr Z.heap.size L3 := by rw [l3]; exact Fr.app N2_ Nq3
  refine q_isL X3 hx hby at_24 (l' := #[.val (.int x0), .val (.int x1), .val (.int x2), .val (.int x3), .val (.int x4), .val (.int ((x0 &&& (7 : Int32)) % (5 : Int32))), .val (.int c0), .val (.int c1), .val (.int c2), .unset, .unset, .unset, .unset, .unset]) rfl ?_
  refine q_iL X3 hx hby at_26 rfl ?_
  show Go _ _ _ _ _ _ _ _ T3 (mkF m 28 #[.val (.int x0), .val (.int x1), .val (.int x2), .val (.int x3), .val (.int x4), .val (.int ((x0 &&& (7 : Int32)) % (5 : Int32))), .val (.int c0), .val (.int c1), .val (.int c2), .unset, .unset, .unset, .unset, .unset] [(.int x4)])
  obtain ⟨c3, hc3⟩ : ∃ r : Int32, r = (if ((x4.toUInt32 >>> ((8 : Int32) &&& 31).toUInt32).toInt32 &&& (3 : Int32)) = (0 : Int32) then (47 : Int32) else (((x4 &&& (255 : Int32)).toUInt32.toUInt16.toUInt32.toInt32).toUInt32.toUInt16.toUInt32.toInt32)) := ⟨_, rfl⟩
  obtain ⟨hl3, he3⟩ := own_chf (own_ch hc3)
  refine q_cS [(.int x4)] [] 0 X3 hx hZ hown (wd hw 0 rfl) (wd hw 1 rfl) (wd hw 3 rfl) (wd hw 2 rfl) (by decide) e3 (rm_ch l Z a0 hw [] cs sv GG x4 c3 h0 O0 hc3) hby hml rfl at_28 pd_LIRC rfl rfl (by decide) (by decide) (by decide) (by decide) ?_
  intro v4 T4 L4 Lc4 X4 hQ4 l4
  obtain ⟨rfl, Nq4, e4⟩ := hQ4
  have N4_ : Fr Z.heap.size L4 := by rw [l4]; exact Fr.app N3_ Nq4
  refine q_isL X4 hx hby at_31 (l' := #[.val (.int x0), .val (.int x1), .val (.int x2), .val (.int x3), .val (.int x4), .val (.int ((x0 &&& (7 : Int32)) % (5 : Int32))), .val (.int c0), .val (.int c1), .val (.int c2), .val (.int c3), .unset, .unset, .unset, .unset]) rfl ?_
  show Go _ _ _ _ _ _ _ _ T4 (mkF m 33 #[.val (.int x0), .val (.int x1), .val (.int x2), .val (.int x3), .val (.int x4), .val (.int ((x0 &&& (7 : Int32)) % (5 : Int32))), .val (.int c0), .val (.int c1), .val (.int c2), .val (.int c3), .unset, .unset, .unset, .unset] [])
  rcases own_n x0 with hk | hk | hk | hk | hk
  · rw [hk]
    show Go _ _ _ _ _ _ _ _ T4 (mkF m 33 #[.val (.int x0), .val (.int x1), .val (.int x2), .val (.int x3), .val (.int x4), .val (.int (0 : Int32)), .val (.int c0), .val (.int c1), .val (.int c2), .val (.int c3), .unset, .unset, .unset, .unset] [])
    refine q_iL X4 hx hby at_33 rfl ?_
    refine q_iL X4 hx hby at_35 rfl ?_
    refine q_iL X4 hx hby at_37 rfl ?_
    refine q_iL X4 hx hby at_39 rfl ?_
    refine q_iL X4 hx hby at_41 rfl ?_
    obtain ⟨_, _, ⟨T5, L5, k5, n5⟩, -, X5, Sq5, gq5, ⟨Lc5, hQ5, l5, y5, z5, cr5⟩, st5⟩ := callSS X4 hx (y := (⟨"com/example/wary_lock/warylock/LockNameRootPinLaw", "mk", "(ICCCC)Ljava/lang/String;"⟩ : MethodName)) hown (mvT hZ (wd hw 4 rfl)) (mvT hZ (wd hw 5 rfl)) (mvT hZ (wd hw 2 rfl)) (mvT hZ (wd hw 6 rfl)) (by decide) (own_backH (W := 0) (rm_a2_0 l Z a0 hw [] cs sv GG (0 : Int32) c0 c1 c2 c3 h0 O0 (by decide)) hZ (wd hw 6 rfl) (wd hw 2 rfl) (by decide) (by decide) hEL CR0.1 sg0) (g := (mkF m 43 #[.val (.int x0), .val (.int x1), .val (.int x2), .val (.int x3), .val (.int x4), .val (.int (0 : Int32)), .val (.int c0), .val (.int c1), .val (.int c2), .val (.int c3), .unset, .unset, .unset, .unset] [(.int c3), (.int c2), (.int c1), (.int c0), (.int (0 : Int32))])) rfl (by rw [hml]; rfl) (argsL := [(.int (0 : Int32)), (.int c0), (.int c1), (.int c2), (.int c3)]) (rest := []) (lenOf pd_LICCCCRLjava_lang_String_ rfl) rfl (by show 2 * 0 + _ ≤ _; exact Nat.le_of_eq rfl) (hb hby at_43) (fun _ _ => ⟨rfl, e4, (by decide : 0 + 6 ≤ _), (by decide : 0 + 12 ≤ _)⟩)
    dsimp only [Pt.U, Pt.locs, Pt.cells, Pt.slots] at X5 l5 y5 z5 st5 hQ5 Sq5 gq5 cr5
    subst y5 z5
    obtain ⟨X5, S5, hZ5, hown5⟩ := rebS S0 ((congrArg Array.size e4).symm ▸ kk0) X5 Sq5 gq5 hZ hown
    obtain ⟨b1q5, b2q2q3q5, kb2q2q3q5, rfl, Nq5, Kq5, p5_0, p5_1, p5_2, p5_3, p5_4⟩ := hQ5
    have O5_ : Ext Z.heap T5.heap := extKeep O0 Kq5 all0
    have CR5 := CHr.trans CR0 cr5
    have N5_ : Fr Z.heap.size L5 := by rw [l5]; exact Fr.app N4_ Nq5
    have g_b1q5 : Z.heap.size ≤ b1q5 := Nat.le_trans O0.1 p5_0
    refine Go.trans st5 ?_
    refine q_asL X5 hx hby at_46 rfl (l' := #[.val (.int x0), .val (.int x1), .val (.int x2), .val (.int x3), .val (.int x4), .val (.int (0 : Int32)), .val (.int c0), .val (.int c1), .val (.int c2), .val (.int c3), .val (.ref b1q5), .unset, .unset, .unset]) rfl ?_
    refine q_iC X5 hx hby at_48  ?_
    refine q_isL X5 hx hby at_49 (l' := #[.val (.int x0), .val (.int x1), .val (.int x2), .val (.int x3), .val (.int x4), .val (.int (0 : Int32)), .val (.int c0), .val (.int c1), .val (.int c2), .val (.int c3), .val (.ref b1q5), .val (.int (-1 : Int32)), .unset, .unset]) rfl ?_
    refine q_iL X5 hx hby at_51 rfl ?_
    refine q_ifY 53 69 X5 hx hby rfl at_53 ((if0 _ _).trans (flt (by decide : ¬ ((0 : Int32) < (0 : Int32)))).2.2.2) (by decide) (by decide) ?_
    refine q_iL X5 hx hby at_69 rfl ?_
    refine q_iC X5 hx hby at_71  ?_
    refine q_icY 72 88 X5 hx hby rfl at_72 (flt (by decide : ¬ ((1 : Int32) < (0 : Int32)))).2.2.2 (by decide) (by decide) ?_
    refine q_iL X5 hx hby at_88 rfl ?_
    refine q_iC X5 hx hby at_90  ?_
    show Go _ _ _ _ _ _ _ _ T5 (mkF m 91 #[.val (.int x0), .val (.int x1), .val (.int x2), .val (.int x3), .val (.int x4), .val (.int (0 : Int32)), .val (.int c0), .val (.int c1), .val (.int c2), .val (.int c3), .val (.ref b1q5), .val (.int (-1 : Int32)), .unset, .unset] [(.int (2 : Int32)), (.int (0 : Int32))])
    refine q_icY 91 107 X5 hx hby rfl at_91 (flt (by decide : ¬ ((2 : Int32) < (0 : Int32)))).2.2.2 (by decide) (by decide) ?_
    refine q_iL X5 hx hby at_107 rfl ?_
    refine q_iC X5 hx hby at_109  ?_
    refine q_icY 110 123 X5 hx hby rfl at_110 (flt (by decide : ¬ ((3 : Int32) < (0 : Int32)))).2.2.2 (by decide) (by decide) ?_
    refine q_iL X5 hx hby at_123 rfl ?_
    refine q_ifN X5 hx hby at_125 ((if0 _ _).trans (tlt (by decide : (-1 : Int32) < (0 : Int32))).2.1) ?_
    refine q_iL X5 hx hby at_128 rfl ?_
    refine q_iL X5 hx hby at_130 rfl ?_
    refine q_iL X5 hx hby at_132 rfl ?_
    refine q_iL X5 hx hby at_134 rfl ?_
    refine q_iL X5 hx hby at_136 rfl ?_
    show Go _ _ _ _ _ _ _ _ T5 (mkF m 138 #[.val (.int x0), .val (.int x1), .val (.int x2), .val (.int x3), .val (.int x4), .val (.int (0 : Int32)), .val (.int c0), .val (.int c1), .val (.int c2), .val (.int c3), .val (.ref b1q5), .val (.int (-1 : Int32)), .unset, .unset] [(.int c3), (.int c2), (.int c1), (.int c0), (.int (0 : Int32))])
    obtain ⟨_, _, ⟨T6, L6, k6, n6⟩, -, X6, Sq6, gq6, ⟨Lc6, hQ6, l6, y6, z6, cr6⟩, st6⟩ := callSS X5 hx (y := (⟨"com/example/wary_lock/warylock/LockNameRootPinLaw", "mk", "(ICCCC)Ljava/lang/String;"⟩ : MethodName)) hown5 (mvT hZ5 (wd hw 4 rfl)) (mvT hZ5 (wd hw 5 rfl)) (mvT hZ5 (wd hw 2 rfl)) (mvT hZ5 (wd hw 6 rfl)) (by decide) (own_backH (W := 0) (rm_a2_0 l Z a0 hw [] cs sv GG (0 : Int32) c0 c1 c2 c3 T5.heap O5_ (by decide)) hZ5 (wd hw 6 rfl) (wd hw 2 rfl) (by decide) (by decide) hEL CR5.1 sg0) (g := (mkF m 138 #[.val (.int x0), .val (.int x1), .val (.int x2), .val (.int x3), .val (.int x4), .val (.int (0 : Int32)), .val (.int c0), .val (.int c1), .val (.int c2), .val (.int c3), .val (.ref b1q5), .val (.int (-1 : Int32)), .unset, .unset] [(.int c3), (.int c2), (.int c1), (.int c0), (.int (0 : Int32))])) rfl (by rw [hml]; rfl) (argsL := [(.int (0 : Int32)), (.int c0), (.int c1), (.int c2), (.int c3)]) (rest := []) (lenOf pd_LICCCCRLjava_lang_String_ rfl) rfl (by show 2 * 0 + _ ≤ _; exact Nat.le_of_eq rfl) (hb hby at_138) (fun _ _ => ⟨rfl, rfl, (by decide : 6 + 6 ≤ _), (by decide : 12 + 12 ≤ _)⟩)
    dsimp only [Pt.U, Pt.locs, Pt.cells, Pt.slots] at X6 l6 y6 z6 st6 hQ6 Sq6 gq6 cr6
    subst y6 z6
    obtain ⟨X6, S6, hZ6, hown6⟩ := rebS S5 ((Nat.le_refl _)) X6 Sq6 gq6 hZ5 hown5
    obtain ⟨b1q6, b2q2q3q6, kb2q2q3q6, rfl, Nq6, Kq6, p6_0, p6_1, p6_2, p6_3, p6_4⟩ := hQ6
    have O6_ : Ext Z.heap T6.heap := extKeep O5_ Kq6 all0
    have CR6 := CHr.trans CR5 cr6
    have N6_ : Fr Z.heap.size L6 := by rw [l6]; exact Fr.app N5_ Nq6
    have g_b1q6 : Z.heap.size ≤ b1q6 := Nat.le_trans O5_.1 p6_0
    refine Go.trans st6 ?_
    refine q_go 141 157 X6 hx hby rfl at_141 (by decide) (by decide) ?_
    refine q_asL X6 hx hby at_157 rfl (l' := #[.val (.int x0), .val (.int x1), .val (.int x2), .val (.int x3), .val (.int x4), .val (.int (0 : Int32)), .val (.int c0), .val (.int c1), .val (.int c2), .val (.int c3), .val (.ref b1q5), .val (.int (-1 : Int32)), .val (.ref b1q6), .unset]) rfl ?_
    refine q_aL X6 hx hby at_159 rfl rfl ?_
    refine q_cS [(.ref b1q5)] [] 0 X6 hx hZ6 hown6 (wd hw 29 rfl) (wd hw 30 rfl) (wd hw 32 rfl) (wd hw 31 rfl) (by decide) rfl (rm_a6_0 l Z a0 hw [] cs sv GG b1q5 (0 : Int32) b2q2q3q5 kb2q2q3q5 T6.heap O6_ (p5_1.keep Kq6) (p5_3.keep Kq6 nin0) (by decide) (p5_2.keep Kq6 nin0) (p5_4.keep Kq6 nin0) (by decide)) hby hml rfl at_161 pd_LLjava_lang_String_RLjava_lang_String_ rfl rfl (by decide) (by decide) (by decide) (by decide) ?_
    intro v7 T7 L7 Lc7 X7 hQ7 l7
    obtain ⟨rfl, Nq7, e7⟩ := hQ7
    have N7_ : Fr Z.heap.size L7 := by rw [l7]; exact Fr.app N6_ Nq7
    refine q_asL X7 hx hby at_164 rfl (l' := #[.val (.int x0), .val (.int x1), .val (.int x2), .val (.int x3), .val (.int x4), .val (.int (0 : Int32)), .val (.int c0), .val (.int c1), .val (.int c2), .val (.int c3), .val (.ref b1q5), .val (.int (-1 : Int32)), .val (.ref b1q6), .val (.ref b1q5)]) rfl ?_
    refine q_aL X7 hx hby at_166 rfl rfl ?_
    refine Go.step (fun _ kt_ => XS.ifnullNo X7.here hx rfl (hb hby at_168) rfl kt_) ?_
    refine q_aL X7 hx hby at_171 rfl rfl ?_
    refine q_aL X7 hx hby at_173 rfl rfl ?_
    refine q_cV [(.ref b1q6)] [] 0 X7 hx hZ6 hown6 (wd hw 73 rfl) (wd hw 74 rfl) (wd hw 76 rfl) (wd hw 75 rfl) (wd hw 77 rfl) (wd hw 9 rfl) (by decide) e7 (p5_1.keep Kq6) (rm_a16_0 l Z a0 hw [] cs sv GG b1q5 b1q6 (0 : Int32) (0 : Int32) b2q2q3q5 b2q2q3q6 kb2q2q3q5 kb2q2q3q6 T6.heap O6_ (Nat.ne_of_lt (Nat.lt_of_lt_of_le p5_1.lt p6_0)) p6_1 (p5_3.keep Kq6 nin0) p6_3 (by decide) (p5_2.keep Kq6 nin0) p6_2 (p5_4.keep Kq6 nin0) p6_4) hby hml rfl at_175 pd_LLjava_lang_Object_RZ rfl rfl (by decide) (by decide) (by decide) (by decide) ?_
    intro v8 T8 L8 Lc8 X8 hQ8 l8
    obtain ⟨rfl, Nq8, e8⟩ := hQ8
    have N8_ : Fr Z.heap.size L8 := by rw [l8]; exact Fr.app N7_ Nq8
    show Go _ _ _ _ _ _ _ _ T8 (mkF m 178 #[.val (.int x0), .val (.int x1), .val (.int x2), .val (.int x3), .val (.int x4), .val (.int (0 : Int32)), .val (.int c0), .val (.int c1), .val (.int c2), .val (.int c3), .val (.ref b1q5), .val (.int (-1 : Int32)), .val (.ref b1q6), .val (.ref b1q5)] [(.int (1 : Int32))])
    refine q_ifN X8 hx hby at_178 ((if0 _ _).trans (feq (by decide : ¬ ((1 : Int32) = (0 : Int32)))).1) ?_
    refine q_iC X8 hx hby at_181  ?_
    refine q_go 182 186 X8 hx hby rfl at_182 (by decide) (by decide) ?_
    exact Go.retNH (endH hh e8 X8 hZ6 hEL CR6) X8 S6 (by rw [e8]; exact (Nat.le_refl _)) hx (t := .boolean) hret (by simp) hlk (hb hby at_186) (by decide) (by decide) ⟨rfl, N8_, trivial⟩
  · rw [hk]
    show Go _ _ _ _ _ _ _ _ T4 (mkF m 33 #[.val (.int x0), .val (.int x1), .val (.int x2), .val (.int x3), .val (.int x4), .val (.int (1 : Int32)), .val (.int c0), .val (.int c1), .val (.int c2), .val (.int c3), .unset, .unset, .unset, .unset] [])
    refine q_iL X4 hx hby at_33 rfl ?_
    refine q_iL X4 hx hby at_35 rfl ?_
    refine q_iL X4 hx hby at_37 rfl ?_
    refine q_iL X4 hx hby at_39 rfl ?_
    refine q_iL X4 hx hby at_41 rfl ?_
    refine q_cS [(.int (1 : Int32)), (.int c0), (.int c1), (.int c2), (.int c3)] [] 0 X4 hx hZ hown (wd hw 4 rfl) (wd hw 5 rfl) (wd hw 6 rfl) (wd hw 2 rfl) (by decide) e4 (rm_a2_1 l Z a0 hw [] cs sv GG (1 : Int32) c0 c1 c2 c3 h0 O0 (by decide) (by decide) hl0) hby hml rfl at_43 pd_LICCCCRLjava_lang_String_ rfl rfl (by decide) (by decide) (by decide) (by decide) ?_
    intro v9 T9 L9 Lc9 X9 hQ9 l9
    obtain ⟨b1q9, b1q3q2q6q9, k1q3q2q6q9, rfl, Nq9, Kq9, p9_0, p9_1, p9_2, p9_3, p9_4, p9_5, p9_6⟩ := hQ9
    have O9_ : Ext Z.heap T9.heap := extKeep O0 Kq9 all0
    have CR9 := CHr.trans CR0 (CHr.keep Kq9 sf0 CR0.1)
    have N9_ : Fr Z.heap.size L9 := by rw [l9]; exact Fr.app N4_ Nq9
    have g_b1q9 : Z.heap.size ≤ b1q9 := Nat.le_trans O0.1 p9_0
    have g_b1q3q2q6q9 : Z.heap.size ≤ b1q3q2q6q9 := Nat.le_trans O0.1 p9_4
    refine q_asL X9 hx hby at_46 rfl (l' := #[.val (.int x0), .val (.int x1), .val (.int x2), .val (.int x3), .val (.int x4), .val (.int (1 : Int32)), .val (.int c0), .val (.int c1), .val (.int c2), .val (.int c3), .val (.ref b1q9), .unset, .unset, .unset]) rfl ?_
    refine q_iC X9 hx hby at_48  ?_
    refine q_isL X9 hx hby at_49 (l' := #[.val (.int x0), .val (.int x1), .val (.int x2), .val (.int x3), .val (.int x4), .val (.int (1 : Int32)), .val (.int c0), .val (.int c1), .val (.int c2), .val (.int c3), .val (.ref b1q9), .val (.int (-1 : Int32)), .unset, .unset]) rfl ?_
    refine q_iL X9 hx hby at_51 rfl ?_
    refine q_ifN X9 hx hby at_53 ((if0 _ _).trans (tlt (by decide : (0 : Int32) < (1 : Int32))).2.2.2) ?_
    show Go _ _ _ _ _ _ _ _ T9 (mkF m 56 #[.val (.int x0), .val (.int x1), .val (.int x2), .val (.int x3), .val (.int x4), .val (.int (1 : Int32)), .val (.int c0), .val (.int c1), .val (.int c2), .val (.int c3), .val (.ref b1q9), .val (.int (-1 : Int32)), .unset, .unset] [])
    refine q_iL X9 hx hby at_56 rfl ?_
    refine q_bP X9 hx hby at_58  ?_
    by_cases hc60_10 : c0 = (47 : Int32)
    · refine q_icN X9 hx hby at_60 (teq hc60_10).2 ?_
      refine q_iC X9 hx hby at_63  ?_
      refine q_isL X9 hx hby at_64 (l' := #[.val (.int x0), .val (.int x1), .val (.int x2), .val (.int x3), .val (.int x4), .val (.int (1 : Int32)), .val (.int c0), .val (.int c1), .val (.int c2), .val (.int c3), .val (.ref b1q9), .val (.int (0 : Int32)), .unset, .unset]) rfl ?_
      refine q_go 66 123 X9 hx hby rfl at_66 (by decide) (by decide) ?_
      refine q_iL X9 hx hby at_123 rfl ?_
      refine q_ifY 125 144 X9 hx hby rfl at_125 ((if0 _ _).trans (flt (by decide : ¬ ((0 : Int32) < (0 : Int32)))).2.1) (by decide) (by decide) ?_
      refine q_iL X9 hx hby at_144 rfl ?_
      refine q_iL X9 hx hby at_146 rfl ?_
      refine q_iL X9 hx hby at_148 rfl ?_
      show Go _ _ _ _ _ _ _ _ T9 (mkF m 150 #[.val (.int x0), .val (.int x1), .val (.int x2), .val (.int x3), .val (.int x4), .val (.int (1 : Int32)), .val (.int c0), .val (.int c1), .val (.int c2), .val (.int c3), .val (.ref b1q9), .val (.int (0 : Int32)), .unset, .unset] [(.int c1), (.int c0), (.int (0 : Int32))])
      refine q_iL X9 hx hby at_150 rfl ?_
      refine q_iL X9 hx hby at_152 rfl ?_
      obtain ⟨_, _, ⟨T11, L11, k11, n11⟩, -, X11, Sq11, gq11, ⟨Lc11, hQ11, l11, y11, z11, cr11⟩, st11⟩ := callSS X9 hx (y := (⟨"com/example/wary_lock/warylock/LockNameRootPinLaw", "mk", "(ICCCC)Ljava/lang/String;"⟩ : MethodName)) hown (mvT hZ (wd hw 4 rfl)) (mvT hZ (wd hw 5 rfl)) (mvT hZ (wd hw 2 rfl)) (mvT hZ (wd hw 6 rfl)) (by decide) (own_backH (W := 0) (rm_a2_0 l Z a0 hw [] cs sv GG (0 : Int32) c0 c1 c2 c3 T9.heap O9_ (by decide)) hZ (wd hw 6 rfl) (wd hw 2 rfl) (by decide) (by decide) hEL CR9.1 sg0) (g := (mkF m 154 #[.val (.int x0), .val (.int x1), .val (.int x2), .val (.int x3), .val (.int x4), .val (.int (1 : Int32)), .val (.int c0), .val (.int c1), .val (.int c2), .val (.int c3), .val (.ref b1q9), .val (.int (0 : Int32)), .unset, .unset] [(.int c3), (.int c2), (.int c1), (.int c0), (.int (0 : Int32))])) rfl (by rw [hml]; rfl) (argsL := [(.int (0 : Int32)), (.int c0), (.int c1), (.int c2), (.int c3)]) (rest := []) (lenOf pd_LICCCCRLjava_lang_String_ rfl) rfl (by show 2 * 0 + _ ≤ _; exact Nat.le_of_eq rfl) (hb hby at_154) (fun _ _ => ⟨rfl, rfl, (by decide : 3 + 6 ≤ _), (by decide : 6 + 12 ≤ _)⟩)
      dsimp only [Pt.U, Pt.locs, Pt.cells, Pt.slots] at X11 l11 y11 z11 st11 hQ11 Sq11 gq11 cr11
      subst y11 z11
      obtain ⟨X11, S11, hZ11, hown11⟩ := rebS S0 ((Nat.le_trans kk0 Kq9.1)) X11 Sq11 gq11 hZ hown
      obtain ⟨b1q11, b2q2q3q11, kb2q2q3q11, rfl, Nq11, Kq11, p11_0, p11_1, p11_2, p11_3, p11_4⟩ := hQ11
      have O11_ : Ext Z.heap T11.heap := extKeep O9_ Kq11 all0
      have CR11 := CHr.trans CR9 cr11
      have N11_ : Fr Z.heap.size L11 := by rw [l11]; exact Fr.app N9_ Nq11
      have g_b1q11 : Z.heap.size ≤ b1q11 := Nat.le_trans O9_.1 p11_0
      refine Go.trans st11 ?_
      refine q_asL X11 hx hby at_157 rfl (l' := #[.val (.int x0), .val (.int x1), .val (.int x2), .val (.int x3), .val (.int x4), .val (.int (1 : Int32)), .val (.int c0), .val (.int c1), .val (.int c2), .val (.int c3), .val (.ref b1q9), .val (.int (0 : Int32)), .val (.ref b1q11), .unset]) rfl ?_
      refine q_aL X11 hx hby at_159 rfl rfl ?_
      obtain ⟨_, _, ⟨T12, L12, k12, n12⟩, -, X12, Sq12, gq12, ⟨Lc12, hQ12, l12, y12, z12, cr12⟩, st12⟩ := callSS X11 hx (y := (⟨"com/example/wary_lock/warylock/LockName", "root", "(Ljava/lang/String;)Ljava/lang/String;"⟩ : MethodName)) hown11 (mvT hZ11 (wd hw 29 rfl)) (mvT hZ11 (wd hw 30 rfl)) (mvT hZ11 (wd hw 31 rfl)) (mvT hZ11 (wd hw 32 rfl)) (by decide) (own_backH (W := 0) (rm_a6_1 l Z a0 hw [] cs sv GG b1q9 b1q3q2q6q9 k1q3q2q6q9 (((c0.toUInt32.toUInt16.toUInt32.toInt32).toInt8.toInt32).toInt8.toInt32) T11.heap O11_ (p9_1.keep Kq11) (p9_2.keep Kq11 nin0) (p9_3.keep Kq11 nin0) (p9_5.keep Kq11 nin0) (if_pos (he0.mpr hc60_10))) hZ11 (wd hw 32 rfl) (wd hw 31 rfl) (by decide) (by decide) hEL CR11.1 sg0) (g := (mkF m 161 #[.val (.int x0), .val (.int x1), .val (.int x2), .val (.int x3), .val (.int x4), .val (.int (1 : Int32)), .val (.int c0), .val (.int c1), .val (.int c2), .val (.int c3), .val (.ref b1q9), .val (.int (0 : Int32)), .val (.ref b1q11), .unset] [(.ref b1q9)])) rfl (by rw [hml]; rfl) (argsL := [(.ref b1q9)]) (rest := []) (lenOf pd_LLjava_lang_String_RLjava_lang_String_ rfl) rfl (by show 2 * 0 + _ ≤ _; exact Nat.le_of_eq rfl) (hb hby at_161) (fun _ _ => ⟨rfl, rfl, (by decide : 9 + 2 ≤ _), (by decide : 18 + 4 ≤ _)⟩)
      dsimp only [Pt.U, Pt.locs, Pt.cells, Pt.slots] at X12 l12 y12 z12 st12 hQ12 Sq12 gq12 cr12
      subst y12 z12
      obtain ⟨X12, S12, hZ12, hown12⟩ := rebS S11 ((Nat.le_refl _)) X12 Sq12 gq12 hZ11 hown11
      obtain ⟨a1q5q2q12, b1q5q2q12, kb1q5q2q12, rfl, Nq12, Kq12, p12_0, p12_1, p12_2, p12_3⟩ := hQ12
      have O12_ : Ext Z.heap T12.heap := extKeep O11_ Kq12 all0
      have CR12 := CHr.trans CR11 cr12
      have N12_ : Fr Z.heap.size L12 := by rw [l12]; exact Fr.app N11_ Nq12
      refine Go.trans st12 ?_
      refine q_asL X12 hx hby at_164 rfl (l' := #[.val (.int x0), .val (.int x1), .val (.int x2), .val (.int x3), .val (.int x4), .val (.int (1 : Int32)), .val (.int c0), .val (.int c1), .val (.int c2), .val (.int c3), .val (.ref b1q9), .val (.int (0 : Int32)), .val (.ref b1q11), .val (.ref a1q5q2q12)]) rfl ?_
      refine q_aL X12 hx hby at_166 rfl rfl ?_
      refine Go.step (fun _ kt_ => XS.ifnullNo X12.here hx rfl (hb hby at_168) rfl kt_) ?_
      refine q_aL X12 hx hby at_171 rfl rfl ?_
      refine q_aL X12 hx hby at_173 rfl rfl ?_
      refine q_cV [(.ref b1q11)] [] 0 X12 hx hZ12 hown12 (wd hw 73 rfl) (wd hw 74 rfl) (wd hw 76 rfl) (wd hw 75 rfl) (wd hw 77 rfl) (wd hw 9 rfl) (by decide) rfl p12_0 (rm_a16_1 l Z a0 hw [] cs sv GG a1q5q2q12 b1q11 (0 : Int32) (0 : Int32) b1q5q2q12 b2q2q3q11 kb1q5q2q12 kb2q2q3q11 T12.heap O12_ (p11_1.keep Kq12) p12_1 (p11_3.keep Kq12 nin0) (by decide) p12_2 (p11_2.keep Kq12 nin0) p12_3 (p11_4.keep Kq12 nin0)) hby hml rfl at_175 pd_LLjava_lang_Object_RZ rfl rfl (by decide) (by decide) (by decide) (by decide) ?_
      intro v13 T13 L13 Lc13 X13 hQ13 l13
      obtain ⟨rfl, Nq13, e13⟩ := hQ13
      have N13_ : Fr Z.heap.size L13 := by rw [l13]; exact Fr.app N12_ Nq13
      refine q_ifN X13 hx hby at_178 ((if0 _ _).trans (feq (by decide : ¬ ((1 : Int32) = (0 : Int32)))).1) ?_
      refine q_iC X13 hx hby at_181  ?_
      refine q_go 182 186 X13 hx hby rfl at_182 (by decide) (by decide) ?_
      exact Go.retNH (endH hh e13 X13 hZ12 hEL CR12) X13 S12 (by rw [e13]; exact (Nat.le_refl _)) hx (t := .boolean) hret (by simp) hlk (hb hby at_186) (by decide) (by decide) ⟨rfl, N13_, trivial⟩
    · refine q_icY 60 69 X9 hx hby rfl at_60 (feq hc60_10).2 (by decide) (by decide) ?_
      refine q_iL X9 hx hby at_69 rfl ?_
      refine q_iC X9 hx hby at_71  ?_
      refine q_icY 72 88 X9 hx hby rfl at_72 (flt (by decide : ¬ ((1 : Int32) < (1 : Int32)))).2.2.2 (by decide) (by decide) ?_
      refine q_iL X9 hx hby at_88 rfl ?_
      refine q_iC X9 hx hby at_90  ?_
      refine q_icY 91 107 X9 hx hby rfl at_91 (flt (by decide : ¬ ((2 : Int32) < (1 : Int32)))).2.2.2 (by decide) (by decide) ?_
      refine q_iL X9 hx hby at_107 rfl ?_
      refine q_iC X9 hx hby at_109  ?_
      show Go _ _ _ _ _ _ _ _ T9 (mkF m 110 #[.val (.int x0), .val (.int x1), .val (.int x2), .val (.int x3), .val (.int x4), .val (.int (1 : Int32)), .val (.int c0), .val (.int c1), .val (.int c2), .val (.int c3), .val (.ref b1q9), .val (.int (-1 : Int32)), .unset, .unset] [(.int (3 : Int32)), (.int (1 : Int32))])
      refine q_icY 110 123 X9 hx hby rfl at_110 (flt (by decide : ¬ ((3 : Int32) < (1 : Int32)))).2.2.2 (by decide) (by decide) ?_
      refine q_iL X9 hx hby at_123 rfl ?_
      refine q_ifN X9 hx hby at_125 ((if0 _ _).trans (tlt (by decide : (-1 : Int32) < (0 : Int32))).2.1) ?_
      refine q_iL X9 hx hby at_128 rfl ?_
      refine q_iL X9 hx hby at_130 rfl ?_
      refine q_iL X9 hx hby at_132 rfl ?_
      refine q_iL X9 hx hby at_134 rfl ?_
      refine q_iL X9 hx hby at_136 rfl ?_
      refine q_cS [(.int (1 : Int32)), (.int c0), (.int c1), (.int c2), (.int c3)] [] 0 X9 hx hZ hown (wd hw 4 rfl) (wd hw 5 rfl) (wd hw 6 rfl) (wd hw 2 rfl) (by decide) rfl (rm_a2_1 l Z a0 hw [] cs sv GG (1 : Int32) c0 c1 c2 c3 T9.heap O9_ (by decide) (by decide) hl0) hby hml rfl at_138 pd_LICCCCRLjava_lang_String_ rfl rfl (by decide) (by decide) (by decide) (by decide) ?_
      intro v14 T14 L14 Lc14 X14 hQ14 l14
      obtain ⟨b1q14, b1q3q2q6q14, k1q3q2q6q14, rfl, Nq14, Kq14, p14_0, p14_1, p14_2, p14_3, p14_4, p14_5, p14_6⟩ := hQ14
      have O14_ : Ext Z.heap T14.heap := extKeep O9_ Kq14 all0
      have CR14 := CHr.trans CR9 (CHr.keep Kq14 sf0 CR9.1)
      have N14_ : Fr Z.heap.size L14 := by rw [l14]; exact Fr.app N9_ Nq14
      have g_b1q14 : Z.heap.size ≤ b1q14 := Nat.le_trans O9_.1 p14_0
      have g_b1q3q2q6q14 : Z.heap.size ≤ b1q3q2q6q14 := Nat.le_trans O9_.1 p14_4
      refine q_go 141 157 X14 hx hby rfl at_141 (by decide) (by decide) ?_
      refine q_asL X14 hx hby at_157 rfl (l' := #[.val (.int x0), .val (.int x1), .val (.int x2), .val (.int x3), .val (.int x4), .val (.int (1 : Int32)), .val (.int c0), .val (.int c1), .val (.int c2), .val (.int c3), .val (.ref b1q9), .val (.int (-1 : Int32)), .val (.ref b1q14), .unset]) rfl ?_
      show Go _ _ _ _ _ _ _ _ T14 (mkF m 159 #[.val (.int x0), .val (.int x1), .val (.int x2), .val (.int x3), .val (.int x4), .val (.int (1 : Int32)), .val (.int c0), .val (.int c1), .val (.int c2), .val (.int c3), .val (.ref b1q9), .val (.int (-1 : Int32)), .val (.ref b1q14), .unset] [])
      refine q_aL X14 hx hby at_159 rfl rfl ?_
      refine q_cS [(.ref b1q9)] [] 0 X14 hx hZ hown (wd hw 29 rfl) (wd hw 30 rfl) (wd hw 32 rfl) (wd hw 31 rfl) (by decide) rfl (rm_a6_2 l Z a0 hw [] cs sv GG b1q9 b1q3q2q6q9 k1q3q2q6q9 (((c0.toUInt32.toUInt16.toUInt32.toInt32).toInt8.toInt32).toInt8.toInt32) T14.heap O14_ (p9_1.keep Kq14) (p9_2.keep Kq14 nin0) (p9_3.keep Kq14 nin0) (p9_5.keep Kq14 nin0) (if_neg fun q => hc60_10 (he0.mp q))) hby hml rfl at_161 pd_LLjava_lang_String_RLjava_lang_String_ rfl rfl (by decide) (by decide) (by decide) (by decide) ?_
      intro v15 T15 L15 Lc15 X15 hQ15 l15
      obtain ⟨rfl, Nq15, e15⟩ := hQ15
      have N15_ : Fr Z.heap.size L15 := by rw [l15]; exact Fr.app N14_ Nq15
      refine q_asL X15 hx hby at_164 rfl (l' := #[.val (.int x0), .val (.int x1), .val (.int x2), .val (.int x3), .val (.int x4), .val (.int (1 : Int32)), .val (.int c0), .val (.int c1), .val (.int c2), .val (.int c3), .val (.ref b1q9), .val (.int (-1 : Int32)), .val (.ref b1q14), .val (.ref b1q9)]) rfl ?_
      refine q_aL X15 hx hby at_166 rfl rfl ?_
      refine Go.step (fun _ kt_ => XS.ifnullNo X15.here hx rfl (hb hby at_168) rfl kt_) ?_
      refine q_aL X15 hx hby at_171 rfl rfl ?_
      refine q_aL X15 hx hby at_173 rfl rfl ?_
      refine q_cV [(.ref b1q14)] [] 0 X15 hx hZ hown (wd hw 73 rfl) (wd hw 74 rfl) (wd hw 76 rfl) (wd hw 75 rfl) (wd hw 77 rfl) (wd hw 9 rfl) (by decide) e15 (p9_1.keep Kq14) (rm_a16_2 l Z a0 hw [] cs sv GG b1q9 b1q14 (0 : Int32) (0 : Int32) b1q3q2q6q9 b1q3q2q6q14 k1q3q2q6q9 (((c0.toUInt32.toUInt16.toUInt32.toInt32).toInt8.toInt32).toInt8.toInt32) k1q3q2q6q14 T14.heap O14_ (Nat.ne_of_lt (Nat.lt_of_lt_of_le p9_1.lt p14_0)) p14_1 (p9_2.keep Kq14 nin0) p14_2 (by decide) (p9_3.keep Kq14 nin0) p14_3 (p9_5.keep Kq14 nin0) p14_5) hby hml rfl at_175 pd_LLjava_lang_Object_RZ rfl rfl (by decide) (by decide) (by decide) (by decide) ?_
      intro v16 T16 L16 Lc16 X16 hQ16 l16
      obtain ⟨rfl, Nq16, e16⟩ := hQ16
      have N16_ : Fr Z.heap.size L16 := by rw [l16]; exact Fr.app N15_ Nq16
      refine q_ifN X16 hx hby at_178 ((if0 _ _).trans (feq (by decide : ¬ ((1 : Int32) = (0 : Int32)))).1) ?_
      refine q_iC X16 hx hby at_181  ?_
      refine q_go 182 186 X16 hx hby rfl at_182 (by decide) (by decide) ?_
      show Go _ _ _ _ _ _ _ _ T16 (mkF m 186 #[.val (.int x0), .val (.int x1), .val (.int x2), .val (.int x3), .val (.int x4), .val (.int (1 : Int32)), .val (.int c0), .val (.int c1), .val (.int c2), .val (.int c3), .val (.ref b1q9), .val (.int (-1 : Int32)), .val (.ref b1q14), .val (.ref b1q9)] [(.int (1 : Int32))])
      exact Go.retNH (endH hh e16 X16 hZ hEL CR14) X16 S0 (by rw [e16]; exact (Nat.le_trans (Nat.le_trans kk0 Kq9.1) Kq14.1)) hx (t := .boolean) hret (by simp) hlk (hb hby at_186) (by decide) (by decide) ⟨rfl, N16_, trivial⟩
  · rw [hk]
    show Go _ _ _ _ _ _ _ _ T4 (mkF m 33 #[.val (.int x0), .val (.int x1), .val (.int x2), .val (.int x3), .val (.int x4), .val (.int (2 : Int32)), .val (.int c0), .val (.int c1), .val (.int c2), .val (.int c3), .unset, .unset, .unset, .unset] [])
    refine q_iL X4 hx hby at_33 rfl ?_
    refine q_iL X4 hx hby at_35 rfl ?_
    refine q_iL X4 hx hby at_37 rfl ?_
    refine q_iL X4 hx hby at_39 rfl ?_
    refine q_iL X4 hx hby at_41 rfl ?_
    refine q_cS [(.int (2 : Int32)), (.int c0), (.int c1), (.int c2), (.int c3)] [] 0 X4 hx hZ hown (wd hw 4 rfl) (wd hw 5 rfl) (wd hw 6 rfl) (wd hw 2 rfl) (by decide) e4 (rm_a2_2 l Z a0 hw [] cs sv GG (2 : Int32) c0 c1 c2 c3 h0 O0 (by decide) (by decide) (by decide) hl0 hl1) hby hml rfl at_43 pd_LICCCCRLjava_lang_String_ rfl rfl (by decide) (by decide) (by decide) (by decide) ?_
    intro v17 T17 L17 Lc17 X17 hQ17 l17
    obtain ⟨b1q17, b1q3q2q7q17, k1q3q2q7q17, rfl, Nq17, Kq17, p17_0, p17_1, p17_2, p17_3, p17_4, p17_5, p17_6⟩ := hQ17
    have O17_ : Ext Z.heap T17.heap := extKeep O0 Kq17 all0
    have CR17 := CHr.trans CR0 (CHr.keep Kq17 sf0 CR0.1)
    have N17_ : Fr Z.heap.size L17 := by rw [l17]; exact Fr.app N4_ Nq17
    have g_b1q17 : Z.heap.size ≤ b1q17 := Nat.le_trans O0.1 p17_0
    have g_b1q3q2q7q17 : Z.heap.size ≤ b1q3q2q7q17 := Nat.le_trans O0.1 p17_4
    refine q_asL X17 hx hby at_46 rfl (l' := #[.val (.int x0), .val (.int x1), .val (.int x2), .val (.int x3), .val (.int x4), .val (.int (2 : Int32)), .val (.int c0), .val (.int c1), .val (.int c2), .val (.int c3), .val (.ref b1q17), .unset, .unset, .unset]) rfl ?_
    refine q_iC X17 hx hby at_48  ?_
    refine q_isL X17 hx hby at_49 (l' := #[.val (.int x0), .val (.int x1), .val (.int x2), .val (.int x3), .val (.int x4), .val (.int (2 : Int32)), .val (.int c0), .val (.int c1), .val (.int c2), .val (.int c3), .val (.ref b1q17), .val (.int (-1 : Int32)), .unset, .unset]) rfl ?_
    refine q_iL X17 hx hby at_51 rfl ?_
    refine q_ifN X17 hx hby at_53 ((if0 _ _).trans (tlt (by decide : (0 : Int32) < (2 : Int32))).2.2.2) ?_
    show Go _ _ _ _ _ _ _ _ T17 (mkF m 56 #[.val (.int x0), .val (.int x1), .val (.int x2), .val (.int x3), .val (.int x4), .val (.int (2 : Int32)), .val (.int c0), .val (.int c1), .val (.int c2), .val (.int c3), .val (.ref b1q17), .val (.int (-1 : Int32)), .unset, .unset] [])
    refine q_iL X17 hx hby at_56 rfl ?_
    refine q_bP X17 hx hby at_58  ?_
    by_cases hc60_18 : c0 = (47 : Int32)
    · refine q_icN X17 hx hby at_60 (teq hc60_18).2 ?_
      refine q_iC X17 hx hby at_63  ?_
      refine q_isL X17 hx hby at_64 (l' := #[.val (.int x0), .val (.int x1), .val (.int x2), .val (.int x3), .val (.int x4), .val (.int (2 : Int32)), .val (.int c0), .val (.int c1), .val (.int c2), .val (.int c3), .val (.ref b1q17), .val (.int (0 : Int32)), .unset, .unset]) rfl ?_
      refine q_go 66 123 X17 hx hby rfl at_66 (by decide) (by decide) ?_
      refine q_iL X17 hx hby at_123 rfl ?_
      refine q_ifY 125 144 X17 hx hby rfl at_125 ((if0 _ _).trans (flt (by decide : ¬ ((0 : Int32) < (0 : Int32)))).2.1) (by decide) (by decide) ?_
      refine q_iL X17 hx hby at_144 rfl ?_
      refine q_iL X17 hx hby at_146 rfl ?_
      refine q_iL X17 hx hby at_148 rfl ?_
      show Go _ _ _ _ _ _ _ _ T17 (mkF m 150 #[.val (.int x0), .val (.int x1), .val (.int x2), .val (.int x3), .val (.int x4), .val (.int (2 : Int32)), .val (.int c0), .val (.int c1), .val (.int c2), .val (.int c3), .val (.ref b1q17), .val (.int (0 : Int32)), .unset, .unset] [(.int c1), (.int c0), (.int (0 : Int32))])
      refine q_iL X17 hx hby at_150 rfl ?_
      refine q_iL X17 hx hby at_152 rfl ?_
      obtain ⟨_, _, ⟨T19, L19, k19, n19⟩, -, X19, Sq19, gq19, ⟨Lc19, hQ19, l19, y19, z19, cr19⟩, st19⟩ := callSS X17 hx (y := (⟨"com/example/wary_lock/warylock/LockNameRootPinLaw", "mk", "(ICCCC)Ljava/lang/String;"⟩ : MethodName)) hown (mvT hZ (wd hw 4 rfl)) (mvT hZ (wd hw 5 rfl)) (mvT hZ (wd hw 2 rfl)) (mvT hZ (wd hw 6 rfl)) (by decide) (own_backH (W := 0) (rm_a2_0 l Z a0 hw [] cs sv GG (0 : Int32) c0 c1 c2 c3 T17.heap O17_ (by decide)) hZ (wd hw 6 rfl) (wd hw 2 rfl) (by decide) (by decide) hEL CR17.1 sg0) (g := (mkF m 154 #[.val (.int x0), .val (.int x1), .val (.int x2), .val (.int x3), .val (.int x4), .val (.int (2 : Int32)), .val (.int c0), .val (.int c1), .val (.int c2), .val (.int c3), .val (.ref b1q17), .val (.int (0 : Int32)), .unset, .unset] [(.int c3), (.int c2), (.int c1), (.int c0), (.int (0 : Int32))])) rfl (by rw [hml]; rfl) (argsL := [(.int (0 : Int32)), (.int c0), (.int c1), (.int c2), (.int c3)]) (rest := []) (lenOf pd_LICCCCRLjava_lang_String_ rfl) rfl (by show 2 * 0 + _ ≤ _; exact Nat.le_of_eq rfl) (hb hby at_154) (fun _ _ => ⟨rfl, rfl, (by decide : 3 + 6 ≤ _), (by decide : 8 + 12 ≤ _)⟩)
      dsimp only [Pt.U, Pt.locs, Pt.cells, Pt.slots] at X19 l19 y19 z19 st19 hQ19 Sq19 gq19 cr19
      subst y19 z19
      obtain ⟨X19, S19, hZ19, hown19⟩ := rebS S0 ((Nat.le_trans kk0 Kq17.1)) X19 Sq19 gq19 hZ hown
      obtain ⟨b1q19, b2q2q3q19, kb2q2q3q19, rfl, Nq19, Kq19, p19_0, p19_1, p19_2, p19_3, p19_4⟩ := hQ19
      have O19_ : Ext Z.heap T19.heap := extKeep O17_ Kq19 all0
      have CR19 := CHr.trans CR17 cr19
      have N19_ : Fr Z.heap.size L19 := by rw [l19]; exact Fr.app N17_ Nq19
      have g_b1q19 : Z.heap.size ≤ b1q19 := Nat.le_trans O17_.1 p19_0
      refine Go.trans st19 ?_
      refine q_asL X19 hx hby at_157 rfl (l' := #[.val (.int x0), .val (.int x1), .val (.int x2), .val (.int x3), .val (.int x4), .val (.int (2 : Int32)), .val (.int c0), .val (.int c1), .val (.int c2), .val (.int c3), .val (.ref b1q17), .val (.int (0 : Int32)), .val (.ref b1q19), .unset]) rfl ?_
      refine q_aL X19 hx hby at_159 rfl rfl ?_
      obtain ⟨_, _, ⟨T20, L20, k20, n20⟩, -, X20, Sq20, gq20, ⟨Lc20, hQ20, l20, y20, z20, cr20⟩, st20⟩ := callSS X19 hx (y := (⟨"com/example/wary_lock/warylock/LockName", "root", "(Ljava/lang/String;)Ljava/lang/String;"⟩ : MethodName)) hown19 (mvT hZ19 (wd hw 29 rfl)) (mvT hZ19 (wd hw 30 rfl)) (mvT hZ19 (wd hw 31 rfl)) (mvT hZ19 (wd hw 32 rfl)) (by decide) (own_backH (W := 0) (rm_a6_3 l Z a0 hw [] cs sv GG b1q17 b1q3q2q7q17 k1q3q2q7q17 (((c0.toUInt32.toUInt16.toUInt32.toInt32).toInt8.toInt32).toInt8.toInt32) (((c1.toUInt32.toUInt16.toUInt32.toInt32).toInt8.toInt32).toInt8.toInt32) T19.heap O19_ (p17_1.keep Kq19) (p17_2.keep Kq19 nin0) (p17_3.keep Kq19 nin0) (p17_5.keep Kq19 nin0) (if_pos (he0.mpr hc60_18))) hZ19 (wd hw 32 rfl) (wd hw 31 rfl) (by decide) (by decide) hEL CR19.1 sg0) (g := (mkF m 161 #[.val (.int x0), .val (.int x1), .val (.int x2), .val (.int x3), .val (.int x4), .val (.int (2 : Int32)), .val (.int c0), .val (.int c1), .val (.int c2), .val (.int c3), .val (.ref b1q17), .val (.int (0 : Int32)), .val (.ref b1q19), .unset] [(.ref b1q17)])) rfl (by rw [hml]; rfl) (argsL := [(.ref b1q17)]) (rest := []) (lenOf pd_LLjava_lang_String_RLjava_lang_String_ rfl) rfl (by show 2 * 0 + _ ≤ _; exact Nat.le_of_eq rfl) (hb hby at_161) (fun _ _ => ⟨rfl, rfl, (by decide : 9 + 2 ≤ _), (by decide : 20 + 4 ≤ _)⟩)
      dsimp only [Pt.U, Pt.locs, Pt.cells, Pt.slots] at X20 l20 y20 z20 st20 hQ20 Sq20 gq20 cr20
      subst y20 z20
      obtain ⟨X20, S20, hZ20, hown20⟩ := rebS S19 ((Nat.le_refl _)) X20 Sq20 gq20 hZ19 hown19
      obtain ⟨a1q5q2q20, b1q5q2q20, kb1q5q2q20, rfl, Nq20, Kq20, p20_0, p20_1, p20_2, p20_3⟩ := hQ20
      have O20_ : Ext Z.heap T20.heap := extKeep O19_ Kq20 all0
      have CR20 := CHr.trans CR19 cr20
      have N20_ : Fr Z.heap.size L20 := by rw [l20]; exact Fr.app N19_ Nq20
      refine Go.trans st20 ?_
      refine q_asL X20 hx hby at_164 rfl (l' := #[.val (.int x0), .val (.int x1), .val (.int x2), .val (.int x3), .val (.int x4), .val (.int (2 : Int32)), .val (.int c0), .val (.int c1), .val (.int c2), .val (.int c3), .val (.ref b1q17), .val (.int (0 : Int32)), .val (.ref b1q19), .val (.ref a1q5q2q20)]) rfl ?_
      refine q_aL X20 hx hby at_166 rfl rfl ?_
      refine Go.step (fun _ kt_ => XS.ifnullNo X20.here hx rfl (hb hby at_168) rfl kt_) ?_
      refine q_aL X20 hx hby at_171 rfl rfl ?_
      refine q_aL X20 hx hby at_173 rfl rfl ?_
      refine q_cV [(.ref b1q19)] [] 0 X20 hx hZ20 hown20 (wd hw 73 rfl) (wd hw 74 rfl) (wd hw 76 rfl) (wd hw 75 rfl) (wd hw 77 rfl) (wd hw 9 rfl) (by decide) rfl p20_0 (rm_a16_1 l Z a0 hw [] cs sv GG a1q5q2q20 b1q19 (0 : Int32) (0 : Int32) b1q5q2q20 b2q2q3q19 kb1q5q2q20 kb2q2q3q19 T20.heap O20_ (p19_1.keep Kq20) p20_1 (p19_3.keep Kq20 nin0) (by decide) p20_2 (p19_2.keep Kq20 nin0) p20_3 (p19_4.keep Kq20 nin0)) hby hml rfl at_175 pd_LLjava_lang_Object_RZ rfl rfl (by decide) (by decide) (by decide) (by decide) ?_
      intro v21 T21 L21 Lc21 X21 hQ21 l21
      obtain ⟨rfl, Nq21, e21⟩ := hQ21
      have N21_ : Fr Z.heap.size L21 := by rw [l21]; exact Fr.app N20_ Nq21
      refine q_ifN X21 hx hby at_178 ((if0 _ _).trans (feq (by decide : ¬ ((1 : Int32) = (0 : Int32)))).1) ?_
      refine q_iC X21 hx hby at_181  ?_
      refine q_go 182 186 X21 hx hby rfl at_182 (by decide) (by decide) ?_
      exact Go.retNH (endH hh e21 X21 hZ20 hEL CR20) X21 S20 (by rw [e21]; exact (Nat.le_refl _)) hx (t := .boolean) hret (by simp) hlk (hb hby at_186) (by decide) (by decide) ⟨rfl, N21_, trivial⟩
    · refine q_icY 60 69 X17 hx hby rfl at_60 (feq hc60_18).2 (by decide) (by decide) ?_
      refine q_iL X17 hx hby at_69 rfl ?_
      refine q_iC X17 hx hby at_71  ?_
      refine q_icN X17 hx hby at_72 (tlt (by decide : (1 : Int32) < (2 : Int32))).2.2.2 ?_
      refine q_iL X17 hx hby at_75 rfl ?_
      refine q_bP X17 hx hby at_77  ?_
      by_cases hc79_22 : c1 = (47 : Int32)
      · refine q_icN X17 hx hby at_79 (teq hc79_22).2 ?_
        refine q_iC X17 hx hby at_82  ?_
        refine q_isL X17 hx hby at_83 (l' := #[.val (.int x0), .val (.int x1), .val (.int x2), .val (.int x3), .val (.int x4), .val (.int (2 : Int32)), .val (.int c0), .val (.int c1), .val (.int c2), .val (.int c3), .val (.ref b1q17), .val (.int (1 : Int32)), .unset, .unset]) rfl ?_
        show Go _ _ _ _ _ _ _ _ T17 (mkF m 85 #[.val (.int x0), .val (.int x1), .val (.int x2), .val (.int x3), .val (.int x4), .val (.int (2 : Int32)), .val (.int c0), .val (.int c1), .val (.int c2), .val (.int c3), .val (.ref b1q17), .val (.int (1 : Int32)), .unset, .unset] [])
        refine q_go 85 123 X17 hx hby rfl at_85 (by decide) (by decide) ?_
        refine q_iL X17 hx hby at_123 rfl ?_
        refine q_ifY 125 144 X17 hx hby rfl at_125 ((if0 _ _).trans (flt (by decide : ¬ ((1 : Int32) < (0 : Int32)))).2.1) (by decide) (by decide) ?_
        refine q_iL X17 hx hby at_144 rfl ?_
        refine q_iL X17 hx hby at_146 rfl ?_
        refine q_iL X17 hx hby at_148 rfl ?_
        refine q_iL X17 hx hby at_150 rfl ?_
        refine q_iL X17 hx hby at_152 rfl ?_
        refine q_cS [(.int (1 : Int32)), (.int c0), (.int c1), (.int c2), (.int c3)] [] 0 X17 hx hZ hown (wd hw 4 rfl) (wd hw 5 rfl) (wd hw 6 rfl) (wd hw 2 rfl) (by decide) rfl (rm_a2_1 l Z a0 hw [] cs sv GG (1 : Int32) c0 c1 c2 c3 T17.heap O17_ (by decide) (by decide) hl0) hby hml rfl at_154 pd_LICCCCRLjava_lang_String_ rfl rfl (by decide) (by decide) (by decide) (by decide) ?_
        intro v23 T23 L23 Lc23 X23 hQ23 l23
        obtain ⟨b1q23, b1q3q2q6q23, k1q3q2q6q23, rfl, Nq23, Kq23, p23_0, p23_1, p23_2, p23_3, p23_4, p23_5, p23_6⟩ := hQ23
        have O23_ : Ext Z.heap T23.heap := extKeep O17_ Kq23 all0
        have CR23 := CHr.trans CR17 (CHr.keep Kq23 sf0 CR17.1)
        have N23_ : Fr Z.heap.size L23 := by rw [l23]; exact Fr.app N17_ Nq23
        have g_b1q23 : Z.heap.size ≤ b1q23 := Nat.le_trans O17_.1 p23_0
        have g_b1q3q2q6q23 : Z.heap.size ≤ b1q3q2q6q23 := Nat.le_trans O17_.1 p23_4
        refine q_asL X23 hx hby at_157 rfl (l' := #[.val (.int x0), .val (.int x1), .val (.int x2), .val (.int x3), .val (.int x4), .val (.int (2 : Int32)), .val (.int c0), .val (.int c1), .val (.int c2), .val (.int c3), .val (.ref b1q17), .val (.int (1 : Int32)), .val (.ref b1q23), .unset]) rfl ?_
        refine q_aL X23 hx hby at_159 rfl rfl ?_
        show Go _ _ _ _ _ _ _ _ T23 (mkF m 161 #[.val (.int x0), .val (.int x1), .val (.int x2), .val (.int x3), .val (.int x4), .val (.int (2 : Int32)), .val (.int c0), .val (.int c1), .val (.int c2), .val (.int c3), .val (.ref b1q17), .val (.int (1 : Int32)), .val (.ref b1q23), .unset] [(.ref b1q17)])
        refine q_cS [(.ref b1q17)] [] 0 X23 hx hZ hown (wd hw 29 rfl) (wd hw 30 rfl) (wd hw 32 rfl) (wd hw 31 rfl) (by decide) rfl (rm_a6_4 l Z a0 hw [] cs sv GG b1q17 b1q3q2q7q17 k1q3q2q7q17 (((c0.toUInt32.toUInt16.toUInt32.toInt32).toInt8.toInt32).toInt8.toInt32) (((c1.toUInt32.toUInt16.toUInt32.toInt32).toInt8.toInt32).toInt8.toInt32) T23.heap O23_ (p17_1.keep Kq23) (p17_2.keep Kq23 nin0) (p17_3.keep Kq23 nin0) (p17_5.keep Kq23 nin0) ((if_neg fun q => hc60_18 (he0.mp q)).trans (if_pos (he1.mpr hc79_22)))) hby hml rfl at_161 pd_LLjava_lang_String_RLjava_lang_String_ rfl rfl (by decide) (by decide) (by decide) (by decide) ?_
        intro v24 T24 L24 Lc24 X24 hQ24 l24
        obtain ⟨b1q5q2q24, b2q2q2q5q2q24, k2q2q2q5q2q24, rfl, Nq24, Kq24, p24_0, p24_1, p24_2, p24_3, p24_4, p24_5, p24_6⟩ := hQ24
        have O24_ : Ext Z.heap T24.heap := extKeep O23_ Kq24 all0
        have CR24 := CHr.trans CR23 (CHr.keep Kq24 sf0 CR23.1)
        have N24_ : Fr Z.heap.size L24 := by rw [l24]; exact Fr.app N23_ Nq24
        have g_b1q5q2q24 : Z.heap.size ≤ b1q5q2q24 := Nat.le_trans O23_.1 p24_0
        have g_b2q2q2q5q2q24 : Z.heap.size ≤ b2q2q2q5q2q24 := Nat.le_trans O23_.1 p24_4
        refine q_asL X24 hx hby at_164 rfl (l' := #[.val (.int x0), .val (.int x1), .val (.int x2), .val (.int x3), .val (.int x4), .val (.int (2 : Int32)), .val (.int c0), .val (.int c1), .val (.int c2), .val (.int c3), .val (.ref b1q17), .val (.int (1 : Int32)), .val (.ref b1q23), .val (.ref b1q5q2q24)]) rfl ?_
        refine q_aL X24 hx hby at_166 rfl rfl ?_
        refine Go.step (fun _ kt_ => XS.ifnullNo X24.here hx rfl (hb hby at_168) rfl kt_) ?_
        refine q_aL X24 hx hby at_171 rfl rfl ?_
        refine q_aL X24 hx hby at_173 rfl rfl ?_
        refine q_cV [(.ref b1q23)] [] 0 X24 hx hZ hown (wd hw 73 rfl) (wd hw 74 rfl) (wd hw 76 rfl) (wd hw 75 rfl) (wd hw 77 rfl) (wd hw 9 rfl) (by decide) rfl p24_1 (rm_a16_2 l Z a0 hw [] cs sv GG b1q5q2q24 b1q23 (0 : Int32) (0 : Int32) b2q2q2q5q2q24 b1q3q2q6q23 k2q2q2q5q2q24 (((c0.toUInt32.toUInt16.toUInt32.toInt32).toInt8.toInt32).toInt8.toInt32) k1q3q2q6q23 T24.heap O24_ (Ne.symm (Nat.ne_of_lt (Nat.lt_of_lt_of_le p23_1.lt p24_0))) (p23_1.keep Kq24) p24_3 (p23_2.keep Kq24 nin0) (by decide) p24_2 (p23_3.keep Kq24 nin0) p24_5 (p23_5.keep Kq24 nin0)) hby hml rfl at_175 pd_LLjava_lang_Object_RZ rfl rfl (by decide) (by decide) (by decide) (by decide) ?_
        intro v25 T25 L25 Lc25 X25 hQ25 l25
        obtain ⟨rfl, Nq25, e25⟩ := hQ25
        have N25_ : Fr Z.heap.size L25 := by rw [l25]; exact Fr.app N24_ Nq25
        refine q_ifN X25 hx hby at_178 ((if0 _ _).trans (feq (by decide : ¬ ((1 : Int32) = (0 : Int32)))).1) ?_
        refine q_iC X25 hx hby at_181  ?_
        refine q_go 182 186 X25 hx hby rfl at_182 (by decide) (by decide) ?_
        exact Go.retNH (endH hh e25 X25 hZ hEL CR24) X25 S0 (by rw [e25]; exact (Nat.le_trans (Nat.le_trans (Nat.le_trans kk0 Kq17.1) Kq23.1) Kq24.1)) hx (t := .boolean) hret (by simp) hlk (hb hby at_186) (by decide) (by decide) ⟨rfl, N25_, trivial⟩
      · refine q_icY 79 88 X17 hx hby rfl at_79 (feq hc79_22).2 (by decide) (by decide) ?_
        refine q_iL X17 hx hby at_88 rfl ?_
        refine q_iC X17 hx hby at_90  ?_
        show Go _ _ _ _ _ _ _ _ T17 (mkF m 91 #[.val (.int x0), .val (.int x1), .val (.int x2), .val (.int x3), .val (.int x4), .val (.int (2 : Int32)), .val (.int c0), .val (.int c1), .val (.int c2), .val (.int c3), .val (.ref b1q17), .val (.int (-1 : Int32)), .unset, .unset] [(.int (2 : Int32)), (.int (2 : Int32))])
        refine q_icY 91 107 X17 hx hby rfl at_91 (flt (by decide : ¬ ((2 : Int32) < (2 : Int32)))).2.2.2 (by decide) (by decide) ?_
        refine q_iL X17 hx hby at_107 rfl ?_
        refine q_iC X17 hx hby at_109  ?_
        refine q_icY 110 123 X17 hx hby rfl at_110 (flt (by decide : ¬ ((3 : Int32) < (2 : Int32)))).2.2.2 (by decide) (by decide) ?_
        refine q_iL X17 hx hby at_123 rfl ?_
        refine q_ifN X17 hx hby at_125 ((if0 _ _).trans (tlt (by decide : (-1 : Int32) < (0 : Int32))).2.1) ?_
        refine q_iL X17 hx hby at_128 rfl ?_
        refine q_iL X17 hx hby at_130 rfl ?_
        refine q_iL X17 hx hby at_132 rfl ?_
        refine q_iL X17 hx hby at_134 rfl ?_
        refine q_iL X17 hx hby at_136 rfl ?_
        show Go _ _ _ _ _ _ _ _ T17 (mkF m 138 #[.val (.int x0), .val (.int x1), .val (.int x2), .val (.int x3), .val (.int x4), .val (.int (2 : Int32)), .val (.int c0), .val (.int c1), .val (.int c2), .val (.int c3), .val (.ref b1q17), .val (.int (-1 : Int32)), .unset, .unset] [(.int c3), (.int c2), (.int c1), (.int c0), (.int (2 : Int32))])
        refine q_cS [(.int (2 : Int32)), (.int c0), (.int c1), (.int c2), (.int c3)] [] 0 X17 hx hZ hown (wd hw 4 rfl) (wd hw 5 rfl) (wd hw 6 rfl) (wd hw 2 rfl) (by decide) rfl (rm_a2_2 l Z a0 hw [] cs sv GG (2 : Int32) c0 c1 c2 c3 T17.heap O17_ (by decide) (by decide) (by decide) hl0 hl1) hby hml rfl at_138 pd_LICCCCRLjava_lang_String_ rfl rfl (by decide) (by decide) (by decide) (by decide) ?_
        intro v26 T26 L26 Lc26 X26 hQ26 l26
        obtain ⟨b1q26, b1q3q2q7q26, k1q3q2q7q26, rfl, Nq26, Kq26, p26_0, p26_1, p26_2, p26_3, p26_4, p26_5, p26_6⟩ := hQ26
        have O26_ : Ext Z.heap T26.heap := extKeep O17_ Kq26 all0
        have CR26 := CHr.trans CR17 (CHr.keep Kq26 sf0 CR17.1)
        have N26_ : Fr Z.heap.size L26 := by rw [l26]; exact Fr.app N17_ Nq26
        have g_b1q26 : Z.heap.size ≤ b1q26 := Nat.le_trans O17_.1 p26_0
        have g_b1q3q2q7q26 : Z.heap.size ≤ b1q3q2q7q26 := Nat.le_trans O17_.1 p26_4
        refine q_go 141 157 X26 hx hby rfl at_141 (by decide) (by decide) ?_
        refine q_asL X26 hx hby at_157 rfl (l' := #[.val (.int x0), .val (.int x1), .val (.int x2), .val (.int x3), .val (.int x4), .val (.int (2 : Int32)), .val (.int c0), .val (.int c1), .val (.int c2), .val (.int c3), .val (.ref b1q17), .val (.int (-1 : Int32)), .val (.ref b1q26), .unset]) rfl ?_
        refine q_aL X26 hx hby at_159 rfl rfl ?_
        refine q_cS [(.ref b1q17)] [] 0 X26 hx hZ hown (wd hw 29 rfl) (wd hw 30 rfl) (wd hw 32 rfl) (wd hw 31 rfl) (by decide) rfl (rm_a6_5 l Z a0 hw [] cs sv GG b1q17 b1q3q2q7q17 k1q3q2q7q17 (((c0.toUInt32.toUInt16.toUInt32.toInt32).toInt8.toInt32).toInt8.toInt32) (((c1.toUInt32.toUInt16.toUInt32.toInt32).toInt8.toInt32).toInt8.toInt32) T26.heap O26_ (p17_1.keep Kq26) (p17_2.keep Kq26 nin0) (p17_3.keep Kq26 nin0) (p17_5.keep Kq26 nin0) ((if_neg fun q => hc60_18 (he0.mp q)).trans (if_neg fun q => hc79_22 (he1.mp q)))) hby hml rfl at_161 pd_LLjava_lang_String_RLjava_lang_String_ rfl rfl (by decide) (by decide) (by decide) (by decide) ?_
        intro v27 T27 L27 Lc27 X27 hQ27 l27
        obtain ⟨rfl, Nq27, e27⟩ := hQ27
        have N27_ : Fr Z.heap.size L27 := by rw [l27]; exact Fr.app N26_ Nq27
        refine q_asL X27 hx hby at_164 rfl (l' := #[.val (.int x0), .val (.int x1), .val (.int x2), .val (.int x3), .val (.int x4), .val (.int (2 : Int32)), .val (.int c0), .val (.int c1), .val (.int c2), .val (.int c3), .val (.ref b1q17), .val (.int (-1 : Int32)), .val (.ref b1q26), .val (.ref b1q17)]) rfl ?_
        refine q_aL X27 hx hby at_166 rfl rfl ?_
        refine Go.step (fun _ kt_ => XS.ifnullNo X27.here hx rfl (hb hby at_168) rfl kt_) ?_
        refine q_aL X27 hx hby at_171 rfl rfl ?_
        refine q_aL X27 hx hby at_173 rfl rfl ?_
        refine q_cV [(.ref b1q26)] [] 0 X27 hx hZ hown (wd hw 73 rfl) (wd hw 74 rfl) (wd hw 76 rfl) (wd hw 75 rfl) (wd hw 77 rfl) (wd hw 9 rfl) (by decide) e27 (p17_1.keep Kq26) (rm_a16_3 l Z a0 hw [] cs sv GG b1q17 b1q26 (0 : Int32) (0 : Int32) b1q3q2q7q17 b1q3q2q7q26 k1q3q2q7q17 (((c0.toUInt32.toUInt16.toUInt32.toInt32).toInt8.toInt32).toInt8.toInt32) (((c1.toUInt32.toUInt16.toUInt32.toInt32).toInt8.toInt32).toInt8.toInt32) k1q3q2q7q26 T26.heap O26_ (Nat.ne_of_lt (Nat.lt_of_lt_of_le p17_1.lt p26_0)) p26_1 (p17_2.keep Kq26 nin0) p26_2 (by decide) (p17_3.keep Kq26 nin0) p26_3 (p17_5.keep Kq26 nin0) p26_5) hby hml rfl at_175 pd_LLjava_lang_Object_RZ rfl rfl (by decide) (by decide) (by decide) (by decide) ?_
        intro v28 T28 L28 Lc28 X28 hQ28 l28
        obtain ⟨rfl, Nq28, e28⟩ := hQ28
        have N28_ : Fr Z.heap.size L28 := by rw [l28]; exact Fr.app N27_ Nq28
        show Go _ _ _ _ _ _ _ _ T28 (mkF m 178 #[.val (.int x0), .val (.int x1), .val (.int x2), .val (.int x3), .val (.int x4), .val (.int (2 : Int32)), .val (.int c0), .val (.int c1), .val (.int c2), .val (.int c3), .val (.ref b1q17), .val (.int (-1 : Int32)), .val (.ref b1q26), .val (.ref b1q17)] [(.int (1 : Int32))])
        refine q_ifN X28 hx hby at_178 ((if0 _ _).trans (feq (by decide : ¬ ((1 : Int32) = (0 : Int32)))).1) ?_
        refine q_iC X28 hx hby at_181  ?_
        refine q_go 182 186 X28 hx hby rfl at_182 (by decide) (by decide) ?_
        exact Go.retNH (endH hh e28 X28 hZ hEL CR26) X28 S0 (by rw [e28]; exact (Nat.le_trans (Nat.le_trans kk0 Kq17.1) Kq26.1)) hx (t := .boolean) hret (by simp) hlk (hb hby at_186) (by decide) (by decide) ⟨rfl, N28_, trivial⟩
  · rw [hk]
    show Go _ _ _ _ _ _ _ _ T4 (mkF m 33 #[.val (.int x0), .val (.int x1), .val (.int x2), .val (.int x3), .val (.int x4), .val (.int (3 : Int32)), .val (.int c0), .val (.int c1), .val (.int c2), .val (.int c3), .unset, .unset, .unset, .unset] [])
    refine q_iL X4 hx hby at_33 rfl ?_
    refine q_iL X4 hx hby at_35 rfl ?_
    refine q_iL X4 hx hby at_37 rfl ?_
    refine q_iL X4 hx hby at_39 rfl ?_
    refine q_iL X4 hx hby at_41 rfl ?_
    refine q_cS [(.int (3 : Int32)), (.int c0), (.int c1), (.int c2), (.int c3)] [] 0 X4 hx hZ hown (wd hw 4 rfl) (wd hw 5 rfl) (wd hw 6 rfl) (wd hw 2 rfl) (by decide) e4 (rm_a2_3 l Z a0 hw [] cs sv GG (3 : Int32) c0 c1 c2 c3 h0 O0 (by decide) (by decide) (by decide) (by decide) hl0 hl1 hl2) hby hml rfl at_43 pd_LICCCCRLjava_lang_String_ rfl rfl (by decide) (by decide) (by decide) (by decide) ?_
    intro v29 T29 L29 Lc29 X29 hQ29 l29
    obtain ⟨b1q29, b1q3q2q9q29, k1q3q2q9q29, rfl, Nq29, Kq29, p29_0, p29_1, p29_2, p29_3, p29_4, p29_5, p29_6⟩ := hQ29
    have O29_ : Ext Z.heap T29.heap := extKeep O0 Kq29 all0
    have CR29 := CHr.trans CR0 (CHr.keep Kq29 sf0 CR0.1)
    have N29_ : Fr Z.heap.size L29 := by rw [l29]; exact Fr.app N4_ Nq29
    have g_b1q29 : Z.heap.size ≤ b1q29 := Nat.le_trans O0.1 p29_0
    have g_b1q3q2q9q29 : Z.heap.size ≤ b1q3q2q9q29 := Nat.le_trans O0.1 p29_4
    refine q_asL X29 hx hby at_46 rfl (l' := #[.val (.int x0), .val (.int x1), .val (.int x2), .val (.int x3), .val (.int x4), .val (.int (3 : Int32)), .val (.int c0), .val (.int c1), .val (.int c2), .val (.int c3), .val (.ref b1q29), .unset, .unset, .unset]) rfl ?_
    refine q_iC X29 hx hby at_48  ?_
    refine q_isL X29 hx hby at_49 (l' := #[.val (.int x0), .val (.int x1), .val (.int x2), .val (.int x3), .val (.int x4), .val (.int (3 : Int32)), .val (.int c0), .val (.int c1), .val (.int c2), .val (.int c3), .val (.ref b1q29), .val (.int (-1 : Int32)), .unset, .unset]) rfl ?_
    refine q_iL X29 hx hby at_51 rfl ?_
    refine q_ifN X29 hx hby at_53 ((if0 _ _).trans (tlt (by decide : (0 : Int32) < (3 : Int32))).2.2.2) ?_
    show Go _ _ _ _ _ _ _ _ T29 (mkF m 56 #[.val (.int x0), .val (.int x1), .val (.int x2), .val (.int x3), .val (.int x4), .val (.int (3 : Int32)), .val (.int c0), .val (.int c1), .val (.int c2), .val (.int c3), .val (.ref b1q29), .val (.int (-1 : Int32)), .unset, .unset] [])
    refine q_iL X29 hx hby at_56 rfl ?_
    refine q_bP X29 hx hby at_58  ?_
    by_cases hc60_30 : c0 = (47 : Int32)
    · refine q_icN X29 hx hby at_60 (teq hc60_30).2 ?_
      refine q_iC X29 hx hby at_63  ?_
      refine q_isL X29 hx hby at_64 (l' := #[.val (.int x0), .val (.int x1), .val (.int x2), .val (.int x3), .val (.int x4), .val (.int (3 : Int32)), .val (.int c0), .val (.int c1), .val (.int c2), .val (.int c3), .val (.ref b1q29), .val (.int (0 : Int32)), .unset, .unset]) rfl ?_
      refine q_go 66 123 X29 hx hby rfl at_66 (by decide) (by decide) ?_
      refine q_iL X29 hx hby at_123 rfl ?_
      refine q_ifY 125 144 X29 hx hby rfl at_125 ((if0 _ _).trans (flt (by decide : ¬ ((0 : Int32) < (0 : Int32)))).2.1) (by decide) (by decide) ?_
      refine q_iL X29 hx hby at_144 rfl ?_
      refine q_iL X29 hx hby at_146 rfl ?_
      refine q_iL X29 hx hby at_148 rfl ?_
      show Go _ _ _ _ _ _ _ _ T29 (mkF m 150 #[.val (.int x0), .val (.int x1), .val (.int x2), .val (.int x3), .val (.int x4), .val (.int (3 : Int32)), .val (.int c0), .val (.int c1), .val (.int c2), .val (.int c3), .val (.ref b1q29), .val (.int (0 : Int32)), .unset, .unset] [(.int c1), (.int c0), (.int (0 : Int32))])
      refine q_iL X29 hx hby at_150 rfl ?_
      refine q_iL X29 hx hby at_152 rfl ?_
      obtain ⟨_, _, ⟨T31, L31, k31, n31⟩, -, X31, Sq31, gq31, ⟨Lc31, hQ31, l31, y31, z31, cr31⟩, st31⟩ := callSS X29 hx (y := (⟨"com/example/wary_lock/warylock/LockNameRootPinLaw", "mk", "(ICCCC)Ljava/lang/String;"⟩ : MethodName)) hown (mvT hZ (wd hw 4 rfl)) (mvT hZ (wd hw 5 rfl)) (mvT hZ (wd hw 2 rfl)) (mvT hZ (wd hw 6 rfl)) (by decide) (own_backH (W := 0) (rm_a2_0 l Z a0 hw [] cs sv GG (0 : Int32) c0 c1 c2 c3 T29.heap O29_ (by decide)) hZ (wd hw 6 rfl) (wd hw 2 rfl) (by decide) (by decide) hEL CR29.1 sg0) (g := (mkF m 154 #[.val (.int x0), .val (.int x1), .val (.int x2), .val (.int x3), .val (.int x4), .val (.int (3 : Int32)), .val (.int c0), .val (.int c1), .val (.int c2), .val (.int c3), .val (.ref b1q29), .val (.int (0 : Int32)), .unset, .unset] [(.int c3), (.int c2), (.int c1), (.int c0), (.int (0 : Int32))])) rfl (by rw [hml]; rfl) (argsL := [(.int (0 : Int32)), (.int c0), (.int c1), (.int c2), (.int c3)]) (rest := []) (lenOf pd_LICCCCRLjava_lang_String_ rfl) rfl (by show 2 * 0 + _ ≤ _; exact Nat.le_of_eq rfl) (hb hby at_154) (fun _ _ => ⟨rfl, rfl, (by decide : 3 + 6 ≤ _), (by decide : 10 + 12 ≤ _)⟩)
      dsimp only [Pt.U, Pt.locs, Pt.cells, Pt.slots] at X31 l31 y31 z31 st31 hQ31 Sq31 gq31 cr31
      subst y31 z31
      obtain ⟨X31, S31, hZ31, hown31⟩ := rebS S0 ((Nat.le_trans kk0 Kq29.1)) X31 Sq31 gq31 hZ hown
      obtain ⟨b1q31, b2q2q3q31, kb2q2q3q31, rfl, Nq31, Kq31, p31_0, p31_1, p31_2, p31_3, p31_4⟩ := hQ31
      have O31_ : Ext Z.heap T31.heap := extKeep O29_ Kq31 all0
      have CR31 := CHr.trans CR29 cr31
      have N31_ : Fr Z.heap.size L31 := by rw [l31]; exact Fr.app N29_ Nq31
      have g_b1q31 : Z.heap.size ≤ b1q31 := Nat.le_trans O29_.1 p31_0
      refine Go.trans st31 ?_
      refine q_asL X31 hx hby at_157 rfl (l' := #[.val (.int x0), .val (.int x1), .val (.int x2), .val (.int x3), .val (.int x4), .val (.int (3 : Int32)), .val (.int c0), .val (.int c1), .val (.int c2), .val (.int c3), .val (.ref b1q29), .val (.int (0 : Int32)), .val (.ref b1q31), .unset]) rfl ?_
      refine q_aL X31 hx hby at_159 rfl rfl ?_
      obtain ⟨_, _, ⟨T32, L32, k32, n32⟩, -, X32, Sq32, gq32, ⟨Lc32, hQ32, l32, y32, z32, cr32⟩, st32⟩ := callSS X31 hx (y := (⟨"com/example/wary_lock/warylock/LockName", "root", "(Ljava/lang/String;)Ljava/lang/String;"⟩ : MethodName)) hown31 (mvT hZ31 (wd hw 29 rfl)) (mvT hZ31 (wd hw 30 rfl)) (mvT hZ31 (wd hw 31 rfl)) (mvT hZ31 (wd hw 32 rfl)) (by decide) (own_backH (W := 0) (rm_a6_6 l Z a0 hw [] cs sv GG b1q29 b1q3q2q9q29 k1q3q2q9q29 (((c0.toUInt32.toUInt16.toUInt32.toInt32).toInt8.toInt32).toInt8.toInt32) (((c1.toUInt32.toUInt16.toUInt32.toInt32).toInt8.toInt32).toInt8.toInt32) (((c2.toUInt32.toUInt16.toUInt32.toInt32).toInt8.toInt32).toInt8.toInt32) T31.heap O31_ (p29_1.keep Kq31) (p29_2.keep Kq31 nin0) (p29_3.keep Kq31 nin0) (p29_5.keep Kq31 nin0) (if_pos (he0.mpr hc60_30))) hZ31 (wd hw 32 rfl) (wd hw 31 rfl) (by decide) (by decide) hEL CR31.1 sg0) (g := (mkF m 161 #[.val (.int x0), .val (.int x1), .val (.int x2), .val (.int x3), .val (.int x4), .val (.int (3 : Int32)), .val (.int c0), .val (.int c1), .val (.int c2), .val (.int c3), .val (.ref b1q29), .val (.int (0 : Int32)), .val (.ref b1q31), .unset] [(.ref b1q29)])) rfl (by rw [hml]; rfl) (argsL := [(.ref b1q29)]) (rest := []) (lenOf pd_LLjava_lang_String_RLjava_lang_String_ rfl) rfl (by show 2 * 0 + _ ≤ _; exact Nat.le_of_eq rfl) (hb hby at_161) (fun _ _ => ⟨rfl, rfl, (by decide : 9 + 2 ≤ _), (by decide : 22 + 4 ≤ _)⟩)
      dsimp only [Pt.U, Pt.locs, Pt.cells, Pt.slots] at X32 l32 y32 z32 st32 hQ32 Sq32 gq32 cr32
      subst y32 z32
      obtain ⟨X32, S32, hZ32, hown32⟩ := rebS S31 ((Nat.le_refl _)) X32 Sq32 gq32 hZ31 hown31
      obtain ⟨a1q5q2q32, b1q5q2q32, kb1q5q2q32, rfl, Nq32, Kq32, p32_0, p32_1, p32_2, p32_3⟩ := hQ32
      have O32_ : Ext Z.heap T32.heap := extKeep O31_ Kq32 all0
      have CR32 := CHr.trans CR31 cr32
      have N32_ : Fr Z.heap.size L32 := by rw [l32]; exact Fr.app N31_ Nq32
      refine Go.trans st32 ?_
      refine q_asL X32 hx hby at_164 rfl (l' := #[.val (.int x0), .val (.int x1), .val (.int x2), .val (.int x3), .val (.int x4), .val (.int (3 : Int32)), .val (.int c0), .val (.int c1), .val (.int c2), .val (.int c3), .val (.ref b1q29), .val (.int (0 : Int32)), .val (.ref b1q31), .val (.ref a1q5q2q32)]) rfl ?_
      refine q_aL X32 hx hby at_166 rfl rfl ?_
      refine Go.step (fun _ kt_ => XS.ifnullNo X32.here hx rfl (hb hby at_168) rfl kt_) ?_
      refine q_aL X32 hx hby at_171 rfl rfl ?_
      refine q_aL X32 hx hby at_173 rfl rfl ?_
      refine q_cV [(.ref b1q31)] [] 0 X32 hx hZ32 hown32 (wd hw 73 rfl) (wd hw 74 rfl) (wd hw 76 rfl) (wd hw 75 rfl) (wd hw 77 rfl) (wd hw 9 rfl) (by decide) rfl p32_0 (rm_a16_1 l Z a0 hw [] cs sv GG a1q5q2q32 b1q31 (0 : Int32) (0 : Int32) b1q5q2q32 b2q2q3q31 kb1q5q2q32 kb2q2q3q31 T32.heap O32_ (p31_1.keep Kq32) p32_1 (p31_3.keep Kq32 nin0) (by decide) p32_2 (p31_2.keep Kq32 nin0) p32_3 (p31_4.keep Kq32 nin0)) hby hml rfl at_175 pd_LLjava_lang_Object_RZ rfl rfl (by decide) (by decide) (by decide) (by decide) ?_
      intro v33 T33 L33 Lc33 X33 hQ33 l33
      obtain ⟨rfl, Nq33, e33⟩ := hQ33
      have N33_ : Fr Z.heap.size L33 := by rw [l33]; exact Fr.app N32_ Nq33
      refine q_ifN X33 hx hby at_178 ((if0 _ _).trans (feq (by decide : ¬ ((1 : Int32) = (0 : Int32)))).1) ?_
      refine q_iC X33 hx hby at_181  ?_
      refine q_go 182 186 X33 hx hby rfl at_182 (by decide) (by decide) ?_
      exact Go.retNH (endH hh e33 X33 hZ32 hEL CR32) X33 S32 (by rw [e33]; exact (Nat.le_refl _)) hx (t := .boolean) hret (by simp) hlk (hb hby at_186) (by decide) (by decide) ⟨rfl, N33_, trivial⟩
    · refine q_icY 60 69 X29 hx hby rfl at_60 (feq hc60_30).2 (by decide) (by decide) ?_
      refine q_iL X29 hx hby at_69 rfl ?_
      refine q_iC X29 hx hby at_71  ?_
      refine q_icN X29 hx hby at_72 (tlt (by decide : (1 : Int32) < (3 : Int32))).2.2.2 ?_
      refine q_iL X29 hx hby at_75 rfl ?_
      refine q_bP X29 hx hby at_77  ?_
      by_cases hc79_34 : c1 = (47 : Int32)
      · refine q_icN X29 hx hby at_79 (teq hc79_34).2 ?_
        refine q_iC X29 hx hby at_82  ?_
        refine q_isL X29 hx hby at_83 (l' := #[.val (.int x0), .val (.int x1), .val (.int x2), .val (.int x3), .val (.int x4), .val (.int (3 : Int32)), .val (.int c0), .val (.int c1), .val (.int c2), .val (.int c3), .val (.ref b1q29), .val (.int (1 : Int32)), .unset, .unset]) rfl ?_
        show Go _ _ _ _ _ _ _ _ T29 (mkF m 85 #[.val (.int x0), .val (.int x1), .val (.int x2), .val (.int x3), .val (.int x4), .val (.int (3 : Int32)), .val (.int c0), .val (.int c1), .val (.int c2), .val (.int c3), .val (.ref b1q29), .val (.int (1 : Int32)), .unset, .unset] [])
        refine q_go 85 123 X29 hx hby rfl at_85 (by decide) (by decide) ?_
        refine q_iL X29 hx hby at_123 rfl ?_
        refine q_ifY 125 144 X29 hx hby rfl at_125 ((if0 _ _).trans (flt (by decide : ¬ ((1 : Int32) < (0 : Int32)))).2.1) (by decide) (by decide) ?_
        refine q_iL X29 hx hby at_144 rfl ?_
        refine q_iL X29 hx hby at_146 rfl ?_
        refine q_iL X29 hx hby at_148 rfl ?_
        refine q_iL X29 hx hby at_150 rfl ?_
        refine q_iL X29 hx hby at_152 rfl ?_
        refine q_cS [(.int (1 : Int32)), (.int c0), (.int c1), (.int c2), (.int c3)] [] 0 X29 hx hZ hown (wd hw 4 rfl) (wd hw 5 rfl) (wd hw 6 rfl) (wd hw 2 rfl) (by decide) rfl (rm_a2_1 l Z a0 hw [] cs sv GG (1 : Int32) c0 c1 c2 c3 T29.heap O29_ (by decide) (by decide) hl0) hby hml rfl at_154 pd_LICCCCRLjava_lang_String_ rfl rfl (by decide) (by decide) (by decide) (by decide) ?_
        intro v35 T35 L35 Lc35 X35 hQ35 l35
        obtain ⟨b1q35, b1q3q2q6q35, k1q3q2q6q35, rfl, Nq35, Kq35, p35_0, p35_1, p35_2, p35_3, p35_4, p35_5, p35_6⟩ := hQ35
        have O35_ : Ext Z.heap T35.heap := extKeep O29_ Kq35 all0
        have CR35 := CHr.trans CR29 (CHr.keep Kq35 sf0 CR29.1)
        have N35_ : Fr Z.heap.size L35 := by rw [l35]; exact Fr.app N29_ Nq35
        have g_b1q35 : Z.heap.size ≤ b1q35 := Nat.le_trans O29_.1 p35_0
        have g_b1q3q2q6q35 : Z.heap.size ≤ b1q3q2q6q35 := Nat.le_trans O29_.1 p35_4
        refine q_asL X35 hx hby at_157 rfl (l' := #[.val (.int x0), .val (.int x1), .val (.int x2), .val (.int x3), .val (.int x4), .val (.int (3 : Int32)), .val (.int c0), .val (.int c1), .val (.int c2), .val (.int c3), .val (.ref b1q29), .val (.int (1 : Int32)), .val (.ref b1q35), .unset]) rfl ?_
        refine q_aL X35 hx hby at_159 rfl rfl ?_
        show Go _ _ _ _ _ _ _ _ T35 (mkF m 161 #[.val (.int x0), .val (.int x1), .val (.int x2), .val (.int x3), .val (.int x4), .val (.int (3 : Int32)), .val (.int c0), .val (.int c1), .val (.int c2), .val (.int c3), .val (.ref b1q29), .val (.int (1 : Int32)), .val (.ref b1q35), .unset] [(.ref b1q29)])
        refine q_cS [(.ref b1q29)] [] 0 X35 hx hZ hown (wd hw 29 rfl) (wd hw 30 rfl) (wd hw 32 rfl) (wd hw 31 rfl) (by decide) rfl (rm_a6_7 l Z a0 hw [] cs sv GG b1q29 b1q3q2q9q29 k1q3q2q9q29 (((c0.toUInt32.toUInt16.toUInt32.toInt32).toInt8.toInt32).toInt8.toInt32) (((c1.toUInt32.toUInt16.toUInt32.toInt32).toInt8.toInt32).toInt8.toInt32) (((c2.toUInt32.toUInt16.toUInt32.toInt32).toInt8.toInt32).toInt8.toInt32) T35.heap O35_ (p29_1.keep Kq35) (p29_2.keep Kq35 nin0) (p29_3.keep Kq35 nin0) (p29_5.keep Kq35 nin0) ((if_neg fun q => hc60_30 (he0.mp q)).trans (if_pos (he1.mpr hc79_34)))) hby hml rfl at_161 pd_LLjava_lang_String_RLjava_lang_String_ rfl rfl (by decide) (by decide) (by decide) (by decide) ?_
        intro v36 T36 L36 Lc36 X36 hQ36 l36
        obtain ⟨b1q5q2q36, b2q2q2q5q2q36, k2q2q2q5q2q36, rfl, Nq36, Kq36, p36_0, p36_1, p36_2, p36_3, p36_4, p36_5, p36_6⟩ := hQ36
        have O36_ : Ext Z.heap T36.heap := extKeep O35_ Kq36 all0
        have CR36 := CHr.trans CR35 (CHr.keep Kq36 sf0 CR35.1)
        have N36_ : Fr Z.heap.size L36 := by rw [l36]; exact Fr.app N35_ Nq36
        have g_b1q5q2q36 : Z.heap.size ≤ b1q5q2q36 := Nat.le_trans O35_.1 p36_0
        have g_b2q2q2q5q2q36 : Z.heap.size ≤ b2q2q2q5q2q36 := Nat.le_trans O35_.1 p36_4
        refine q_asL X36 hx hby at_164 rfl (l' := #[.val (.int x0), .val (.int x1), .val (.int x2), .val (.int x3), .val (.int x4), .val (.int (3 : Int32)), .val (.int c0), .val (.int c1), .val (.int c2), .val (.int c3), .val (.ref b1q29), .val (.int (1 : Int32)), .val (.ref b1q35), .val (.ref b1q5q2q36)]) rfl ?_
        refine q_aL X36 hx hby at_166 rfl rfl ?_
        refine Go.step (fun _ kt_ => XS.ifnullNo X36.here hx rfl (hb hby at_168) rfl kt_) ?_
        refine q_aL X36 hx hby at_171 rfl rfl ?_
        refine q_aL X36 hx hby at_173 rfl rfl ?_
        refine q_cV [(.ref b1q35)] [] 0 X36 hx hZ hown (wd hw 73 rfl) (wd hw 74 rfl) (wd hw 76 rfl) (wd hw 75 rfl) (wd hw 77 rfl) (wd hw 9 rfl) (by decide) rfl p36_1 (rm_a16_2 l Z a0 hw [] cs sv GG b1q5q2q36 b1q35 (0 : Int32) (0 : Int32) b2q2q2q5q2q36 b1q3q2q6q35 k2q2q2q5q2q36 (((c0.toUInt32.toUInt16.toUInt32.toInt32).toInt8.toInt32).toInt8.toInt32) k1q3q2q6q35 T36.heap O36_ (Ne.symm (Nat.ne_of_lt (Nat.lt_of_lt_of_le p35_1.lt p36_0))) (p35_1.keep Kq36) p36_3 (p35_2.keep Kq36 nin0) (by decide) p36_2 (p35_3.keep Kq36 nin0) p36_5 (p35_5.keep Kq36 nin0)) hby hml rfl at_175 pd_LLjava_lang_Object_RZ rfl rfl (by decide) (by decide) (by decide) (by decide) ?_
        intro v37 T37 L37 Lc37 X37 hQ37 l37
        obtain ⟨rfl, Nq37, e37⟩ := hQ37
        have N37_ : Fr Z.heap.size L37 := by rw [l37]; exact Fr.app N36_ Nq37
        refine q_ifN X37 hx hby at_178 ((if0 _ _).trans (feq (by decide : ¬ ((1 : Int32) = (0 : Int32)))).1) ?_
        refine q_iC X37 hx hby at_181  ?_
        refine q_go 182 186 X37 hx hby rfl at_182 (by decide) (by decide) ?_
        exact Go.retNH (endH hh e37 X37 hZ hEL CR36) X37 S0 (by rw [e37]; exact (Nat.le_trans (Nat.le_trans (Nat.le_trans kk0 Kq29.1) Kq35.1) Kq36.1)) hx (t := .boolean) hret (by simp) hlk (hb hby at_186) (by decide) (by decide) ⟨rfl, N37_, trivial⟩
      · refine q_icY 79 88 X29 hx hby rfl at_79 (feq hc79_34).2 (by decide) (by decide) ?_
        refine q_iL X29 hx hby at_88 rfl ?_
        refine q_iC X29 hx hby at_90  ?_
        show Go _ _ _ _ _ _ _ _ T29 (mkF m 91 #[.val (.int x0), .val (.int x1), .val (.int x2), .val (.int x3), .val (.int x4), .val (.int (3 : Int32)), .val (.int c0), .val (.int c1), .val (.int c2), .val (.int c3), .val (.ref b1q29), .val (.int (-1 : Int32)), .unset, .unset] [(.int (2 : Int32)), (.int (3 : Int32))])
        refine q_icN X29 hx hby at_91 (tlt (by decide : (2 : Int32) < (3 : Int32))).2.2.2 ?_
        refine q_iL X29 hx hby at_94 rfl ?_
        refine q_bP X29 hx hby at_96  ?_
        by_cases hc98_38 : c2 = (47 : Int32)
        · refine q_icN X29 hx hby at_98 (teq hc98_38).2 ?_
          refine q_iC X29 hx hby at_101  ?_
          refine q_isL X29 hx hby at_102 (l' := #[.val (.int x0), .val (.int x1), .val (.int x2), .val (.int x3), .val (.int x4), .val (.int (3 : Int32)), .val (.int c0), .val (.int c1), .val (.int c2), .val (.int c3), .val (.ref b1q29), .val (.int (2 : Int32)), .unset, .unset]) rfl ?_
          refine q_go 104 123 X29 hx hby rfl at_104 (by decide) (by decide) ?_
          refine q_iL X29 hx hby at_123 rfl ?_
          refine q_ifY 125 144 X29 hx hby rfl at_125 ((if0 _ _).trans (flt (by decide : ¬ ((2 : Int32) < (0 : Int32)))).2.1) (by decide) (by decide) ?_
          refine q_iL X29 hx hby at_144 rfl ?_
          refine q_iL X29 hx hby at_146 rfl ?_
          show Go _ _ _ _ _ _ _ _ T29 (mkF m 148 #[.val (.int x0), .val (.int x1), .val (.int x2), .val (.int x3), .val (.int x4), .val (.int (3 : Int32)), .val (.int c0), .val (.int c1), .val (.int c2), .val (.int c3), .val (.ref b1q29), .val (.int (2 : Int32)), .unset, .unset] [(.int c0), (.int (2 : Int32))])
          refine q_iL X29 hx hby at_148 rfl ?_
          refine q_iL X29 hx hby at_150 rfl ?_
          refine q_iL X29 hx hby at_152 rfl ?_
          refine q_cS [(.int (2 : Int32)), (.int c0), (.int c1), (.int c2), (.int c3)] [] 0 X29 hx hZ hown (wd hw 4 rfl) (wd hw 5 rfl) (wd hw 6 rfl) (wd hw 2 rfl) (by decide) rfl (rm_a2_2 l Z a0 hw [] cs sv GG (2 : Int32) c0 c1 c2 c3 T29.heap O29_ (by decide) (by decide) (by decide) hl0 hl1) hby hml rfl at_154 pd_LICCCCRLjava_lang_String_ rfl rfl (by decide) (by decide) (by decide) (by decide) ?_
          intro v39 T39 L39 Lc39 X39 hQ39 l39
          obtain ⟨b1q39, b1q3q2q7q39, k1q3q2q7q39, rfl, Nq39, Kq39, p39_0, p39_1, p39_2, p39_3, p39_4, p39_5, p39_6⟩ := hQ39
          have O39_ : Ext Z.heap T39.heap := extKeep O29_ Kq39 all0
          have CR39 := CHr.trans CR29 (CHr.keep Kq39 sf0 CR29.1)
          have N39_ : Fr Z.heap.size L39 := by rw [l39]; exact Fr.app N29_ Nq39
          have g_b1q39 : Z.heap.size ≤ b1q39 := Nat.le_trans O29_.1 p39_0
          have g_b1q3q2q7q39 : Z.heap.size ≤ b1q3q2q7q39 := Nat.le_trans O29_.1 p39_4
          refine q_asL X39 hx hby at_157 rfl (l' := #[.val (.int x0), .val (.int x1), .val (.int x2), .val (.int x3), .val (.int x4), .val (.int (3 : Int32)), .val (.int c0), .val (.int c1), .val (.int c2), .val (.int c3), .val (.ref b1q29), .val (.int (2 : Int32)), .val (.ref b1q39), .unset]) rfl ?_
          refine q_aL X39 hx hby at_159 rfl rfl ?_
          refine q_cS [(.ref b1q29)] [] 0 X39 hx hZ hown (wd hw 29 rfl) (wd hw 30 rfl) (wd hw 32 rfl) (wd hw 31 rfl) (by decide) rfl (rm_a6_8 l Z a0 hw [] cs sv GG b1q29 b1q3q2q9q29 k1q3q2q9q29 (((c0.toUInt32.toUInt16.toUInt32.toInt32).toInt8.toInt32).toInt8.toInt32) (((c1.toUInt32.toUInt16.toUInt32.toInt32).toInt8.toInt32).toInt8.toInt32) (((c2.toUInt32.toUInt16.toUInt32.toInt32).toInt8.toInt32).toInt8.toInt32) T39.heap O39_ (p29_1.keep Kq39) (p29_2.keep Kq39 nin0) (p29_3.keep Kq39 nin0) (p29_5.keep Kq39 nin0) ((if_neg fun q => hc60_30 (he0.mp q)).trans ((if_neg fun q => hc79_34 (he1.mp q)).trans (if_pos (he2.mpr hc98_38))))) hby hml rfl at_161 pd_LLjava_lang_String_RLjava_lang_String_ rfl rfl (by decide) (by decide) (by decide) (by decide) ?_
          intro v40 T40 L40 Lc40 X40 hQ40 l40
          obtain ⟨b1q5q2q40, b2q2q2q5q2q40, k2q2q2q5q2q40, rfl, Nq40, Kq40, p40_0, p40_1, p40_2, p40_3, p40_4, p40_5, p40_6⟩ := hQ40
          have O40_ : Ext Z.heap T40.heap := extKeep O39_ Kq40 all0
          have CR40 := CHr.trans CR39 (CHr.keep Kq40 sf0 CR39.1)
          have N40_ : Fr Z.heap.size L40 := by rw [l40]; exact Fr.app N39_ Nq40
          have g_b1q5q2q40 : Z.heap.size ≤ b1q5q2q40 := Nat.le_trans O39_.1 p40_0
          have g_b2q2q2q5q2q40 : Z.heap.size ≤ b2q2q2q5q2q40 := Nat.le_trans O39_.1 p40_4
          refine q_asL X40 hx hby at_164 rfl (l' := #[.val (.int x0), .val (.int x1), .val (.int x2), .val (.int x3), .val (.int x4), .val (.int (3 : Int32)), .val (.int c0), .val (.int c1), .val (.int c2), .val (.int c3), .val (.ref b1q29), .val (.int (2 : Int32)), .val (.ref b1q39), .val (.ref b1q5q2q40)]) rfl ?_
          refine q_aL X40 hx hby at_166 rfl rfl ?_
          refine Go.step (fun _ kt_ => XS.ifnullNo X40.here hx rfl (hb hby at_168) rfl kt_) ?_
          refine q_aL X40 hx hby at_171 rfl rfl ?_
          show Go _ _ _ _ _ _ _ _ T40 (mkF m 173 #[.val (.int x0), .val (.int x1), .val (.int x2), .val (.int x3), .val (.int x4), .val (.int (3 : Int32)), .val (.int c0), .val (.int c1), .val (.int c2), .val (.int c3), .val (.ref b1q29), .val (.int (2 : Int32)), .val (.ref b1q39), .val (.ref b1q5q2q40)] [(.ref b1q5q2q40)])
          refine q_aL X40 hx hby at_173 rfl rfl ?_
          refine q_cV [(.ref b1q39)] [] 0 X40 hx hZ hown (wd hw 73 rfl) (wd hw 74 rfl) (wd hw 76 rfl) (wd hw 75 rfl) (wd hw 77 rfl) (wd hw 9 rfl) (by decide) rfl p40_1 (rm_a16_3 l Z a0 hw [] cs sv GG b1q5q2q40 b1q39 (0 : Int32) (0 : Int32) b2q2q2q5q2q40 b1q3q2q7q39 k2q2q2q5q2q40 (((c0.toUInt32.toUInt16.toUInt32.toInt32).toInt8.toInt32).toInt8.toInt32) (((c1.toUInt32.toUInt16.toUInt32.toInt32).toInt8.toInt32).toInt8.toInt32) k1q3q2q7q39 T40.heap O40_ (Ne.symm (Nat.ne_of_lt (Nat.lt_of_lt_of_le p39_1.lt p40_0))) (p39_1.keep Kq40) p40_3 (p39_2.keep Kq40 nin0) (by decide) p40_2 (p39_3.keep Kq40 nin0) p40_5 (p39_5.keep Kq40 nin0)) hby hml rfl at_175 pd_LLjava_lang_Object_RZ rfl rfl (by decide) (by decide) (by decide) (by decide) ?_
          intro v41 T41 L41 Lc41 X41 hQ41 l41
          obtain ⟨rfl, Nq41, e41⟩ := hQ41
          have N41_ : Fr Z.heap.size L41 := by rw [l41]; exact Fr.app N40_ Nq41
          refine q_ifN X41 hx hby at_178 ((if0 _ _).trans (feq (by decide : ¬ ((1 : Int32) = (0 : Int32)))).1) ?_
          refine q_iC X41 hx hby at_181  ?_
          refine q_go 182 186 X41 hx hby rfl at_182 (by decide) (by decide) ?_
          exact Go.retNH (endH hh e41 X41 hZ hEL CR40) X41 S0 (by rw [e41]; exact (Nat.le_trans (Nat.le_trans (Nat.le_trans kk0 Kq29.1) Kq39.1) Kq40.1)) hx (t := .boolean) hret (by simp) hlk (hb hby at_186) (by decide) (by decide) ⟨rfl, N41_, trivial⟩
        · refine q_icY 98 107 X29 hx hby rfl at_98 (feq hc98_38).2 (by decide) (by decide) ?_
          refine q_iL X29 hx hby at_107 rfl ?_
          refine q_iC X29 hx hby at_109  ?_
          refine q_icY 110 123 X29 hx hby rfl at_110 (flt (by decide : ¬ ((3 : Int32) < (3 : Int32)))).2.2.2 (by decide) (by decide) ?_
          refine q_iL X29 hx hby at_123 rfl ?_
          refine q_ifN X29 hx hby at_125 ((if0 _ _).trans (tlt (by decide : (-1 : Int32) < (0 : Int32))).2.1) ?_
          refine q_iL X29 hx hby at_128 rfl ?_
          refine q_iL X29 hx hby at_130 rfl ?_
          show Go _ _ _ _ _ _ _ _ T29 (mkF m 132 #[.val (.int x0), .val (.int x1), .val (.int x2), .val (.int x3), .val (.int x4), .val (.int (3 : Int32)), .val (.int c0), .val (.int c1), .val (.int c2), .val (.int c3), .val (.ref b1q29), .val (.int (-1 : Int32)), .unset, .unset] [(.int c0), (.int (3 : Int32))])
          refine q_iL X29 hx hby at_132 rfl ?_
          refine q_iL X29 hx hby at_134 rfl ?_
          refine q_iL X29 hx hby at_136 rfl ?_
          refine q_cS [(.int (3 : Int32)), (.int c0), (.int c1), (.int c2), (.int c3)] [] 0 X29 hx hZ hown (wd hw 4 rfl) (wd hw 5 rfl) (wd hw 6 rfl) (wd hw 2 rfl) (by decide) rfl (rm_a2_3 l Z a0 hw [] cs sv GG (3 : Int32) c0 c1 c2 c3 T29.heap O29_ (by decide) (by decide) (by decide) (by decide) hl0 hl1 hl2) hby hml rfl at_138 pd_LICCCCRLjava_lang_String_ rfl rfl (by decide) (by decide) (by decide) (by decide) ?_
          intro v42 T42 L42 Lc42 X42 hQ42 l42
          obtain ⟨b1q42, b1q3q2q9q42, k1q3q2q9q42, rfl, Nq42, Kq42, p42_0, p42_1, p42_2, p42_3, p42_4, p42_5, p42_6⟩ := hQ42
          have O42_ : Ext Z.heap T42.heap := extKeep O29_ Kq42 all0
          have CR42 := CHr.trans CR29 (CHr.keep Kq42 sf0 CR29.1)
          have N42_ : Fr Z.heap.size L42 := by rw [l42]; exact Fr.app N29_ Nq42
          have g_b1q42 : Z.heap.size ≤ b1q42 := Nat.le_trans O29_.1 p42_0
          have g_b1q3q2q9q42 : Z.heap.size ≤ b1q3q2q9q42 := Nat.le_trans O29_.1 p42_4
          refine q_go 141 157 X42 hx hby rfl at_141 (by decide) (by decide) ?_
          refine q_asL X42 hx hby at_157 rfl (l' := #[.val (.int x0), .val (.int x1), .val (.int x2), .val (.int x3), .val (.int x4), .val (.int (3 : Int32)), .val (.int c0), .val (.int c1), .val (.int c2), .val (.int c3), .val (.ref b1q29), .val (.int (-1 : Int32)), .val (.ref b1q42), .unset]) rfl ?_
          refine q_aL X42 hx hby at_159 rfl rfl ?_
          refine q_cS [(.ref b1q29)] [] 0 X42 hx hZ hown (wd hw 29 rfl) (wd hw 30 rfl) (wd hw 32 rfl) (wd hw 31 rfl) (by decide) rfl (rm_a6_9 l Z a0 hw [] cs sv GG b1q29 b1q3q2q9q29 k1q3q2q9q29 (((c0.toUInt32.toUInt16.toUInt32.toInt32).toInt8.toInt32).toInt8.toInt32) (((c1.toUInt32.toUInt16.toUInt32.toInt32).toInt8.toInt32).toInt8.toInt32) (((c2.toUInt32.toUInt16.toUInt32.toInt32).toInt8.toInt32).toInt8.toInt32) T42.heap O42_ (p29_1.keep Kq42) (p29_2.keep Kq42 nin0) (p29_3.keep Kq42 nin0) (p29_5.keep Kq42 nin0) ((if_neg fun q => hc60_30 (he0.mp q)).trans ((if_neg fun q => hc79_34 (he1.mp q)).trans (if_neg fun q => hc98_38 (he2.mp q))))) hby hml rfl at_161 pd_LLjava_lang_String_RLjava_lang_String_ rfl rfl (by decide) (by decide) (by decide) (by decide) ?_
          intro v43 T43 L43 Lc43 X43 hQ43 l43
          obtain ⟨rfl, Nq43, e43⟩ := hQ43
          have N43_ : Fr Z.heap.size L43 := by rw [l43]; exact Fr.app N42_ Nq43
          refine q_asL X43 hx hby at_164 rfl (l' := #[.val (.int x0), .val (.int x1), .val (.int x2), .val (.int x3), .val (.int x4), .val (.int (3 : Int32)), .val (.int c0), .val (.int c1), .val (.int c2), .val (.int c3), .val (.ref b1q29), .val (.int (-1 : Int32)), .val (.ref b1q42), .val (.ref b1q29)]) rfl ?_
          refine q_aL X43 hx hby at_166 rfl rfl ?_
          refine Go.step (fun _ kt_ => XS.ifnullNo X43.here hx rfl (hb hby at_168) rfl kt_) ?_
          show Go _ _ _ _ _ _ _ _ T43 (mkF m 171 #[.val (.int x0), .val (.int x1), .val (.int x2), .val (.int x3), .val (.int x4), .val (.int (3 : Int32)), .val (.int c0), .val (.int c1), .val (.int c2), .val (.int c3), .val (.ref b1q29), .val (.int (-1 : Int32)), .val (.ref b1q42), .val (.ref b1q29)] [])
          refine q_aL X43 hx hby at_171 rfl rfl ?_
          refine q_aL X43 hx hby at_173 rfl rfl ?_
          refine q_cV [(.ref b1q42)] [] 0 X43 hx hZ hown (wd hw 73 rfl) (wd hw 74 rfl) (wd hw 76 rfl) (wd hw 75 rfl) (wd hw 77 rfl) (wd hw 9 rfl) (by decide) e43 (p29_1.keep Kq42) (rm_a16_4 l Z a0 hw [] cs sv GG b1q29 b1q42 (0 : Int32) (0 : Int32) b1q3q2q9q29 b1q3q2q9q42 k1q3q2q9q29 (((c0.toUInt32.toUInt16.toUInt32.toInt32).toInt8.toInt32).toInt8.toInt32) (((c1.toUInt32.toUInt16.toUInt32.toInt32).toInt8.toInt32).toInt8.toInt32) (((c2.toUInt32.toUInt16.toUInt32.toInt32).toInt8.toInt32).toInt8.toInt32) k1q3q2q9q42 T42.heap O42_ (Nat.ne_of_lt (Nat.lt_of_lt_of_le p29_1.lt p42_0)) p42_1 (p29_2.keep Kq42 nin0) p42_2 (by decide) (p29_3.keep Kq42 nin0) p42_3 (p29_5.keep Kq42 nin0) p42_5) hby hml rfl at_175 pd_LLjava_lang_Object_RZ rfl rfl (by decide) (by decide) (by decide) (by decide) ?_
          intro v44 T44 L44 Lc44 X44 hQ44 l44
          obtain ⟨rfl, Nq44, e44⟩ := hQ44
          have N44_ : Fr Z.heap.size L44 := by rw [l44]; exact Fr.app N43_ Nq44
          refine q_ifN X44 hx hby at_178 ((if0 _ _).trans (feq (by decide : ¬ ((1 : Int32) = (0 : Int32)))).1) ?_
          refine q_iC X44 hx hby at_181  ?_
          refine q_go 182 186 X44 hx hby rfl at_182 (by decide) (by decide) ?_
          exact Go.retNH (endH hh e44 X44 hZ hEL CR42) X44 S0 (by rw [e44]; exact (Nat.le_trans (Nat.le_trans kk0 Kq29.1) Kq42.1)) hx (t := .boolean) hret (by simp) hlk (hb hby at_186) (by decide) (by decide) ⟨rfl, N44_, trivial⟩
  · rw [hk]
    show Go _ _ _ _ _ _ _ _ T4 (mkF m 33 #[.val (.int x0), .val (.int x1), .val (.int x2), .val (.int x3), .val (.int x4), .val (.int (4 : Int32)), .val (.int c0), .val (.int c1), .val (.int c2), .val (.int c3), .unset, .unset, .unset, .unset] [])
    refine q_iL X4 hx hby at_33 rfl ?_
    refine q_iL X4 hx hby at_35 rfl ?_
    refine q_iL X4 hx hby at_37 rfl ?_
    refine q_iL X4 hx hby at_39 rfl ?_
    refine q_iL X4 hx hby at_41 rfl ?_
    refine q_cS [(.int (4 : Int32)), (.int c0), (.int c1), (.int c2), (.int c3)] [] 0 X4 hx hZ hown (wd hw 4 rfl) (wd hw 5 rfl) (wd hw 6 rfl) (wd hw 2 rfl) (by decide) e4 (rm_a2_4 l Z a0 hw [] cs sv GG (4 : Int32) c0 c1 c2 c3 h0 O0 (by decide) (by decide) (by decide) (by decide) hl0 hl1 hl2 hl3) hby hml rfl at_43 pd_LICCCCRLjava_lang_String_ rfl rfl (by decide) (by decide) (by decide) (by decide) ?_
    intro v45 T45 L45 Lc45 X45 hQ45 l45
    obtain ⟨b1q45, b1q3q2q12q45, k1q3q2q12q45, rfl, Nq45, Kq45, p45_0, p45_1, p45_2, p45_3, p45_4, p45_5, p45_6⟩ := hQ45
    have O45_ : Ext Z.heap T45.heap := extKeep O0 Kq45 all0
    have CR45 := CHr.trans CR0 (CHr.keep Kq45 sf0 CR0.1)
    have N45_ : Fr Z.heap.size L45 := by rw [l45]; exact Fr.app N4_ Nq45
    have g_b1q45 : Z.heap.size ≤ b1q45 := Nat.le_trans O0.1 p45_0
    have g_b1q3q2q12q45 : Z.heap.size ≤ b1q3q2q12q45 := Nat.le_trans O0.1 p45_4
    refine q_asL X45 hx hby at_46 rfl (l' := #[.val (.int x0), .val (.int x1), .val (.int x2), .val (.int x3), .val (.int x4), .val (.int (4 : Int32)), .val (.int c0), .val (.int c1), .val (.int c2), .val (.int c3), .val (.ref b1q45), .unset, .unset, .unset]) rfl ?_
    refine q_iC X45 hx hby at_48  ?_
    refine q_isL X45 hx hby at_49 (l' := #[.val (.int x0), .val (.int x1), .val (.int x2), .val (.int x3), .val (.int x4), .val (.int (4 : Int32)), .val (.int c0), .val (.int c1), .val (.int c2), .val (.int c3), .val (.ref b1q45), .val (.int (-1 : Int32)), .unset, .unset]) rfl ?_
    refine q_iL X45 hx hby at_51 rfl ?_
    refine q_ifN X45 hx hby at_53 ((if0 _ _).trans (tlt (by decide : (0 : Int32) < (4 : Int32))).2.2.2) ?_
    show Go _ _ _ _ _ _ _ _ T45 (mkF m 56 #[.val (.int x0), .val (.int x1), .val (.int x2), .val (.int x3), .val (.int x4), .val (.int (4 : Int32)), .val (.int c0), .val (.int c1), .val (.int c2), .val (.int c3), .val (.ref b1q45), .val (.int (-1 : Int32)), .unset, .unset] [])
    refine q_iL X45 hx hby at_56 rfl ?_
    refine q_bP X45 hx hby at_58  ?_
    by_cases hc60_46 : c0 = (47 : Int32)
    · refine q_icN X45 hx hby at_60 (teq hc60_46).2 ?_
      refine q_iC X45 hx hby at_63  ?_
      refine q_isL X45 hx hby at_64 (l' := #[.val (.int x0), .val (.int x1), .val (.int x2), .val (.int x3), .val (.int x4), .val (.int (4 : Int32)), .val (.int c0), .val (.int c1), .val (.int c2), .val (.int c3), .val (.ref b1q45), .val (.int (0 : Int32)), .unset, .unset]) rfl ?_
      refine q_go 66 123 X45 hx hby rfl at_66 (by decide) (by decide) ?_
      refine q_iL X45 hx hby at_123 rfl ?_
      refine q_ifY 125 144 X45 hx hby rfl at_125 ((if0 _ _).trans (flt (by decide : ¬ ((0 : Int32) < (0 : Int32)))).2.1) (by decide) (by decide) ?_
      refine q_iL X45 hx hby at_144 rfl ?_
      refine q_iL X45 hx hby at_146 rfl ?_
      refine q_iL X45 hx hby at_148 rfl ?_
      show Go _ _ _ _ _ _ _ _ T45 (mkF m 150 #[.val (.int x0), .val (.int x1), .val (.int x2), .val (.int x3), .val (.int x4), .val (.int (4 : Int32)), .val (.int c0), .val (.int c1), .val (.int c2), .val (.int c3), .val (.ref b1q45), .val (.int (0 : Int32)), .unset, .unset] [(.int c1), (.int c0), (.int (0 : Int32))])
      refine q_iL X45 hx hby at_150 rfl ?_
      refine q_iL X45 hx hby at_152 rfl ?_
      obtain ⟨_, _, ⟨T47, L47, k47, n47⟩, -, X47, Sq47, gq47, ⟨Lc47, hQ47, l47, y47, z47, cr47⟩, st47⟩ := callSS X45 hx (y := (⟨"com/example/wary_lock/warylock/LockNameRootPinLaw", "mk", "(ICCCC)Ljava/lang/String;"⟩ : MethodName)) hown (mvT hZ (wd hw 4 rfl)) (mvT hZ (wd hw 5 rfl)) (mvT hZ (wd hw 2 rfl)) (mvT hZ (wd hw 6 rfl)) (by decide) (own_backH (W := 0) (rm_a2_0 l Z a0 hw [] cs sv GG (0 : Int32) c0 c1 c2 c3 T45.heap O45_ (by decide)) hZ (wd hw 6 rfl) (wd hw 2 rfl) (by decide) (by decide) hEL CR45.1 sg0) (g := (mkF m 154 #[.val (.int x0), .val (.int x1), .val (.int x2), .val (.int x3), .val (.int x4), .val (.int (4 : Int32)), .val (.int c0), .val (.int c1), .val (.int c2), .val (.int c3), .val (.ref b1q45), .val (.int (0 : Int32)), .unset, .unset] [(.int c3), (.int c2), (.int c1), (.int c0), (.int (0 : Int32))])) rfl (by rw [hml]; rfl) (argsL := [(.int (0 : Int32)), (.int c0), (.int c1), (.int c2), (.int c3)]) (rest := []) (lenOf pd_LICCCCRLjava_lang_String_ rfl) rfl (by show 2 * 0 + _ ≤ _; exact Nat.le_of_eq rfl) (hb hby at_154) (fun _ _ => ⟨rfl, rfl, (by decide : 3 + 6 ≤ _), (by decide : 12 + 12 ≤ _)⟩)
      dsimp only [Pt.U, Pt.locs, Pt.cells, Pt.slots] at X47 l47 y47 z47 st47 hQ47 Sq47 gq47 cr47
      subst y47 z47
      obtain ⟨X47, S47, hZ47, hown47⟩ := rebS S0 ((Nat.le_trans kk0 Kq45.1)) X47 Sq47 gq47 hZ hown
      obtain ⟨b1q47, b2q2q3q47, kb2q2q3q47, rfl, Nq47, Kq47, p47_0, p47_1, p47_2, p47_3, p47_4⟩ := hQ47
      have O47_ : Ext Z.heap T47.heap := extKeep O45_ Kq47 all0
      have CR47 := CHr.trans CR45 cr47
      have N47_ : Fr Z.heap.size L47 := by rw [l47]; exact Fr.app N45_ Nq47
      have g_b1q47 : Z.heap.size ≤ b1q47 := Nat.le_trans O45_.1 p47_0
      refine Go.trans st47 ?_
      refine q_asL X47 hx hby at_157 rfl (l' := #[.val (.int x0), .val (.int x1), .val (.int x2), .val (.int x3), .val (.int x4), .val (.int (4 : Int32)), .val (.int c0), .val (.int c1), .val (.int c2), .val (.int c3), .val (.ref b1q45), .val (.int (0 : Int32)), .val (.ref b1q47), .unset]) rfl ?_
      refine q_aL X47 hx hby at_159 rfl rfl ?_
      obtain ⟨_, _, ⟨T48, L48, k48, n48⟩, -, X48, Sq48, gq48, ⟨Lc48, hQ48, l48, y48, z48, cr48⟩, st48⟩ := callSS X47 hx (y := (⟨"com/example/wary_lock/warylock/LockName", "root", "(Ljava/lang/String;)Ljava/lang/String;"⟩ : MethodName)) hown47 (mvT hZ47 (wd hw 29 rfl)) (mvT hZ47 (wd hw 30 rfl)) (mvT hZ47 (wd hw 31 rfl)) (mvT hZ47 (wd hw 32 rfl)) (by decide) (own_backH (W := 0) (rm_a6_10 l Z a0 hw [] cs sv GG b1q45 b1q3q2q12q45 k1q3q2q12q45 (((c0.toUInt32.toUInt16.toUInt32.toInt32).toInt8.toInt32).toInt8.toInt32) (((c1.toUInt32.toUInt16.toUInt32.toInt32).toInt8.toInt32).toInt8.toInt32) (((c2.toUInt32.toUInt16.toUInt32.toInt32).toInt8.toInt32).toInt8.toInt32) (((c3.toUInt32.toUInt16.toUInt32.toInt32).toInt8.toInt32).toInt8.toInt32) T47.heap O47_ (p45_1.keep Kq47) (p45_2.keep Kq47 nin0) (p45_3.keep Kq47 nin0) (p45_5.keep Kq47 nin0) (if_pos (he0.mpr hc60_46))) hZ47 (wd hw 32 rfl) (wd hw 31 rfl) (by decide) (by decide) hEL CR47.1 sg0) (g := (mkF m 161 #[.val (.int x0), .val (.int x1), .val (.int x2), .val (.int x3), .val (.int x4), .val (.int (4 : Int32)), .val (.int c0), .val (.int c1), .val (.int c2), .val (.int c3), .val (.ref b1q45), .val (.int (0 : Int32)), .val (.ref b1q47), .unset] [(.ref b1q45)])) rfl (by rw [hml]; rfl) (argsL := [(.ref b1q45)]) (rest := []) (lenOf pd_LLjava_lang_String_RLjava_lang_String_ rfl) rfl (by show 2 * 0 + _ ≤ _; exact Nat.le_of_eq rfl) (hb hby at_161) (fun _ _ => ⟨rfl, rfl, (by decide : 9 + 2 ≤ _), (by decide : 24 + 4 ≤ _)⟩)
      dsimp only [Pt.U, Pt.locs, Pt.cells, Pt.slots] at X48 l48 y48 z48 st48 hQ48 Sq48 gq48 cr48
      subst y48 z48
      obtain ⟨X48, S48, hZ48, hown48⟩ := rebS S47 ((Nat.le_refl _)) X48 Sq48 gq48 hZ47 hown47
      obtain ⟨a1q5q2q48, b1q5q2q48, kb1q5q2q48, rfl, Nq48, Kq48, p48_0, p48_1, p48_2, p48_3⟩ := hQ48
      have O48_ : Ext Z.heap T48.heap := extKeep O47_ Kq48 all0
      have CR48 := CHr.trans CR47 cr48
      have N48_ : Fr Z.heap.size L48 := by rw [l48]; exact Fr.app N47_ Nq48
      refine Go.trans st48 ?_
      refine q_asL X48 hx hby at_164 rfl (l' := #[.val (.int x0), .val (.int x1), .val (.int x2), .val (.int x3), .val (.int x4), .val (.int (4 : Int32)), .val (.int c0), .val (.int c1), .val (.int c2), .val (.int c3), .val (.ref b1q45), .val (.int (0 : Int32)), .val (.ref b1q47), .val (.ref a1q5q2q48)]) rfl ?_
      refine q_aL X48 hx hby at_166 rfl rfl ?_
      refine Go.step (fun _ kt_ => XS.ifnullNo X48.here hx rfl (hb hby at_168) rfl kt_) ?_
      refine q_aL X48 hx hby at_171 rfl rfl ?_
      refine q_aL X48 hx hby at_173 rfl rfl ?_
      refine q_cV [(.ref b1q47)] [] 0 X48 hx hZ48 hown48 (wd hw 73 rfl) (wd hw 74 rfl) (wd hw 76 rfl) (wd hw 75 rfl) (wd hw 77 rfl) (wd hw 9 rfl) (by decide) rfl p48_0 (rm_a16_1 l Z a0 hw [] cs sv GG a1q5q2q48 b1q47 (0 : Int32) (0 : Int32) b1q5q2q48 b2q2q3q47 kb1q5q2q48 kb2q2q3q47 T48.heap O48_ (p47_1.keep Kq48) p48_1 (p47_3.keep Kq48 nin0) (by decide) p48_2 (p47_2.keep Kq48 nin0) p48_3 (p47_4.keep Kq48 nin0)) hby hml rfl at_175 pd_LLjava_lang_Object_RZ rfl rfl (by decide) (by decide) (by decide) (by decide) ?_
      intro v49 T49 L49 Lc49 X49 hQ49 l49
      obtain ⟨rfl, Nq49, e49⟩ := hQ49
      have N49_ : Fr Z.heap.size L49 := by rw [l49]; exact Fr.app N48_ Nq49
      refine q_ifN X49 hx hby at_178 ((if0 _ _).trans (feq (by decide : ¬ ((1 : Int32) = (0 : Int32)))).1) ?_
      refine q_iC X49 hx hby at_181  ?_
      refine q_go 182 186 X49 hx hby rfl at_182 (by decide) (by decide) ?_
      exact Go.retNH (endH hh e49 X49 hZ48 hEL CR48) X49 S48 (by rw [e49]; exact (Nat.le_refl _)) hx (t := .boolean) hret (by simp) hlk (hb hby at_186) (by decide) (by decide) ⟨rfl, N49_, trivial⟩
    · refine q_icY 60 69 X45 hx hby rfl at_60 (feq hc60_46).2 (by decide) (by decide) ?_
      refine q_iL X45 hx hby at_69 rfl ?_
      refine q_iC X45 hx hby at_71  ?_
      refine q_icN X45 hx hby at_72 (tlt (by decide : (1 : Int32) < (4 : Int32))).2.2.2 ?_
      refine q_iL X45 hx hby at_75 rfl ?_
      refine q_bP X45 hx hby at_77  ?_
      by_cases hc79_50 : c1 = (47 : Int32)
      · refine q_icN X45 hx hby at_79 (teq hc79_50).2 ?_
        refine q_iC X45 hx hby at_82  ?_
        refine q_isL X45 hx hby at_83 (l' := #[.val (.int x0), .val (.int x1), .val (.int x2), .val (.int x3), .val (.int x4), .val (.int (4 : Int32)), .val (.int c0), .val (.int c1), .val (.int c2), .val (.int c3), .val (.ref b1q45), .val (.int (1 : Int32)), .unset, .unset]) rfl ?_
        show Go _ _ _ _ _ _ _ _ T45 (mkF m 85 #[.val (.int x0), .val (.int x1), .val (.int x2), .val (.int x3), .val (.int x4), .val (.int (4 : Int32)), .val (.int c0), .val (.int c1), .val (.int c2), .val (.int c3), .val (.ref b1q45), .val (.int (1 : Int32)), .unset, .unset] [])
        refine q_go 85 123 X45 hx hby rfl at_85 (by decide) (by decide) ?_
        refine q_iL X45 hx hby at_123 rfl ?_
        refine q_ifY 125 144 X45 hx hby rfl at_125 ((if0 _ _).trans (flt (by decide : ¬ ((1 : Int32) < (0 : Int32)))).2.1) (by decide) (by decide) ?_
        refine q_iL X45 hx hby at_144 rfl ?_
        refine q_iL X45 hx hby at_146 rfl ?_
        refine q_iL X45 hx hby at_148 rfl ?_
        refine q_iL X45 hx hby at_150 rfl ?_
        refine q_iL X45 hx hby at_152 rfl ?_
        refine q_cS [(.int (1 : Int32)), (.int c0), (.int c1), (.int c2), (.int c3)] [] 0 X45 hx hZ hown (wd hw 4 rfl) (wd hw 5 rfl) (wd hw 6 rfl) (wd hw 2 rfl) (by decide) rfl (rm_a2_1 l Z a0 hw [] cs sv GG (1 : Int32) c0 c1 c2 c3 T45.heap O45_ (by decide) (by decide) hl0) hby hml rfl at_154 pd_LICCCCRLjava_lang_String_ rfl rfl (by decide) (by decide) (by decide) (by decide) ?_
        intro v51 T51 L51 Lc51 X51 hQ51 l51
        obtain ⟨b1q51, b1q3q2q6q51, k1q3q2q6q51, rfl, Nq51, Kq51, p51_0, p51_1, p51_2, p51_3, p51_4, p51_5, p51_6⟩ := hQ51
        have O51_ : Ext Z.heap T51.heap := extKeep O45_ Kq51 all0
        have CR51 := CHr.trans CR45 (CHr.keep Kq51 sf0 CR45.1)
        have N51_ : Fr Z.heap.size L51 := by rw [l51]; exact Fr.app N45_ Nq51
        have g_b1q51 : Z.heap.size ≤ b1q51 := Nat.le_trans O45_.1 p51_0
        have g_b1q3q2q6q51 : Z.heap.size ≤ b1q3q2q6q51 := Nat.le_trans O45_.1 p51_4
        refine q_asL X51 hx hby at_157 rfl (l' := #[.val (.int x0), .val (.int x1), .val (.int x2), .val (.int x3), .val (.int x4), .val (.int (4 : Int32)), .val (.int c0), .val (.int c1), .val (.int c2), .val (.int c3), .val (.ref b1q45), .val (.int (1 : Int32)), .val (.ref b1q51), .unset]) rfl ?_
        refine q_aL X51 hx hby at_159 rfl rfl ?_
        show Go _ _ _ _ _ _ _ _ T51 (mkF m 161 #[.val (.int x0), .val (.int x1), .val (.int x2), .val (.int x3), .val (.int x4), .val (.int (4 : Int32)), .val (.int c0), .val (.int c1), .val (.int c2), .val (.int c3), .val (.ref b1q45), .val (.int (1 : Int32)), .val (.ref b1q51), .unset] [(.ref b1q45)])
        refine q_cS [(.ref b1q45)] [] 0 X51 hx hZ hown (wd hw 29 rfl) (wd hw 30 rfl) (wd hw 32 rfl) (wd hw 31 rfl) (by decide) rfl (rm_a6_11 l Z a0 hw [] cs sv GG b1q45 b1q3q2q12q45 k1q3q2q12q45 (((c0.toUInt32.toUInt16.toUInt32.toInt32).toInt8.toInt32).toInt8.toInt32) (((c1.toUInt32.toUInt16.toUInt32.toInt32).toInt8.toInt32).toInt8.toInt32) (((c2.toUInt32.toUInt16.toUInt32.toInt32).toInt8.toInt32).toInt8.toInt32) (((c3.toUInt32.toUInt16.toUInt32.toInt32).toInt8.toInt32).toInt8.toInt32) T51.heap O51_ (p45_1.keep Kq51) (p45_2.keep Kq51 nin0) (p45_3.keep Kq51 nin0) (p45_5.keep Kq51 nin0) ((if_neg fun q => hc60_46 (he0.mp q)).trans (if_pos (he1.mpr hc79_50)))) hby hml rfl at_161 pd_LLjava_lang_String_RLjava_lang_String_ rfl rfl (by decide) (by decide) (by decide) (by decide) ?_
        intro v52 T52 L52 Lc52 X52 hQ52 l52
        obtain ⟨b1q5q2q52, b2q2q2q5q2q52, k2q2q2q5q2q52, rfl, Nq52, Kq52, p52_0, p52_1, p52_2, p52_3, p52_4, p52_5, p52_6⟩ := hQ52
        have O52_ : Ext Z.heap T52.heap := extKeep O51_ Kq52 all0
        have CR52 := CHr.trans CR51 (CHr.keep Kq52 sf0 CR51.1)
        have N52_ : Fr Z.heap.size L52 := by rw [l52]; exact Fr.app N51_ Nq52
        have g_b1q5q2q52 : Z.heap.size ≤ b1q5q2q52 := Nat.le_trans O51_.1 p52_0
        have g_b2q2q2q5q2q52 : Z.heap.size ≤ b2q2q2q5q2q52 := Nat.le_trans O51_.1 p52_4
        refine q_asL X52 hx hby at_164 rfl (l' := #[.val (.int x0), .val (.int x1), .val (.int x2), .val (.int x3), .val (.int x4), .val (.int (4 : Int32)), .val (.int c0), .val (.int c1), .val (.int c2), .val (.int c3), .val (.ref b1q45), .val (.int (1 : Int32)), .val (.ref b1q51), .val (.ref b1q5q2q52)]) rfl ?_
        refine q_aL X52 hx hby at_166 rfl rfl ?_
        refine Go.step (fun _ kt_ => XS.ifnullNo X52.here hx rfl (hb hby at_168) rfl kt_) ?_
        refine q_aL X52 hx hby at_171 rfl rfl ?_
        refine q_aL X52 hx hby at_173 rfl rfl ?_
        refine q_cV [(.ref b1q51)] [] 0 X52 hx hZ hown (wd hw 73 rfl) (wd hw 74 rfl) (wd hw 76 rfl) (wd hw 75 rfl) (wd hw 77 rfl) (wd hw 9 rfl) (by decide) rfl p52_1 (rm_a16_2 l Z a0 hw [] cs sv GG b1q5q2q52 b1q51 (0 : Int32) (0 : Int32) b2q2q2q5q2q52 b1q3q2q6q51 k2q2q2q5q2q52 (((c0.toUInt32.toUInt16.toUInt32.toInt32).toInt8.toInt32).toInt8.toInt32) k1q3q2q6q51 T52.heap O52_ (Ne.symm (Nat.ne_of_lt (Nat.lt_of_lt_of_le p51_1.lt p52_0))) (p51_1.keep Kq52) p52_3 (p51_2.keep Kq52 nin0) (by decide) p52_2 (p51_3.keep Kq52 nin0) p52_5 (p51_5.keep Kq52 nin0)) hby hml rfl at_175 pd_LLjava_lang_Object_RZ rfl rfl (by decide) (by decide) (by decide) (by decide) ?_
        intro v53 T53 L53 Lc53 X53 hQ53 l53
        obtain ⟨rfl, Nq53, e53⟩ := hQ53
        have N53_ : Fr Z.heap.size L53 := by rw [l53]; exact Fr.app N52_ Nq53
        refine q_ifN X53 hx hby at_178 ((if0 _ _).trans (feq (by decide : ¬ ((1 : Int32) = (0 : Int32)))).1) ?_
        refine q_iC X53 hx hby at_181  ?_
        refine q_go 182 186 X53 hx hby rfl at_182 (by decide) (by decide) ?_
        exact Go.retNH (endH hh e53 X53 hZ hEL CR52) X53 S0 (by rw [e53]; exact (Nat.le_trans (Nat.le_trans (Nat.le_trans kk0 Kq45.1) Kq51.1) Kq52.1)) hx (t := .boolean) hret (by simp) hlk (hb hby at_186) (by decide) (by decide) ⟨rfl, N53_, trivial⟩
      · refine q_icY 79 88 X45 hx hby rfl at_79 (feq hc79_50).2 (by decide) (by decide) ?_
        refine q_iL X45 hx hby at_88 rfl ?_
        refine q_iC X45 hx hby at_90  ?_
        show Go _ _ _ _ _ _ _ _ T45 (mkF m 91 #[.val (.int x0), .val (.int x1), .val (.int x2), .val (.int x3), .val (.int x4), .val (.int (4 : Int32)), .val (.int c0), .val (.int c1), .val (.int c2), .val (.int c3), .val (.ref b1q45), .val (.int (-1 : Int32)), .unset, .unset] [(.int (2 : Int32)), (.int (4 : Int32))])
        refine q_icN X45 hx hby at_91 (tlt (by decide : (2 : Int32) < (4 : Int32))).2.2.2 ?_
        refine q_iL X45 hx hby at_94 rfl ?_
        refine q_bP X45 hx hby at_96  ?_
        by_cases hc98_54 : c2 = (47 : Int32)
        · refine q_icN X45 hx hby at_98 (teq hc98_54).2 ?_
          refine q_iC X45 hx hby at_101  ?_
          refine q_isL X45 hx hby at_102 (l' := #[.val (.int x0), .val (.int x1), .val (.int x2), .val (.int x3), .val (.int x4), .val (.int (4 : Int32)), .val (.int c0), .val (.int c1), .val (.int c2), .val (.int c3), .val (.ref b1q45), .val (.int (2 : Int32)), .unset, .unset]) rfl ?_
          refine q_go 104 123 X45 hx hby rfl at_104 (by decide) (by decide) ?_
          refine q_iL X45 hx hby at_123 rfl ?_
          refine q_ifY 125 144 X45 hx hby rfl at_125 ((if0 _ _).trans (flt (by decide : ¬ ((2 : Int32) < (0 : Int32)))).2.1) (by decide) (by decide) ?_
          refine q_iL X45 hx hby at_144 rfl ?_
          refine q_iL X45 hx hby at_146 rfl ?_
          show Go _ _ _ _ _ _ _ _ T45 (mkF m 148 #[.val (.int x0), .val (.int x1), .val (.int x2), .val (.int x3), .val (.int x4), .val (.int (4 : Int32)), .val (.int c0), .val (.int c1), .val (.int c2), .val (.int c3), .val (.ref b1q45), .val (.int (2 : Int32)), .unset, .unset] [(.int c0), (.int (2 : Int32))])
          refine q_iL X45 hx hby at_148 rfl ?_
          refine q_iL X45 hx hby at_150 rfl ?_
          refine q_iL X45 hx hby at_152 rfl ?_
          refine q_cS [(.int (2 : Int32)), (.int c0), (.int c1), (.int c2), (.int c3)] [] 0 X45 hx hZ hown (wd hw 4 rfl) (wd hw 5 rfl) (wd hw 6 rfl) (wd hw 2 rfl) (by decide) rfl (rm_a2_2 l Z a0 hw [] cs sv GG (2 : Int32) c0 c1 c2 c3 T45.heap O45_ (by decide) (by decide) (by decide) hl0 hl1) hby hml rfl at_154 pd_LICCCCRLjava_lang_String_ rfl rfl (by decide) (by decide) (by decide) (by decide) ?_
          intro v55 T55 L55 Lc55 X55 hQ55 l55
          obtain ⟨b1q55, b1q3q2q7q55, k1q3q2q7q55, rfl, Nq55, Kq55, p55_0, p55_1, p55_2, p55_3, p55_4, p55_5, p55_6⟩ := hQ55
          have O55_ : Ext Z.heap T55.heap := extKeep O45_ Kq55 all0
          have CR55 := CHr.trans CR45 (CHr.keep Kq55 sf0 CR45.1)
          have N55_ : Fr Z.heap.size L55 := by rw [l55]; exact Fr.app N45_ Nq55
          have g_b1q55 : Z.heap.size ≤ b1q55 := Nat.le_trans O45_.1 p55_0
          have g_b1q3q2q7q55 : Z.heap.size ≤ b1q3q2q7q55 := Nat.le_trans O45_.1 p55_4
          refine q_asL X55 hx hby at_157 rfl (l' := #[.val (.int x0), .val (.int x1), .val (.int x2), .val (.int x3), .val (.int x4), .val (.int (4 : Int32)), .val (.int c0), .val (.int c1), .val (.int c2), .val (.int c3), .val (.ref b1q45), .val (.int (2 : Int32)), .val (.ref b1q55), .unset]) rfl ?_
          refine q_aL X55 hx hby at_159 rfl rfl ?_
          refine q_cS [(.ref b1q45)] [] 0 X55 hx hZ hown (wd hw 29 rfl) (wd hw 30 rfl) (wd hw 32 rfl) (wd hw 31 rfl) (by decide) rfl (rm_a6_12 l Z a0 hw [] cs sv GG b1q45 b1q3q2q12q45 k1q3q2q12q45 (((c0.toUInt32.toUInt16.toUInt32.toInt32).toInt8.toInt32).toInt8.toInt32) (((c1.toUInt32.toUInt16.toUInt32.toInt32).toInt8.toInt32).toInt8.toInt32) (((c2.toUInt32.toUInt16.toUInt32.toInt32).toInt8.toInt32).toInt8.toInt32) (((c3.toUInt32.toUInt16.toUInt32.toInt32).toInt8.toInt32).toInt8.toInt32) T55.heap O55_ (p45_1.keep Kq55) (p45_2.keep Kq55 nin0) (p45_3.keep Kq55 nin0) (p45_5.keep Kq55 nin0) ((if_neg fun q => hc60_46 (he0.mp q)).trans ((if_neg fun q => hc79_50 (he1.mp q)).trans (if_pos (he2.mpr hc98_54))))) hby hml rfl at_161 pd_LLjava_lang_String_RLjava_lang_String_ rfl rfl (by decide) (by decide) (by decide) (by decide) ?_
          intro v56 T56 L56 Lc56 X56 hQ56 l56
          obtain ⟨b1q5q2q56, b2q2q2q5q2q56, k2q2q2q5q2q56, rfl, Nq56, Kq56, p56_0, p56_1, p56_2, p56_3, p56_4, p56_5, p56_6⟩ := hQ56
          have O56_ : Ext Z.heap T56.heap := extKeep O55_ Kq56 all0
          have CR56 := CHr.trans CR55 (CHr.keep Kq56 sf0 CR55.1)
          have N56_ : Fr Z.heap.size L56 := by rw [l56]; exact Fr.app N55_ Nq56
          have g_b1q5q2q56 : Z.heap.size ≤ b1q5q2q56 := Nat.le_trans O55_.1 p56_0
          have g_b2q2q2q5q2q56 : Z.heap.size ≤ b2q2q2q5q2q56 := Nat.le_trans O55_.1 p56_4
          refine q_asL X56 hx hby at_164 rfl (l' := #[.val (.int x0), .val (.int x1), .val (.int x2), .val (.int x3), .val (.int x4), .val (.int (4 : Int32)), .val (.int c0), .val (.int c1), .val (.int c2), .val (.int c3), .val (.ref b1q45), .val (.int (2 : Int32)), .val (.ref b1q55), .val (.ref b1q5q2q56)]) rfl ?_
          refine q_aL X56 hx hby at_166 rfl rfl ?_
          refine Go.step (fun _ kt_ => XS.ifnullNo X56.here hx rfl (hb hby at_168) rfl kt_) ?_
          refine q_aL X56 hx hby at_171 rfl rfl ?_
          show Go _ _ _ _ _ _ _ _ T56 (mkF m 173 #[.val (.int x0), .val (.int x1), .val (.int x2), .val (.int x3), .val (.int x4), .val (.int (4 : Int32)), .val (.int c0), .val (.int c1), .val (.int c2), .val (.int c3), .val (.ref b1q45), .val (.int (2 : Int32)), .val (.ref b1q55), .val (.ref b1q5q2q56)] [(.ref b1q5q2q56)])
          refine q_aL X56 hx hby at_173 rfl rfl ?_
          refine q_cV [(.ref b1q55)] [] 0 X56 hx hZ hown (wd hw 73 rfl) (wd hw 74 rfl) (wd hw 76 rfl) (wd hw 75 rfl) (wd hw 77 rfl) (wd hw 9 rfl) (by decide) rfl p56_1 (rm_a16_3 l Z a0 hw [] cs sv GG b1q5q2q56 b1q55 (0 : Int32) (0 : Int32) b2q2q2q5q2q56 b1q3q2q7q55 k2q2q2q5q2q56 (((c0.toUInt32.toUInt16.toUInt32.toInt32).toInt8.toInt32).toInt8.toInt32) (((c1.toUInt32.toUInt16.toUInt32.toInt32).toInt8.toInt32).toInt8.toInt32) k1q3q2q7q55 T56.heap O56_ (Ne.symm (Nat.ne_of_lt (Nat.lt_of_lt_of_le p55_1.lt p56_0))) (p55_1.keep Kq56) p56_3 (p55_2.keep Kq56 nin0) (by decide) p56_2 (p55_3.keep Kq56 nin0) p56_5 (p55_5.keep Kq56 nin0)) hby hml rfl at_175 pd_LLjava_lang_Object_RZ rfl rfl (by decide) (by decide) (by decide) (by decide) ?_
          intro v57 T57 L57 Lc57 X57 hQ57 l57
          obtain ⟨rfl, Nq57, e57⟩ := hQ57
          have N57_ : Fr Z.heap.size L57 := by rw [l57]; exact Fr.app N56_ Nq57
          refine q_ifN X57 hx hby at_178 ((if0 _ _).trans (feq (by decide : ¬ ((1 : Int32) = (0 : Int32)))).1) ?_
          refine q_iC X57 hx hby at_181  ?_
          refine q_go 182 186 X57 hx hby rfl at_182 (by decide) (by decide) ?_
          exact Go.retNH (endH hh e57 X57 hZ hEL CR56) X57 S0 (by rw [e57]; exact (Nat.le_trans (Nat.le_trans (Nat.le_trans kk0 Kq45.1) Kq55.1) Kq56.1)) hx (t := .boolean) hret (by simp) hlk (hb hby at_186) (by decide) (by decide) ⟨rfl, N57_, trivial⟩
        · refine q_icY 98 107 X45 hx hby rfl at_98 (feq hc98_54).2 (by decide) (by decide) ?_
          refine q_iL X45 hx hby at_107 rfl ?_
          refine q_iC X45 hx hby at_109  ?_
          refine q_icN X45 hx hby at_110 (tlt (by decide : (3 : Int32) < (4 : Int32))).2.2.2 ?_
          refine q_iL X45 hx hby at_113 rfl ?_
          refine q_bP X45 hx hby at_115  ?_
          by_cases hc117_58 : c3 = (47 : Int32)
          · refine q_icN X45 hx hby at_117 (teq hc117_58).2 ?_
            refine q_iC X45 hx hby at_120  ?_
            show Go _ _ _ _ _ _ _ _ T45 (mkF m 121 #[.val (.int x0), .val (.int x1), .val (.int x2), .val (.int x3), .val (.int x4), .val (.int (4 : Int32)), .val (.int c0), .val (.int c1), .val (.int c2), .val (.int c3), .val (.ref b1q45), .val (.int (-1 : Int32)), .unset, .unset] [(.int (3 : Int32))])
            refine q_isL X45 hx hby at_121 (l' := #[.val (.int x0), .val (.int x1), .val (.int x2), .val (.int x3), .val (.int x4), .val (.int (4 : Int32)), .val (.int c0), .val (.int c1), .val (.int c2), .val (.int c3), .val (.ref b1q45), .val (.int (3 : Int32)), .unset, .unset]) rfl ?_
            refine q_iL X45 hx hby at_123 rfl ?_
            refine q_ifY 125 144 X45 hx hby rfl at_125 ((if0 _ _).trans (flt (by decide : ¬ ((3 : Int32) < (0 : Int32)))).2.1) (by decide) (by decide) ?_
            refine q_iL X45 hx hby at_144 rfl ?_
            refine q_iL X45 hx hby at_146 rfl ?_
            refine q_iL X45 hx hby at_148 rfl ?_
            refine q_iL X45 hx hby at_150 rfl ?_
            refine q_iL X45 hx hby at_152 rfl ?_
            refine q_cS [(.int (3 : Int32)), (.int c0), (.int c1), (.int c2), (.int c3)] [] 0 X45 hx hZ hown (wd hw 4 rfl) (wd hw 5 rfl) (wd hw 6 rfl) (wd hw 2 rfl) (by decide) rfl (rm_a2_3 l Z a0 hw [] cs sv GG (3 : Int32) c0 c1 c2 c3 T45.heap O45_ (by decide) (by decide) (by decide) (by decide) hl0 hl1 hl2) hby hml rfl at_154 pd_LICCCCRLjava_lang_String_ rfl rfl (by decide) (by decide) (by decide) (by decide) ?_
            intro v59 T59 L59 Lc59 X59 hQ59 l59
            obtain ⟨b1q59, b1q3q2q9q59, k1q3q2q9q59, rfl, Nq59, Kq59, p59_0, p59_1, p59_2, p59_3, p59_4, p59_5, p59_6⟩ := hQ59
            have O59_ : Ext Z.heap T59.heap := extKeep O45_ Kq59 all0
            have CR59 := CHr.trans CR45 (CHr.keep Kq59 sf0 CR45.1)
            have N59_ : Fr Z.heap.size L59 := by rw [l59]; exact Fr.app N45_ Nq59
            have g_b1q59 : Z.heap.size ≤ b1q59 := Nat.le_trans O45_.1 p59_0
            have g_b1q3q2q9q59 : Z.heap.size ≤ b1q3q2q9q59 := Nat.le_trans O45_.1 p59_4
            refine q_asL X59 hx hby at_157 rfl (l' := #[.val (.int x0), .val (.int x1), .val (.int x2), .val (.int x3), .val (.int x4), .val (.int (4 : Int32)), .val (.int c0), .val (.int c1), .val (.int c2), .val (.int c3), .val (.ref b1q45), .val (.int (3 : Int32)), .val (.ref b1q59), .unset]) rfl ?_
            refine q_aL X59 hx hby at_159 rfl rfl ?_
            show Go _ _ _ _ _ _ _ _ T59 (mkF m 161 #[.val (.int x0), .val (.int x1), .val (.int x2), .val (.int x3), .val (.int x4), .val (.int (4 : Int32)), .val (.int c0), .val (.int c1), .val (.int c2), .val (.int c3), .val (.ref b1q45), .val (.int (3 : Int32)), .val (.ref b1q59), .unset] [(.ref b1q45)])
            refine q_cS [(.ref b1q45)] [] 0 X59 hx hZ hown (wd hw 29 rfl) (wd hw 30 rfl) (wd hw 32 rfl) (wd hw 31 rfl) (by decide) rfl (rm_a6_13 l Z a0 hw [] cs sv GG b1q45 b1q3q2q12q45 k1q3q2q12q45 (((c0.toUInt32.toUInt16.toUInt32.toInt32).toInt8.toInt32).toInt8.toInt32) (((c1.toUInt32.toUInt16.toUInt32.toInt32).toInt8.toInt32).toInt8.toInt32) (((c2.toUInt32.toUInt16.toUInt32.toInt32).toInt8.toInt32).toInt8.toInt32) (((c3.toUInt32.toUInt16.toUInt32.toInt32).toInt8.toInt32).toInt8.toInt32) T59.heap O59_ (p45_1.keep Kq59) (p45_2.keep Kq59 nin0) (p45_3.keep Kq59 nin0) (p45_5.keep Kq59 nin0) ((if_neg fun q => hc60_46 (he0.mp q)).trans ((if_neg fun q => hc79_50 (he1.mp q)).trans ((if_neg fun q => hc98_54 (he2.mp q)).trans (if_pos (he3.mpr hc117_58)))))) hby hml rfl at_161 pd_LLjava_lang_String_RLjava_lang_String_ rfl rfl (by decide) (by decide) (by decide) (by decide) ?_
            intro v60 T60 L60 Lc60 X60 hQ60 l60
            obtain ⟨b1q5q2q60, b2q2q2q5q2q60, k2q2q2q5q2q60, rfl, Nq60, Kq60, p60_0, p60_1, p60_2, p60_3, p60_4, p60_5, p60_6⟩ := hQ60
            have O60_ : Ext Z.heap T60.heap := extKeep O59_ Kq60 all0
            have CR60 := CHr.trans CR59 (CHr.keep Kq60 sf0 CR59.1)
            have N60_ : Fr Z.heap.size L60 := by rw [l60]; exact Fr.app N59_ Nq60
            have g_b1q5q2q60 : Z.heap.size ≤ b1q5q2q60 := Nat.le_trans O59_.1 p60_0
            have g_b2q2q2q5q2q60 : Z.heap.size ≤ b2q2q2q5q2q60 := Nat.le_trans O59_.1 p60_4
            refine q_asL X60 hx hby at_164 rfl (l' := #[.val (.int x0), .val (.int x1), .val (.int x2), .val (.int x3), .val (.int x4), .val (.int (4 : Int32)), .val (.int c0), .val (.int c1), .val (.int c2), .val (.int c3), .val (.ref b1q45), .val (.int (3 : Int32)), .val (.ref b1q59), .val (.ref b1q5q2q60)]) rfl ?_
            refine q_aL X60 hx hby at_166 rfl rfl ?_
            refine Go.step (fun _ kt_ => XS.ifnullNo X60.here hx rfl (hb hby at_168) rfl kt_) ?_
            refine q_aL X60 hx hby at_171 rfl rfl ?_
            refine q_aL X60 hx hby at_173 rfl rfl ?_
            refine q_cV [(.ref b1q59)] [] 0 X60 hx hZ hown (wd hw 73 rfl) (wd hw 74 rfl) (wd hw 76 rfl) (wd hw 75 rfl) (wd hw 77 rfl) (wd hw 9 rfl) (by decide) rfl p60_1 (rm_a16_4 l Z a0 hw [] cs sv GG b1q5q2q60 b1q59 (0 : Int32) (0 : Int32) b2q2q2q5q2q60 b1q3q2q9q59 k2q2q2q5q2q60 (((c0.toUInt32.toUInt16.toUInt32.toInt32).toInt8.toInt32).toInt8.toInt32) (((c1.toUInt32.toUInt16.toUInt32.toInt32).toInt8.toInt32).toInt8.toInt32) (((c2.toUInt32.toUInt16.toUInt32.toInt32).toInt8.toInt32).toInt8.toInt32) k1q3q2q9q59 T60.heap O60_ (Ne.symm (Nat.ne_of_lt (Nat.lt_of_lt_of_le p59_1.lt p60_0))) (p59_1.keep Kq60) p60_3 (p59_2.keep Kq60 nin0) (by decide) p60_2 (p59_3.keep Kq60 nin0) p60_5 (p59_5.keep Kq60 nin0)) hby hml rfl at_175 pd_LLjava_lang_Object_RZ rfl rfl (by decide) (by decide) (by decide) (by decide) ?_
            intro v61 T61 L61 Lc61 X61 hQ61 l61
            obtain ⟨rfl, Nq61, e61⟩ := hQ61
            have N61_ : Fr Z.heap.size L61 := by rw [l61]; exact Fr.app N60_ Nq61
            refine q_ifN X61 hx hby at_178 ((if0 _ _).trans (feq (by decide : ¬ ((1 : Int32) = (0 : Int32)))).1) ?_
            refine q_iC X61 hx hby at_181  ?_
            refine q_go 182 186 X61 hx hby rfl at_182 (by decide) (by decide) ?_
            exact Go.retNH (endH hh e61 X61 hZ hEL CR60) X61 S0 (by rw [e61]; exact (Nat.le_trans (Nat.le_trans (Nat.le_trans kk0 Kq45.1) Kq59.1) Kq60.1)) hx (t := .boolean) hret (by simp) hlk (hb hby at_186) (by decide) (by decide) ⟨rfl, N61_, trivial⟩
          · refine q_icY 117 123 X45 hx hby rfl at_117 (feq hc117_58).2 (by decide) (by decide) ?_
            refine q_iL X45 hx hby at_123 rfl ?_
            show Go _ _ _ _ _ _ _ _ T45 (mkF m 125 #[.val (.int x0), .val (.int x1), .val (.int x2), .val (.int x3), .val (.int x4), .val (.int (4 : Int32)), .val (.int c0), .val (.int c1), .val (.int c2), .val (.int c3), .val (.ref b1q45), .val (.int (-1 : Int32)), .unset, .unset] [(.int (-1 : Int32))])
            refine q_ifN X45 hx hby at_125 ((if0 _ _).trans (tlt (by decide : (-1 : Int32) < (0 : Int32))).2.1) ?_
            refine q_iL X45 hx hby at_128 rfl ?_
            refine q_iL X45 hx hby at_130 rfl ?_
            refine q_iL X45 hx hby at_132 rfl ?_
            refine q_iL X45 hx hby at_134 rfl ?_
            refine q_iL X45 hx hby at_136 rfl ?_
            refine q_cS [(.int (4 : Int32)), (.int c0), (.int c1), (.int c2), (.int c3)] [] 0 X45 hx hZ hown (wd hw 4 rfl) (wd hw 5 rfl) (wd hw 6 rfl) (wd hw 2 rfl) (by decide) rfl (rm_a2_4 l Z a0 hw [] cs sv GG (4 : Int32) c0 c1 c2 c3 T45.heap O45_ (by decide) (by decide) (by decide) (by decide) hl0 hl1 hl2 hl3) hby hml rfl at_138 pd_LICCCCRLjava_lang_String_ rfl rfl (by decide) (by decide) (by decide) (by decide) ?_
            intro v62 T62 L62 Lc62 X62 hQ62 l62
            obtain ⟨b1q62, b1q3q2q12q62, k1q3q2q12q62, rfl, Nq62, Kq62, p62_0, p62_1, p62_2, p62_3, p62_4, p62_5, p62_6⟩ := hQ62
            have O62_ : Ext Z.heap T62.heap := extKeep O45_ Kq62 all0
            have CR62 := CHr.trans CR45 (CHr.keep Kq62 sf0 CR45.1)
            have N62_ : Fr Z.heap.size L62 := by rw [l62]; exact Fr.app N45_ Nq62
            have g_b1q62 : Z.heap.size ≤ b1q62 := Nat.le_trans O45_.1 p62_0
            have g_b1q3q2q12q62 : Z.heap.size ≤ b1q3q2q12q62 := Nat.le_trans O45_.1 p62_4
            refine q_go 141 157 X62 hx hby rfl at_141 (by decide) (by decide) ?_
            refine q_asL X62 hx hby at_157 rfl (l' := #[.val (.int x0), .val (.int x1), .val (.int x2), .val (.int x3), .val (.int x4), .val (.int (4 : Int32)), .val (.int c0), .val (.int c1), .val (.int c2), .val (.int c3), .val (.ref b1q45), .val (.int (-1 : Int32)), .val (.ref b1q62), .unset]) rfl ?_
            refine q_aL X62 hx hby at_159 rfl rfl ?_
            refine q_cS [(.ref b1q45)] [] 0 X62 hx hZ hown (wd hw 29 rfl) (wd hw 30 rfl) (wd hw 32 rfl) (wd hw 31 rfl) (by decide) rfl (rm_a6_14 l Z a0 hw [] cs sv GG b1q45 b1q3q2q12q45 k1q3q2q12q45 (((c0.toUInt32.toUInt16.toUInt32.toInt32).toInt8.toInt32).toInt8.toInt32) (((c1.toUInt32.toUInt16.toUInt32.toInt32).toInt8.toInt32).toInt8.toInt32) (((c2.toUInt32.toUInt16.toUInt32.toInt32).toInt8.toInt32).toInt8.toInt32) (((c3.toUInt32.toUInt16.toUInt32.toInt32).toInt8.toInt32).toInt8.toInt32) T62.heap O62_ (p45_1.keep Kq62) (p45_2.keep Kq62 nin0) (p45_3.keep Kq62 nin0) (p45_5.keep Kq62 nin0) ((if_neg fun q => hc60_46 (he0.mp q)).trans ((if_neg fun q => hc79_50 (he1.mp q)).trans ((if_neg fun q => hc98_54 (he2.mp q)).trans (if_neg fun q => hc117_58 (he3.mp q)))))) hby hml rfl at_161 pd_LLjava_lang_String_RLjava_lang_String_ rfl rfl (by decide) (by decide) (by decide) (by decide) ?_
            intro v63 T63 L63 Lc63 X63 hQ63 l63
            obtain ⟨rfl, Nq63, e63⟩ := hQ63
            have N63_ : Fr Z.heap.size L63 := by rw [l63]; exact Fr.app N62_ Nq63
            show Go _ _ _ _ _ _ _ _ T63 (mkF m 164 #[.val (.int x0), .val (.int x1), .val (.int x2), .val (.int x3), .val (.int x4), .val (.int (4 : Int32)), .val (.int c0), .val (.int c1), .val (.int c2), .val (.int c3), .val (.ref b1q45), .val (.int (-1 : Int32)), .val (.ref b1q62), .unset] [(.ref b1q45)])
            refine q_asL X63 hx hby at_164 rfl (l' := #[.val (.int x0), .val (.int x1), .val (.int x2), .val (.int x3), .val (.int x4), .val (.int (4 : Int32)), .val (.int c0), .val (.int c1), .val (.int c2), .val (.int c3), .val (.ref b1q45), .val (.int (-1 : Int32)), .val (.ref b1q62), .val (.ref b1q45)]) rfl ?_
            refine q_aL X63 hx hby at_166 rfl rfl ?_
            refine Go.step (fun _ kt_ => XS.ifnullNo X63.here hx rfl (hb hby at_168) rfl kt_) ?_
            refine q_aL X63 hx hby at_171 rfl rfl ?_
            refine q_aL X63 hx hby at_173 rfl rfl ?_
            refine q_cV [(.ref b1q62)] [] 0 X63 hx hZ hown (wd hw 73 rfl) (wd hw 74 rfl) (wd hw 76 rfl) (wd hw 75 rfl) (wd hw 77 rfl) (wd hw 9 rfl) (by decide) e63 (p45_1.keep Kq62) (rm_a16_5 l Z a0 hw [] cs sv GG b1q45 b1q62 (0 : Int32) (0 : Int32) b1q3q2q12q45 b1q3q2q12q62 k1q3q2q12q45 (((c0.toUInt32.toUInt16.toUInt32.toInt32).toInt8.toInt32).toInt8.toInt32) (((c1.toUInt32.toUInt16.toUInt32.toInt32).toInt8.toInt32).toInt8.toInt32) (((c2.toUInt32.toUInt16.toUInt32.toInt32).toInt8.toInt32).toInt8.toInt32) (((c3.toUInt32.toUInt16.toUInt32.toInt32).toInt8.toInt32).toInt8.toInt32) k1q3q2q12q62 T62.heap O62_ (Nat.ne_of_lt (Nat.lt_of_lt_of_le p45_1.lt p62_0)) p62_1 (p45_2.keep Kq62 nin0) p62_2 (by decide) (p45_3.keep Kq62 nin0) p62_3 (p45_5.keep Kq62 nin0) p62_5) hby hml rfl at_175 pd_LLjava_lang_Object_RZ rfl rfl (by decide) (by decide) (by decide) (by decide) ?_
            intro v64 T64 L64 Lc64 X64 hQ64 l64
            obtain ⟨rfl, Nq64, e64⟩ := hQ64
            have N64_ : Fr Z.heap.size L64 := by rw [l64]; exact Fr.app N63_ Nq64
            refine q_ifN X64 hx hby at_178 ((if0 _ _).trans (feq (by decide : ¬ ((1 : Int32) = (0 : Int32)))).1) ?_
            refine q_iC X64 hx hby at_181  ?_
            refine q_go 182 186 X64 hx hby rfl at_182 (by decide) (by decide) ?_
            exact Go.retNH (endH hh e64 X64 hZ hEL CR62) X64 S0 (by rw [e64]; exact (Nat.le_trans (Nat.le_trans kk0 Kq45.1) Kq62.1)) hx (t := .boolean) hret (by simp) hlk (hb hby at_186) (by decide) (by decide) ⟨rfl, N64_, trivial⟩
set_option maxRecDepth 65536 in
set_option maxHeartbeats 40000000 in
theorem comes_1 {Post : Tables → Env → Array Value → State → Outcome → State → Prop} (hpost : ∀ tb e args s v u, (limb_1_1.after args s (.returned v) u = true ∧ limb_1_2.after args s (.returned v) u = true ∧ True) → ReturnedEndW s (.returned v) u (Jvm.fieldLocs frame_1_writes args s ++ Jvm.arrayLocs frame_1_arrays args s ++ Jvm.staticLocs frame_1_statics s) 32 2240 → Post tb e args s (.returned v) u) :
    ArmFor flags0 classFile x code maxLocals ret World_1 tables_1 room_1 Calls_1 rest_1 Pre_1 Post := by
  intro l hfl _ _ p e ha hc hk s m args below hf hA hF happ hP
  obtain ⟨hcalls, hrest, hpre⟩ := hP
  obtain ⟨-, -, -, hnamed, -, -, -, hat⟩ := (Spec.applies_iff hf).mp happ
  obtain ⟨hg, hn⟩ := and_e (Cond.before_iff.mp (show (Jvm.Cond.and given_1 narrow_1).before args s = true from hpre))
  obtain ⟨hcount, gr0⟩ := and_e hg
  obtain ⟨ga0, gr1⟩ := and_e gr0
  obtain ⟨ga1, gr2⟩ := and_e gr1
  obtain ⟨ga2, gr3⟩ := and_e gr2
  obtain ⟨ga3, gr4⟩ := and_e gr3
  have ga4 := gr4
  obtain ⟨w0, w1, w2, w3, w4, rfl⟩ : ∃ w0 w1 w2 w3 w4 : Value, args = #[w0, w1, w2, w3, w4] := by
    have hs : args.size = 5 := by simpa [Cond.value, given_1] using hcount
    obtain ⟨L⟩ := args
    match L, hs with
    | [w0, w1, w2, w3, w4], _ => exact ⟨w0, w1, w2, w3, w4, rfl⟩
  have hw := fun d (hd : d ∈ tables_1) => atoms_spec (ws := Jvm.Cond.code x code maxLocals ret :: tables_1) hat d (List.mem_cons_of_mem _ hd)
  have hfit : Fit s := fun {y c} hc i hi => by
    obtain ⟨ha, rfl⟩ := Array.getElem?_eq_some_iff.mp hc
    have q := List.all_eq_true.mp ((Array.all_eq_true_iff_forall_mem.mp hF) _ (Array.getElem_mem ha)) i (List.mem_range.mpr hi)
    simpa [Array.getElem?_eq_getElem hi] using q
  obtain ⟨hsets, hown0⟩ := atoms_of _ (rest_1_c_eq ▸ (show rest_1_c.before _ s = true from hrest))
  have hr0 := Cond.before_iff.mp hown0
  obtain ⟨i0, ei0⟩ := is_v ga0
  obtain rfl : w0 = (.int i0) := Option.some.inj ei0
  obtain ⟨i1, ei1⟩ := is_v ga1
  obtain rfl : w1 = (.int i1) := Option.some.inj ei1
  obtain ⟨i2, ei2⟩ := is_v ga2
  obtain rfl : w2 = (.int i2) := Option.some.inj ei2
  obtain ⟨i3, ei3⟩ := is_v ga3
  obtain rfl : w3 = (.int i3) := Option.some.inj ei3
  obtain ⟨i4, ei4⟩ := is_v ga4
  obtain rfl : w4 = (.int i4) := Option.some.inj ei4
  obtain ⟨cs, evcs⟩ := is_v (Cond.before_iff.mp (hsets _ (List.mem_of_getElem? (i := 1) rfl)))
  have G_cs : Sta s s.heap "java/lang/String" "COMPACT_STRINGS" "Z" (.int cs) := Sta.start evcs (Or.inl (hsets _ (List.mem_of_getElem? (i := 0) rfl)))
  have H_cs : ¬ (cs = (0 : Int32)) := gotF (Cond.eq_ints evcs (Term.int_eval (0))) (not_v (Cond.before_iff.mp (hsets _ (List.mem_of_getElem? (i := 2) rfl))))
  obtain ⟨sv, evsv, rsv⟩ := isR_v (Cond.before_iff.mp (hsets _ (List.mem_of_getElem? (i := 8) rfl)))
  have G_sv : Sta s s.heap "jdk/internal/util/Preconditions" "SIOOBE_FORMATTER" "Ljava/util/function/BiFunction;" sv := Sta.start evsv (Or.inl (hsets _ (List.mem_of_getElem? (i := 7) rfl)))
  have GG : GP s cs sv := ⟨G_cs, H_cs, G_sv, Jvm.RoadKit.ref_cases rsv⟩
  have hCH : CHv s consts_1 s.vm s.heap := CHv.start (own_EW hw) hcalls.1 (hsets _ (List.mem_of_getElem? (i := 2) rfl)) (wd hw 22 rfl) (wd hw 8 rfl)
  obtain ⟨n, o, h1, h2, h3, _, L, rfl, ⟨rfl, N, -⟩, -, hq⟩ := rm_0 l s _ hw tables_1 cs sv GG i0 i1 i2 i3 i4  s.heap (extRfl _)  p e ha hc hk s m _ below hf ((Spec.applies_iff_loose hf).mp happ).1 ⟨rfl, State.Warmed39.refl s, rfl, hCH, fun _ q => nomatch q⟩ trivial
  refine ⟨n, _, h1, h2, h3, hpost _ _ _ _ _ _ ⟨Cond.after_iff.mpr rfl, Cond.after_iff.mpr (eq_i res_at (Term.int_eval (1)) rfl), trivial⟩ ⟨hq.1, hq.2.1, hq.2.2.1, (hq.2.2.2.sift fun y hy => Or.inr (N y hy)).mono (by decide) (by decide)⟩⟩
theorem main_1_1 : Claimed_1_1 := comes_1 fun _ _ _ _ _ _ h hF => ⟨h.1, hF⟩
theorem main_1_2 : Claimed_1_2 := comes_1 fun _ _ _ _ _ _ h hF => ⟨h.2.1, hF⟩
end Jvm.Pilot.@@N@@
namespace Jvm.Pilot.@@N@@
open Jvm Jvm.ClassFile Sem Op Lib Jvm.Free Jvm.Stand Jvm.Pilot.@@N@@.Jvm.D
/-! MADE BY PROGRAM (witnessworld.py) out of the Statement's table words and the real class files: 23 classes; the members and pool entries that the words name. The judged class is class 1, her method 3. -/
namespace start1
open Jvm.ClassFile
def u (s : String) : CpInfo := .utf8 (stringToUtf16 s)
/-- a pool by its gaps: so many unusable entries, then the entry; so many at the end -/
def gap : Nat → List CpInfo → List CpInfo
  | 0, r => r
  | n + 1, r => .unusable :: gap n r
def poolList (es : List (Nat × CpInfo)) (last : Nat) : List CpInfo := es.foldr (fun e r => gap e.1 (e.2 :: r)) (gap last [])
def pool (es : List (Nat × CpInfo)) (last : Nat) : Array CpInfo := ⟨poolList es last⟩
def fileOf (pool : Array CpInfo) (this : Nat) (attrs : Array Attribute := #[]) (ms : Array MethodInfo := #[]) (fl : Nat := 33) (sup : Nat := 0) (ifs : Array Nat := #[]) (fds : Array FieldInfo := #[]) : ClassFile where
  minorVersion := 0
  majorVersion := 65
  constantPool := pool
  accessFlags := fl
  thisClass := this
  superClass := sup
  interfaces := ifs
  fields := fds
  methods := ms
  attributes := attrs
def plain (name : String) (sup : Option ClassId) : Class where
  name := name
  kind := .ordinary
  loader := none
  accessFlags := 33
  super := sup
  interfaces := #[]
  cf := none
  fields := #[]
  methods := #[]
  instanceTypes := #[]
  staticTypes := #[]
  resolved := #[]
  callSites := []
  init := .initialized
  statics := none
  mirror := none

def pool0 : Array CpInfo := pool [(5, u "<init>"), (0, u "()V"), (1, .class_ 10), (1, u "java/lang/Object")] 113

def k0c0 : Code := { maxStack := 0, maxLocals := 1, code := object_method_1_code, exceptionTable := #[], attributes := #[] }
def k0m0 : Method := { name := "<init>", desc := "()V", sig := { parameters := [], returnType := none }, accessFlags := 1, code := some k0c0 }
/-- java/lang/Object -/
def k0 : Class := { plain "java/lang/Object" none with
  accessFlags := 33
  interfaces := #[]
  cf := some (fileOf pool0 8 #[] #[{ accessFlags := 1, nameIndex := 5, descriptorIndex := 6, attributes := #[] }] 33 0 #[] #[])
  fields := #[]
  methods := #[k0m0]
  instanceTypes := #[]
  staticTypes := #[]
  resolved := Array.replicate 124 none
  statics := none }

def pool1 : Array CpInfo := pool [(2, .class_ 4), (1, u "java/lang/Object"), (0, u "<init>"), (0, u "()V"), (0, .class_ 8), (0, u "java/lang/String"), (0, .methodref 7 10), (0, .nameAndType 5 11), (0, u "([C)V"), (0, .methodref 13 14), (0, .class_ 15), (0, .nameAndType 16 17), (0, u "com/example/wary_lock/warylock/LockNameRootPinLaw"), (0, u "ch"), (0, u "(I)C"), (0, .methodref 13 19), (0, .nameAndType 20 21), (0, u "mk"), (0, u "(ICCCC)Ljava/lang/String;"), (0, .methodref 23 24), (0, .class_ 25), (0, .nameAndType 26 27), (0, u "com/example/wary_lock/warylock/LockName"), (0, u "root"), (0, u "(Ljava/lang/String;)Ljava/lang/String;"), (0, .methodref 7 29), (0, .nameAndType 30 31), (0, u "equals"), (0, u "(Ljava/lang/Object;)Z"), (3, u "law"), (0, u "(IIIII)Z")] 2

def k1m0 : Method := { name := "<init>", desc := "()V", sig := { parameters := [], returnType := none }, accessFlags := 2, code := none }
def k1c1 : Code := { maxStack := 2, maxLocals := 1, code := method_2_code, exceptionTable := #[], attributes := #[] }
def k1m1 : Method := { name := "ch", desc := "(I)C", sig := { parameters := [.int], returnType := some .char }, accessFlags := 10, code := some k1c1 }
def k1c2 : Code := { maxStack := 6, maxLocals := 5, code := method_3_code, exceptionTable := #[], attributes := #[] }
def k1m2 : Method := { name := "mk", desc := "(ICCCC)Ljava/lang/String;", sig := { parameters := [.int, .char, .char, .char, .char], returnType := some (.object "java/lang/String") }, accessFlags := 10, code := some k1c2 }
def k1c3 : Code := { maxStack := 5, maxLocals := 14, code := code, exceptionTable := #[], attributes := #[] }
def k1m3 : Method := { name := "law", desc := "(IIIII)Z", sig := { parameters := [.int, .int, .int, .int, .int], returnType := some .boolean }, accessFlags := 9, code := some k1c3 }
/-- com/example/wary_lock/warylock/LockNameRootPinLaw -/
def k1 : Class := { plain "com/example/wary_lock/warylock/LockNameRootPinLaw" (some 0) with
  accessFlags := 49
  interfaces := #[]
  cf := some (fileOf pool1 13 #[] #[{ accessFlags := 2, nameIndex := 5, descriptorIndex := 6, attributes := #[] }, { accessFlags := 10, nameIndex := 16, descriptorIndex := 17, attributes := #[] }, { accessFlags := 10, nameIndex := 20, descriptorIndex := 21, attributes := #[] }, { accessFlags := 9, nameIndex := 35, descriptorIndex := 36, attributes := #[] }] 49 2 #[] #[])
  fields := #[]
  methods := #[k1m0, k1m1, k1m2, k1m3]
  instanceTypes := #[]
  staticTypes := #[]
  resolved := Array.replicate 39 none
  statics := none }

def pool2 : Array CpInfo := pool [(1, .class_ 2), (0, u "java/io/Serializable"), (0, .class_ 4), (0, u "java/lang/Object")] 2

/-- java/io/Serializable -/
def k2 : Class := { plain "java/io/Serializable" (some 0) with
  accessFlags := 1537
  interfaces := #[]
  cf := some (fileOf pool2 1 #[] #[] 1537 3 #[] #[])
  fields := #[]
  methods := #[]
  instanceTypes := #[]
  staticTypes := #[]
  resolved := Array.replicate 7 none
  statics := none }

def pool3 : Array CpInfo := pool [(1, .class_ 2), (0, u "java/lang/Comparable"), (0, .class_ 4), (0, u "java/lang/Object")] 7

/-- java/lang/Comparable -/
def k3 : Class := { plain "java/lang/Comparable" (some 0) with
  accessFlags := 1537
  interfaces := #[]
  cf := some (fileOf pool3 1 #[] #[] 1537 3 #[] #[])
  fields := #[]
  methods := #[]
  instanceTypes := #[]
  staticTypes := #[]
  resolved := Array.replicate 12 none
  statics := none }

def pool4 : Array CpInfo := pool [(2, .class_ 4), (1, u "java/lang/CharSequence"), (42, .class_ 48), (0, u "java/lang/CharSequence$1CodePointIterator"), (10, .class_ 60), (0, u "java/lang/CharSequence$1CharIterator"), (5, .class_ 67), (0, u "java/lang/Object")] 63

/-- java/lang/CharSequence -/
def k4 : Class := { plain "java/lang/CharSequence" (some 0) with
  accessFlags := 1537
  interfaces := #[]
  cf := some (fileOf pool4 2 #[.nestMembers #[47, 59]] #[] 1537 66 #[] #[])
  fields := #[]
  methods := #[]
  instanceTypes := #[]
  staticTypes := #[]
  resolved := Array.replicate 131 none
  statics := none }

def pool5 : Array CpInfo := pool [(1, .class_ 2), (0, u "java/lang/constant/Constable"), (0, .class_ 4), (0, u "java/lang/Object")] 6

/-- java/lang/constant/Constable -/
def k5 : Class := { plain "java/lang/constant/Constable" (some 0) with
  accessFlags := 1537
  interfaces := #[]
  cf := some (fileOf pool5 1 #[] #[] 1537 3 #[] #[])
  fields := #[]
  methods := #[]
  instanceTypes := #[]
  staticTypes := #[]
  resolved := Array.replicate 11 none
  statics := none }

def pool6 : Array CpInfo := pool [(1, .class_ 2), (0, u "java/lang/constant/ConstantDesc"), (0, .class_ 4), (0, u "java/lang/Object")] 32

/-- java/lang/constant/ConstantDesc -/
def k6 : Class := { plain "java/lang/constant/ConstantDesc" (some 0) with
  accessFlags := 1537
  interfaces := #[]
  cf := some (fileOf pool6 1 #[] #[] 1537 3 #[] #[])
  fields := #[]
  methods := #[]
  instanceTypes := #[]
  staticTypes := #[]
  resolved := Array.replicate 37 none
  statics := none }

def pool7 : Array CpInfo := pool [(1, .methodref 2 3), (0, .class_ 4), (0, .nameAndType 5 6), (0, u "java/lang/Object"), (0, u "<init>"), (0, u "()V"), (0, .string 8), (0, u ""), (0, .fieldref 10 11), (0, .class_ 12), (0, .nameAndType 13 14), (0, u "java/lang/String"), (0, u "value"), (0, u "[B"), (0, .fieldref 10 16), (0, .nameAndType 17 18), (0, u "coder"), (0, u "B"), (2, u "hash"), (0, u "I"), (2, u "hashIsZero"), (0, u "Z"), (0, .methodref 10 28), (0, .nameAndType 5 29), (0, u "([CIILjava/lang/Void;)V"), (8, .fieldref 10 39), (0, .nameAndType 40 26), (0, u "COMPACT_STRINGS"), (1, .class_ 44), (1, u "java/lang/StringUTF16"), (0, u "compress"), (1, .methodref 42 48), (0, .nameAndType 49 50), (0, u "coderFromArrayLen"), (0, u "([BI)B"), (56, .class_ 109), (1, u "java/lang/StringLatin1"), (32, u "()Z"), (34, .methodref 42 178), (0, .nameAndType 45 179), (0, u "([CII)[B"), (31, u "([BB)V"), (122, u "()I"), (0, .methodref 10 336), (0, .nameAndType 17 337), (0, u "()B"), (154, .methodref 10 493), (0, .nameAndType 494 142), (0, u "isLatin1"), (10, .methodref 10 506), (0, .nameAndType 507 334), (0, u "length"), (5, u "checkFromToIndex"), (7, .methodref 10 522), (0, .nameAndType 523 524), (0, u "checkBoundsBeginEnd"), (0, u "(III)V"), (16, .methodref 107 542), (0, .nameAndType 543 544), (0, u "equals"), (0, u "([B[B)Z"), (28, u "(Ljava/lang/Object;)Z"), (1, .class_ 576), (0, u "java/lang/CharSequence"), (22, u "CASE_INSENSITIVE_ORDER"), (0, u "Ljava/util/Comparator;"), (32, .methodref 10 634), (0, .nameAndType 635 636), (0, u "indexOf"), (0, u "(II)I"), (0, .methodref 107 638), (0, .nameAndType 635 639), (0, u "([BIII)I"), (43, u "substring"), (0, u "(II)Ljava/lang/String;"), (0, .methodref 107 686), (0, .nameAndType 687 688), (0, u "newString"), (0, u "([BII)Ljava/lang/String;"), (76, u "(I)I"), (244, u "([C)V"), (42, .fieldref 1054 1055), (0, .class_ 1056), (0, .nameAndType 1057 1058), (0, u "jdk/internal/util/Preconditions"), (0, u "SIOOBE_FORMATTER"), (0, u "Ljava/util/function/BiFunction;"), (3, .methodref 1054 1063), (0, .nameAndType 513 1064), (0, u "(IIILjava/util/function/BiFunction;)I"), (36, u "serialPersistentFields"), (0, u "[Ljava/io/ObjectStreamField;"), (0, .class_ 1104), (0, u "java/lang/String$CaseInsensitiveComparator"), (1, .class_ 1107), (0, u "java/io/Serializable"), (0, .class_ 1109), (0, u "java/lang/Comparable"), (0, .class_ 1111), (0, u "java/lang/constant/Constable"), (0, .class_ 1113), (0, u "java/lang/constant/ConstantDesc"), (2, u "serialVersionUID"), (0, u "J"), (3, u "REPL"), (0, u "C"), (2, u "LATIN1"), (1, u "UTF16")] 323

def k7m0 : Method := { name := "<init>", desc := "()V", sig := { parameters := [], returnType := none }, accessFlags := 1, code := none }
def k7c1 : Code := { maxStack := 5, maxLocals := 2, code := jdk_42_method_3_code, exceptionTable := #[], attributes := #[] }
def k7m1 : Method := { name := "<init>", desc := "([C)V", sig := { parameters := [(.array .char)], returnType := none }, accessFlags := 1, code := some k7c1 }
def k7c2 : Code := { maxStack := 2, maxLocals := 1, code := jdk_42_method_54_code, exceptionTable := #[], attributes := #[] }
def k7m2 : Method := { name := "length", desc := "()I", sig := { parameters := [], returnType := some .int }, accessFlags := 1, code := some k7c2 }
def k7c3 : Code := { maxStack := 2, maxLocals := 3, code := jdk_42_method_66_code, exceptionTable := #[], attributes := #[] }
def k7m3 : Method := { name := "equals", desc := "(Ljava/lang/Object;)Z", sig := { parameters := [(.object "java/lang/Object")], returnType := some .boolean }, accessFlags := 1, code := some k7c3 }
def k7c4 : Code := { maxStack := 3, maxLocals := 2, code := jdk_42_method_79_code, exceptionTable := #[], attributes := #[] }
def k7m4 : Method := { name := "indexOf", desc := "(I)I", sig := { parameters := [.int], returnType := some .int }, accessFlags := 1, code := some k7c4 }
def k7c5 : Code := { maxStack := 4, maxLocals := 3, code := jdk_42_method_80_code, exceptionTable := #[], attributes := #[] }
def k7m5 : Method := { name := "indexOf", desc := "(II)I", sig := { parameters := [.int, .int], returnType := some .int }, accessFlags := 1, code := some k7c5 }
def k7c6 : Code := { maxStack := 3, maxLocals := 5, code := jdk_42_method_92_code, exceptionTable := #[], attributes := #[] }
def k7m6 : Method := { name := "substring", desc := "(II)Ljava/lang/String;", sig := { parameters := [.int, .int], returnType := some (.object "java/lang/String") }, accessFlags := 1, code := some k7c6 }
def k7c7 : Code := { maxStack := 4, maxLocals := 6, code := jdk_42_method_149_code, exceptionTable := #[], attributes := #[] }
def k7m7 : Method := { name := "<init>", desc := "([CIILjava/lang/Void;)V", sig := { parameters := [(.array .char), .int, .int, (.object "java/lang/Void")], returnType := none }, accessFlags := 2, code := some k7c7 }
def k7c8 : Code := { maxStack := 2, maxLocals := 3, code := jdk_42_method_151_code, exceptionTable := #[], attributes := #[] }
def k7m8 : Method := { name := "<init>", desc := "([BB)V", sig := { parameters := [(.array .byte), .byte], returnType := none }, accessFlags := 0, code := some k7c8 }
def k7c9 : Code := { maxStack := 1, maxLocals := 1, code := jdk_42_method_152_code, exceptionTable := #[], attributes := #[] }
def k7m9 : Method := { name := "coder", desc := "()B", sig := { parameters := [], returnType := some .byte }, accessFlags := 0, code := some k7c9 }
def k7c10 : Code := { maxStack := 1, maxLocals := 1, code := jdk_42_method_154_code, exceptionTable := #[], attributes := #[] }
def k7m10 : Method := { name := "isLatin1", desc := "()Z", sig := { parameters := [], returnType := some .boolean }, accessFlags := 0, code := some k7c10 }
def k7c11 : Code := { maxStack := 4, maxLocals := 3, code := jdk_42_method_158_code, exceptionTable := #[], attributes := #[] }
def k7m11 : Method := { name := "checkBoundsBeginEnd", desc := "(III)V", sig := { parameters := [.int, .int, .int], returnType := none }, accessFlags := 8, code := some k7c11 }
/-- java/lang/String -/
def k7 : Class := { plain "java/lang/String" (some 0) with
  accessFlags := 49
  interfaces := #[2, 3, 4, 5, 6]
  cf := some (fileOf pool7 10 #[.nestMembers #[1103]] #[{ accessFlags := 1, nameIndex := 5, descriptorIndex := 6, attributes := #[] }, { accessFlags := 1, nameIndex := 5, descriptorIndex := 1010, attributes := #[] }, { accessFlags := 1, nameIndex := 507, descriptorIndex := 334, attributes := #[] }, { accessFlags := 1, nameIndex := 543, descriptorIndex := 573, attributes := #[] }, { accessFlags := 1, nameIndex := 635, descriptorIndex := 765, attributes := #[] }, { accessFlags := 1, nameIndex := 635, descriptorIndex := 636, attributes := #[] }, { accessFlags := 1, nameIndex := 683, descriptorIndex := 684, attributes := #[] }, { accessFlags := 2, nameIndex := 5, descriptorIndex := 29, attributes := #[] }, { accessFlags := 0, nameIndex := 5, descriptorIndex := 211, attributes := #[] }, { accessFlags := 0, nameIndex := 17, descriptorIndex := 337, attributes := #[] }, { accessFlags := 0, nameIndex := 494, descriptorIndex := 142, attributes := #[] }, { accessFlags := 8, nameIndex := 523, descriptorIndex := 524, attributes := #[] }] 49 2 #[1106, 1108, 575, 1110, 1112] #[{ accessFlags := 18, nameIndex := 13, descriptorIndex := 14, attributes := #[] }, { accessFlags := 18, nameIndex := 17, descriptorIndex := 18, attributes := #[] }, { accessFlags := 2, nameIndex := 21, descriptorIndex := 22, attributes := #[] }, { accessFlags := 2, nameIndex := 25, descriptorIndex := 26, attributes := #[] }, { accessFlags := 26, nameIndex := 1116, descriptorIndex := 1117, attributes := #[] }, { accessFlags := 24, nameIndex := 40, descriptorIndex := 26, attributes := #[] }, { accessFlags := 26, nameIndex := 1101, descriptorIndex := 1102, attributes := #[] }, { accessFlags := 26, nameIndex := 1121, descriptorIndex := 1122, attributes := #[] }, { accessFlags := 25, nameIndex := 599, descriptorIndex := 600, attributes := #[] }, { accessFlags := 24, nameIndex := 1125, descriptorIndex := 18, attributes := #[] }, { accessFlags := 24, nameIndex := 1127, descriptorIndex := 18, attributes := #[] }])
  fields := #[{ name := "value", type := (.array .byte), accessFlags := 18, slot := 0, constantValue := 0 }, { name := "coder", type := .byte, accessFlags := 18, slot := 1, constantValue := 0 }, { name := "hash", type := .int, accessFlags := 2, slot := 2, constantValue := 0 }, { name := "hashIsZero", type := .boolean, accessFlags := 2, slot := 3, constantValue := 0 }, { name := "serialVersionUID", type := .long, accessFlags := 26, slot := 0, constantValue := 0 }, { name := "COMPACT_STRINGS", type := .boolean, accessFlags := 24, slot := 1, constantValue := 0 }, { name := "serialPersistentFields", type := (.array (.object "java/io/ObjectStreamField")), accessFlags := 26, slot := 2, constantValue := 0 }, { name := "REPL", type := .char, accessFlags := 26, slot := 3, constantValue := 0 }, { name := "CASE_INSENSITIVE_ORDER", type := (.object "java/util/Comparator"), accessFlags := 25, slot := 4, constantValue := 0 }, { name := "LATIN1", type := .byte, accessFlags := 24, slot := 5, constantValue := 0 }, { name := "UTF16", type := .byte, accessFlags := 24, slot := 6, constantValue := 0 }]
  methods := #[k7m0, k7m1, k7m2, k7m3, k7m4, k7m5, k7m6, k7m7, k7m8, k7m9, k7m10, k7m11]
  instanceTypes := #[(.array .byte), .byte, .int, .boolean]
  staticTypes := #[.long, .boolean, (.array (.object "java/io/ObjectStreamField")), .char, (.object "java/util/Comparator"), .byte, .byte]
  resolved := Array.replicate 1451 none
  statics := some 0 }

def pool8 : Array CpInfo := pool [(2, .class_ 4), (1, u "java/lang/Object"), (0, u "<init>"), (0, u "()V"), (3, .class_ 11), (0, u "com/example/wary_lock/warylock/LockName"), (0, .methodref 13 14), (0, .class_ 15), (0, .nameAndType 16 17), (0, u "java/lang/String"), (0, u "indexOf"), (0, u "(I)I"), (0, .methodref 13 19), (0, .nameAndType 20 21), (0, u "substring"), (0, u "(II)Ljava/lang/String;"), (43, u "(Ljava/lang/String;)Ljava/lang/String;"), (31, u "SEPARATOR"), (0, u "C"), (7, u "root")] 23

def k8m0 : Method := { name := "<init>", desc := "()V", sig := { parameters := [], returnType := none }, accessFlags := 2, code := none }
def k8c1 : Code := { maxStack := 3, maxLocals := 2, code := prog_10_method_3_code, exceptionTable := #[], attributes := #[] }
def k8m1 : Method := { name := "root", desc := "(Ljava/lang/String;)Ljava/lang/String;", sig := { parameters := [(.object "java/lang/String")], returnType := some (.object "java/lang/String") }, accessFlags := 8, code := some k8c1 }
/-- com/example/wary_lock/warylock/LockName -/
def k8 : Class := { plain "com/example/wary_lock/warylock/LockName" (some 0) with
  accessFlags := 48
  interfaces := #[]
  cf := some (fileOf pool8 10 #[] #[{ accessFlags := 2, nameIndex := 5, descriptorIndex := 6, attributes := #[] }, { accessFlags := 8, nameIndex := 106, descriptorIndex := 65, attributes := #[] }] 48 2 #[] #[{ accessFlags := 24, nameIndex := 97, descriptorIndex := 98, attributes := #[] }])
  fields := #[{ name := "SEPARATOR", type := .char, accessFlags := 24, slot := 0, constantValue := 0 }]
  methods := #[k8m0, k8m1]
  instanceTypes := #[]
  staticTypes := #[.char]
  resolved := Array.replicate 130 none
  statics := none }

def pool9 : Array CpInfo := pool [(1, .class_ 2), (0, u "java/lang/String"), (1, .class_ 6), (1, u "java/lang/Object"), (0, u "<init>"), (0, u "()V"), (5, .class_ 16), (1, u "java/lang/StringLatin1"), (21, .methodref 39 40), (0, .class_ 41), (0, .nameAndType 42 43), (0, u "java/lang/Math"), (0, u "min"), (0, u "(II)I"), (44, .methodref 14 89), (0, .nameAndType 90 91), (0, u "canEncode"), (0, u "(I)Z"), (0, .methodref 39 93), (0, .nameAndType 94 43), (0, u "max"), (0, .methodref 14 96), (0, .nameAndType 97 98), (0, u "indexOfChar"), (0, u "([BIII)I"), (2, u "indexOf"), (10, .methodref 1 113), (0, .nameAndType 7 114), (0, u "([BB)V"), (6, u "$assertionsDisabled"), (0, u "Z"), (8, .class_ 133), (1, u "java/util/Arrays"), (17, .string 152), (0, u ""), (43, u "newString"), (0, u "([BII)Ljava/lang/String;"), (23, .class_ 223), (1, u "java/lang/StringLatin1$LinesSpliterator"), (8, .methodref 131 233), (0, .nameAndType 234 235), (0, u "copyOfRange"), (0, u "([BII)[B"), (45, u "equals"), (0, u "([B[B)Z"), (107, .class_ 391), (0, u "java/lang/StringLatin1$CharsSpliterator")] 3

def k9m0 : Method := { name := "<init>", desc := "()V", sig := { parameters := [], returnType := none }, accessFlags := 0, code := none }
def k9c1 : Code := { maxStack := 2, maxLocals := 1, code := jdk_43_method_4_code, exceptionTable := #[], attributes := #[] }
def k9m1 : Method := { name := "canEncode", desc := "(I)Z", sig := { parameters := [.int], returnType := some .boolean }, accessFlags := 9, code := some k9c1 }
def k9c2 : Code := { maxStack := 3, maxLocals := 3, code := jdk_43_method_13_code, exceptionTable := #[], attributes := #[] }
def k9m2 : Method := { name := "equals", desc := "([B[B)Z", sig := { parameters := [(.array .byte), (.array .byte)], returnType := some .boolean }, accessFlags := 9, code := some k9c2 }
def k9c3 : Code := { maxStack := 4, maxLocals := 4, code := jdk_43_method_22_code, exceptionTable := #[], attributes := #[] }
def k9m3 : Method := { name := "indexOf", desc := "([BIII)I", sig := { parameters := [(.array .byte), .int, .int, .int], returnType := some .int }, accessFlags := 9, code := some k9c3 }
def k9c4 : Code := { maxStack := 2, maxLocals := 6, code := jdk_43_method_23_code, exceptionTable := #[], attributes := #[] }
def k9m4 : Method := { name := "indexOfChar", desc := "([BIII)I", sig := { parameters := [(.array .byte), .int, .int, .int], returnType := some .int }, accessFlags := 10, code := some k9c4 }
def k9c5 : Code := { maxStack := 6, maxLocals := 3, code := jdk_43_method_47_code, exceptionTable := #[], attributes := #[] }
def k9m5 : Method := { name := "newString", desc := "([BII)Ljava/lang/String;", sig := { parameters := [(.array .byte), .int, .int], returnType := some (.object "java/lang/String") }, accessFlags := 9, code := some k9c5 }
/-- java/lang/StringLatin1 -/
def k9 : Class := { plain "java/lang/StringLatin1" (some 0) with
  accessFlags := 48
  interfaces := #[]
  cf := some (fileOf pool9 14 #[.nestMembers #[390, 221]] #[{ accessFlags := 0, nameIndex := 7, descriptorIndex := 8, attributes := #[] }, { accessFlags := 9, nameIndex := 90, descriptorIndex := 91, attributes := #[] }, { accessFlags := 9, nameIndex := 281, descriptorIndex := 282, attributes := #[] }, { accessFlags := 9, nameIndex := 101, descriptorIndex := 98, attributes := #[] }, { accessFlags := 10, nameIndex := 97, descriptorIndex := 98, attributes := #[] }, { accessFlags := 9, nameIndex := 196, descriptorIndex := 197, attributes := #[] }] 48 4 #[] #[{ accessFlags := 4120, nameIndex := 121, descriptorIndex := 122, attributes := #[] }])
  fields := #[{ name := "$assertionsDisabled", type := .boolean, accessFlags := 4120, slot := 0, constantValue := 0 }]
  methods := #[k9m0, k9m1, k9m2, k9m3, k9m4, k9m5]
  instanceTypes := #[]
  staticTypes := #[.boolean]
  resolved := Array.replicate 395 none
  statics := none }

def pool10 : Array CpInfo := pool [(1, .class_ 2), (0, u "java/lang/Math"), (1, .class_ 6), (1, u "java/lang/Object"), (0, u "<init>"), (0, u "()V"), (89, .class_ 100), (1, u "java/lang/Math$RandomNumberGeneratorHolder"), (71, u "negativeZeroFloatBits"), (0, u "J"), (2, u "negativeZeroDoubleBits"), (21, u "max"), (2, u "min"), (43, u "$assertionsDisabled"), (0, u "Z"), (88, u "(II)I"), (2, u "twoToTheDoubleScaleDown"), (0, u "D"), (4, u "twoToTheDoubleScaleUp"), (9, u "E"), (3, u "PI"), (2, u "TAU"), (2, u "DEGREES_TO_RADIANS"), (0, u "RADIANS_TO_DEGREES")] 94

def k10m0 : Method := { name := "<init>", desc := "()V", sig := { parameters := [], returnType := none }, accessFlags := 2, code := none }
def k10c1 : Code := { maxStack := 2, maxLocals := 2, code := jdk_29_method_65_code, exceptionTable := #[], attributes := #[] }
def k10m1 : Method := { name := "max", desc := "(II)I", sig := { parameters := [.int, .int], returnType := some .int }, accessFlags := 9, code := some k10c1 }
def k10c2 : Code := { maxStack := 2, maxLocals := 2, code := jdk_29_method_69_code, exceptionTable := #[], attributes := #[] }
def k10m2 : Method := { name := "min", desc := "(II)I", sig := { parameters := [.int, .int], returnType := some .int }, accessFlags := 9, code := some k10c2 }
/-- java/lang/Math -/
def k10 : Class := { plain "java/lang/Math" (some 0) with
  accessFlags := 49
  interfaces := #[]
  cf := some (fileOf pool10 1 #[.nestMembers #[98]] #[{ accessFlags := 2, nameIndex := 7, descriptorIndex := 8, attributes := #[] }, { accessFlags := 9, nameIndex := 198, descriptorIndex := 335, attributes := #[] }, { accessFlags := 9, nameIndex := 201, descriptorIndex := 335, attributes := #[] }] 49 4 #[] #[{ accessFlags := 25, nameIndex := 354, descriptorIndex := 339, attributes := #[] }, { accessFlags := 25, nameIndex := 358, descriptorIndex := 339, attributes := #[] }, { accessFlags := 25, nameIndex := 361, descriptorIndex := 339, attributes := #[] }, { accessFlags := 26, nameIndex := 364, descriptorIndex := 339, attributes := #[] }, { accessFlags := 26, nameIndex := 365, descriptorIndex := 339, attributes := #[] }, { accessFlags := 26, nameIndex := 172, descriptorIndex := 173, attributes := #[] }, { accessFlags := 26, nameIndex := 176, descriptorIndex := 173, attributes := #[] }, { accessFlags := 8, nameIndex := 344, descriptorIndex := 339, attributes := #[] }, { accessFlags := 8, nameIndex := 338, descriptorIndex := 339, attributes := #[] }, { accessFlags := 4120, nameIndex := 245, descriptorIndex := 246, attributes := #[] }])
  fields := #[{ name := "E", type := .double, accessFlags := 25, slot := 0, constantValue := 0 }, { name := "PI", type := .double, accessFlags := 25, slot := 1, constantValue := 0 }, { name := "TAU", type := .double, accessFlags := 25, slot := 2, constantValue := 0 }, { name := "DEGREES_TO_RADIANS", type := .double, accessFlags := 26, slot := 3, constantValue := 0 }, { name := "RADIANS_TO_DEGREES", type := .double, accessFlags := 26, slot := 4, constantValue := 0 }, { name := "negativeZeroFloatBits", type := .long, accessFlags := 26, slot := 5, constantValue := 0 }, { name := "negativeZeroDoubleBits", type := .long, accessFlags := 26, slot := 6, constantValue := 0 }, { name := "twoToTheDoubleScaleUp", type := .double, accessFlags := 8, slot := 7, constantValue := 0 }, { name := "twoToTheDoubleScaleDown", type := .double, accessFlags := 8, slot := 8, constantValue := 0 }, { name := "$assertionsDisabled", type := .boolean, accessFlags := 4120, slot := 9, constantValue := 0 }]
  methods := #[k10m0, k10m1, k10m2]
  instanceTypes := #[]
  staticTypes := #[.double, .double, .double, .double, .double, .long, .long, .double, .double, .boolean]
  resolved := Array.replicate 460 none
  statics := none }

def pool11 : Array CpInfo := pool [(6, .class_ 8), (1, u "java/lang/Object"), (0, u "<init>"), (0, u "()V"), (1, .class_ 14), (1, u "java/lang/StringUTF16"), (31, u "$assertionsDisabled"), (0, u "Z"), (13, u "HI_BYTE_SHIFT"), (0, u "I"), (2, u "LO_BYTE_SHIFT"), (49, .methodref 12 116), (0, .nameAndType 117 118), (0, u "compress"), (0, u "([CI[BII)I"), (3, u "([CII)[B"), (138, u "coderFromArrayLen"), (0, u "([BI)B"), (106, .class_ 371), (1, u "java/lang/StringUTF16$LinesSpliterator"), (58, u "MAX_LENGTH"), (196, .class_ 628), (0, u "java/lang/StringUTF16$CodePointsSpliterator"), (0, .class_ 630), (0, u "java/lang/StringUTF16$CharsSpliterator")] 4

def k11m0 : Method := { name := "<init>", desc := "()V", sig := { parameters := [], returnType := none }, accessFlags := 0, code := none }
def k11c1 : Code := { maxStack := 2, maxLocals := 2, code := jdk_52_method_15_code, exceptionTable := #[], attributes := #[] }
def k11m1 : Method := { name := "coderFromArrayLen", desc := "([BI)B", sig := { parameters := [(.array .byte), .int], returnType := some .byte }, accessFlags := 8, code := some k11c1 }
def k11c2 : Code := { maxStack := 5, maxLocals := 6, code := jdk_52_method_16_code, exceptionTable := #[], attributes := #[] }
def k11m2 : Method := { name := "compress", desc := "([CII)[B", sig := { parameters := [(.array .char), .int, .int], returnType := some (.array .byte) }, accessFlags := 9, code := some k11c2 }
def k11c3 : Code := { maxStack := 3, maxLocals := 7, code := jdk_52_method_21_code, exceptionTable := #[], attributes := #[] }
def k11m3 : Method := { name := "compress", desc := "([CI[BII)I", sig := { parameters := [(.array .char), .int, (.array .byte), .int, .int], returnType := some .int }, accessFlags := 9, code := some k11c3 }
/-- java/lang/StringUTF16 -/
def k11 : Class := { plain "java/lang/StringUTF16" (some 0) with
  accessFlags := 48
  interfaces := #[]
  cf := some (fileOf pool11 12 #[.nestMembers #[627, 629, 369]] #[{ accessFlags := 0, nameIndex := 9, descriptorIndex := 10, attributes := #[] }, { accessFlags := 8, nameIndex := 261, descriptorIndex := 262, attributes := #[] }, { accessFlags := 9, nameIndex := 117, descriptorIndex := 122, attributes := #[] }, { accessFlags := 9, nameIndex := 117, descriptorIndex := 118, attributes := #[] }] 48 6 #[] #[{ accessFlags := 26, nameIndex := 61, descriptorIndex := 62, attributes := #[] }, { accessFlags := 26, nameIndex := 65, descriptorIndex := 62, attributes := #[] }, { accessFlags := 24, nameIndex := 430, descriptorIndex := 62, attributes := #[] }, { accessFlags := 4120, nameIndex := 46, descriptorIndex := 47, attributes := #[] }])
  fields := #[{ name := "HI_BYTE_SHIFT", type := .int, accessFlags := 26, slot := 0, constantValue := 0 }, { name := "LO_BYTE_SHIFT", type := .int, accessFlags := 26, slot := 1, constantValue := 0 }, { name := "MAX_LENGTH", type := .int, accessFlags := 24, slot := 2, constantValue := 0 }, { name := "$assertionsDisabled", type := .boolean, accessFlags := 4120, slot := 3, constantValue := 0 }]
  methods := #[k11m0, k11m1, k11m2, k11m3]
  instanceTypes := #[]
  staticTypes := #[.int, .int, .int, .boolean]
  resolved := Array.replicate 635 none
  statics := none }

def pool12 : Array CpInfo := pool [(2, .class_ 4), (1, u "java/lang/Object"), (0, u "<init>"), (0, u "()V"), (17, .class_ 26), (1, u "jdk/internal/util/Preconditions"), (20, u "checkFromToIndex"), (7, .class_ 56), (0, u "jdk/internal/util/Preconditions$4"), (57, .class_ 115), (0, u "jdk/internal/util/Preconditions$1"), (7, u "SIOOBE_FORMATTER"), (0, u "Ljava/util/function/BiFunction;"), (0, .class_ 126), (0, u "jdk/internal/util/Preconditions$2"), (3, u "AIOOBE_FORMATTER"), (0, .class_ 132), (0, u "jdk/internal/util/Preconditions$3"), (3, u "IOOBE_FORMATTER"), (46, u "(IIILjava/util/function/BiFunction;)I")] 10

def k12m0 : Method := { name := "<init>", desc := "()V", sig := { parameters := [], returnType := none }, accessFlags := 1, code := none }
def k12c1 : Code := { maxStack := 4, maxLocals := 4, code := jdk_41_method_12_code, exceptionTable := #[], attributes := #[] }
def k12m1 : Method := { name := "checkFromToIndex", desc := "(IIILjava/util/function/BiFunction;)I", sig := { parameters := [.int, .int, .int, (.object "java/util/function/BiFunction")], returnType := some .int }, accessFlags := 9, code := some k12c1 }
/-- jdk/internal/util/Preconditions -/
def k12 : Class := { plain "jdk/internal/util/Preconditions" (some 0) with
  accessFlags := 33
  interfaces := #[]
  cf := some (fileOf pool12 24 #[.nestMembers #[55, 131, 125, 114]] #[{ accessFlags := 1, nameIndex := 5, descriptorIndex := 6, attributes := #[] }, { accessFlags := 9, nameIndex := 47, descriptorIndex := 183, attributes := #[] }] 33 2 #[] #[{ accessFlags := 25, nameIndex := 123, descriptorIndex := 124, attributes := #[] }, { accessFlags := 25, nameIndex := 130, descriptorIndex := 124, attributes := #[] }, { accessFlags := 25, nameIndex := 136, descriptorIndex := 124, attributes := #[] }])
  fields := #[{ name := "SIOOBE_FORMATTER", type := (.object "java/util/function/BiFunction"), accessFlags := 25, slot := 0, constantValue := 0 }, { name := "AIOOBE_FORMATTER", type := (.object "java/util/function/BiFunction"), accessFlags := 25, slot := 1, constantValue := 0 }, { name := "IOOBE_FORMATTER", type := (.object "java/util/function/BiFunction"), accessFlags := 25, slot := 2, constantValue := 0 }]
  methods := #[k12m0, k12m1]
  instanceTypes := #[]
  staticTypes := #[(.object "java/util/function/BiFunction"), (.object "java/util/function/BiFunction"), (.object "java/util/function/BiFunction")]
  resolved := Array.replicate 194 none
  statics := some 1 }

def pool13 : Array CpInfo := pool [(2, .class_ 4), (1, u "java/lang/Object"), (0, u "<init>"), (0, u "()V"), (7, .class_ 16), (1, u "java/util/Arrays"), (57, .class_ 76), (1, u "java/util/Arrays$NaturalOrder"), (36, .class_ 115), (1, u "java/util/Arrays$LegacyMergeSort"), (1, u "Z"), (21, u "copyOfRange"), (10, .methodref 151 152), (0, .class_ 153), (0, .nameAndType 154 155), (0, u "java/lang/System"), (0, u "arraycopy"), (0, u "(Ljava/lang/Object;ILjava/lang/Object;II)V"), (148, .methodref 305 306), (0, .class_ 307), (0, .nameAndType 308 309), (0, u "java/lang/Math"), (0, u "min"), (0, u "(II)I"), (29, .methodref 14 340), (0, .nameAndType 341 342), (0, u "copyOfRangeByte"), (0, u "([BII)[B"), (0, .methodref 14 344), (0, .nameAndType 345 346), (0, u "checkLength"), (0, u "(II)V"), (28, .class_ 376), (0, u "java/util/Arrays$ArrayList"), (68, u "$assertionsDisabled"), (269, u "MIN_ARRAY_SORT_GRAN"), (0, u "I"), (2, u "INSERTIONSORT_THRESHOLD"), (255, .class_ 976), (0, u "java/util/Arrays$ArrayItr")] 52

def k13m0 : Method := { name := "<init>", desc := "()V", sig := { parameters := [], returnType := none }, accessFlags := 2, code := none }
def k13c1 : Code := { maxStack := 4, maxLocals := 2, code := jdk_65_method_131_code, exceptionTable := #[], attributes := #[] }
def k13m1 : Method := { name := "checkLength", desc := "(II)V", sig := { parameters := [.int, .int], returnType := none }, accessFlags := 10, code := some k13c1 }
def k13c2 : Code := { maxStack := 3, maxLocals := 3, code := jdk_65_method_132_code, exceptionTable := #[], attributes := #[] }
def k13m2 : Method := { name := "copyOfRange", desc := "([BII)[B", sig := { parameters := [(.array .byte), .int, .int], returnType := some (.array .byte) }, accessFlags := 9, code := some k13c2 }
def k13c3 : Code := { maxStack := 6, maxLocals := 5, code := jdk_65_method_133_code, exceptionTable := #[], attributes := #[] }
def k13m3 : Method := { name := "copyOfRangeByte", desc := "([BII)[B", sig := { parameters := [(.array .byte), .int, .int], returnType := some (.array .byte) }, accessFlags := 10, code := some k13c3 }
/-- java/util/Arrays -/
def k13 : Class := { plain "java/util/Arrays" (some 0) with
  accessFlags := 49
  interfaces := #[]
  cf := some (fileOf pool13 14 #[.nestMembers #[975, 375, 113, 74]] #[{ accessFlags := 2, nameIndex := 5, descriptorIndex := 6, attributes := #[] }, { accessFlags := 10, nameIndex := 345, descriptorIndex := 346, attributes := #[] }, { accessFlags := 9, nameIndex := 139, descriptorIndex := 342, attributes := #[] }, { accessFlags := 10, nameIndex := 341, descriptorIndex := 342, attributes := #[] }] 49 2 #[] #[{ accessFlags := 26, nameIndex := 715, descriptorIndex := 716, attributes := #[] }, { accessFlags := 26, nameIndex := 719, descriptorIndex := 716, attributes := #[] }, { accessFlags := 4120, nameIndex := 445, descriptorIndex := 117, attributes := #[] }])
  fields := #[{ name := "MIN_ARRAY_SORT_GRAN", type := .int, accessFlags := 26, slot := 0, constantValue := 0 }, { name := "INSERTIONSORT_THRESHOLD", type := .int, accessFlags := 26, slot := 1, constantValue := 0 }, { name := "$assertionsDisabled", type := .boolean, accessFlags := 4120, slot := 2, constantValue := 0 }]
  methods := #[k13m0, k13m1, k13m2, k13m3]
  instanceTypes := #[]
  staticTypes := #[.int, .int, .boolean]
  resolved := Array.replicate 1029 none
  statics := none }

def pool14 : Array CpInfo := pool [(2, .class_ 4), (1, u "java/lang/Object"), (0, u "<init>"), (0, u "()V"), (1, .class_ 10), (1, u "java/lang/System"), (0, u "allowSecurityManager"), (0, u "I"), (16, u "cons"), (0, u "Ljava/io/Console;"), (77, .class_ 110), (1, u "java/lang/System$CallersHolder"), (43, u "initialErrStream"), (0, u "Ljava/io/PrintStream;"), (19, u "security"), (0, u "Ljava/lang/SecurityManager;"), (31, .class_ 209), (0, u "java/lang/System$1"), (7, u "props"), (0, u "Ljava/util/Properties;"), (2, u "lineSeparator"), (0, u "Ljava/lang/String;"), (96, .class_ 321), (1, u "java/lang/System$LoggerFinder"), (5, .class_ 328), (0, u "java/lang/System$Logger"), (67, u "err"), (2, u "out"), (91, u "notSupportedJnuEncoding"), (15, u "in"), (17, u "initialIn"), (0, u "Ljava/io/InputStream;"), (35, u "bootLayer"), (0, u "Ljava/lang/ModuleLayer;"), (99, .class_ 664), (0, u "java/lang/System$2"), (9, u "NEVER"), (2, u "MAYBE"), (49, u "arraycopy"), (0, u "(Ljava/lang/Object;ILjava/lang/Object;II)V"), (72, .class_ 802), (0, u "java/lang/System$Logger$Level")] 31

def k14m0 : Method := { name := "<init>", desc := "()V", sig := { parameters := [], returnType := none }, accessFlags := 2, code := none }
def k14m1 : Method := { name := "arraycopy", desc := "(Ljava/lang/Object;ILjava/lang/Object;II)V", sig := { parameters := [(.object "java/lang/Object"), .int, (.object "java/lang/Object"), .int, .int], returnType := none }, accessFlags := 265, code := none }
/-- java/lang/System -/
def k14 : Class := { plain "java/lang/System" (some 0) with
  accessFlags := 49
  interfaces := #[]
  cf := some (fileOf pool14 8 #[.nestMembers #[319, 327, 801, 108, 663, 208]] #[{ accessFlags := 2, nameIndex := 5, descriptorIndex := 6, attributes := #[] }, { accessFlags := 265, nameIndex := 727, descriptorIndex := 728, attributes := #[] }] 49 2 #[] #[{ accessFlags := 25, nameIndex := 507, descriptorIndex := 526, attributes := #[] }, { accessFlags := 25, nameIndex := 399, descriptorIndex := 155, attributes := #[] }, { accessFlags := 25, nameIndex := 396, descriptorIndex := 155, attributes := #[] }, { accessFlags := 10, nameIndex := 525, descriptorIndex := 526, attributes := #[] }, { accessFlags := 26, nameIndex := 674, descriptorIndex := 12, attributes := #[] }, { accessFlags := 26, nameIndex := 677, descriptorIndex := 12, attributes := #[] }, { accessFlags := 10, nameIndex := 11, descriptorIndex := 12, attributes := #[] }, { accessFlags := 74, nameIndex := 175, descriptorIndex := 176, attributes := #[] }, { accessFlags := 10, nameIndex := 491, descriptorIndex := 222, attributes := #[] }, { accessFlags := 74, nameIndex := 29, descriptorIndex := 30, attributes := #[] }, { accessFlags := 74, nameIndex := 154, descriptorIndex := 155, attributes := #[] }, { accessFlags := 10, nameIndex := 217, descriptorIndex := 218, attributes := #[] }, { accessFlags := 10, nameIndex := 221, descriptorIndex := 222, attributes := #[] }, { accessFlags := 8, nameIndex := 562, descriptorIndex := 563, attributes := #[] }])
  fields := #[{ name := "in", type := (.object "java/io/InputStream"), accessFlags := 25, slot := 0, constantValue := 0 }, { name := "out", type := (.object "java/io/PrintStream"), accessFlags := 25, slot := 1, constantValue := 0 }, { name := "err", type := (.object "java/io/PrintStream"), accessFlags := 25, slot := 2, constantValue := 0 }, { name := "initialIn", type := (.object "java/io/InputStream"), accessFlags := 10, slot := 3, constantValue := 0 }, { name := "NEVER", type := .int, accessFlags := 26, slot := 4, constantValue := 0 }, { name := "MAYBE", type := .int, accessFlags := 26, slot := 5, constantValue := 0 }, { name := "allowSecurityManager", type := .int, accessFlags := 10, slot := 6, constantValue := 0 }, { name := "security", type := (.object "java/lang/SecurityManager"), accessFlags := 74, slot := 7, constantValue := 0 }, { name := "notSupportedJnuEncoding", type := (.object "java/lang/String"), accessFlags := 10, slot := 8, constantValue := 0 }, { name := "cons", type := (.object "java/io/Console"), accessFlags := 74, slot := 9, constantValue := 0 }, { name := "initialErrStream", type := (.object "java/io/PrintStream"), accessFlags := 74, slot := 10, constantValue := 0 }, { name := "props", type := (.object "java/util/Properties"), accessFlags := 10, slot := 11, constantValue := 0 }, { name := "lineSeparator", type := (.object "java/lang/String"), accessFlags := 10, slot := 12, constantValue := 0 }, { name := "bootLayer", type := (.object "java/lang/ModuleLayer"), accessFlags := 8, slot := 13, constantValue := 0 }]
  methods := #[k14m0, k14m1]
  instanceTypes := #[]
  staticTypes := #[(.object "java/io/InputStream"), (.object "java/io/PrintStream"), (.object "java/io/PrintStream"), (.object "java/io/InputStream"), .int, .int, .int, (.object "java/lang/SecurityManager"), (.object "java/lang/String"), (.object "java/io/Console"), (.object "java/io/PrintStream"), (.object "java/util/Properties"), (.object "java/lang/String"), (.object "java/lang/ModuleLayer")]
  resolved := Array.replicate 834 none
  statics := none }

def pool15 : Array CpInfo := pool [(9, u "<init>"), (6, .class_ 18), (1, u "java/lang/Object"), (0, u "()V"), (1, .class_ 23), (1, u "jdk/internal/util/ArraysSupport"), (0, u "LOG2_ARRAY_LONG_INDEX_SCALE"), (0, u "I"), (2, u "U"), (0, u "Ljdk/internal/misc/Unsafe;"), (8, u "BIG_ENDIAN"), (0, u "Z"), (8, u "LOG2_BYTE_BIT_SIZE"), (4, u "LOG2_ARRAY_INT_INDEX_SCALE"), (54, u "JLA"), (0, u "Ljdk/internal/access/JavaLangAccess;"), (11, u "LOG2_ARRAY_BOOLEAN_INDEX_SCALE"), (9, u "LOG2_ARRAY_BYTE_INDEX_SCALE"), (5, u "LOG2_ARRAY_CHAR_INDEX_SCALE"), (5, u "LOG2_ARRAY_SHORT_INDEX_SCALE"), (18, u "LOG2_ARRAY_FLOAT_INDEX_SCALE"), (24, u "LOG2_ARRAY_DOUBLE_INDEX_SCALE"), (89, u "T_BOOLEAN"), (2, u "T_CHAR"), (1, u "T_FLOAT"), (1, u "T_DOUBLE"), (1, u "T_BYTE"), (1, u "T_SHORT"), (1, u "T_INT"), (1, u "T_LONG"), (1, u "SOFT_MAX_ARRAY_LENGTH")] 83

def k15m0 : Method := { name := "<init>", desc := "()V", sig := { parameters := [], returnType := none }, accessFlags := 2, code := none }
/-- jdk/internal/util/ArraysSupport -/
def k15 : Class := { plain "jdk/internal/util/ArraysSupport" (some 0) with
  accessFlags := 33
  interfaces := #[]
  cf := some (fileOf pool15 21 #[] #[{ accessFlags := 2, nameIndex := 9, descriptorIndex := 19, attributes := #[] }] 33 16 #[] #[{ accessFlags := 24, nameIndex := 28, descriptorIndex := 29, attributes := #[] }, { accessFlags := 26, nameIndex := 38, descriptorIndex := 39, attributes := #[] }, { accessFlags := 25, nameIndex := 121, descriptorIndex := 25, attributes := #[] }, { accessFlags := 25, nameIndex := 131, descriptorIndex := 25, attributes := #[] }, { accessFlags := 25, nameIndex := 137, descriptorIndex := 25, attributes := #[] }, { accessFlags := 25, nameIndex := 143, descriptorIndex := 25, attributes := #[] }, { accessFlags := 25, nameIndex := 53, descriptorIndex := 25, attributes := #[] }, { accessFlags := 25, nameIndex := 24, descriptorIndex := 25, attributes := #[] }, { accessFlags := 25, nameIndex := 162, descriptorIndex := 25, attributes := #[] }, { accessFlags := 25, nameIndex := 187, descriptorIndex := 25, attributes := #[] }, { accessFlags := 26, nameIndex := 48, descriptorIndex := 25, attributes := #[] }, { accessFlags := 25, nameIndex := 277, descriptorIndex := 25, attributes := #[] }, { accessFlags := 25, nameIndex := 280, descriptorIndex := 25, attributes := #[] }, { accessFlags := 25, nameIndex := 282, descriptorIndex := 25, attributes := #[] }, { accessFlags := 25, nameIndex := 284, descriptorIndex := 25, attributes := #[] }, { accessFlags := 25, nameIndex := 286, descriptorIndex := 25, attributes := #[] }, { accessFlags := 25, nameIndex := 288, descriptorIndex := 25, attributes := #[] }, { accessFlags := 25, nameIndex := 290, descriptorIndex := 25, attributes := #[] }, { accessFlags := 25, nameIndex := 292, descriptorIndex := 25, attributes := #[] }, { accessFlags := 26, nameIndex := 108, descriptorIndex := 109, attributes := #[] }, { accessFlags := 25, nameIndex := 294, descriptorIndex := 25, attributes := #[] }])
  fields := #[{ name := "U", type := (.object "jdk/internal/misc/Unsafe"), accessFlags := 24, slot := 0, constantValue := 0 }, { name := "BIG_ENDIAN", type := .boolean, accessFlags := 26, slot := 1, constantValue := 0 }, { name := "LOG2_ARRAY_BOOLEAN_INDEX_SCALE", type := .int, accessFlags := 25, slot := 2, constantValue := 0 }, { name := "LOG2_ARRAY_BYTE_INDEX_SCALE", type := .int, accessFlags := 25, slot := 3, constantValue := 0 }, { name := "LOG2_ARRAY_CHAR_INDEX_SCALE", type := .int, accessFlags := 25, slot := 4, constantValue := 0 }, { name := "LOG2_ARRAY_SHORT_INDEX_SCALE", type := .int, accessFlags := 25, slot := 5, constantValue := 0 }, { name := "LOG2_ARRAY_INT_INDEX_SCALE", type := .int, accessFlags := 25, slot := 6, constantValue := 0 }, { name := "LOG2_ARRAY_LONG_INDEX_SCALE", type := .int, accessFlags := 25, slot := 7, constantValue := 0 }, { name := "LOG2_ARRAY_FLOAT_INDEX_SCALE", type := .int, accessFlags := 25, slot := 8, constantValue := 0 }, { name := "LOG2_ARRAY_DOUBLE_INDEX_SCALE", type := .int, accessFlags := 25, slot := 9, constantValue := 0 }, { name := "LOG2_BYTE_BIT_SIZE", type := .int, accessFlags := 26, slot := 10, constantValue := 0 }, { name := "T_BOOLEAN", type := .int, accessFlags := 25, slot := 11, constantValue := 0 }, { name := "T_CHAR", type := .int, accessFlags := 25, slot := 12, constantValue := 0 }, { name := "T_FLOAT", type := .int, accessFlags := 25, slot := 13, constantValue := 0 }, { name := "T_DOUBLE", type := .int, accessFlags := 25, slot := 14, constantValue := 0 }, { name := "T_BYTE", type := .int, accessFlags := 25, slot := 15, constantValue := 0 }, { name := "T_SHORT", type := .int, accessFlags := 25, slot := 16, constantValue := 0 }, { name := "T_INT", type := .int, accessFlags := 25, slot := 17, constantValue := 0 }, { name := "T_LONG", type := .int, accessFlags := 25, slot := 18, constantValue := 0 }, { name := "JLA", type := (.object "jdk/internal/access/JavaLangAccess"), accessFlags := 26, slot := 19, constantValue := 0 }, { name := "SOFT_MAX_ARRAY_LENGTH", type := .int, accessFlags := 25, slot := 20, constantValue := 0 }]
  methods := #[k15m0]
  instanceTypes := #[]
  staticTypes := #[(.object "jdk/internal/misc/Unsafe"), .boolean, .int, .int, .int, .int, .int, .int, .int, .int, .int, .int, .int, .int, .int, .int, .int, .int, .int, (.object "jdk/internal/access/JavaLangAccess"), .int]
  resolved := Array.replicate 378 none
  statics := none }

def pool16 : Array CpInfo := pool [(1, u "java/lang/Cloneable"), (0, .class_ 1), (0, u "java/lang/Object"), (0, .class_ 3)] 3

/-- java/lang/Cloneable -/
def k16 : Class := { plain "java/lang/Cloneable" (some 0) with
  accessFlags := 1537
  interfaces := #[]
  cf := some (fileOf pool16 2 #[] #[] 1537 4 #[] #[])
  fields := #[]
  methods := #[]
  instanceTypes := #[]
  staticTypes := #[]
  resolved := Array.replicate 8 none
  statics := none }

/-- the primitive byte -/
def k17 : Class := { plain "byte" none with kind := .primitive 'B', accessFlags := 0x411 }
/-- [B -/
def k18 : Class := { plain "[B" (some 0) with kind := .array 17 .byte, interfaces := #[16, 2], accessFlags := 1041 }

/-- the primitive char -/
def k19 : Class := { plain "char" none with kind := .primitive 'C', accessFlags := 0x411 }
/-- [C -/
def k20 : Class := { plain "[C" (some 0) with kind := .array 19 .char, interfaces := #[16, 2], accessFlags := 1041 }

/-- the primitive int -/
def k21 : Class := { plain "int" none with kind := .primitive 'I', accessFlags := 0x411 }
/-- [I -/
def k22 : Class := { plain "[I" (some 0) with kind := .array 21 .int, interfaces := #[16, 2], accessFlags := 1041 }

def heap : Heap := #[{ cls := 7, slots := #[.long 0, .int 1, .null, .int 0, .null, .int 0, .int 0], vm := .statics 7 },
  { cls := 12, slots := #[.null, .null, .null], vm := .statics 12 }]
def classes : Array Class := #[k0, k1, k2, k3, k4, k5, k6, k7, k8, k9, k10, k11, k12, k13, k14, k15, k16, k17, k18, k19, k20, k21, k22]
def interned : List (Array UInt16 × Addr) := []
def slotsUsed : Nat := 10
def theMethod : MethodId := ⟨1, 3⟩
def args0 : Array Value := #[.int 0, .int 1, .int 2, .int 3, .int 4]
def aboutOver (below : List Frame) : State where
  vm := { classes := classes, interned := interned.toArray }
  heap := heap
  slotsUsed := slotsUsed
  threads := #[{ frames := .invoking theMethod args0 :: below }]
def below0 : List Frame := [.native { method := ⟨0, 0⟩, args := #[] }]
def about1 : State := aboutOver below0
def p0 : Program := .bare "" "" ""
def e0 : Env := launch0.env 0 0 0
theorem w_frames : about1.frames = Frame.invoking theMethod args0 :: below0 := rfl
set_option maxRecDepth 65536 in
theorem w_args : argsFit about1.vm theMethod args0 = true := by decide +kernel
set_option maxRecDepth 65536 in
theorem w_heap : heapFits about1 = true := by decide +kernel
set_option maxRecDepth 65536 in
theorem w_runnable : about1.curStatus? = some .runnable := by decide +kernel
set_option maxRecDepth 65536 in
theorem w_alone : about1.alone = true := by decide +kernel
set_option maxRecDepth 65536 in
theorem w_named : about1.methodNamed? x = some theMethod := by decide +kernel
set_option maxRecDepth 65536 in
theorem w_hears : about1.hears theMethod below0 = true := by decide +kernel
set_option maxRecDepth 65536 in
theorem w_ripe : about1.ripe theMethod args0 below0 = true := by decide +kernel
theorem w_running : about1.status = .running := rfl
set_option maxRecDepth 65536 in
theorem w_room : about1.hasRoom e0.platform room_1 = true :=
  launch0.hasRoom_least _ room_1 (by decide +kernel) (by decide +kernel) (by decide +kernel) (by decide +kernel) (by decide +kernel) (by decide +kernel)
theorem allAtoms_all (ts : List Jvm.Cond) (a : Array Jvm.Value) (st : Jvm.State) : (allAtoms ts).before a st = ts.all (fun c => c.before a st) := by
  induction ts with
  | nil => rfl
  | cons c t ih =>
    show (Jvm.Cond.and c (allAtoms t)).before a st = _
    rw [Jvm.Cond.before_and, ih, List.all_cons]
def words1 : List Jvm.Cond := Jvm.Cond.code x code maxLocals ret :: tables_1
/-- a 'code' word, met by the world's own term for the bytes: nothing is compared byte by byte -/
theorem code_word {y : MethodName} {bytes : ByteArray} {mx : Nat} {rt : Option FieldType} {a : Array Value} {s : State} {m : MethodId} {meth : Method} {c : Code} (h1 : s.methodNamed? y = some m) (h2 : s.vm.method? m = some meth) (h3 : meth.code = some c) (h4 : c.code = bytes)
    (h5 : (c.maxLocals == mx && c.exceptionTable.isEmpty && decide (c.maxStack ≤ mostOperands) && decide (meth.sig.returnType = rt) && !meth.locks && decide (parseMethodDescriptor y.desc = some meth.sig)) = true) : (Jvm.Cond.code y bytes mx rt).before a s = true := by
  simp only [Bool.and_eq_true, beq_iff_eq, Bool.not_eq_true', decide_eq_true_eq] at h5
  obtain ⟨⟨⟨⟨⟨g1, g2⟩, g3⟩, g4⟩, g5⟩, g6⟩ := h5
  simp [Cond.before, Cond.holds, Cond.value, h1, h2, h3, h4, g1, g2, g3, g4, g5, g6]
def isCode : Jvm.Cond → Bool
  | .code _ _ _ _ => true
  | _ => false
theorem all_split {L : List Jvm.Cond} {P : Jvm.Cond → Bool} (h1 : L.all (fun c => isCode c || P c) = true) (h2 : ∀ c ∈ L.filter isCode, P c = true) : L.all P = true := by
  refine List.all_eq_true.mpr fun c hc => ?_
  have h := List.all_eq_true.mp h1 c hc
  rcases Bool.eq_false_or_eq_true (isCode c) with hi | hi
  · exact h2 c (List.mem_filter.mpr ⟨hc, hi⟩)
  · simpa [hi] using h
set_option maxRecDepth 65536 in
theorem w_c0 : (Jvm.Cond.code x code maxLocals ret).before args0 about1 = true := code_word (m := ⟨1, 3⟩) (meth := k1m3) (c := k1c3) (by decide +kernel) rfl rfl rfl (by decide +kernel)
set_option maxRecDepth 65536 in
theorem w_c1 : (Jvm.Cond.code ({ cls := "com/example/wary_lock/warylock/LockNameRootPinLaw", name := "ch", desc := "(I)C" } : Jvm.MethodName) method_2_code (1 : Nat) (Option.some Jvm.ClassFile.FieldType.char)).before args0 about1 = true := code_word (m := ⟨1, 1⟩) (meth := k1m1) (c := k1c1) (by decide +kernel) rfl rfl rfl (by decide +kernel)
set_option maxRecDepth 65536 in
theorem w_c2 : (Jvm.Cond.code ({ cls := "com/example/wary_lock/warylock/LockNameRootPinLaw", name := "mk", desc := "(ICCCC)Ljava/lang/String;" } : Jvm.MethodName) method_3_code (5 : Nat) (Option.some (Jvm.ClassFile.FieldType.object "java/lang/String"))).before args0 about1 = true := code_word (m := ⟨1, 2⟩) (meth := k1m2) (c := k1c2) (by decide +kernel) rfl rfl rfl (by decide +kernel)
set_option maxRecDepth 65536 in
theorem w_c3 : (Jvm.Cond.code ({ cls := "java/lang/String", name := "<init>", desc := "([C)V" } : Jvm.MethodName) jdk_42_method_3_code (2 : Nat) (Option.none : Option Jvm.ClassFile.FieldType)).before args0 about1 = true := code_word (m := ⟨7, 1⟩) (meth := k7m1) (c := k7c1) (by decide +kernel) rfl rfl rfl (by decide +kernel)
set_option maxRecDepth 65536 in
theorem w_c4 : (Jvm.Cond.code ({ cls := "java/lang/String", name := "<init>", desc := "([CIILjava/lang/Void;)V" } : Jvm.MethodName) jdk_42_method_149_code (6 : Nat) (Option.none : Option Jvm.ClassFile.FieldType)).before args0 about1 = true := code_word (m := ⟨7, 7⟩) (meth := k7m7) (c := k7c7) (by decide +kernel) rfl rfl rfl (by decide +kernel)
set_option maxRecDepth 65536 in
theorem w_c5 : (Jvm.Cond.code ({ cls := "java/lang/Object", name := "<init>", desc := "()V" } : Jvm.MethodName) object_method_1_code (1 : Nat) (Option.none : Option Jvm.ClassFile.FieldType)).before args0 about1 = true := code_word (m := ⟨0, 0⟩) (meth := k0m0) (c := k0c0) (by decide +kernel) rfl rfl rfl (by decide +kernel)
set_option maxRecDepth 65536 in
theorem w_c6 : (Jvm.Cond.code ({ cls := "com/example/wary_lock/warylock/LockName", name := "root", desc := "(Ljava/lang/String;)Ljava/lang/String;" } : Jvm.MethodName) prog_10_method_3_code (2 : Nat) (Option.some (Jvm.ClassFile.FieldType.object "java/lang/String"))).before args0 about1 = true := code_word (m := ⟨8, 1⟩) (meth := k8m1) (c := k8c1) (by decide +kernel) rfl rfl rfl (by decide +kernel)
set_option maxRecDepth 65536 in
theorem w_c7 : (Jvm.Cond.code ({ cls := "java/lang/String", name := "indexOf", desc := "(I)I" } : Jvm.MethodName) jdk_42_method_79_code (2 : Nat) (Option.some Jvm.ClassFile.FieldType.int)).before args0 about1 = true := code_word (m := ⟨7, 4⟩) (meth := k7m4) (c := k7c4) (by decide +kernel) rfl rfl rfl (by decide +kernel)
set_option maxRecDepth 65536 in
theorem w_c8 : (Jvm.Cond.code ({ cls := "java/lang/String", name := "indexOf", desc := "(II)I" } : Jvm.MethodName) jdk_42_method_80_code (3 : Nat) (Option.some Jvm.ClassFile.FieldType.int)).before args0 about1 = true := code_word (m := ⟨7, 5⟩) (meth := k7m5) (c := k7c5) (by decide +kernel) rfl rfl rfl (by decide +kernel)
set_option maxRecDepth 65536 in
theorem w_c9 : (Jvm.Cond.code ({ cls := "java/lang/String", name := "isLatin1", desc := "()Z" } : Jvm.MethodName) jdk_42_method_154_code (1 : Nat) (Option.some Jvm.ClassFile.FieldType.boolean)).before args0 about1 = true := code_word (m := ⟨7, 10⟩) (meth := k7m10) (c := k7c10) (by decide +kernel) rfl rfl rfl (by decide +kernel)
set_option maxRecDepth 65536 in
theorem w_c10 : (Jvm.Cond.code ({ cls := "java/lang/String", name := "length", desc := "()I" } : Jvm.MethodName) jdk_42_method_54_code (1 : Nat) (Option.some Jvm.ClassFile.FieldType.int)).before args0 about1 = true := code_word (m := ⟨7, 2⟩) (meth := k7m2) (c := k7c2) (by decide +kernel) rfl rfl rfl (by decide +kernel)
set_option maxRecDepth 65536 in
theorem w_c11 : (Jvm.Cond.code ({ cls := "java/lang/String", name := "coder", desc := "()B" } : Jvm.MethodName) jdk_42_method_152_code (1 : Nat) (Option.some Jvm.ClassFile.FieldType.byte)).before args0 about1 = true := code_word (m := ⟨7, 9⟩) (meth := k7m9) (c := k7c9) (by decide +kernel) rfl rfl rfl (by decide +kernel)
set_option maxRecDepth 65536 in
theorem w_c12 : (Jvm.Cond.code ({ cls := "java/lang/StringLatin1", name := "indexOf", desc := "([BIII)I" } : Jvm.MethodName) jdk_43_method_22_code (4 : Nat) (Option.some Jvm.ClassFile.FieldType.int)).before args0 about1 = true := code_word (m := ⟨9, 3⟩) (meth := k9m3) (c := k9c3) (by decide +kernel) rfl rfl rfl (by decide +kernel)
set_option maxRecDepth 65536 in
theorem w_c13 : (Jvm.Cond.code ({ cls := "java/lang/StringLatin1", name := "canEncode", desc := "(I)Z" } : Jvm.MethodName) jdk_43_method_4_code (1 : Nat) (Option.some Jvm.ClassFile.FieldType.boolean)).before args0 about1 = true := code_word (m := ⟨9, 1⟩) (meth := k9m1) (c := k9c1) (by decide +kernel) rfl rfl rfl (by decide +kernel)
set_option maxRecDepth 65536 in
theorem w_c14 : (Jvm.Cond.code ({ cls := "java/lang/Math", name := "max", desc := "(II)I" } : Jvm.MethodName) jdk_29_method_65_code (2 : Nat) (Option.some Jvm.ClassFile.FieldType.int)).before args0 about1 = true := code_word (m := ⟨10, 1⟩) (meth := k10m1) (c := k10c1) (by decide +kernel) rfl rfl rfl (by decide +kernel)
set_option maxRecDepth 65536 in
theorem w_c15 : (Jvm.Cond.code ({ cls := "java/lang/Math", name := "min", desc := "(II)I" } : Jvm.MethodName) jdk_29_method_69_code (2 : Nat) (Option.some Jvm.ClassFile.FieldType.int)).before args0 about1 = true := code_word (m := ⟨10, 2⟩) (meth := k10m2) (c := k10c2) (by decide +kernel) rfl rfl rfl (by decide +kernel)
set_option maxRecDepth 65536 in
theorem w_c16 : (Jvm.Cond.code ({ cls := "java/lang/String", name := "equals", desc := "(Ljava/lang/Object;)Z" } : Jvm.MethodName) jdk_42_method_66_code (3 : Nat) (Option.some Jvm.ClassFile.FieldType.boolean)).before args0 about1 = true := code_word (m := ⟨7, 3⟩) (meth := k7m3) (c := k7c3) (by decide +kernel) rfl rfl rfl (by decide +kernel)
set_option maxRecDepth 65536 in
theorem w_c17 : (Jvm.Cond.code ({ cls := "java/lang/StringLatin1", name := "equals", desc := "([B[B)Z" } : Jvm.MethodName) jdk_43_method_13_code (3 : Nat) (Option.some Jvm.ClassFile.FieldType.boolean)).before args0 about1 = true := code_word (m := ⟨9, 2⟩) (meth := k9m2) (c := k9c2) (by decide +kernel) rfl rfl rfl (by decide +kernel)
set_option maxRecDepth 65536 in
theorem w_c18 : (Jvm.Cond.code ({ cls := "java/lang/StringUTF16", name := "compress", desc := "([CII)[B" } : Jvm.MethodName) jdk_52_method_16_code (6 : Nat) (Option.some (Jvm.ClassFile.FieldType.array Jvm.ClassFile.FieldType.byte))).before args0 about1 = true := code_word (m := ⟨11, 2⟩) (meth := k11m2) (c := k11c2) (by decide +kernel) rfl rfl rfl (by decide +kernel)
set_option maxRecDepth 65536 in
theorem w_c19 : (Jvm.Cond.code ({ cls := "java/lang/StringUTF16", name := "compress", desc := "([CI[BII)I" } : Jvm.MethodName) jdk_52_method_21_code (7 : Nat) (Option.some Jvm.ClassFile.FieldType.int)).before args0 about1 = true := code_word (m := ⟨11, 3⟩) (meth := k11m3) (c := k11c3) (by decide +kernel) rfl rfl rfl (by decide +kernel)
set_option maxRecDepth 65536 in
theorem w_c20 : (Jvm.Cond.code ({ cls := "java/lang/StringUTF16", name := "coderFromArrayLen", desc := "([BI)B" } : Jvm.MethodName) jdk_52_method_15_code (2 : Nat) (Option.some Jvm.ClassFile.FieldType.byte)).before args0 about1 = true := code_word (m := ⟨11, 1⟩) (meth := k11m1) (c := k11c1) (by decide +kernel) rfl rfl rfl (by decide +kernel)
set_option maxRecDepth 65536 in
theorem w_c21 : (Jvm.Cond.code ({ cls := "java/lang/StringLatin1", name := "indexOfChar", desc := "([BIII)I" } : Jvm.MethodName) jdk_43_method_23_code (6 : Nat) (Option.some Jvm.ClassFile.FieldType.int)).before args0 about1 = true := code_word (m := ⟨9, 4⟩) (meth := k9m4) (c := k9c4) (by decide +kernel) rfl rfl rfl (by decide +kernel)
set_option maxRecDepth 65536 in
theorem w_c22 : (Jvm.Cond.code ({ cls := "java/lang/String", name := "substring", desc := "(II)Ljava/lang/String;" } : Jvm.MethodName) jdk_42_method_92_code (5 : Nat) (Option.some (Jvm.ClassFile.FieldType.object "java/lang/String"))).before args0 about1 = true := code_word (m := ⟨7, 6⟩) (meth := k7m6) (c := k7c6) (by decide +kernel) rfl rfl rfl (by decide +kernel)
set_option maxRecDepth 65536 in
theorem w_c23 : (Jvm.Cond.code ({ cls := "java/lang/String", name := "checkBoundsBeginEnd", desc := "(III)V" } : Jvm.MethodName) jdk_42_method_158_code (3 : Nat) (Option.none : Option Jvm.ClassFile.FieldType)).before args0 about1 = true := code_word (m := ⟨7, 11⟩) (meth := k7m11) (c := k7c11) (by decide +kernel) rfl rfl rfl (by decide +kernel)
set_option maxRecDepth 65536 in
theorem w_c24 : (Jvm.Cond.code ({ cls := "jdk/internal/util/Preconditions", name := "checkFromToIndex", desc := "(IIILjava/util/function/BiFunction;)I" } : Jvm.MethodName) jdk_41_method_12_code (4 : Nat) (Option.some Jvm.ClassFile.FieldType.int)).before args0 about1 = true := code_word (m := ⟨12, 1⟩) (meth := k12m1) (c := k12c1) (by decide +kernel) rfl rfl rfl (by decide +kernel)
set_option maxRecDepth 65536 in
theorem w_c25 : (Jvm.Cond.code ({ cls := "java/lang/StringLatin1", name := "newString", desc := "([BII)Ljava/lang/String;" } : Jvm.MethodName) jdk_43_method_47_code (3 : Nat) (Option.some (Jvm.ClassFile.FieldType.object "java/lang/String"))).before args0 about1 = true := code_word (m := ⟨9, 5⟩) (meth := k9m5) (c := k9c5) (by decide +kernel) rfl rfl rfl (by decide +kernel)
set_option maxRecDepth 65536 in
theorem w_c26 : (Jvm.Cond.code ({ cls := "java/util/Arrays", name := "copyOfRange", desc := "([BII)[B" } : Jvm.MethodName) jdk_65_method_132_code (3 : Nat) (Option.some (Jvm.ClassFile.FieldType.array Jvm.ClassFile.FieldType.byte))).before args0 about1 = true := code_word (m := ⟨13, 2⟩) (meth := k13m2) (c := k13c2) (by decide +kernel) rfl rfl rfl (by decide +kernel)
set_option maxRecDepth 65536 in
theorem w_c27 : (Jvm.Cond.code ({ cls := "java/util/Arrays", name := "copyOfRangeByte", desc := "([BII)[B" } : Jvm.MethodName) jdk_65_method_133_code (5 : Nat) (Option.some (Jvm.ClassFile.FieldType.array Jvm.ClassFile.FieldType.byte))).before args0 about1 = true := code_word (m := ⟨13, 3⟩) (meth := k13m3) (c := k13c3) (by decide +kernel) rfl rfl rfl (by decide +kernel)
set_option maxRecDepth 65536 in
theorem w_c28 : (Jvm.Cond.code ({ cls := "java/util/Arrays", name := "checkLength", desc := "(II)V" } : Jvm.MethodName) jdk_65_method_131_code (2 : Nat) (Option.none : Option Jvm.ClassFile.FieldType)).before args0 about1 = true := code_word (m := ⟨13, 1⟩) (meth := k13m1) (c := k13c1) (by decide +kernel) rfl rfl rfl (by decide +kernel)
set_option maxRecDepth 65536 in
theorem w_c29 : (Jvm.Cond.code ({ cls := "java/lang/String", name := "<init>", desc := "([BB)V" } : Jvm.MethodName) jdk_42_method_151_code (3 : Nat) (Option.none : Option Jvm.ClassFile.FieldType)).before args0 about1 = true := code_word (m := ⟨7, 8⟩) (meth := k7m8) (c := k7c8) (by decide +kernel) rfl rfl rfl (by decide +kernel)
def codes1 : List Jvm.Cond := [Jvm.Cond.code x code maxLocals ret, Jvm.Cond.code ({ cls := "com/example/wary_lock/warylock/LockNameRootPinLaw", name := "ch", desc := "(I)C" } : Jvm.MethodName) method_2_code (1 : Nat) (Option.some Jvm.ClassFile.FieldType.char), Jvm.Cond.code ({ cls := "com/example/wary_lock/warylock/LockNameRootPinLaw", name := "mk", desc := "(ICCCC)Ljava/lang/String;" } : Jvm.MethodName) method_3_code (5 : Nat) (Option.some (Jvm.ClassFile.FieldType.object "java/lang/String")), Jvm.Cond.code ({ cls := "java/lang/String", name := "<init>", desc := "([C)V" } : Jvm.MethodName) jdk_42_method_3_code (2 : Nat) (Option.none : Option Jvm.ClassFile.FieldType), Jvm.Cond.code ({ cls := "java/lang/String", name := "<init>", desc := "([CIILjava/lang/Void;)V" } : Jvm.MethodName) jdk_42_method_149_code (6 : Nat) (Option.none : Option Jvm.ClassFile.FieldType), Jvm.Cond.code ({ cls := "java/lang/Object", name := "<init>", desc := "()V" } : Jvm.MethodName) object_method_1_code (1 : Nat) (Option.none : Option Jvm.ClassFile.FieldType), Jvm.Cond.code ({ cls := "com/example/wary_lock/warylock/LockName", name := "root", desc := "(Ljava/lang/String;)Ljava/lang/String;" } : Jvm.MethodName) prog_10_method_3_code (2 : Nat) (Option.some (Jvm.ClassFile.FieldType.object "java/lang/String")), Jvm.Cond.code ({ cls := "java/lang/String", name := "indexOf", desc := "(I)I" } : Jvm.MethodName) jdk_42_method_79_code (2 : Nat) (Option.some Jvm.ClassFile.FieldType.int), Jvm.Cond.code ({ cls := "java/lang/String", name := "indexOf", desc := "(II)I" } : Jvm.MethodName) jdk_42_method_80_code (3 : Nat) (Option.some Jvm.ClassFile.FieldType.int), Jvm.Cond.code ({ cls := "java/lang/String", name := "isLatin1", desc := "()Z" } : Jvm.MethodName) jdk_42_method_154_code (1 : Nat) (Option.some Jvm.ClassFile.FieldType.boolean), Jvm.Cond.code ({ cls := "java/lang/String", name := "length", desc := "()I" } : Jvm.MethodName) jdk_42_method_54_code (1 : Nat) (Option.some Jvm.ClassFile.FieldType.int), Jvm.Cond.code ({ cls := "java/lang/String", name := "coder", desc := "()B" } : Jvm.MethodName) jdk_42_method_152_code (1 : Nat) (Option.some Jvm.ClassFile.FieldType.byte), Jvm.Cond.code ({ cls := "java/lang/StringLatin1", name := "indexOf", desc := "([BIII)I" } : Jvm.MethodName) jdk_43_method_22_code (4 : Nat) (Option.some Jvm.ClassFile.FieldType.int), Jvm.Cond.code ({ cls := "java/lang/StringLatin1", name := "canEncode", desc := "(I)Z" } : Jvm.MethodName) jdk_43_method_4_code (1 : Nat) (Option.some Jvm.ClassFile.FieldType.boolean), Jvm.Cond.code ({ cls := "java/lang/Math", name := "max", desc := "(II)I" } : Jvm.MethodName) jdk_29_method_65_code (2 : Nat) (Option.some Jvm.ClassFile.FieldType.int), Jvm.Cond.code ({ cls := "java/lang/Math", name := "min", desc := "(II)I" } : Jvm.MethodName) jdk_29_method_69_code (2 : Nat) (Option.some Jvm.ClassFile.FieldType.int), Jvm.Cond.code ({ cls := "java/lang/String", name := "equals", desc := "(Ljava/lang/Object;)Z" } : Jvm.MethodName) jdk_42_method_66_code (3 : Nat) (Option.some Jvm.ClassFile.FieldType.boolean), Jvm.Cond.code ({ cls := "java/lang/StringLatin1", name := "equals", desc := "([B[B)Z" } : Jvm.MethodName) jdk_43_method_13_code (3 : Nat) (Option.some Jvm.ClassFile.FieldType.boolean), Jvm.Cond.code ({ cls := "java/lang/StringUTF16", name := "compress", desc := "([CII)[B" } : Jvm.MethodName) jdk_52_method_16_code (6 : Nat) (Option.some (Jvm.ClassFile.FieldType.array Jvm.ClassFile.FieldType.byte)), Jvm.Cond.code ({ cls := "java/lang/StringUTF16", name := "compress", desc := "([CI[BII)I" } : Jvm.MethodName) jdk_52_method_21_code (7 : Nat) (Option.some Jvm.ClassFile.FieldType.int), Jvm.Cond.code ({ cls := "java/lang/StringUTF16", name := "coderFromArrayLen", desc := "([BI)B" } : Jvm.MethodName) jdk_52_method_15_code (2 : Nat) (Option.some Jvm.ClassFile.FieldType.byte), Jvm.Cond.code ({ cls := "java/lang/StringLatin1", name := "indexOfChar", desc := "([BIII)I" } : Jvm.MethodName) jdk_43_method_23_code (6 : Nat) (Option.some Jvm.ClassFile.FieldType.int), Jvm.Cond.code ({ cls := "java/lang/String", name := "substring", desc := "(II)Ljava/lang/String;" } : Jvm.MethodName) jdk_42_method_92_code (5 : Nat) (Option.some (Jvm.ClassFile.FieldType.object "java/lang/String")), Jvm.Cond.code ({ cls := "java/lang/String", name := "checkBoundsBeginEnd", desc := "(III)V" } : Jvm.MethodName) jdk_42_method_158_code (3 : Nat) (Option.none : Option Jvm.ClassFile.FieldType), Jvm.Cond.code ({ cls := "jdk/internal/util/Preconditions", name := "checkFromToIndex", desc := "(IIILjava/util/function/BiFunction;)I" } : Jvm.MethodName) jdk_41_method_12_code (4 : Nat) (Option.some Jvm.ClassFile.FieldType.int), Jvm.Cond.code ({ cls := "java/lang/StringLatin1", name := "newString", desc := "([BII)Ljava/lang/String;" } : Jvm.MethodName) jdk_43_method_47_code (3 : Nat) (Option.some (Jvm.ClassFile.FieldType.object "java/lang/String")), Jvm.Cond.code ({ cls := "java/util/Arrays", name := "copyOfRange", desc := "([BII)[B" } : Jvm.MethodName) jdk_65_method_132_code (3 : Nat) (Option.some (Jvm.ClassFile.FieldType.array Jvm.ClassFile.FieldType.byte)), Jvm.Cond.code ({ cls := "java/util/Arrays", name := "copyOfRangeByte", desc := "([BII)[B" } : Jvm.MethodName) jdk_65_method_133_code (5 : Nat) (Option.some (Jvm.ClassFile.FieldType.array Jvm.ClassFile.FieldType.byte)), Jvm.Cond.code ({ cls := "java/util/Arrays", name := "checkLength", desc := "(II)V" } : Jvm.MethodName) jdk_65_method_131_code (2 : Nat) (Option.none : Option Jvm.ClassFile.FieldType), Jvm.Cond.code ({ cls := "java/lang/String", name := "<init>", desc := "([BB)V" } : Jvm.MethodName) jdk_42_method_151_code (3 : Nat) (Option.none : Option Jvm.ClassFile.FieldType)]
set_option maxRecDepth 65536 in
theorem codes_eq : words1.filter isCode = codes1 := rfl
theorem w_codes : ∀ c ∈ words1.filter isCode, c.before args0 about1 = true := by
  rw [codes_eq]
  intro c hc
  simp only [codes1, List.mem_cons, List.not_mem_nil, or_false] at hc
  rcases hc with rfl | rfl | rfl | rfl | rfl | rfl | rfl | rfl | rfl | rfl | rfl | rfl | rfl | rfl | rfl | rfl | rfl | rfl | rfl | rfl | rfl | rfl | rfl | rfl | rfl | rfl | rfl | rfl | rfl | rfl
  · exact w_c0
  · exact w_c1
  · exact w_c2
  · exact w_c3
  · exact w_c4
  · exact w_c5
  · exact w_c6
  · exact w_c7
  · exact w_c8
  · exact w_c9
  · exact w_c10
  · exact w_c11
  · exact w_c12
  · exact w_c13
  · exact w_c14
  · exact w_c15
  · exact w_c16
  · exact w_c17
  · exact w_c18
  · exact w_c19
  · exact w_c20
  · exact w_c21
  · exact w_c22
  · exact w_c23
  · exact w_c24
  · exact w_c25
  · exact w_c26
  · exact w_c27
  · exact w_c28
  · exact w_c29
set_option maxRecDepth 65536 in
theorem w_t1 : (words1.take 24).all (fun c => isCode c || c.before args0 about1) = true := by decide +kernel
set_option maxRecDepth 65536 in
theorem w_t2 : ((words1.drop 24).take 24).all (fun c => isCode c || c.before args0 about1) = true := by decide +kernel
set_option maxRecDepth 65536 in
theorem w_t3 : (((words1.drop 24).drop 24).take 24).all (fun c => isCode c || c.before args0 about1) = true := by decide +kernel
set_option maxRecDepth 65536 in
theorem w_t4 : ((((words1.drop 24).drop 24).drop 24).take 24).all (fun c => isCode c || c.before args0 about1) = true := by decide +kernel
set_option maxRecDepth 65536 in
theorem w_t5 : (((((words1.drop 24).drop 24).drop 24).drop 24).take 24).all (fun c => isCode c || c.before args0 about1) = true := by decide +kernel
set_option maxRecDepth 65536 in
theorem w_t6 : (((((words1.drop 24).drop 24).drop 24).drop 24).drop 24).all (fun c => isCode c || c.before args0 about1) = true := by decide +kernel
theorem w_tables : (allAtoms (Jvm.Cond.code x code maxLocals ret :: tables_1)).before args0 about1 = true := by
  rw [allAtoms_all]
  show words1.all (fun c => c.before args0 about1) = true
  refine all_split ?_ w_codes
  rw [← List.take_append_drop 24 words1, List.all_append, w_t1, ← List.take_append_drop 24 (words1.drop 24), List.all_append, w_t2, ← List.take_append_drop 24 ((words1.drop 24).drop 24), List.all_append, w_t3, ← List.take_append_drop 24 (((words1.drop 24).drop 24).drop 24), List.all_append, w_t4, ← List.take_append_drop 24 ((((words1.drop 24).drop 24).drop 24).drop 24), List.all_append, w_t5, w_t6]
  rfl
set_option maxRecDepth 65536 in
theorem w_rest : rest_1_c.before args0 about1 = true := by decide +kernel
set_option maxRecDepth 65536 in
theorem w_case : (Jvm.Cond.and given_1 narrow_1).before args0 about1 = true := by decide +kernel
set_option maxRecDepth 65536 in
theorem w_consts : constsHeld consts_1 about1 := Jvm.Lit.constsHeldB_iff.mp (by decide +kernel)
theorem w_applies : (headSpec (Jvm.Cond.code x code maxLocals ret :: tables_1) room_1).applies x e0.platform about1 = true :=
  (Spec.applies_iff w_frames).mpr ⟨w_running, w_runnable, w_alone, w_named, w_hears, w_ripe, w_room, w_tables⟩
set_option maxRecDepth 65536 in
theorem atStart : AtStart classFile x code maxLocals ret World_1 tables_1 room_1 Calls_1 rest_1 Pre_1 launch0 p0 e0 about1 theMethod args0 below0 :=
  ⟨lists_1, trivial, launch0.admits_env _ _ _, launch0.least_env, fairChoices_fair.cas, fairChoices_fair.clock, w_frames, w_args, w_heap, w_applies, ⟨w_consts, trivial⟩, w_rest, w_case⟩
end start1
theorem witness_1 : WitnessClaimed_1 := ⟨start1.p0, start1.e0, start1.about1, start1.theMethod, start1.args0, start1.below0, start1.atStart⟩
end Jvm.Pilot.@@N@@
