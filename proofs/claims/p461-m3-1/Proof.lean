import JvmDerived
import JvmDerived.Pilot.@@N@@Statement
import JvmDerived.Pilot.@@N@@Code
set_option linter.unusedVariables false
set_option linter.unusedSimpArgs false
namespace Jvm.Pilot.@@N@@
open Jvm Jvm.ClassFile Sem Op Lib Jvm.Free Jvm.Stand Jvm.LawKit Jvm.RoadKit Bundle Jvm.Pilot.@@N@@.Jvm.D
/-! the walk in continuation form: 'Go' says that from here the body comes to its end with Q -/
def Go (EN : State → Outcome → State → List Loc → Nat → Nat → Prop) (p : Program) (e : Env) (below : List Frame) (s : State) (kc ks : Nat) (Q : Option Value → Heap → List Loc → Prop) (T : State) (g : JFrame) : Prop :=
  ∃ s₂ o, Steps p.tables e below (T.setTop g) s₂ ∧ s₂.status = .running ∧ Ended s₂ below o ∧ ∃ v L, o = .returned v ∧ Q v s₂.heap L ∧ EN s o s₂ L kc ks
section GoLaws
variable {p : Program} {l : Launch} {e : Env} {R : Room} {s : State} {m : MethodId} {args : Array Value} {below : List Frame} {meth : Method} {c : Code} {T T' : State} {locs : List Loc} {cells slots kc ks : Nat} {Q : Option Value → Heap → List Loc → Prop} {g g' : JFrame} {EN : State → Outcome → State → List Loc → Nat → Nat → Prop}
theorem Go.step (st : ∀ t, Steps p.tables e below (T'.setTop g') t → Steps p.tables e below (T.setTop g) t) (k : Go EN p e below s kc ks Q T' g') : Go EN p e below s kc ks Q T g := by
  obtain ⟨a, b, h1, h2⟩ := k
  exact ⟨a, b, st _ h1, h2⟩
theorem Go.trans (st : Steps p.tables e below (T.setTop g) (T'.setTop g')) (k : Go EN p e below s kc ks Q T' g') : Go EN p e below s kc ks Q T g := by
  obtain ⟨a, b, h1, h2⟩ := k
  exact ⟨a, b, st.trans h1, h2⟩
theorem Go.cast (q : g = g') (k : Go EN p e below s kc ks Q T g') : Go EN p e below s kc ks Q T g := q ▸ k
theorem Go.retN (X : Stand p l e R s m args below meth c T locs cells slots) (hx : p.tables.exec = Jvm.exec) {pc : Nat} {Ls : Array Slot} {z : Int32} {t : FieldType} {rest : List Value} (hret : meth.sig.returnType = some t) (ht : t = .boolean ∨ t = .byte ∨ t = .char ∨ t = .short) (hlk : meth.locks = false)
    (hd : decode c.code pc = .ok (.ireturn, 1)) (hc : cells ≤ kc) (hs : slots ≤ ks) (q : Q (some (.int (nar t z))) T.heap locs) : Go FrameEnd p e below s kc ks Q T (mkF m pc Ls (.int z :: rest)) := by
  obtain ⟨fs, hr, hrun, hended, hW, hsame⟩ := X.leave (v := some (.int (nar t z))) (fun h => by rw [hret] at h; cases h) hlk
  exact ⟨_, _, RoadKit.retN X hx hret ht hd hr, hrun, hended, _, _, rfl, q, ⟨_, rfl⟩, hW, hsame.mono hc hs⟩
theorem Go.retI (X : Stand p l e R s m args below meth c T locs cells slots) (hx : p.tables.exec = Jvm.exec) {pc : Nat} {Ls : Array Slot} {z : Int32} {rest : List Value} (hret : meth.sig.returnType = some .int) (hlk : meth.locks = false)
    (hd : decode c.code pc = .ok (.ireturn, 1)) (hc : cells ≤ kc) (hs : slots ≤ ks) (q : Q (some (.int z)) T.heap locs) : Go FrameEnd p e below s kc ks Q T (mkF m pc Ls (.int z :: rest)) := by
  obtain ⟨fs, hr, hrun, hended, hW, hsame⟩ := X.leave (v := some (.int z)) (fun h => by rw [hret] at h; cases h) hlk
  exact ⟨_, _, RoadKit.retOut X hx hret rfl (Or.inl ⟨rfl, Or.inl rfl, _, rfl⟩) hd hr, hrun, hended, _, _, rfl, q, ⟨_, rfl⟩, hW, hsame.mono hc hs⟩
theorem Go.retJ (X : Stand p l e R s m args below meth c T locs cells slots) (hx : p.tables.exec = Jvm.exec) {pc : Nat} {Ls : Array Slot} {z : Int64} {rest : List Value} (hret : meth.sig.returnType = some .long) (hlk : meth.locks = false)
    (hd : decode c.code pc = .ok (.lreturn, 1)) (hc : cells ≤ kc) (hs : slots ≤ ks) (q : Q (some (.long z)) T.heap locs) : Go FrameEnd p e below s kc ks Q T (mkF m pc Ls (.long z :: rest)) := by
  obtain ⟨fs, hr, hrun, hended, hW, hsame⟩ := X.leave (v := some (.long z)) (fun h => by rw [hret] at h; cases h) hlk
  exact ⟨_, _, RoadKit.retOut X hx hret rfl (Or.inr (Or.inl ⟨rfl, rfl, _, rfl⟩)) hd hr, hrun, hended, _, _, rfl, q, ⟨_, rfl⟩, hW, hsame.mono hc hs⟩
theorem Go.retA (X : Stand p l e R s m args below meth c T locs cells slots) (hx : p.tables.exec = Jvm.exec) {pc : Nat} {Ls : Array Slot} {z : Value} {t : FieldType} {rest : List Value} (hret : meth.sig.returnType = some t) (ht : t.isReference = true) (hz : z.isRef = true) (hlk : meth.locks = false)
    (hd : decode c.code pc = .ok (.areturn, 1)) (hc : cells ≤ kc) (hs : slots ≤ ks) (q : Q (some z) T.heap locs) : Go FrameEnd p e below s kc ks Q T (mkF m pc Ls (z :: rest)) := by
  obtain ⟨fs, hr, hrun, hended, hW, hsame⟩ := X.leave (v := some z) (fun h => by rw [hret] at h; cases h) hlk
  exact ⟨_, _, RoadKit.retOut X hx hret (by cases t <;> cases z <;> first | rfl | (cases ht; done) | (cases hz; done)) (Or.inr (Or.inr (Or.inr (Or.inr ⟨rfl, ht, hz⟩)))) hd hr, hrun, hended, _, _, rfl, q, ⟨_, rfl⟩, hW, hsame.mono hc hs⟩
theorem Go.retV (X : Stand p l e R s m args below meth c T locs cells slots) (hx : p.tables.exec = Jvm.exec) {pc : Nat} {Ls : Array Slot} (hret : meth.sig.returnType = none) (hlk : meth.locks = false)
    (hd : decode c.code pc = .ok (.return_, 1)) (hc : cells ≤ kc) (hs : slots ≤ ks) (q : Q none T.heap locs) : Go FrameEnd p e below s kc ks Q T (mkF m pc Ls []) := by
  obtain ⟨fs, hr, hrun, hended, hW, hsame⟩ := X.leave (v := none) (fun _ => rfl) hlk
  exact ⟨_, _, X.returnOut hx hret hd hr, hrun, hended, _, _, rfl, q, ⟨_, rfl⟩, hW, hsame.mono hc hs⟩
theorem rewMono {s t : State} {o : Outcome} {L : List Loc} {k n k' n' : Nat} (h : ReturnedEndW s o t L k n) (hk : k ≤ k') (hn : n ≤ n') : ReturnedEndW s o t L k' n' := ⟨h.1, h.2.1, h.2.2.1, h.2.2.2.mono hk hn⟩
theorem Go.retNW {vm0 : Vm} {k0 : Nat} (X : Stand p l e R (s.setVm vm0) m args below meth c T locs cells slots) (hS : s.Since vm0 k0) (hk : k0 ≤ T.heap.size) (hx : p.tables.exec = Jvm.exec) {pc : Nat} {Ls : Array Slot} {z : Int32} {t : FieldType} {rest : List Value} (hret : meth.sig.returnType = some t) (ht : t = .boolean ∨ t = .byte ∨ t = .char ∨ t = .short) (hlk : meth.locks = false)
    (hd : decode c.code pc = .ok (.ireturn, 1)) (hc : cells ≤ kc) (hs : slots ≤ ks) (q : Q (some (.int (nar t z))) T.heap locs) : Go ReturnedEndW p e below s kc ks Q T (mkF m pc Ls (.int z :: rest)) := by
  obtain ⟨fs, hr, hrun, hended, hW⟩ := X.leaveW hS hk (v := some (.int (nar t z))) (fun h => by rw [hret] at h; cases h) hlk
  exact ⟨_, _, RoadKit.retN X hx hret ht hd hr, hrun, hended, _, _, rfl, q, rewMono hW hc hs⟩
theorem Go.retIW {vm0 : Vm} {k0 : Nat} (X : Stand p l e R (s.setVm vm0) m args below meth c T locs cells slots) (hS : s.Since vm0 k0) (hk : k0 ≤ T.heap.size) (hx : p.tables.exec = Jvm.exec) {pc : Nat} {Ls : Array Slot} {z : Int32} {rest : List Value} (hret : meth.sig.returnType = some .int) (hlk : meth.locks = false)
    (hd : decode c.code pc = .ok (.ireturn, 1)) (hc : cells ≤ kc) (hs : slots ≤ ks) (q : Q (some (.int z)) T.heap locs) : Go ReturnedEndW p e below s kc ks Q T (mkF m pc Ls (.int z :: rest)) := by
  obtain ⟨fs, hr, hrun, hended, hW⟩ := X.leaveW hS hk (v := some (.int z)) (fun h => by rw [hret] at h; cases h) hlk
  exact ⟨_, _, RoadKit.retOut X hx hret rfl (Or.inl ⟨rfl, Or.inl rfl, _, rfl⟩) hd hr, hrun, hended, _, _, rfl, q, rewMono hW hc hs⟩
theorem Go.retJW {vm0 : Vm} {k0 : Nat} (X : Stand p l e R (s.setVm vm0) m args below meth c T locs cells slots) (hS : s.Since vm0 k0) (hk : k0 ≤ T.heap.size) (hx : p.tables.exec = Jvm.exec) {pc : Nat} {Ls : Array Slot} {z : Int64} {rest : List Value} (hret : meth.sig.returnType = some .long) (hlk : meth.locks = false)
    (hd : decode c.code pc = .ok (.lreturn, 1)) (hc : cells ≤ kc) (hs : slots ≤ ks) (q : Q (some (.long z)) T.heap locs) : Go ReturnedEndW p e below s kc ks Q T (mkF m pc Ls (.long z :: rest)) := by
  obtain ⟨fs, hr, hrun, hended, hW⟩ := X.leaveW hS hk (v := some (.long z)) (fun h => by rw [hret] at h; cases h) hlk
  exact ⟨_, _, RoadKit.retOut X hx hret rfl (Or.inr (Or.inl ⟨rfl, rfl, _, rfl⟩)) hd hr, hrun, hended, _, _, rfl, q, rewMono hW hc hs⟩
theorem Go.retAW {vm0 : Vm} {k0 : Nat} (X : Stand p l e R (s.setVm vm0) m args below meth c T locs cells slots) (hS : s.Since vm0 k0) (hk : k0 ≤ T.heap.size) (hx : p.tables.exec = Jvm.exec) {pc : Nat} {Ls : Array Slot} {z : Value} {t : FieldType} {rest : List Value} (hret : meth.sig.returnType = some t) (ht : t.isReference = true) (hz : z.isRef = true) (hlk : meth.locks = false)
    (hd : decode c.code pc = .ok (.areturn, 1)) (hc : cells ≤ kc) (hs : slots ≤ ks) (q : Q (some z) T.heap locs) : Go ReturnedEndW p e below s kc ks Q T (mkF m pc Ls (z :: rest)) := by
  obtain ⟨fs, hr, hrun, hended, hW⟩ := X.leaveW hS hk (v := some z) (fun h => by rw [hret] at h; cases h) hlk
  exact ⟨_, _, RoadKit.retOut X hx hret (by cases t <;> cases z <;> first | rfl | (cases ht; done) | (cases hz; done)) (Or.inr (Or.inr (Or.inr (Or.inr ⟨rfl, ht, hz⟩)))) hd hr, hrun, hended, _, _, rfl, q, rewMono hW hc hs⟩
theorem Go.retVW {vm0 : Vm} {k0 : Nat} (X : Stand p l e R (s.setVm vm0) m args below meth c T locs cells slots) (hS : s.Since vm0 k0) (hk : k0 ≤ T.heap.size) (hx : p.tables.exec = Jvm.exec) {pc : Nat} {Ls : Array Slot} (hret : meth.sig.returnType = none) (hlk : meth.locks = false)
    (hd : decode c.code pc = .ok (.return_, 1)) (hc : cells ≤ kc) (hs : slots ≤ ks) (q : Q none T.heap locs) : Go ReturnedEndW p e below s kc ks Q T (mkF m pc Ls []) := by
  obtain ⟨fs, hr, hrun, hended, hW⟩ := X.leaveW hS hk (v := none) (fun _ => rfl) hlk
  exact ⟨_, _, X.returnOut hx hret hd hr, hrun, hended, _, _, rfl, q, rewMono hW hc hs⟩
theorem extRfl (h : Heap) : Ext h h := ⟨Nat.le_refl _, fun _ _ q => q⟩
theorem extTr {h1 h2 h3 : Heap} (A : Ext h1 h2) (B : Ext h2 h3) : Ext h1 h3 := ⟨Nat.le_trans A.1 B.1, fun a c q => B.2 a c (A.2 a c q)⟩
theorem extKeep {h1 h2 h3 : Heap} {ws : List Addr} (A : Ext h1 h2) (K : Keep h2 h3 ws) (q : ∀ x ∈ ws, h1.size ≤ x) : Ext h1 h3 := ⟨Nat.le_trans A.1 K.1, fun a c r => K.2.1 a c (A.2 a c r) fun z => absurd (Array.getElem?_eq_some_iff.mp r).1 (Nat.not_lt.mpr (q a z))⟩
theorem extWr {h1 h2 h3 : Heap} {a : Addr} {sl : Nat} {v : Value} (A : Ext h1 h2) (W : Wr h2 h3 a sl v) (q : h1.size ≤ a) : Ext h1 h3 := extKeep A (Keep.of_wr W) (allS q all0)
end GoLaws
theorem fldStart {Z : State} {args : Array Value} {t : Jvm.Term} {a : Addr} {C n d : String} {k : Int32} (ev : t.eval args Z none [] Z = some (.ref a)) (h : (Jvm.Cond.eq (.field t C n d) (.int k)).value args Z none Z [] = some true) : Fld Z Z.heap a C n d (.int k) :=
  Fld.start ((fld_at ev).symm.trans (eqv_i (Term.int_eval k) h))
/-- putfield through an entry that the sheet says resolved -/
theorem putRdy {p : Program} {l : Launch} {e : Env} {R : Room} {s : State} {m : MethodId} {args : Array Value} {below : List Frame} {meth : Method} {c : Code} {T : State} {locs : List Loc} {cells slots : Nat} {Z : State} {a0 : Array Value} {h : Heap}
    (X : Stand p l e R s m args below meth c T locs cells slots) (hx : p.tables.exec = Jvm.exec) (hZ : Z.Warmed39 s.vm) {own O n d C : String} {index kk : Nat} {ty : FieldType} (hown : s.vm.findClass own = some m.cls) (w : (Jvm.Cond.fieldRef own index O n d).before a0 Z = true)
    (eT : T.heap = h) {a : Addr} {v old : Value} (F : Fld Z h a O n d old) (E : Exa Z h a C) (L : (Jvm.Cond.lays C O n d).before a0 Z = true) (wi : (Jvm.Cond.instantiable C kk).before a0 Z = true)
    (hty : parseFieldDescriptor d = some ty) (hn : narrow ty v = v) (hf : fits ty v = true) {g : JFrame} (hg : g.method = m) {rest : List Value} (hs : g.stack = v :: .ref a :: rest) (hd : decode c.code g.pc = .ok (.putfield index, 3)) :
    ∃ T' h', Stand p l e R s m args below meth c T' (locs ++ [⟨a, Jvm.RoadKit.slotOf Z O n d⟩]) cells slots ∧ T'.heap = h' ∧ Wr h h' a (Jvm.RoadKit.slotOf Z O n d) v ∧ ∀ target, Steps p.tables e below (T'.setTop { g with pc := g.pc + 3, stack := rest }) target → Steps p.tables e below (T.setTop g) target := by
  have hT : Z.Warmed39 T.vm := wtrans hZ X.warmed
  obtain ⟨cell, cf, k, i, f, h1, h2, h3, h4, h5, -, h7⟩ := F
  obtain ⟨cell', kc, e1, e2, e3, -⟩ := E
  cases h1.symm.trans e1
  obtain ⟨c1, k1, cf1, kf1, i1, f1, a1, a2, a3, -, -, a6, -⟩ := Laid.spec (Or.inl L)
  cases h2.symm.trans a3
  cases e2.symm.trans a1
  obtain ⟨c2, k2, i1, i2, i3, -⟩ := Cond.instantiable_spec wi
  cases e2.symm.trans i1
  cases a2.symm.trans i2
  have ht := (State.fieldFound?_type h2 hty).2
  have hfit : Z.fitsSlot cell.cls cell.vm f.slot v = true := by
    have q : Z.slotType? cell.cls cell.vm f.slot = some ty := by
      simp only [State.slotType?, a2, Option.bind_eq_bind, Option.bind_some, i3]
      cases hq : cell.vm <;> first | (rw [hq] at h5; exact Bool.noConfusion h5) | (rw [a6, ht])
    simp [State.fitsSlot, q, hf]
  have hfitT : T.fitsSlot cell.cls cell.vm f.slot v = true := by rw [← State.fitsSlot_setVm hT.alike] at hfit; exact hfit
  obtain ⟨_, _, _, _, _, _, -, -, b3, -, b5, -⟩ := Cond.lays_spec L
  cases h2.symm.trans b3
  have hcur : (Z.setVm T.vm).vm.findClass own = some m.cls := by
    show T.vm.findClass own = _
    rw [hT.alike.findClass, ← hZ.alike.findClass]; exact hown
  obtain ⟨cq, kq, iq, fq, q1, q2⟩ := Cond.fieldRef_spec hcur (Cond.fieldRef_warmed39 hT w)
  obtain ⟨k', q3, -⟩ := State.fieldFound?_setVm (s := Z) hT.alike h2
  cases q1.symm.trans q3
  have hlt := (Array.getElem?_eq_some_iff.mp h7).1
  have es : Jvm.RoadKit.slotOf Z O n d = f.slot := by simp [Jvm.RoadKit.slotOf, h2]
  rw [es]
  obtain ⟨X', st⟩ := X.putfieldReady hx q2 h3 (Or.inl b5) (by rw [eT]; exact h1) h4 hlt (by rw [ht]; exact hn) hfitT hg hs hd
  exact ⟨_, _, X', rfl, ⟨cell, h1, h5, hlt, by rw [← eT]; rfl⟩, st⟩
/-- the Class object of the class C, by the tables alone -/
def MirO (Z : State) (C : String) (mr : Addr) : Prop := ∃ (c : ClassId) (k : Class), Z.vm.findClass C = some c ∧ Z.vm.classes[c]? = some k ∧ k.mirror = some mr
section More
variable {p : Program} {l : Launch} {e : Env} {R : Room} {s : State} {m : MethodId} {args : Array Value} {below : List Frame} {meth : Method} {c : Code} {T : State} {locs : List Loc} {cells slots : Nat} {Z : State} {a0 : Array Value} {h : Heap} {a : Addr}
theorem own_gcls (X : Stand p l e R s m args below meth c T locs cells slots) (hx : p.tables.exec = Jvm.exec) (hZ : Z.Warmed39 s.vm) {own C : String} {index : Nat} (hown : s.vm.findClass own = some m.cls)
    (w1 : (Jvm.Cond.methodLink own index ⟨"java/lang/Object", "getClass", "()Ljava/lang/Class;"⟩).before a0 Z = true) (w2 : (Jvm.Cond.declares ⟨"java/lang/Object", "getClass", "()Ljava/lang/Class;"⟩).before a0 Z = true) (w3 : (Jvm.Cond.noSuperclass "java/lang/Object").before a0 Z = true) (w4 : (Jvm.Cond.selects C ⟨"java/lang/Object", "getClass", "()Ljava/lang/Class;"⟩ ⟨"java/lang/Object", "getClass", "()Ljava/lang/Class;"⟩).before a0 Z = true)
    (w5 : (Jvm.Cond.instanceMethod ⟨"java/lang/Object", "getClass", "()Ljava/lang/Class;"⟩).before a0 Z = true) (w6 : (Jvm.Cond.native ⟨"java/lang/Object", "getClass", "()Ljava/lang/Class;"⟩).before a0 Z = true) (eT : T.heap = h) (E : Exa Z h a C) {mr : Addr} (M : MirO Z C mr)
    {g : JFrame} (hg : g.method = m) (hsize : g.locals.size = c.maxLocals) {rest : List Value} (hs : g.stack = .ref a :: rest) (hd : decode c.code g.pc = .ok (.invokevirtual index, 3)) (hf : 1 ≤ R.frames) {W : Nat} (hW : 2 * g.monitorRoom + (rest.map fun v => v.category).sum ≤ W) (hl : W + (nativeFrameWords "java/lang/Object" "getClass" 1 + 11) ≤ R.locals) :
    ∃ T', Stand p l e R s m args below meth c T' locs cells slots ∧ T'.heap = h ∧ ∀ target, Steps p.tables e below (T'.setTop { g with pc := g.pc + 3, stack := .ref mr :: rest }) target → Steps p.tables e below (T.setTop g) target := by
  obtain ⟨cB, kB, i1, i2, i3⟩ := isOf hZ eT E
  obtain ⟨cc, kc, m1, m2, m3⟩ := M
  have i1' := i1
  rw [hZ.alike.findClass] at i1'
  cases i1'.symm.trans m1
  obtain ⟨k', q, ek⟩ := hZ.alike.2.2 _ _ m2
  obtain ⟨vm', X', st⟩ := X.getClassOf hx hown (mvT hZ w1) (mvT hZ w2) (nf_top (args := #[]) (mvT hZ w3)) (mvT hZ w4) (mvT hZ w5) (mvT hZ w6) i1 i3 q (by rw [ek]; exact m3) hg hsize hs hd hf (by omega)
  exact ⟨_, X', eT, st⟩
theorem own_ldcMir (X : Stand p l e R s m args below meth c T locs cells slots) (hx : p.tables.exec = Jvm.exec) (hZ : Z.Warmed39 s.vm) {own C : String} {index : Nat} (hown : s.vm.findClass own = some m.cls) (w : (Jvm.Cond.classLink own index C).before a0 Z = true) (eT : T.heap = h) {mr : Addr} (M : MirO Z C mr)
    {g : JFrame} (hg : g.method = m) (hd : decode c.code g.pc = .ok (.ldc index, 2)) : ∃ T', Stand p l e R s m args below meth c T' locs cells slots ∧ T'.heap = h ∧ ∀ target, Steps p.tables e below (T'.setTop { g with pc := g.pc + 2, stack := .ref mr :: g.stack }) target → Steps p.tables e below (T.setTop g) target := by
  obtain ⟨cc, kc, m1, m2, m3⟩ := M
  obtain ⟨k', q, ek⟩ := hZ.alike.2.2 _ _ m2
  have hev : (Jvm.Term.mirror C).eval args s none [] s = some (.ref mr) := by
    have q1 : s.vm.findClass C = some cc := by rw [hZ.alike.findClass]; exact m1
    have q2 : k'.mirror = some mr := by rw [ek]; exact m3
    simp [Jvm.Term.eval, q1, q, q2]
  obtain ⟨vm', X', st⟩ := X.ldcMirror hx hown (mvT hZ w) hev hg hd
  exact ⟨_, X', eT, st⟩
theorem own_nsRoot {O K : String} {n : Nat} (w : (Jvm.Cond.noSuperclass O).before a0 Z = true) (wk : (Jvm.Cond.instantiable K n).before a0 Z = true) (hn : O ≠ K) : NS Z O K := by
  obtain ⟨c, k, h1, h2, h3, -, -⟩ := Cond.noSuperclass_spec w
  obtain ⟨t, kt, g1, -⟩ := Cond.instantiable_spec wk
  have ne := ids_ne h1 g1 hn
  refine ⟨c, t, h1, g1, fun fuel => ?_⟩
  match fuel with
  | 0 => rfl
  | f + 1 => simp [Vm.isSubclassAux, ne, h2, h3]
theorem own_nsNo {C S K : String} {n : Nat} (w : (Jvm.Cond.superclass C S).before a0 Z = true) (wk : (Jvm.Cond.instantiable K n).before a0 Z = true) (N : NS Z C K) (hn : C ≠ K) : ∃ c t, Z.vm.findClass C = some c ∧ Z.vm.findClass K = some t ∧ Z.vm.assignable c t = false := by
  obtain ⟨c, t, h0, g0, n3⟩ := N
  obtain ⟨p, k, kp, h1, h2, h3, h4, h5, -, h7⟩ := Cond.superclass_spec h0 w
  obtain ⟨t', kt, g1, g2, g3, g4, -⟩ := Cond.instantiable_spec wk
  cases g0.symm.trans g1
  have g5 : kt.isInterface = false := by
    rw [Bool.or_eq_false_iff] at g4; exact g4.1
  have ne := ids_ne h0 g0 hn
  refine ⟨c, t, h0, g0, ?_⟩
  show Z.vm.assignableAux (255 + 1) c t = false
  simp [Vm.assignableAux, ne, h2, g2, h5, g3, g5, Vm.isSubclass, n3]
end More
theorem mvMN {Z s : State} {a0 args : Array Value} {own host : String} {y : MethodName} {index : Nat} (hZ : Z.Warmed39 s.vm) (w : (Jvm.Cond.methodLinkNest own index y host).before a0 Z = true) : (Jvm.Cond.methodLinkNest own index y host).before args s = true := (Cond.methodLinkNest_wide hZ w :)
theorem own_len {Z : State} {args : Array Value} {t : Jvm.Term} {a : Addr} {cl : Cell} {ty : FieldType} {k : Int32} (ev : t.eval args Z none [] Z = some (.ref a)) (A : Arr Z Z.heap a cl ty) (h : (Jvm.Cond.eq (.length t) (.int k)).value args Z none Z [] = some true) : cl.slots.size < 2 ^ 31 ∧ cl.slots.size.toInt32 = k := by
  obtain ⟨x, y, h1, h2, h3, h4⟩ := cmp_v (Or.inl h)
  have ha : Z.arrayAt? a = some cl := A.fin (Vm.Alike.refl _)
  by_cases hl : cl.slots.size < 2 ^ 31
  · refine ⟨hl, ?_⟩
    have h5 := len_f ev ha hl
    exact gotT (Cond.eq_ints h5 (Term.int_eval k)) h
  · exfalso
    simp [Jvm.Term.eval, ev, ha, hl] at h1
theorem own_arv0 {Z : State} {args : Array Value} {t : Jvm.Term} {a : Addr} {ty : FieldType} {dv : Value} (hf : Fit Z) (ev : t.eval args Z none [] Z = some (.ref a)) (h1 : (Jvm.Cond.arrayOf t ty).value args Z none Z [] = some true) (h2 : (Jvm.Cond.eq (.length t) (.int 0)).value args Z none Z [] = some true) : ∃ k, Arv Z Z.heap a k ty (0 : Int32) [] dv := by
  obtain ⟨cl, A⟩ := Arr.start ev h1
  obtain ⟨q1, q2⟩ := own_len ev A h2
  exact ⟨cl.cls, Arv.start hf A q1 q2 (by decide) rfl trivial⟩
theorem own_wS {Z : State} {a0 : Array Value} (hw : ∀ d ∈ tables_1, d.before a0 Z = true) : ∀ a ∈ Bundle.stringAtoms, a.before a0 Z = true := by
  intro a ha
  simp only [Bundle.stringAtoms, List.mem_cons, List.not_mem_nil, or_false] at ha
  rcases ha with rfl | rfl | rfl | rfl | rfl | rfl | rfl
  · exact (hw _ (List.mem_of_getElem? (i := 97) rfl))
  · exact (hw _ (List.mem_of_getElem? (i := 98) rfl))
  · exact (hw _ (List.mem_of_getElem? (i := 99) rfl))
  · exact (hw _ (List.mem_of_getElem? (i := 100) rfl))
  · exact (hw _ (List.mem_of_getElem? (i := 101) rfl))
  · exact (hw _ (List.mem_of_getElem? (i := 102) rfl))
  · exact (hw _ (List.mem_of_getElem? (i := 103) rfl))
theorem own_and3 (x : Int32) : (x &&& (3 : Int32)) = 0 ∨ (x &&& (3 : Int32)) = 1 ∨ (x &&& (3 : Int32)) = 2 ∨ (x &&& (3 : Int32)) = 3 := by
  have h := c_mask x 3 2 (by decide) (by decide)
  generalize (x &&& (3 : Int32)) = k at *
  rcases (by omega : k.toInt = 0 ∨ k.toInt = 1 ∨ k.toInt = 2 ∨ k.toInt = 3) with q | q | q | q
  · exact Or.inl (Int32.toInt_inj.mp q)
  · exact Or.inr (Or.inl (Int32.toInt_inj.mp q))
  · exact Or.inr (Or.inr (Or.inl (Int32.toInt_inj.mp q)))
  · exact Or.inr (Or.inr (Or.inr (Int32.toInt_inj.mp q)))
theorem own_ix {x : Int32} {n : Nat} (h1 : ¬ x < (-128 : Int32)) (h2 : ¬ (127 : Int32) < x) (hn : n = (256 : Int32).toNatClampNeg) : ¬ ((x + 128) < 0 ∨ n ≤ (x + 128).toNatClampNeg) := by
  subst hn
  rw [Int32.lt_iff_toInt_lt] at h1 h2
  have e1 : (-128 : Int32).toInt = -128 := rfl
  have e2 : (127 : Int32).toInt = 127 := rfl
  have e3 : (128 : Int32).toInt = 128 := rfl
  have h3 := c_iadd x 128
  have h4 := rng32 (x + 128)
  have e4 : (256 : Int32).toNatClampNeg = 256 := rfl
  rw [Int32.lt_iff_toInt_lt, e4]
  show ¬ (_ < (0 : Int) ∨ 256 ≤ (x + 128).toInt.toNat)
  rw [e1] at h1
  rw [e2] at h2
  rw [e3] at h3
  omega
theorem own_back (x : Int32) : x + 128 - 128 = x := by
  rw [← Int32.toInt_inj]
  have h1 := c_iadd x 128
  have h2 := c_isub (x + 128) 128
  have h3 := rng32 x
  have h4 := rng32 (x + 128 - 128)
  omega
theorem d31_0 : decode jdk_33_method_22_code 0 = .ok (.iload_n 0, 1) := by decide +kernel
theorem d31_1 : decode jdk_33_method_22_code 1 = .ok (.bipush (-128), 2) := by decide +kernel
theorem d31_3 : decode jdk_33_method_22_code 3 = .ok (.if_icmp .lt 20, 3) := by decide +kernel
theorem d31_23 : decode jdk_33_method_22_code 23 = .ok (.new 1, 3) := by decide +kernel
theorem pf_I : parseFieldDescriptor "I" = some .int := by decide
theorem d31_26 : decode jdk_33_method_22_code 26 = .ok (.dup, 1) := by decide +kernel
theorem d31_27 : decode jdk_33_method_22_code 27 = .ok (.iload_n 0, 1) := by decide +kernel
theorem d31_28 : decode jdk_33_method_22_code 28 = .ok (.invokespecial 199, 3) := by decide +kernel
theorem d36_0 : decode jdk_33_method_23_code 0 = .ok (.aload_n 0, 1) := by decide +kernel
theorem d36_1 : decode jdk_33_method_23_code 1 = .ok (.invokespecial 202, 3) := by decide +kernel
theorem d37_0 : decode jdk_18_method_1_code 0 = .ok (.aload_n 0, 1) := by decide +kernel
theorem d37_1 : decode jdk_18_method_1_code 1 = .ok (.invokespecial 1, 3) := by decide +kernel
theorem d37_4 : decode jdk_18_method_1_code 4 = .ok (.return_, 1) := by decide +kernel
theorem pn_37 : plainName "java/lang/Number" = true := by first | (simp [plainName, overriddenIn]; done) | decide +kernel
theorem ef_a37_0 (m : MethodId) (y0 : Addr) : entryFrame m #[(.ref y0)] 1 = mkF m 0 #[.val (.ref y0)] [] := by first | (simp [entryFrame, mkF, argsToLocals, Value.category]; done) | rfl
def Q_a37_0 (Z : State) (dc : Addr) (kdc : ClassId) (el : Addr) (ee : Addr) (kee : ClassId) (ca : Addr) (cc : Cell) (eo : Addr) (mo : Addr) (x0 : Addr) (h0 : Heap) (v : Option Value) (h : Heap) (L : List Loc) : Prop := v = none ∧ Fr Z.heap.size L ∧ h = h0
set_option maxRecDepth 65536 in
set_option maxHeartbeats 40000000 in
theorem rm_a37_0 (l : Launch) (Z : State) (a0 : Array Value) (hw : ∀ d ∈ tables_1, d.before a0 Z = true) (ws : List Jvm.Cond) (dc : Addr) (kdc : ClassId) (el : Addr) (ee : Addr) (kee : ClassId) (ca : Addr) (cc : Cell) (eo : Addr) (mo : Addr) (G_dc : Sta Z Z.heap "java/util/ArrayList" "DEFAULTCAPACITY_EMPTY_ELEMENTDATA" "[Ljava/lang/Object;" (.ref dc)) (G_dce : Exa Z Z.heap dc "[Ljava/lang/Object;") (G_dcv : Arv Z Z.heap dc kdc (.object "java/lang/Object") (0 : Int32) [] .null) (G_el : Sta Z Z.heap "java/util/ImmutableCollections" "EMPTY_LIST" "Ljava/util/ImmutableCollections$ListN;" (.ref el)) (G_ele : Exa Z Z.heap el "java/util/ImmutableCollections$ListN") (G_elf : Fld Z Z.heap el "java/util/ImmutableCollections$ListN" "elements" "[Ljava/lang/Object;" (.ref ee)) (G_eev : Arv Z Z.heap ee kee (.object "java/lang/Object") (0 : Int32) [] .null) (G_hi : Sta Z Z.heap "java/lang/Integer$IntegerCache" "high" "I" (.int (127 : Int32))) (G_ca : Sta Z Z.heap "java/lang/Integer$IntegerCache" "cache" "[Ljava/lang/Integer;" (.ref ca)) (G_bx : Bxs Z ca cc "java/lang/Integer" "I" 256 (fun j => .int (j - 128))) (G_eo : Sta Z Z.heap "java/util/ImmutableCollections" "EMPTY" "Ljava/lang/Object;" (.ref eo)) (G_eoe : Exa Z Z.heap eo "java/lang/Object") (G_mo : MirO Z "[Ljava/lang/Object;" mo) (x0 : Addr) (h0 : Heap) (O0 : Ext Z.heap h0) :
    MetFree l (⟨"java/lang/Number", "<init>", "()V"⟩ : MethodName) (head1 (Jvm.Cond.code (⟨"java/lang/Number", "<init>", "()V"⟩ : MethodName) jdk_18_method_1_code 1 none :: ws) ({ frames := 1, cells := 0, slots := 0, locals := 12 } : Room)) (fun a U => a = #[(.ref x0)] ∧ Z.Warmed39 U.vm ∧ U.heap = h0) (fun _ _ _ _ _ => True) (fun _ U o U' => ∃ v L, o = .returned v ∧ Q_a37_0 Z dc kdc el ee kee ca cc eo mo x0 h0 v U'.heap L ∧ FrameEnd U o U' L ({ frames := 1, cells := 0, slots := 0, locals := 12 } : Room).cells ({ frames := 1, cells := 0, slots := 0, locals := 12 } : Room).slots) := by
  refine MetFree.of_bodySF (plainFor_of_name pn_37) hisR ?_
  intro p e s m args below meth c s₁ Bd hml0 hP hK
  obtain ⟨rfl, hZ, hh⟩ := hP
  have hx := Bd.exec
  have hby := Bd.bytes
  have hlk := Bd.notSynchronized
  have hml : c.maxLocals = 1 := hml0
  have hown : s.vm.findClass "java/lang/Number" = some m.cls := findClass_of_methodNamed Bd.named
  have hnm := (name_of_methodNamed Bd.named Bd.method).1
  have X0 : Stand p l e ({ frames := 1, cells := 0, slots := 0, locals := 12 } : Room) s m #[(.ref x0)] below meth c s₁ [] 0 0 := Stand.of_body Bd
  have e0 : s₁.heap = h0 := by rw [← hh, Bd.state]; rfl
  have N0 := Fr.nil Z.heap.size
  show Go FrameEnd p e below s ({ frames := 1, cells := 0, slots := 0, locals := 12 } : Room).cells ({ frames := 1, cells := 0, slots := 0, locals := 12 } : Room).slots (Q_a37_0 Z dc kdc el ee kee ca cc eo mo x0 h0) s₁ (entryFrame m #[(.ref x0)] 1)
  refine Go.cast (ef_a37_0 m x0) ?_
  show Go _ _ _ _ _ _ _ _ s₁ (mkF m 0 #[.val (.ref x0)] [])
  refine Go.step (fun _ kt_ => XS.aloadN X0.here hx rfl (hb hby d37_0) rfl rfl kt_) ?_
  show Go _ _ _ _ _ _ _ _ s₁ (mkF m 1 #[.val (.ref x0)] [(.ref x0)])
  obtain ⟨T1, X1, e1, st1⟩ := initO X0 hx hZ hown (hw _ (List.mem_of_getElem? (i := 286) rfl)) (hw _ (List.mem_of_getElem? (i := 24) rfl)) (hw _ (List.mem_of_getElem? (i := 25) rfl)) e0 (g := (mkF m 1 #[.val (.ref x0)] [(.ref x0)])) rfl (by rw [hml]; rfl) rfl (hb hby d37_1) (by decide) (W := 0) (by show 2 * 0 + _ ≤ _; exact Nat.le_of_eq rfl) (by decide)
  refine Go.step st1 ?_
  show Go _ _ _ _ _ _ _ _ T1 (mkF m 4 #[.val (.ref x0)] [])
  exact Go.retV X1 hx Bd.returns hlk (hb hby d37_4) (by decide) (by decide) (by show _ ∧ _ ∧ _; rw [e1]; exact ⟨rfl, N0, rfl⟩)
theorem pd_LRV : parseMethodDescriptor "()V" = some ⟨[], none⟩ := by decide +kernel
theorem d36_4 : decode jdk_33_method_23_code 4 = .ok (.aload_n 0, 1) := by decide +kernel
theorem d36_5 : decode jdk_33_method_23_code 5 = .ok (.iload_n 1, 1) := by decide +kernel
theorem d36_6 : decode jdk_33_method_23_code 6 = .ok (.putfield 205, 3) := by decide +kernel
theorem d36_9 : decode jdk_33_method_23_code 9 = .ok (.return_, 1) := by decide +kernel
theorem pn_36 : plainName "java/lang/Integer" = true := by first | (simp [plainName, overriddenIn]; done) | decide +kernel
theorem ef_a36_0 (m : MethodId) (y0 : Addr) (y1 : Int32) : entryFrame m #[(.ref y0), (.int y1)] 2 = mkF m 0 #[.val (.ref y0), .val (.int y1)] [] := by first | (simp [entryFrame, mkF, argsToLocals, Value.category]; done) | rfl
def Q_a36_0 (Z : State) (dc : Addr) (kdc : ClassId) (el : Addr) (ee : Addr) (kee : ClassId) (ca : Addr) (cc : Cell) (eo : Addr) (mo : Addr) (x0 : Addr) (x1 : Int32) (w1 : Int32) (h0 : Heap) (v : Option Value) (h : Heap) (L : List Loc) : Prop := v = none ∧ Fr Z.heap.size L ∧ Keep h0 h [x0] ∧ Fld Z h x0 "java/lang/Integer" "value" "I" (.int x1)
set_option maxRecDepth 65536 in
set_option maxHeartbeats 40000000 in
theorem rm_a36_0 (l : Launch) (Z : State) (a0 : Array Value) (hw : ∀ d ∈ tables_1, d.before a0 Z = true) (ws : List Jvm.Cond) (dc : Addr) (kdc : ClassId) (el : Addr) (ee : Addr) (kee : ClassId) (ca : Addr) (cc : Cell) (eo : Addr) (mo : Addr) (G_dc : Sta Z Z.heap "java/util/ArrayList" "DEFAULTCAPACITY_EMPTY_ELEMENTDATA" "[Ljava/lang/Object;" (.ref dc)) (G_dce : Exa Z Z.heap dc "[Ljava/lang/Object;") (G_dcv : Arv Z Z.heap dc kdc (.object "java/lang/Object") (0 : Int32) [] .null) (G_el : Sta Z Z.heap "java/util/ImmutableCollections" "EMPTY_LIST" "Ljava/util/ImmutableCollections$ListN;" (.ref el)) (G_ele : Exa Z Z.heap el "java/util/ImmutableCollections$ListN") (G_elf : Fld Z Z.heap el "java/util/ImmutableCollections$ListN" "elements" "[Ljava/lang/Object;" (.ref ee)) (G_eev : Arv Z Z.heap ee kee (.object "java/lang/Object") (0 : Int32) [] .null) (G_hi : Sta Z Z.heap "java/lang/Integer$IntegerCache" "high" "I" (.int (127 : Int32))) (G_ca : Sta Z Z.heap "java/lang/Integer$IntegerCache" "cache" "[Ljava/lang/Integer;" (.ref ca)) (G_bx : Bxs Z ca cc "java/lang/Integer" "I" 256 (fun j => .int (j - 128))) (G_eo : Sta Z Z.heap "java/util/ImmutableCollections" "EMPTY" "Ljava/lang/Object;" (.ref eo)) (G_eoe : Exa Z Z.heap eo "java/lang/Object") (G_mo : MirO Z "[Ljava/lang/Object;" mo) (x0 : Addr) (x1 : Int32) (w1 : Int32) (h0 : Heap) (O0 : Ext Z.heap h0) (r0 : Exa Z h0 x0 "java/lang/Integer") (r1 : Fld Z h0 x0 "java/lang/Integer" "value" "I" (.int w1)) (r2 : Z.heap.size ≤ x0) :
    MetFree l (⟨"java/lang/Integer", "<init>", "(I)V"⟩ : MethodName) (head1 (Jvm.Cond.code (⟨"java/lang/Integer", "<init>", "(I)V"⟩ : MethodName) jdk_33_method_23_code 2 none :: ws) ({ frames := 2, cells := 0, slots := 0, locals := 24 } : Room)) (fun a U => a = #[(.ref x0), (.int x1)] ∧ Z.Warmed39 U.vm ∧ U.heap = h0) (fun _ _ _ _ _ => True) (fun _ U o U' => ∃ v L, o = .returned v ∧ Q_a36_0 Z dc kdc el ee kee ca cc eo mo x0 x1 w1 h0 v U'.heap L ∧ FrameEnd U o U' L ({ frames := 2, cells := 0, slots := 0, locals := 24 } : Room).cells ({ frames := 2, cells := 0, slots := 0, locals := 24 } : Room).slots) := by
  refine MetFree.of_bodySF (plainFor_of_name pn_36) hisR ?_
  intro p e s m args below meth c s₁ Bd hml0 hP hK
  obtain ⟨rfl, hZ, hh⟩ := hP
  have hx := Bd.exec
  have hby := Bd.bytes
  have hlk := Bd.notSynchronized
  have hml : c.maxLocals = 2 := hml0
  have hown : s.vm.findClass "java/lang/Integer" = some m.cls := findClass_of_methodNamed Bd.named
  have hnm := (name_of_methodNamed Bd.named Bd.method).1
  have X0 : Stand p l e ({ frames := 2, cells := 0, slots := 0, locals := 24 } : Room) s m #[(.ref x0), (.int x1)] below meth c s₁ [] 0 0 := Stand.of_body Bd
  have e0 : s₁.heap = h0 := by rw [← hh, Bd.state]; rfl
  have N0 := Fr.nil Z.heap.size
  show Go FrameEnd p e below s ({ frames := 2, cells := 0, slots := 0, locals := 24 } : Room).cells ({ frames := 2, cells := 0, slots := 0, locals := 24 } : Room).slots (Q_a36_0 Z dc kdc el ee kee ca cc eo mo x0 x1 w1 h0) s₁ (entryFrame m #[(.ref x0), (.int x1)] 2)
  refine Go.cast (ef_a36_0 m x0 x1) ?_
  show Go _ _ _ _ _ _ _ _ s₁ (mkF m 0 #[.val (.ref x0), .val (.int x1)] [])
  refine Go.step (fun _ kt_ => XS.aloadN X0.here hx rfl (hb hby d36_0) rfl rfl kt_) ?_
  show Go _ _ _ _ _ _ _ _ s₁ (mkF m 1 #[.val (.ref x0), .val (.int x1)] [(.ref x0)])
  obtain ⟨_, _, ⟨T1, L1, k1, n1⟩, -, X1, ⟨Lc1, hQ1, l1, y1, z1⟩, st1⟩ := X0.specialBack hx (y := (⟨"java/lang/Number", "<init>", "()V"⟩ : MethodName)) rfl hown (mvT hZ (hw _ (List.mem_of_getElem? (i := 280) rfl))) (mvT hZ (hw _ (List.mem_of_getElem? (i := 281) rfl))) (mvT hZ (hw _ (List.mem_of_getElem? (i := 285) rfl))) (by decide) (backOf (W := 0) (rm_a37_0 l Z a0 hw [] dc kdc el ee kee ca cc eo mo G_dc G_dce G_dcv G_el G_ele G_elf G_eev G_hi G_ca G_bx G_eo G_eoe G_mo x0 h0 O0 ) hZ (hw _ (List.mem_of_getElem? (i := 285) rfl)) (hw _ (List.mem_of_getElem? (i := 284) rfl)) (by decide) (by decide)) (g := (mkF m 1 #[.val (.ref x0), .val (.int x1)] [(.ref x0)])) rfl (by rw [hml]; rfl) (Steps.refl _) (a := x0) (argsL := []) (rest := []) (lenOf pd_LRV rfl) rfl (by show 2 * 0 + _ ≤ _; exact Nat.le_of_eq rfl) (hb hby d36_1) (fun _ _ => ⟨rfl, e0, (by decide : 0 + 0 ≤ _), (by decide : 0 + 0 ≤ _)⟩)
  dsimp only [Pt.U, Pt.locs, Pt.cells, Pt.slots] at X1 l1 y1 z1 st1 hQ1
  subst l1 y1 z1
  obtain ⟨rfl, Nq1, e1⟩ := hQ1
  have N1_ := Fr.app N0 Nq1
  refine Go.trans st1 ?_
  show Go _ _ _ _ _ _ _ _ T1 (mkF m 4 #[.val (.ref x0), .val (.int x1)] [])
  refine Go.step (fun _ kt_ => XS.aloadN X1.here hx rfl (hb hby d36_4) rfl rfl kt_) ?_
  show Go _ _ _ _ _ _ _ _ T1 (mkF m 5 #[.val (.ref x0), .val (.int x1)] [(.ref x0)])
  refine Go.step (fun _ kt_ => XS.iloadN X1.here hx rfl (hb hby d36_5) rfl kt_) ?_
  show Go _ _ _ _ _ _ _ _ T1 (mkF m 6 #[.val (.ref x0), .val (.int x1)] [(.int x1), (.ref x0)])
  obtain ⟨T2, h2, X2, e2, W2, st2⟩ := putF X1 hx hZ hown (host := "") (Or.inl (hw _ (List.mem_of_getElem? (i := 245) rfl))) Via.refl e1 r1 r0 (Or.inr ⟨(hw _ (List.mem_of_getElem? (i := 246) rfl)), rfl, hnm⟩) (hw _ (List.mem_of_getElem? (i := 275) rfl)) (ty := .int) pf_I rfl rfl (g := (mkF m 6 #[.val (.ref x0), .val (.int x1)] [(.int x1), (.ref x0)])) rfl rfl (hb hby d36_6)
  refine Go.step st2 ?_
  have N2_ := Fr.snoc X2 N1_ r2
  have O2_ : Ext Z.heap h2 := extWr O0 W2 r2
  have K2 := Keep.wr (Keep.refl h0 [x0]) W2 (Or.inl (List.mem_of_getElem? (i := 0) rfl))
  have F2 := Fld.same W2 r1
  show Go _ _ _ _ _ _ _ _ T2 (mkF m 9 #[.val (.ref x0), .val (.int x1)] [])
  exact Go.retV X2 hx Bd.returns hlk (hb hby d36_9) (by decide) (by decide) (by show Q_a36_0 _ _ _ _ _ _ _ _ _ _ _ _ _ _ _ _ _; rw [e2]; exact ⟨rfl, N2_, K2, F2⟩)
theorem pd_LIRV : parseMethodDescriptor "(I)V" = some ⟨[.int], none⟩ := by decide +kernel
theorem d31_31 : decode jdk_33_method_22_code 31 = .ok (.areturn, 1) := by decide +kernel
theorem d31_6 : decode jdk_33_method_22_code 6 = .ok (.iload_n 0, 1) := by decide +kernel
theorem d31_7 : decode jdk_33_method_22_code 7 = .ok (.getstatic 191, 3) := by decide +kernel
theorem d31_10 : decode jdk_33_method_22_code 10 = .ok (.if_icmp .gt 13, 3) := by decide +kernel
theorem d31_13 : decode jdk_33_method_22_code 13 = .ok (.getstatic 195, 3) := by decide +kernel
theorem d31_16 : decode jdk_33_method_22_code 16 = .ok (.iload_n 0, 1) := by decide +kernel
theorem d31_17 : decode jdk_33_method_22_code 17 = .ok (.sipush 128, 3) := by decide +kernel
theorem d31_20 : decode jdk_33_method_22_code 20 = .ok (.iadd, 1) := by decide +kernel
theorem d31_21 : decode jdk_33_method_22_code 21 = .ok (.aaload, 1) := by decide +kernel
theorem d31_22 : decode jdk_33_method_22_code 22 = .ok (.areturn, 1) := by decide +kernel
theorem pn_31 : plainName "java/lang/Integer" = true := by first | (simp [plainName, overriddenIn]; done) | decide +kernel
theorem ef_vo (m : MethodId) (y0 : Int32) : entryFrame m #[(.int y0)] 1 = mkF m 0 #[.val (.int y0)] [] := by first | (simp [entryFrame, mkF, argsToLocals, Value.category]; done) | rfl
def Q_vo (Z : State) (dc : Addr) (kdc : ClassId) (el : Addr) (ee : Addr) (kee : ClassId) (ca : Addr) (cc : Cell) (eo : Addr) (mo : Addr) (x0 : Int32) (h0 : Heap) (v : Option Value) (h : Heap) (L : List Loc) : Prop := ∃ (r : Addr), v = some (.ref r) ∧ Fr Z.heap.size L ∧ Keep h0 h [] ∧ Exa Z h r "java/lang/Integer" ∧ Fld Z h r "java/lang/Integer" "value" "I" (.int x0)
set_option maxRecDepth 65536 in
set_option maxHeartbeats 40000000 in
theorem rm_vo (l : Launch) (Z : State) (a0 : Array Value) (hw : ∀ d ∈ tables_1, d.before a0 Z = true) (ws : List Jvm.Cond) (dc : Addr) (kdc : ClassId) (el : Addr) (ee : Addr) (kee : ClassId) (ca : Addr) (cc : Cell) (eo : Addr) (mo : Addr) (G_dc : Sta Z Z.heap "java/util/ArrayList" "DEFAULTCAPACITY_EMPTY_ELEMENTDATA" "[Ljava/lang/Object;" (.ref dc)) (G_dce : Exa Z Z.heap dc "[Ljava/lang/Object;") (G_dcv : Arv Z Z.heap dc kdc (.object "java/lang/Object") (0 : Int32) [] .null) (G_el : Sta Z Z.heap "java/util/ImmutableCollections" "EMPTY_LIST" "Ljava/util/ImmutableCollections$ListN;" (.ref el)) (G_ele : Exa Z Z.heap el "java/util/ImmutableCollections$ListN") (G_elf : Fld Z Z.heap el "java/util/ImmutableCollections$ListN" "elements" "[Ljava/lang/Object;" (.ref ee)) (G_eev : Arv Z Z.heap ee kee (.object "java/lang/Object") (0 : Int32) [] .null) (G_hi : Sta Z Z.heap "java/lang/Integer$IntegerCache" "high" "I" (.int (127 : Int32))) (G_ca : Sta Z Z.heap "java/lang/Integer$IntegerCache" "cache" "[Ljava/lang/Integer;" (.ref ca)) (G_bx : Bxs Z ca cc "java/lang/Integer" "I" 256 (fun j => .int (j - 128))) (G_eo : Sta Z Z.heap "java/util/ImmutableCollections" "EMPTY" "Ljava/lang/Object;" (.ref eo)) (G_eoe : Exa Z Z.heap eo "java/lang/Object") (G_mo : MirO Z "[Ljava/lang/Object;" mo) (x0 : Int32) (h0 : Heap) (O0 : Ext Z.heap h0) :
    MetFree l (⟨"java/lang/Integer", "valueOf", "(I)Ljava/lang/Integer;"⟩ : MethodName) (head1 (Jvm.Cond.code (⟨"java/lang/Integer", "valueOf", "(I)Ljava/lang/Integer;"⟩ : MethodName) jdk_33_method_22_code 1 (some (.object "java/lang/Integer")) :: ws) ({ frames := 3, cells := 1, slots := 1, locals := 38 } : Room)) (fun a U => a = #[(.int x0)] ∧ Z.Warmed39 U.vm ∧ U.heap = h0) (fun _ _ _ _ _ => True) (fun _ U o U' => ∃ v L, o = .returned v ∧ Q_vo Z dc kdc el ee kee ca cc eo mo x0 h0 v U'.heap L ∧ FrameEnd U o U' L ({ frames := 3, cells := 1, slots := 1, locals := 38 } : Room).cells ({ frames := 3, cells := 1, slots := 1, locals := 38 } : Room).slots) := by
  refine MetFree.of_bodySF (plainFor_of_name pn_31) hisR ?_
  intro p e s m args below meth c s₁ Bd hml0 hP hK
  obtain ⟨rfl, hZ, hh⟩ := hP
  have hx := Bd.exec
  have hby := Bd.bytes
  have hlk := Bd.notSynchronized
  have hml : c.maxLocals = 1 := hml0
  have hown : s.vm.findClass "java/lang/Integer" = some m.cls := findClass_of_methodNamed Bd.named
  have hnm := (name_of_methodNamed Bd.named Bd.method).1
  have X0 : Stand p l e ({ frames := 3, cells := 1, slots := 1, locals := 38 } : Room) s m #[(.int x0)] below meth c s₁ [] 0 0 := Stand.of_body Bd
  have e0 : s₁.heap = h0 := by rw [← hh, Bd.state]; rfl
  have N0 := Fr.nil Z.heap.size
  show Go FrameEnd p e below s ({ frames := 3, cells := 1, slots := 1, locals := 38 } : Room).cells ({ frames := 3, cells := 1, slots := 1, locals := 38 } : Room).slots (Q_vo Z dc kdc el ee kee ca cc eo mo x0 h0) s₁ (entryFrame m #[(.int x0)] 1)
  refine Go.cast (ef_vo m x0) ?_
  show Go _ _ _ _ _ _ _ _ s₁ (mkF m 0 #[.val (.int x0)] [])
  refine Go.step (fun _ kt_ => XS.iloadN X0.here hx rfl (hb hby d31_0) rfl kt_) ?_
  show Go _ _ _ _ _ _ _ _ s₁ (mkF m 1 #[.val (.int x0)] [(.int x0)])
  refine Go.step (fun _ kt_ => XS.bipush X0.here hx rfl (hb hby d31_1)  kt_) ?_
  show Go _ _ _ _ _ _ _ _ s₁ (mkF m 3 #[.val (.int x0)] [(.int (-128 : Int32)), (.int x0)])
  by_cases hlo : x0 < (-128 : Int32)
  · refine Go.step (fun _ kt_ => XS.icmpYes X0.here hx rfl (pc0 := 3) (pc' := 23) rfl (hb hby d31_3) rfl (tlt hlo).1 (by decide) (by decide) kt_) ?_
    show Go _ _ _ _ _ _ _ _ s₁ (mkF m 23 #[.val (.int x0)] [])
    obtain ⟨T1, h1, X1, e1, E1, A1, D1, U1, st1⟩ := newO X0 hx hZ hown (hw _ (List.mem_of_getElem? (i := 274) rfl)) (hw _ (List.mem_of_getElem? (i := 275) rfl)) (hw _ (List.mem_of_getElem? (i := 235) rfl)) e0 (g := (mkF m 23 #[.val (.int x0)] [])) rfl (hb hby d31_23) (by decide) (by decide)
    obtain ⟨b1, hb1⟩ : ∃ z, z = h0.size := ⟨_, rfl⟩
    rw [← hb1] at A1 D1 U1 st1
    refine Go.step st1 ?_
    have g_b1 : Z.heap.size ≤ b1 := Nat.le_trans O0.1 (Nat.le_of_eq hb1.symm)
    have O1_ : Ext Z.heap h1 := extTr O0 E1
    have sz_b1 : h0.size ≤ b1 := Nat.le_trans (Keep.refl h0 []).1 (Nat.le_of_eq hb1.symm)
    have K1 := Keep.ext (Keep.refl h0 []) E1
    have F1_value : Fld Z h1 b1 "java/lang/Integer" "value" "I" (.int (0 : Int32)) := D1 (Or.inr (hw _ (List.mem_of_getElem? (i := 246) rfl))) (ty := .int) pf_I
    show Go _ _ _ _ _ _ _ _ T1 (mkF m 26 #[.val (.int x0)] [(.ref b1)])
    refine Go.step (fun _ kt_ => XS.dup X1.here hx rfl (hb hby d31_26) rfl rfl kt_) ?_
    show Go _ _ _ _ _ _ _ _ T1 (mkF m 27 #[.val (.int x0)] [(.ref b1), (.ref b1)])
    refine Go.step (fun _ kt_ => XS.iloadN X1.here hx rfl (hb hby d31_27) rfl kt_) ?_
    show Go _ _ _ _ _ _ _ _ T1 (mkF m 28 #[.val (.int x0)] [(.int x0), (.ref b1), (.ref b1)])
    obtain ⟨_, _, ⟨T2, L2, k2, n2⟩, -, X2, ⟨Lc2, hQ2, l2, y2, z2⟩, st2⟩ := X1.specialBack hx (y := (⟨"java/lang/Integer", "<init>", "(I)V"⟩ : MethodName)) rfl hown (mvT hZ (hw _ (List.mem_of_getElem? (i := 276) rfl))) (mvT hZ (hw _ (List.mem_of_getElem? (i := 277) rfl))) (mvT hZ (hw _ (List.mem_of_getElem? (i := 279) rfl))) (by decide) (backOf (W := 1) (rm_a36_0 l Z a0 hw [] dc kdc el ee kee ca cc eo mo G_dc G_dce G_dcv G_el G_ele G_elf G_eev G_hi G_ca G_bx G_eo G_eoe G_mo b1 x0 (0 : Int32) h1 O1_ A1 F1_value g_b1) hZ (hw _ (List.mem_of_getElem? (i := 279) rfl)) (hw _ (List.mem_of_getElem? (i := 235) rfl)) (by decide) (by decide)) (g := (mkF m 28 #[.val (.int x0)] [(.int x0), (.ref b1), (.ref b1)])) rfl (by rw [hml]; rfl) (Steps.refl _) (a := b1) (argsL := [(.int x0)]) (rest := [(.ref b1)]) (lenOf pd_LIRV rfl) rfl (by show 2 * 0 + _ ≤ _; exact Nat.le_of_eq rfl) (hb hby d31_28) (fun _ _ => ⟨rfl, e1, (by decide : 1 + 0 ≤ _), (by decide : 1 + 0 ≤ _)⟩)
    dsimp only [Pt.U, Pt.locs, Pt.cells, Pt.slots] at X2 l2 y2 z2 st2 hQ2
    subst l2 y2 z2
    obtain ⟨rfl, Nq2, Kq2, p2_0⟩ := hQ2
    have O2_ : Ext Z.heap T2.heap := extKeep O1_ Kq2 (allS g_b1 all0)
    have K2 := Keep.trans K1 Kq2 (allS (Or.inr sz_b1) all0)
    have N2_ := Fr.app N0 Nq2
    refine Go.trans st2 ?_
    show Go _ _ _ _ _ _ _ _ T2 (mkF m 31 #[.val (.int x0)] [(.ref b1)])
    exact Go.retA X2 hx Bd.returns rfl rfl hlk (hb hby d31_31) (by decide) (by decide) ⟨b1, rfl, N2_, K2, (A1.keep Kq2), p2_0⟩
  · refine Go.step (fun _ kt_ => XS.icmpNo X0.here hx rfl (hb hby d31_3) rfl (flt hlo).1 kt_) ?_
    show Go _ _ _ _ _ _ _ _ s₁ (mkF m 6 #[.val (.int x0)] [])
    refine Go.step (fun _ kt_ => XS.iloadN X0.here hx rfl (hb hby d31_6) rfl kt_) ?_
    show Go _ _ _ _ _ _ _ _ s₁ (mkF m 7 #[.val (.int x0)] [(.int x0)])
    obtain ⟨T3, X3, e3, st3⟩ := getS2 X0 hx hZ hown (host := "") (Or.inl (hw _ (List.mem_of_getElem? (i := 237) rfl))) Via.refl e0 (Sta.ext O0 G_hi) (g := (mkF m 7 #[.val (.int x0)] [(.int x0)])) rfl (hb hby d31_7)
    refine Go.step st3 ?_
    show Go _ _ _ _ _ _ _ _ T3 (mkF m 10 #[.val (.int x0)] [(.int (127 : Int32)), (.int x0)])
    by_cases hhi : (127 : Int32) < x0
    · refine Go.step (fun _ kt_ => XS.icmpYes X3.here hx rfl (pc0 := 10) (pc' := 23) rfl (hb hby d31_10) rfl (tlt hhi).2.2.1 (by decide) (by decide) kt_) ?_
      show Go _ _ _ _ _ _ _ _ T3 (mkF m 23 #[.val (.int x0)] [])
      obtain ⟨T4, h4, X4, e4, E4, A4, D4, U4, st4⟩ := newO X3 hx hZ hown (hw _ (List.mem_of_getElem? (i := 274) rfl)) (hw _ (List.mem_of_getElem? (i := 275) rfl)) (hw _ (List.mem_of_getElem? (i := 235) rfl)) e3 (g := (mkF m 23 #[.val (.int x0)] [])) rfl (hb hby d31_23) (by decide) (by decide)
      obtain ⟨b4, hb4⟩ : ∃ z, z = h0.size := ⟨_, rfl⟩
      rw [← hb4] at A4 D4 U4 st4
      refine Go.step st4 ?_
      have g_b4 : Z.heap.size ≤ b4 := Nat.le_trans O0.1 (Nat.le_of_eq hb4.symm)
      have O4_ : Ext Z.heap h4 := extTr O0 E4
      have sz_b4 : h0.size ≤ b4 := Nat.le_trans (Keep.refl h0 []).1 (Nat.le_of_eq hb4.symm)
      have K4 := Keep.ext (Keep.refl h0 []) E4
      have F4_value : Fld Z h4 b4 "java/lang/Integer" "value" "I" (.int (0 : Int32)) := D4 (Or.inr (hw _ (List.mem_of_getElem? (i := 246) rfl))) (ty := .int) pf_I
      show Go _ _ _ _ _ _ _ _ T4 (mkF m 26 #[.val (.int x0)] [(.ref b4)])
      refine Go.step (fun _ kt_ => XS.dup X4.here hx rfl (hb hby d31_26) rfl rfl kt_) ?_
      show Go _ _ _ _ _ _ _ _ T4 (mkF m 27 #[.val (.int x0)] [(.ref b4), (.ref b4)])
      refine Go.step (fun _ kt_ => XS.iloadN X4.here hx rfl (hb hby d31_27) rfl kt_) ?_
      show Go _ _ _ _ _ _ _ _ T4 (mkF m 28 #[.val (.int x0)] [(.int x0), (.ref b4), (.ref b4)])
      obtain ⟨_, _, ⟨T5, L5, k5, n5⟩, -, X5, ⟨Lc5, hQ5, l5, y5, z5⟩, st5⟩ := X4.specialBack hx (y := (⟨"java/lang/Integer", "<init>", "(I)V"⟩ : MethodName)) rfl hown (mvT hZ (hw _ (List.mem_of_getElem? (i := 276) rfl))) (mvT hZ (hw _ (List.mem_of_getElem? (i := 277) rfl))) (mvT hZ (hw _ (List.mem_of_getElem? (i := 279) rfl))) (by decide) (backOf (W := 1) (rm_a36_0 l Z a0 hw [] dc kdc el ee kee ca cc eo mo G_dc G_dce G_dcv G_el G_ele G_elf G_eev G_hi G_ca G_bx G_eo G_eoe G_mo b4 x0 (0 : Int32) h4 O4_ A4 F4_value g_b4) hZ (hw _ (List.mem_of_getElem? (i := 279) rfl)) (hw _ (List.mem_of_getElem? (i := 235) rfl)) (by decide) (by decide)) (g := (mkF m 28 #[.val (.int x0)] [(.int x0), (.ref b4), (.ref b4)])) rfl (by rw [hml]; rfl) (Steps.refl _) (a := b4) (argsL := [(.int x0)]) (rest := [(.ref b4)]) (lenOf pd_LIRV rfl) rfl (by show 2 * 0 + _ ≤ _; exact Nat.le_of_eq rfl) (hb hby d31_28) (fun _ _ => ⟨rfl, e4, (by decide : 1 + 0 ≤ _), (by decide : 1 + 0 ≤ _)⟩)
      dsimp only [Pt.U, Pt.locs, Pt.cells, Pt.slots] at X5 l5 y5 z5 st5 hQ5
      subst l5 y5 z5
      obtain ⟨rfl, Nq5, Kq5, p5_0⟩ := hQ5
      have O5_ : Ext Z.heap T5.heap := extKeep O4_ Kq5 (allS g_b4 all0)
      have K5 := Keep.trans K4 Kq5 (allS (Or.inr sz_b4) all0)
      have N5_ := Fr.app N0 Nq5
      refine Go.trans st5 ?_
      show Go _ _ _ _ _ _ _ _ T5 (mkF m 31 #[.val (.int x0)] [(.ref b4)])
      exact Go.retA X5 hx Bd.returns rfl rfl hlk (hb hby d31_31) (by decide) (by decide) ⟨b4, rfl, N5_, K5, (A4.keep Kq5), p5_0⟩
    · refine Go.step (fun _ kt_ => XS.icmpNo X3.here hx rfl (hb hby d31_10) rfl (flt hhi).2.2.1 kt_) ?_
      show Go _ _ _ _ _ _ _ _ T3 (mkF m 13 #[.val (.int x0)] [])
      obtain ⟨T6, X6, e6, st6⟩ := getS2 X3 hx hZ hown (host := "") (Or.inl (hw _ (List.mem_of_getElem? (i := 239) rfl))) Via.refl e3 (Sta.ext O0 G_ca) (g := (mkF m 13 #[.val (.int x0)] [])) rfl (hb hby d31_13)
      refine Go.step st6 ?_
      show Go _ _ _ _ _ _ _ _ T6 (mkF m 16 #[.val (.int x0)] [(.ref ca)])
      refine Go.step (fun _ kt_ => XS.iloadN X6.here hx rfl (hb hby d31_16) rfl kt_) ?_
      show Go _ _ _ _ _ _ _ _ T6 (mkF m 17 #[.val (.int x0)] [(.int x0), (.ref ca)])
      refine Go.step (fun _ kt_ => XS.sipush X6.here hx rfl (hb hby d31_17)  kt_) ?_
      show Go _ _ _ _ _ _ _ _ T6 (mkF m 20 #[.val (.int x0)] [(.int (128 : Int32)), (.int x0), (.ref ca)])
      refine Go.step (fun _ kt_ => XS.iadd X6.here hx rfl (hb hby d31_20) rfl kt_) ?_
      show Go _ _ _ _ _ _ _ _ T6 (mkF m 21 #[.val (.int x0)] [(.int (x0 + (128 : Int32))), (.ref ca)])
      have hj := own_ix hlo hhi G_bx.2.1
      obtain ⟨bx, q1, q2, q3⟩ := G_bx.2.2.2 (x0 + 128) hj
      have q3 : Fld Z Z.heap bx "java/lang/Integer" "value" "I" (.int x0) := by have q4 := q3; simp only [own_back] at q4; exact q4
      refine Go.step (X6.aaload hx (j := (x0 + (128 : Int32))) (v := .ref bx) (by rw [e6]; exact (G_bx.1.ext O0).1) (State.isArrayOf_alike hZ.alike G_bx.1.2.1) rfl G_bx.1.2.2 hj q1 (g := (mkF m 21 #[.val (.int x0)] [(.int (x0 + (128 : Int32))), (.ref ca)])) rfl rfl (hb hby d31_21)) ?_
      show Go _ _ _ _ _ _ _ _ T6 (mkF m 22 #[.val (.int x0)] [(.ref bx)])
      exact Go.retA X6 hx Bd.returns rfl rfl hlk (hb hby d31_22) (by decide) (by decide) (by show Q_vo _ _ _ _ _ _ _ _ _ _ _ _ _ _ _; rw [e6]; exact ⟨bx, rfl, N0, (Keep.refl h0 []), Exa.ext O0 q2, Fld.ext O0 q3⟩)
theorem pf_ALjava_lang_Object_ : parseFieldDescriptor "[Ljava/lang/Object;" = some (.array (.object "java/lang/Object")) := by decide
theorem d1_0 : decode jdk_38_method_2_code 0 = .ok (.aload_n 0, 1) := by decide +kernel
theorem d1_1 : decode jdk_38_method_2_code 1 = .ok (.invokespecial 1, 3) := by decide +kernel
theorem d2_0 : decode jdk_39_method_1_code 0 = .ok (.aload_n 0, 1) := by decide +kernel
theorem d2_1 : decode jdk_39_method_1_code 1 = .ok (.invokespecial 1, 3) := by decide +kernel
theorem d3_0 : decode jdk_22_method_1_code 0 = .ok (.aload_n 0, 1) := by decide +kernel
theorem d3_1 : decode jdk_22_method_1_code 1 = .ok (.invokespecial 1, 3) := by decide +kernel
theorem d3_4 : decode jdk_22_method_1_code 4 = .ok (.return_, 1) := by decide +kernel
theorem pn_3 : plainName "java/util/AbstractCollection" = true := by first | (simp [plainName, overriddenIn]; done) | decide +kernel
theorem ef_a3_0 (m : MethodId) (y0 : Addr) : entryFrame m #[(.ref y0)] 1 = mkF m 0 #[.val (.ref y0)] [] := by first | (simp [entryFrame, mkF, argsToLocals, Value.category]; done) | rfl
def Q_a3_0 (Z : State) (dc : Addr) (kdc : ClassId) (el : Addr) (ee : Addr) (kee : ClassId) (ca : Addr) (cc : Cell) (eo : Addr) (mo : Addr) (x0 : Addr) (h0 : Heap) (v : Option Value) (h : Heap) (L : List Loc) : Prop := v = none ∧ Fr Z.heap.size L ∧ h = h0
set_option maxRecDepth 65536 in
set_option maxHeartbeats 40000000 in
theorem rm_a3_0 (l : Launch) (Z : State) (a0 : Array Value) (hw : ∀ d ∈ tables_1, d.before a0 Z = true) (ws : List Jvm.Cond) (dc : Addr) (kdc : ClassId) (el : Addr) (ee : Addr) (kee : ClassId) (ca : Addr) (cc : Cell) (eo : Addr) (mo : Addr) (G_dc : Sta Z Z.heap "java/util/ArrayList" "DEFAULTCAPACITY_EMPTY_ELEMENTDATA" "[Ljava/lang/Object;" (.ref dc)) (G_dce : Exa Z Z.heap dc "[Ljava/lang/Object;") (G_dcv : Arv Z Z.heap dc kdc (.object "java/lang/Object") (0 : Int32) [] .null) (G_el : Sta Z Z.heap "java/util/ImmutableCollections" "EMPTY_LIST" "Ljava/util/ImmutableCollections$ListN;" (.ref el)) (G_ele : Exa Z Z.heap el "java/util/ImmutableCollections$ListN") (G_elf : Fld Z Z.heap el "java/util/ImmutableCollections$ListN" "elements" "[Ljava/lang/Object;" (.ref ee)) (G_eev : Arv Z Z.heap ee kee (.object "java/lang/Object") (0 : Int32) [] .null) (G_hi : Sta Z Z.heap "java/lang/Integer$IntegerCache" "high" "I" (.int (127 : Int32))) (G_ca : Sta Z Z.heap "java/lang/Integer$IntegerCache" "cache" "[Ljava/lang/Integer;" (.ref ca)) (G_bx : Bxs Z ca cc "java/lang/Integer" "I" 256 (fun j => .int (j - 128))) (G_eo : Sta Z Z.heap "java/util/ImmutableCollections" "EMPTY" "Ljava/lang/Object;" (.ref eo)) (G_eoe : Exa Z Z.heap eo "java/lang/Object") (G_mo : MirO Z "[Ljava/lang/Object;" mo) (x0 : Addr) (h0 : Heap) (O0 : Ext Z.heap h0) :
    MetFree l (⟨"java/util/AbstractCollection", "<init>", "()V"⟩ : MethodName) (head1 (Jvm.Cond.code (⟨"java/util/AbstractCollection", "<init>", "()V"⟩ : MethodName) jdk_22_method_1_code 1 none :: ws) ({ frames := 1, cells := 0, slots := 0, locals := 12 } : Room)) (fun a U => a = #[(.ref x0)] ∧ Z.Warmed39 U.vm ∧ U.heap = h0) (fun _ _ _ _ _ => True) (fun _ U o U' => ∃ v L, o = .returned v ∧ Q_a3_0 Z dc kdc el ee kee ca cc eo mo x0 h0 v U'.heap L ∧ FrameEnd U o U' L ({ frames := 1, cells := 0, slots := 0, locals := 12 } : Room).cells ({ frames := 1, cells := 0, slots := 0, locals := 12 } : Room).slots) := by
  refine MetFree.of_bodySF (plainFor_of_name pn_3) hisR ?_
  intro p e s m args below meth c s₁ Bd hml0 hP hK
  obtain ⟨rfl, hZ, hh⟩ := hP
  have hx := Bd.exec
  have hby := Bd.bytes
  have hlk := Bd.notSynchronized
  have hml : c.maxLocals = 1 := hml0
  have hown : s.vm.findClass "java/util/AbstractCollection" = some m.cls := findClass_of_methodNamed Bd.named
  have hnm := (name_of_methodNamed Bd.named Bd.method).1
  have X0 : Stand p l e ({ frames := 1, cells := 0, slots := 0, locals := 12 } : Room) s m #[(.ref x0)] below meth c s₁ [] 0 0 := Stand.of_body Bd
  have e0 : s₁.heap = h0 := by rw [← hh, Bd.state]; rfl
  have N0 := Fr.nil Z.heap.size
  show Go FrameEnd p e below s ({ frames := 1, cells := 0, slots := 0, locals := 12 } : Room).cells ({ frames := 1, cells := 0, slots := 0, locals := 12 } : Room).slots (Q_a3_0 Z dc kdc el ee kee ca cc eo mo x0 h0) s₁ (entryFrame m #[(.ref x0)] 1)
  refine Go.cast (ef_a3_0 m x0) ?_
  show Go _ _ _ _ _ _ _ _ s₁ (mkF m 0 #[.val (.ref x0)] [])
  refine Go.step (fun _ kt_ => XS.aloadN X0.here hx rfl (hb hby d3_0) rfl rfl kt_) ?_
  show Go _ _ _ _ _ _ _ _ s₁ (mkF m 1 #[.val (.ref x0)] [(.ref x0)])
  obtain ⟨T1, X1, e1, st1⟩ := initO X0 hx hZ hown (hw _ (List.mem_of_getElem? (i := 23) rfl)) (hw _ (List.mem_of_getElem? (i := 24) rfl)) (hw _ (List.mem_of_getElem? (i := 25) rfl)) e0 (g := (mkF m 1 #[.val (.ref x0)] [(.ref x0)])) rfl (by rw [hml]; rfl) rfl (hb hby d3_1) (by decide) (W := 0) (by show 2 * 0 + _ ≤ _; exact Nat.le_of_eq rfl) (by decide)
  refine Go.step st1 ?_
  show Go _ _ _ _ _ _ _ _ T1 (mkF m 4 #[.val (.ref x0)] [])
  exact Go.retV X1 hx Bd.returns hlk (hb hby d3_4) (by decide) (by decide) (by show _ ∧ _ ∧ _; rw [e1]; exact ⟨rfl, N0, rfl⟩)
theorem d2_4 : decode jdk_39_method_1_code 4 = .ok (.aload_n 0, 1) := by decide +kernel
theorem d2_5 : decode jdk_39_method_1_code 5 = .ok (.iconst 0, 1) := by decide +kernel
theorem d2_6 : decode jdk_39_method_1_code 6 = .ok (.putfield 7, 3) := by decide +kernel
theorem d2_9 : decode jdk_39_method_1_code 9 = .ok (.return_, 1) := by decide +kernel
theorem sn_0 {Z : State} {a0 : Array Value} (hw : ∀ d ∈ tables_1, d.before a0 Z = true) : Jvm.RoadKit.slotOf Z "java/util/ArrayList" "elementData" "[Ljava/lang/Object;" ≠ Jvm.RoadKit.slotOf Z "java/util/AbstractList" "modCount" "I" := slot_ne (Or.inl (hw _ (List.mem_of_getElem? (i := 30) rfl))) (Or.inl (hw _ (List.mem_of_getElem? (i := 27) rfl))) (by decide) pf_ALjava_lang_Object_ pf_I
theorem sn_1 {Z : State} {a0 : Array Value} (hw : ∀ d ∈ tables_1, d.before a0 Z = true) : Jvm.RoadKit.slotOf Z "java/util/ArrayList" "size" "I" ≠ Jvm.RoadKit.slotOf Z "java/util/AbstractList" "modCount" "I" := slot_ne (Or.inl (hw _ (List.mem_of_getElem? (i := 67) rfl))) (Or.inl (hw _ (List.mem_of_getElem? (i := 27) rfl))) (by decide) pf_I pf_I
theorem pn_2 : plainName "java/util/AbstractList" = true := by first | (simp [plainName, overriddenIn]; done) | decide +kernel
theorem ef_a2_0 (m : MethodId) (y0 : Addr) : entryFrame m #[(.ref y0)] 1 = mkF m 0 #[.val (.ref y0)] [] := by first | (simp [entryFrame, mkF, argsToLocals, Value.category]; done) | rfl
def Q_a2_0 (Z : State) (dc : Addr) (kdc : ClassId) (el : Addr) (ee : Addr) (kee : ClassId) (ca : Addr) (cc : Cell) (eo : Addr) (mo : Addr) (x0 : Addr) (w1 : Int32) (w2 : Int32) (h0 : Heap) (v : Option Value) (h : Heap) (L : List Loc) : Prop := v = none ∧ Fr Z.heap.size L ∧ Keep h0 h [x0] ∧ Fld Z h x0 "java/util/AbstractList" "modCount" "I" (.int (0 : Int32)) ∧ Fld Z h x0 "java/util/ArrayList" "elementData" "[Ljava/lang/Object;" .null ∧ Fld Z h x0 "java/util/ArrayList" "size" "I" (.int w2)
set_option maxRecDepth 65536 in
set_option maxHeartbeats 40000000 in
theorem rm_a2_0 (l : Launch) (Z : State) (a0 : Array Value) (hw : ∀ d ∈ tables_1, d.before a0 Z = true) (ws : List Jvm.Cond) (dc : Addr) (kdc : ClassId) (el : Addr) (ee : Addr) (kee : ClassId) (ca : Addr) (cc : Cell) (eo : Addr) (mo : Addr) (G_dc : Sta Z Z.heap "java/util/ArrayList" "DEFAULTCAPACITY_EMPTY_ELEMENTDATA" "[Ljava/lang/Object;" (.ref dc)) (G_dce : Exa Z Z.heap dc "[Ljava/lang/Object;") (G_dcv : Arv Z Z.heap dc kdc (.object "java/lang/Object") (0 : Int32) [] .null) (G_el : Sta Z Z.heap "java/util/ImmutableCollections" "EMPTY_LIST" "Ljava/util/ImmutableCollections$ListN;" (.ref el)) (G_ele : Exa Z Z.heap el "java/util/ImmutableCollections$ListN") (G_elf : Fld Z Z.heap el "java/util/ImmutableCollections$ListN" "elements" "[Ljava/lang/Object;" (.ref ee)) (G_eev : Arv Z Z.heap ee kee (.object "java/lang/Object") (0 : Int32) [] .null) (G_hi : Sta Z Z.heap "java/lang/Integer$IntegerCache" "high" "I" (.int (127 : Int32))) (G_ca : Sta Z Z.heap "java/lang/Integer$IntegerCache" "cache" "[Ljava/lang/Integer;" (.ref ca)) (G_bx : Bxs Z ca cc "java/lang/Integer" "I" 256 (fun j => .int (j - 128))) (G_eo : Sta Z Z.heap "java/util/ImmutableCollections" "EMPTY" "Ljava/lang/Object;" (.ref eo)) (G_eoe : Exa Z Z.heap eo "java/lang/Object") (G_mo : MirO Z "[Ljava/lang/Object;" mo) (x0 : Addr) (w1 : Int32) (w2 : Int32) (h0 : Heap) (O0 : Ext Z.heap h0) (r0 : Exa Z h0 x0 "java/util/ArrayList") (r1 : Fld Z h0 x0 "java/util/AbstractList" "modCount" "I" (.int w1)) (r2 : Z.heap.size ≤ x0) (r3 : Fld Z h0 x0 "java/util/ArrayList" "elementData" "[Ljava/lang/Object;" .null) (r4 : Fld Z h0 x0 "java/util/ArrayList" "size" "I" (.int w2)) :
    MetFree l (⟨"java/util/AbstractList", "<init>", "()V"⟩ : MethodName) (head1 (Jvm.Cond.code (⟨"java/util/AbstractList", "<init>", "()V"⟩ : MethodName) jdk_39_method_1_code 1 none :: ws) ({ frames := 2, cells := 0, slots := 0, locals := 24 } : Room)) (fun a U => a = #[(.ref x0)] ∧ Z.Warmed39 U.vm ∧ U.heap = h0) (fun _ _ _ _ _ => True) (fun _ U o U' => ∃ v L, o = .returned v ∧ Q_a2_0 Z dc kdc el ee kee ca cc eo mo x0 w1 w2 h0 v U'.heap L ∧ FrameEnd U o U' L ({ frames := 2, cells := 0, slots := 0, locals := 24 } : Room).cells ({ frames := 2, cells := 0, slots := 0, locals := 24 } : Room).slots) := by
  refine MetFree.of_bodySF (plainFor_of_name pn_2) hisR ?_
  intro p e s m args below meth c s₁ Bd hml0 hP hK
  obtain ⟨rfl, hZ, hh⟩ := hP
  have hx := Bd.exec
  have hby := Bd.bytes
  have hlk := Bd.notSynchronized
  have hml : c.maxLocals = 1 := hml0
  have hown : s.vm.findClass "java/util/AbstractList" = some m.cls := findClass_of_methodNamed Bd.named
  have hnm := (name_of_methodNamed Bd.named Bd.method).1
  have X0 : Stand p l e ({ frames := 2, cells := 0, slots := 0, locals := 24 } : Room) s m #[(.ref x0)] below meth c s₁ [] 0 0 := Stand.of_body Bd
  have e0 : s₁.heap = h0 := by rw [← hh, Bd.state]; rfl
  have N0 := Fr.nil Z.heap.size
  show Go FrameEnd p e below s ({ frames := 2, cells := 0, slots := 0, locals := 24 } : Room).cells ({ frames := 2, cells := 0, slots := 0, locals := 24 } : Room).slots (Q_a2_0 Z dc kdc el ee kee ca cc eo mo x0 w1 w2 h0) s₁ (entryFrame m #[(.ref x0)] 1)
  refine Go.cast (ef_a2_0 m x0) ?_
  show Go _ _ _ _ _ _ _ _ s₁ (mkF m 0 #[.val (.ref x0)] [])
  refine Go.step (fun _ kt_ => XS.aloadN X0.here hx rfl (hb hby d2_0) rfl rfl kt_) ?_
  show Go _ _ _ _ _ _ _ _ s₁ (mkF m 1 #[.val (.ref x0)] [(.ref x0)])
  obtain ⟨_, _, ⟨T1, L1, k1, n1⟩, -, X1, ⟨Lc1, hQ1, l1, y1, z1⟩, st1⟩ := X0.specialBack hx (y := (⟨"java/util/AbstractCollection", "<init>", "()V"⟩ : MethodName)) rfl hown (mvT hZ (hw _ (List.mem_of_getElem? (i := 17) rfl))) (mvT hZ (hw _ (List.mem_of_getElem? (i := 18) rfl))) (mvT hZ (hw _ (List.mem_of_getElem? (i := 22) rfl))) (by decide) (backOf (W := 0) (rm_a3_0 l Z a0 hw [] dc kdc el ee kee ca cc eo mo G_dc G_dce G_dcv G_el G_ele G_elf G_eev G_hi G_ca G_bx G_eo G_eoe G_mo x0 h0 O0 ) hZ (hw _ (List.mem_of_getElem? (i := 22) rfl)) (hw _ (List.mem_of_getElem? (i := 21) rfl)) (by decide) (by decide)) (g := (mkF m 1 #[.val (.ref x0)] [(.ref x0)])) rfl (by rw [hml]; rfl) (Steps.refl _) (a := x0) (argsL := []) (rest := []) (lenOf pd_LRV rfl) rfl (by show 2 * 0 + _ ≤ _; exact Nat.le_of_eq rfl) (hb hby d2_1) (fun _ _ => ⟨rfl, e0, (by decide : 0 + 0 ≤ _), (by decide : 0 + 0 ≤ _)⟩)
  dsimp only [Pt.U, Pt.locs, Pt.cells, Pt.slots] at X1 l1 y1 z1 st1 hQ1
  subst l1 y1 z1
  obtain ⟨rfl, Nq1, e1⟩ := hQ1
  have N1_ := Fr.app N0 Nq1
  refine Go.trans st1 ?_
  show Go _ _ _ _ _ _ _ _ T1 (mkF m 4 #[.val (.ref x0)] [])
  refine Go.step (fun _ kt_ => XS.aloadN X1.here hx rfl (hb hby d2_4) rfl rfl kt_) ?_
  show Go _ _ _ _ _ _ _ _ T1 (mkF m 5 #[.val (.ref x0)] [(.ref x0)])
  refine Go.step (fun _ kt_ => XS.iconst X1.here hx rfl (hb hby d2_5)  kt_) ?_
  show Go _ _ _ _ _ _ _ _ T1 (mkF m 6 #[.val (.ref x0)] [(.int (0 : Int32)), (.ref x0)])
  obtain ⟨T2, h2, X2, e2, W2, st2⟩ := putF X1 hx hZ hown (host := "") (Or.inl (hw _ (List.mem_of_getElem? (i := 26) rfl))) Via.refl e1 r1 r0 (Or.inl (hw _ (List.mem_of_getElem? (i := 27) rfl))) (hw _ (List.mem_of_getElem? (i := 6) rfl)) (ty := .int) pf_I rfl rfl (g := (mkF m 6 #[.val (.ref x0)] [(.int (0 : Int32)), (.ref x0)])) rfl rfl (hb hby d2_6)
  refine Go.step st2 ?_
  have N2_ := Fr.snoc X2 N1_ r2
  have O2_ : Ext Z.heap h2 := extWr O0 W2 r2
  have K2 := Keep.wr (Keep.refl h0 [x0]) W2 (Or.inl (List.mem_of_getElem? (i := 0) rfl))
  have F2 := Fld.same W2 r1
  show Go _ _ _ _ _ _ _ _ T2 (mkF m 9 #[.val (.ref x0)] [])
  exact Go.retV X2 hx Bd.returns hlk (hb hby d2_9) (by decide) (by decide) (by show Q_a2_0 _ _ _ _ _ _ _ _ _ _ _ _ _ _ _ _ _; rw [e2]; exact ⟨rfl, N2_, K2, F2, (Fld.other W2 r3 (Or.inr (sn_0 hw))), (Fld.other W2 r4 (Or.inr (sn_1 hw)))⟩)
theorem d1_4 : decode jdk_38_method_2_code 4 = .ok (.aload_n 0, 1) := by decide +kernel
theorem d1_5 : decode jdk_38_method_2_code 5 = .ok (.getstatic 39, 3) := by decide +kernel
theorem d1_8 : decode jdk_38_method_2_code 8 = .ok (.putfield 9, 3) := by decide +kernel
theorem d1_11 : decode jdk_38_method_2_code 11 = .ok (.return_, 1) := by decide +kernel
theorem sn_2 {Z : State} {a0 : Array Value} (hw : ∀ d ∈ tables_1, d.before a0 Z = true) : Jvm.RoadKit.slotOf Z "java/util/ArrayList" "size" "I" ≠ Jvm.RoadKit.slotOf Z "java/util/ArrayList" "elementData" "[Ljava/lang/Object;" := slot_ne (Or.inl (hw _ (List.mem_of_getElem? (i := 67) rfl))) (Or.inl (hw _ (List.mem_of_getElem? (i := 30) rfl))) (by decide) pf_I pf_ALjava_lang_Object_
theorem pn_1 : plainName "java/util/ArrayList" = true := by first | (simp [plainName, overriddenIn]; done) | decide +kernel
theorem ef_a1_0 (m : MethodId) (y0 : Addr) : entryFrame m #[(.ref y0)] 1 = mkF m 0 #[.val (.ref y0)] [] := by first | (simp [entryFrame, mkF, argsToLocals, Value.category]; done) | rfl
def Q_a1_0 (Z : State) (dc : Addr) (kdc : ClassId) (el : Addr) (ee : Addr) (kee : ClassId) (ca : Addr) (cc : Cell) (eo : Addr) (mo : Addr) (x0 : Addr) (w1 : Int32) (w2 : Int32) (h0 : Heap) (v : Option Value) (h : Heap) (L : List Loc) : Prop := v = none ∧ Fr Z.heap.size L ∧ Keep h0 h [x0] ∧ Fld Z h x0 "java/util/AbstractList" "modCount" "I" (.int (0 : Int32)) ∧ Fld Z h x0 "java/util/ArrayList" "elementData" "[Ljava/lang/Object;" (.ref dc) ∧ Fld Z h x0 "java/util/ArrayList" "size" "I" (.int w2)
set_option maxRecDepth 65536 in
set_option maxHeartbeats 40000000 in
theorem rm_a1_0 (l : Launch) (Z : State) (a0 : Array Value) (hw : ∀ d ∈ tables_1, d.before a0 Z = true) (ws : List Jvm.Cond) (dc : Addr) (kdc : ClassId) (el : Addr) (ee : Addr) (kee : ClassId) (ca : Addr) (cc : Cell) (eo : Addr) (mo : Addr) (G_dc : Sta Z Z.heap "java/util/ArrayList" "DEFAULTCAPACITY_EMPTY_ELEMENTDATA" "[Ljava/lang/Object;" (.ref dc)) (G_dce : Exa Z Z.heap dc "[Ljava/lang/Object;") (G_dcv : Arv Z Z.heap dc kdc (.object "java/lang/Object") (0 : Int32) [] .null) (G_el : Sta Z Z.heap "java/util/ImmutableCollections" "EMPTY_LIST" "Ljava/util/ImmutableCollections$ListN;" (.ref el)) (G_ele : Exa Z Z.heap el "java/util/ImmutableCollections$ListN") (G_elf : Fld Z Z.heap el "java/util/ImmutableCollections$ListN" "elements" "[Ljava/lang/Object;" (.ref ee)) (G_eev : Arv Z Z.heap ee kee (.object "java/lang/Object") (0 : Int32) [] .null) (G_hi : Sta Z Z.heap "java/lang/Integer$IntegerCache" "high" "I" (.int (127 : Int32))) (G_ca : Sta Z Z.heap "java/lang/Integer$IntegerCache" "cache" "[Ljava/lang/Integer;" (.ref ca)) (G_bx : Bxs Z ca cc "java/lang/Integer" "I" 256 (fun j => .int (j - 128))) (G_eo : Sta Z Z.heap "java/util/ImmutableCollections" "EMPTY" "Ljava/lang/Object;" (.ref eo)) (G_eoe : Exa Z Z.heap eo "java/lang/Object") (G_mo : MirO Z "[Ljava/lang/Object;" mo) (x0 : Addr) (w1 : Int32) (w2 : Int32) (h0 : Heap) (O0 : Ext Z.heap h0) (r0 : Exa Z h0 x0 "java/util/ArrayList") (r1 : Fld Z h0 x0 "java/util/AbstractList" "modCount" "I" (.int w1)) (r2 : Z.heap.size ≤ x0) (r3 : Fld Z h0 x0 "java/util/ArrayList" "elementData" "[Ljava/lang/Object;" .null) (r4 : Fld Z h0 x0 "java/util/ArrayList" "size" "I" (.int w2)) :
    MetFree l (⟨"java/util/ArrayList", "<init>", "()V"⟩ : MethodName) (head1 (Jvm.Cond.code (⟨"java/util/ArrayList", "<init>", "()V"⟩ : MethodName) jdk_38_method_2_code 1 none :: ws) ({ frames := 3, cells := 0, slots := 0, locals := 36 } : Room)) (fun a U => a = #[(.ref x0)] ∧ Z.Warmed39 U.vm ∧ U.heap = h0) (fun _ _ _ _ _ => True) (fun _ U o U' => ∃ v L, o = .returned v ∧ Q_a1_0 Z dc kdc el ee kee ca cc eo mo x0 w1 w2 h0 v U'.heap L ∧ FrameEnd U o U' L ({ frames := 3, cells := 0, slots := 0, locals := 36 } : Room).cells ({ frames := 3, cells := 0, slots := 0, locals := 36 } : Room).slots) := by
  refine MetFree.of_bodySF (plainFor_of_name pn_1) hisR ?_
  intro p e s m args below meth c s₁ Bd hml0 hP hK
  obtain ⟨rfl, hZ, hh⟩ := hP
  have hx := Bd.exec
  have hby := Bd.bytes
  have hlk := Bd.notSynchronized
  have hml : c.maxLocals = 1 := hml0
  have hown : s.vm.findClass "java/util/ArrayList" = some m.cls := findClass_of_methodNamed Bd.named
  have hnm := (name_of_methodNamed Bd.named Bd.method).1
  have X0 : Stand p l e ({ frames := 3, cells := 0, slots := 0, locals := 36 } : Room) s m #[(.ref x0)] below meth c s₁ [] 0 0 := Stand.of_body Bd
  have e0 : s₁.heap = h0 := by rw [← hh, Bd.state]; rfl
  have N0 := Fr.nil Z.heap.size
  show Go FrameEnd p e below s ({ frames := 3, cells := 0, slots := 0, locals := 36 } : Room).cells ({ frames := 3, cells := 0, slots := 0, locals := 36 } : Room).slots (Q_a1_0 Z dc kdc el ee kee ca cc eo mo x0 w1 w2 h0) s₁ (entryFrame m #[(.ref x0)] 1)
  refine Go.cast (ef_a1_0 m x0) ?_
  show Go _ _ _ _ _ _ _ _ s₁ (mkF m 0 #[.val (.ref x0)] [])
  refine Go.step (fun _ kt_ => XS.aloadN X0.here hx rfl (hb hby d1_0) rfl rfl kt_) ?_
  show Go _ _ _ _ _ _ _ _ s₁ (mkF m 1 #[.val (.ref x0)] [(.ref x0)])
  obtain ⟨_, _, ⟨T1, L1, k1, n1⟩, -, X1, ⟨Lc1, hQ1, l1, y1, z1⟩, st1⟩ := X0.specialBack hx (y := (⟨"java/util/AbstractList", "<init>", "()V"⟩ : MethodName)) rfl hown (mvT hZ (hw _ (List.mem_of_getElem? (i := 11) rfl))) (mvT hZ (hw _ (List.mem_of_getElem? (i := 12) rfl))) (mvT hZ (hw _ (List.mem_of_getElem? (i := 16) rfl))) (by decide) (backOf (W := 0) (rm_a2_0 l Z a0 hw [] dc kdc el ee kee ca cc eo mo G_dc G_dce G_dcv G_el G_ele G_elf G_eev G_hi G_ca G_bx G_eo G_eoe G_mo x0 w1 w2 h0 O0 r0 r1 r2 r3 r4) hZ (hw _ (List.mem_of_getElem? (i := 16) rfl)) (hw _ (List.mem_of_getElem? (i := 15) rfl)) (by decide) (by decide)) (g := (mkF m 1 #[.val (.ref x0)] [(.ref x0)])) rfl (by rw [hml]; rfl) (Steps.refl _) (a := x0) (argsL := []) (rest := []) (lenOf pd_LRV rfl) rfl (by show 2 * 0 + _ ≤ _; exact Nat.le_of_eq rfl) (hb hby d1_1) (fun _ _ => ⟨rfl, e0, (by decide : 0 + 0 ≤ _), (by decide : 0 + 0 ≤ _)⟩)
  dsimp only [Pt.U, Pt.locs, Pt.cells, Pt.slots] at X1 l1 y1 z1 st1 hQ1
  subst l1 y1 z1
  obtain ⟨rfl, Nq1, Kq1, p1_0, p1_1, p1_2⟩ := hQ1
  have O1_ : Ext Z.heap T1.heap := extKeep O0 Kq1 (allS r2 all0)
  have K1 := Keep.trans (Keep.refl h0 [x0]) Kq1 (allS (Or.inl (List.mem_of_getElem? (i := 0) rfl)) all0)
  have N1_ := Fr.app N0 Nq1
  refine Go.trans st1 ?_
  show Go _ _ _ _ _ _ _ _ T1 (mkF m 4 #[.val (.ref x0)] [])
  refine Go.step (fun _ kt_ => XS.aloadN X1.here hx rfl (hb hby d1_4) rfl rfl kt_) ?_
  show Go _ _ _ _ _ _ _ _ T1 (mkF m 5 #[.val (.ref x0)] [(.ref x0)])
  obtain ⟨T2, X2, e2, st2⟩ := getS2 X1 hx hZ hown (host := "") (Or.inl (hw _ (List.mem_of_getElem? (i := 28) rfl))) Via.refl rfl (Sta.ext O1_ G_dc) (g := (mkF m 5 #[.val (.ref x0)] [(.ref x0)])) rfl (hb hby d1_5)
  refine Go.step st2 ?_
  show Go _ _ _ _ _ _ _ _ T2 (mkF m 8 #[.val (.ref x0)] [(.ref dc), (.ref x0)])
  obtain ⟨T3, h3, X3, e3, W3, st3⟩ := putF X2 hx hZ hown (host := "") (Or.inl (hw _ (List.mem_of_getElem? (i := 29) rfl))) Via.refl e2 p1_1 (r0.keep Kq1) (Or.inl (hw _ (List.mem_of_getElem? (i := 30) rfl))) (hw _ (List.mem_of_getElem? (i := 6) rfl)) (ty := (.array (.object "java/lang/Object"))) pf_ALjava_lang_Object_ rfl rfl (g := (mkF m 8 #[.val (.ref x0)] [(.ref dc), (.ref x0)])) rfl rfl (hb hby d1_8)
  refine Go.step st3 ?_
  have N3_ := Fr.snoc X3 N1_ r2
  have O3_ : Ext Z.heap h3 := extWr O1_ W3 r2
  have K3 := Keep.wr K1 W3 (Or.inl (List.mem_of_getElem? (i := 0) rfl))
  have F3 := Fld.same W3 p1_1
  show Go _ _ _ _ _ _ _ _ T3 (mkF m 11 #[.val (.ref x0)] [])
  exact Go.retV X3 hx Bd.returns hlk (hb hby d1_11) (by decide) (by decide) (by show Q_a1_0 _ _ _ _ _ _ _ _ _ _ _ _ _ _ _ _ _; rw [e3]; exact ⟨rfl, N3_, K3, (Fld.other W3 p1_0 (Or.inr (Ne.symm (sn_0 hw)))), F3, (Fld.other W3 p1_2 (Or.inr (sn_2 hw)))⟩)
theorem pf_Ljava_util_List_ : parseFieldDescriptor "Ljava/util/List;" = some (.object "java/util/List") := by decide
theorem d5_0 : decode prog_11_method_1_code 0 = .ok (.aload_n 0, 1) := by decide +kernel
theorem d5_1 : decode prog_11_method_1_code 1 = .ok (.invokespecial 1, 3) := by decide +kernel
theorem d6_0 : decode jdk_30_method_1_code 0 = .ok (.aload_n 0, 1) := by decide +kernel
theorem d6_1 : decode jdk_30_method_1_code 1 = .ok (.invokespecial 1, 3) := by decide +kernel
theorem d6_4 : decode jdk_30_method_1_code 4 = .ok (.return_, 1) := by decide +kernel
theorem pn_6 : plainName "java/lang/Record" = true := by first | (simp [plainName, overriddenIn]; done) | decide +kernel
theorem ef_a6_0 (m : MethodId) (y0 : Addr) : entryFrame m #[(.ref y0)] 1 = mkF m 0 #[.val (.ref y0)] [] := by first | (simp [entryFrame, mkF, argsToLocals, Value.category]; done) | rfl
def Q_a6_0 (Z : State) (dc : Addr) (kdc : ClassId) (el : Addr) (ee : Addr) (kee : ClassId) (ca : Addr) (cc : Cell) (eo : Addr) (mo : Addr) (x0 : Addr) (h0 : Heap) (v : Option Value) (h : Heap) (L : List Loc) : Prop := v = none ∧ Fr Z.heap.size L ∧ h = h0
set_option maxRecDepth 65536 in
set_option maxHeartbeats 40000000 in
theorem rm_a6_0 (l : Launch) (Z : State) (a0 : Array Value) (hw : ∀ d ∈ tables_1, d.before a0 Z = true) (ws : List Jvm.Cond) (dc : Addr) (kdc : ClassId) (el : Addr) (ee : Addr) (kee : ClassId) (ca : Addr) (cc : Cell) (eo : Addr) (mo : Addr) (G_dc : Sta Z Z.heap "java/util/ArrayList" "DEFAULTCAPACITY_EMPTY_ELEMENTDATA" "[Ljava/lang/Object;" (.ref dc)) (G_dce : Exa Z Z.heap dc "[Ljava/lang/Object;") (G_dcv : Arv Z Z.heap dc kdc (.object "java/lang/Object") (0 : Int32) [] .null) (G_el : Sta Z Z.heap "java/util/ImmutableCollections" "EMPTY_LIST" "Ljava/util/ImmutableCollections$ListN;" (.ref el)) (G_ele : Exa Z Z.heap el "java/util/ImmutableCollections$ListN") (G_elf : Fld Z Z.heap el "java/util/ImmutableCollections$ListN" "elements" "[Ljava/lang/Object;" (.ref ee)) (G_eev : Arv Z Z.heap ee kee (.object "java/lang/Object") (0 : Int32) [] .null) (G_hi : Sta Z Z.heap "java/lang/Integer$IntegerCache" "high" "I" (.int (127 : Int32))) (G_ca : Sta Z Z.heap "java/lang/Integer$IntegerCache" "cache" "[Ljava/lang/Integer;" (.ref ca)) (G_bx : Bxs Z ca cc "java/lang/Integer" "I" 256 (fun j => .int (j - 128))) (G_eo : Sta Z Z.heap "java/util/ImmutableCollections" "EMPTY" "Ljava/lang/Object;" (.ref eo)) (G_eoe : Exa Z Z.heap eo "java/lang/Object") (G_mo : MirO Z "[Ljava/lang/Object;" mo) (x0 : Addr) (h0 : Heap) (O0 : Ext Z.heap h0) :
    MetFree l (⟨"java/lang/Record", "<init>", "()V"⟩ : MethodName) (head1 (Jvm.Cond.code (⟨"java/lang/Record", "<init>", "()V"⟩ : MethodName) jdk_30_method_1_code 1 none :: ws) ({ frames := 1, cells := 0, slots := 0, locals := 12 } : Room)) (fun a U => a = #[(.ref x0)] ∧ Z.Warmed39 U.vm ∧ U.heap = h0) (fun _ _ _ _ _ => True) (fun _ U o U' => ∃ v L, o = .returned v ∧ Q_a6_0 Z dc kdc el ee kee ca cc eo mo x0 h0 v U'.heap L ∧ FrameEnd U o U' L ({ frames := 1, cells := 0, slots := 0, locals := 12 } : Room).cells ({ frames := 1, cells := 0, slots := 0, locals := 12 } : Room).slots) := by
  refine MetFree.of_bodySF (plainFor_of_name pn_6) hisR ?_
  intro p e s m args below meth c s₁ Bd hml0 hP hK
  obtain ⟨rfl, hZ, hh⟩ := hP
  have hx := Bd.exec
  have hby := Bd.bytes
  have hlk := Bd.notSynchronized
  have hml : c.maxLocals = 1 := hml0
  have hown : s.vm.findClass "java/lang/Record" = some m.cls := findClass_of_methodNamed Bd.named
  have hnm := (name_of_methodNamed Bd.named Bd.method).1
  have X0 : Stand p l e ({ frames := 1, cells := 0, slots := 0, locals := 12 } : Room) s m #[(.ref x0)] below meth c s₁ [] 0 0 := Stand.of_body Bd
  have e0 : s₁.heap = h0 := by rw [← hh, Bd.state]; rfl
  have N0 := Fr.nil Z.heap.size
  show Go FrameEnd p e below s ({ frames := 1, cells := 0, slots := 0, locals := 12 } : Room).cells ({ frames := 1, cells := 0, slots := 0, locals := 12 } : Room).slots (Q_a6_0 Z dc kdc el ee kee ca cc eo mo x0 h0) s₁ (entryFrame m #[(.ref x0)] 1)
  refine Go.cast (ef_a6_0 m x0) ?_
  show Go _ _ _ _ _ _ _ _ s₁ (mkF m 0 #[.val (.ref x0)] [])
  refine Go.step (fun _ kt_ => XS.aloadN X0.here hx rfl (hb hby d6_0) rfl rfl kt_) ?_
  show Go _ _ _ _ _ _ _ _ s₁ (mkF m 1 #[.val (.ref x0)] [(.ref x0)])
  obtain ⟨T1, X1, e1, st1⟩ := initO X0 hx hZ hown (hw _ (List.mem_of_getElem? (i := 42) rfl)) (hw _ (List.mem_of_getElem? (i := 24) rfl)) (hw _ (List.mem_of_getElem? (i := 25) rfl)) e0 (g := (mkF m 1 #[.val (.ref x0)] [(.ref x0)])) rfl (by rw [hml]; rfl) rfl (hb hby d6_1) (by decide) (W := 0) (by show 2 * 0 + _ ≤ _; exact Nat.le_of_eq rfl) (by decide)
  refine Go.step st1 ?_
  show Go _ _ _ _ _ _ _ _ T1 (mkF m 4 #[.val (.ref x0)] [])
  exact Go.retV X1 hx Bd.returns hlk (hb hby d6_4) (by decide) (by decide) (by show _ ∧ _ ∧ _; rw [e1]; exact ⟨rfl, N0, rfl⟩)
theorem d5_4 : decode prog_11_method_1_code 4 = .ok (.aload_n 1, 1) := by decide +kernel
theorem d5_5 : decode prog_11_method_1_code 5 = .ok (.invokestatic 7, 3) := by decide +kernel
theorem d7_0 : decode jdk_40_method_48_code 0 = .ok (.aload_n 0, 1) := by decide +kernel
theorem d7_1 : decode jdk_40_method_48_code 1 = .ok (.invokestatic 112, 3) := by decide +kernel
theorem d8_0 : decode jdk_56_method_3_code 0 = .ok (.aload_n 0, 1) := by decide +kernel
theorem d8_1 : decode jdk_56_method_3_code 1 = .ok (.instanceof 10, 3) := by decide +kernel
theorem d8_4 : decode jdk_56_method_3_code 4 = .ok (.ifCond .ne 22, 3) := by decide +kernel
theorem d8_7 : decode jdk_56_method_3_code 7 = .ok (.aload_n 0, 1) := by decide +kernel
theorem d8_8 : decode jdk_56_method_3_code 8 = .ok (.instanceof 12, 3) := by decide +kernel
theorem d8_11 : decode jdk_56_method_3_code 11 = .ok (.ifCond .eq 20, 3) := by decide +kernel
theorem d8_31 : decode jdk_56_method_3_code 31 = .ok (.aload_n 0, 1) := by decide +kernel
theorem d8_32 : decode jdk_56_method_3_code 32 = .ok (.invokeinterface 20 1, 5) := by decide +kernel
theorem d9_0 : decode jdk_38_method_9_code 0 = .ok (.aload_n 0, 1) := by decide +kernel
theorem d9_1 : decode jdk_38_method_9_code 1 = .ok (.getfield 48, 3) := by decide +kernel
theorem d9_4 : decode jdk_38_method_9_code 4 = .ok (.ifCond .ne 7, 3) := by decide +kernel
theorem d9_7 : decode jdk_38_method_9_code 7 = .ok (.iconst 1, 1) := by decide +kernel
theorem d9_8 : decode jdk_38_method_9_code 8 = .ok (.goto 4, 3) := by decide +kernel
theorem d9_12 : decode jdk_38_method_9_code 12 = .ok (.ireturn, 1) := by decide +kernel
theorem pn_9 : plainName "java/util/ArrayList" = true := by first | (simp [plainName, overriddenIn]; done) | decide +kernel
theorem ef_a9_0 (m : MethodId) (y0 : Addr) : entryFrame m #[(.ref y0)] 1 = mkF m 0 #[.val (.ref y0)] [] := by first | (simp [entryFrame, mkF, argsToLocals, Value.category]; done) | rfl
def Q_a9_0 (Z : State) (dc : Addr) (kdc : ClassId) (el : Addr) (ee : Addr) (kee : ClassId) (ca : Addr) (cc : Cell) (eo : Addr) (mo : Addr) (x0 : Addr) (w1 : Int32) (h0 : Heap) (v : Option Value) (h : Heap) (L : List Loc) : Prop := v = some (.int (1 : Int32)) ∧ Fr Z.heap.size L ∧ h = h0
set_option maxRecDepth 65536 in
set_option maxHeartbeats 40000000 in
theorem rm_a9_0 (l : Launch) (Z : State) (a0 : Array Value) (hw : ∀ d ∈ tables_1, d.before a0 Z = true) (ws : List Jvm.Cond) (dc : Addr) (kdc : ClassId) (el : Addr) (ee : Addr) (kee : ClassId) (ca : Addr) (cc : Cell) (eo : Addr) (mo : Addr) (G_dc : Sta Z Z.heap "java/util/ArrayList" "DEFAULTCAPACITY_EMPTY_ELEMENTDATA" "[Ljava/lang/Object;" (.ref dc)) (G_dce : Exa Z Z.heap dc "[Ljava/lang/Object;") (G_dcv : Arv Z Z.heap dc kdc (.object "java/lang/Object") (0 : Int32) [] .null) (G_el : Sta Z Z.heap "java/util/ImmutableCollections" "EMPTY_LIST" "Ljava/util/ImmutableCollections$ListN;" (.ref el)) (G_ele : Exa Z Z.heap el "java/util/ImmutableCollections$ListN") (G_elf : Fld Z Z.heap el "java/util/ImmutableCollections$ListN" "elements" "[Ljava/lang/Object;" (.ref ee)) (G_eev : Arv Z Z.heap ee kee (.object "java/lang/Object") (0 : Int32) [] .null) (G_hi : Sta Z Z.heap "java/lang/Integer$IntegerCache" "high" "I" (.int (127 : Int32))) (G_ca : Sta Z Z.heap "java/lang/Integer$IntegerCache" "cache" "[Ljava/lang/Integer;" (.ref ca)) (G_bx : Bxs Z ca cc "java/lang/Integer" "I" 256 (fun j => .int (j - 128))) (G_eo : Sta Z Z.heap "java/util/ImmutableCollections" "EMPTY" "Ljava/lang/Object;" (.ref eo)) (G_eoe : Exa Z Z.heap eo "java/lang/Object") (G_mo : MirO Z "[Ljava/lang/Object;" mo) (x0 : Addr) (w1 : Int32) (h0 : Heap) (O0 : Ext Z.heap h0) (r0 : Fld Z h0 x0 "java/util/ArrayList" "size" "I" (.int w1)) (r1 : w1 = (0 : Int32)) :
    MetFree l (⟨"java/util/ArrayList", "isEmpty", "()Z"⟩ : MethodName) (head1 (Jvm.Cond.code (⟨"java/util/ArrayList", "isEmpty", "()Z"⟩ : MethodName) jdk_38_method_9_code 1 (some .boolean) :: ws) ({ frames := 0, cells := 0, slots := 0, locals := 0 } : Room)) (fun a U => a = #[(.ref x0)] ∧ Z.Warmed39 U.vm ∧ U.heap = h0) (fun _ _ _ _ _ => True) (fun _ U o U' => ∃ v L, o = .returned v ∧ Q_a9_0 Z dc kdc el ee kee ca cc eo mo x0 w1 h0 v U'.heap L ∧ FrameEnd U o U' L ({ frames := 0, cells := 0, slots := 0, locals := 0 } : Room).cells ({ frames := 0, cells := 0, slots := 0, locals := 0 } : Room).slots) := by
  refine MetFree.of_bodySF (plainFor_of_name pn_9) hisR ?_
  intro p e s m args below meth c s₁ Bd hml0 hP hK
  obtain ⟨rfl, hZ, hh⟩ := hP
  have hx := Bd.exec
  have hby := Bd.bytes
  have hlk := Bd.notSynchronized
  have hml : c.maxLocals = 1 := hml0
  have hown : s.vm.findClass "java/util/ArrayList" = some m.cls := findClass_of_methodNamed Bd.named
  have hnm := (name_of_methodNamed Bd.named Bd.method).1
  have X0 : Stand p l e ({ frames := 0, cells := 0, slots := 0, locals := 0 } : Room) s m #[(.ref x0)] below meth c s₁ [] 0 0 := Stand.of_body Bd
  have e0 : s₁.heap = h0 := by rw [← hh, Bd.state]; rfl
  have N0 := Fr.nil Z.heap.size
  show Go FrameEnd p e below s ({ frames := 0, cells := 0, slots := 0, locals := 0 } : Room).cells ({ frames := 0, cells := 0, slots := 0, locals := 0 } : Room).slots (Q_a9_0 Z dc kdc el ee kee ca cc eo mo x0 w1 h0) s₁ (entryFrame m #[(.ref x0)] 1)
  refine Go.cast (ef_a9_0 m x0) ?_
  show Go _ _ _ _ _ _ _ _ s₁ (mkF m 0 #[.val (.ref x0)] [])
  refine Go.step (fun _ kt_ => XS.aloadN X0.here hx rfl (hb hby d9_0) rfl rfl kt_) ?_
  show Go _ _ _ _ _ _ _ _ s₁ (mkF m 1 #[.val (.ref x0)] [(.ref x0)])
  obtain ⟨T1, X1, e1, st1⟩ := getF X0 hx hZ hown (host := "") (Or.inl (hw _ (List.mem_of_getElem? (i := 66) rfl))) Via.refl e0 r0 (g := (mkF m 1 #[.val (.ref x0)] [(.ref x0)])) rfl rfl (hb hby d9_1)
  refine Go.step st1 ?_
  show Go _ _ _ _ _ _ _ _ T1 (mkF m 4 #[.val (.ref x0)] [(.int w1)])
  refine Go.step (fun _ kt_ => XS.ifNo X1.here hx rfl (hb hby d9_4) rfl ((if0 _ _).trans (teq r1).2) kt_) ?_
  show Go _ _ _ _ _ _ _ _ T1 (mkF m 7 #[.val (.ref x0)] [])
  refine Go.step (fun _ kt_ => XS.iconst X1.here hx rfl (hb hby d9_7)  kt_) ?_
  show Go _ _ _ _ _ _ _ _ T1 (mkF m 8 #[.val (.ref x0)] [(.int (1 : Int32))])
  refine Go.step (fun _ kt_ => XS.goto X1.here hx rfl (pc0 := 8) (pc' := 12) rfl (hb hby d9_8) (by decide) (by decide) kt_) ?_
  show Go _ _ _ _ _ _ _ _ T1 (mkF m 12 #[.val (.ref x0)] [(.int (1 : Int32))])
  exact Go.retN X1 hx (t := .boolean) Bd.returns (by simp) hlk (hb hby d9_12) (by decide) (by decide) (by show _ ∧ _ ∧ _; rw [e1]; exact ⟨rfl, N0, rfl⟩)
theorem pd_LRZ : parseMethodDescriptor "()Z" = some ⟨[], some .boolean⟩ := by decide +kernel
theorem d8_37 : decode jdk_56_method_3_code 37 = .ok (.ifCond .eq 7, 3) := by decide +kernel
theorem d8_40 : decode jdk_56_method_3_code 40 = .ok (.invokestatic 26, 3) := by decide +kernel
theorem d10_0 : decode jdk_40_method_36_code 0 = .ok (.getstatic 90, 3) := by decide +kernel
theorem d10_3 : decode jdk_40_method_36_code 3 = .ok (.areturn, 1) := by decide +kernel
theorem pn_10 : plainName "java/util/List" = true := by first | (simp [plainName, overriddenIn]; done) | decide +kernel
theorem ef_a10_0 (m : MethodId)  : entryFrame m #[] 0 = mkF m 0 #[] [] := by first | (simp [entryFrame, mkF, argsToLocals, Value.category]; done) | rfl
def Q_a10_0 (Z : State) (dc : Addr) (kdc : ClassId) (el : Addr) (ee : Addr) (kee : ClassId) (ca : Addr) (cc : Cell) (eo : Addr) (mo : Addr) (h0 : Heap) (v : Option Value) (h : Heap) (L : List Loc) : Prop := v = some (.ref el) ∧ Fr Z.heap.size L ∧ h = h0
set_option maxRecDepth 65536 in
set_option maxHeartbeats 40000000 in
theorem rm_a10_0 (l : Launch) (Z : State) (a0 : Array Value) (hw : ∀ d ∈ tables_1, d.before a0 Z = true) (ws : List Jvm.Cond) (dc : Addr) (kdc : ClassId) (el : Addr) (ee : Addr) (kee : ClassId) (ca : Addr) (cc : Cell) (eo : Addr) (mo : Addr) (G_dc : Sta Z Z.heap "java/util/ArrayList" "DEFAULTCAPACITY_EMPTY_ELEMENTDATA" "[Ljava/lang/Object;" (.ref dc)) (G_dce : Exa Z Z.heap dc "[Ljava/lang/Object;") (G_dcv : Arv Z Z.heap dc kdc (.object "java/lang/Object") (0 : Int32) [] .null) (G_el : Sta Z Z.heap "java/util/ImmutableCollections" "EMPTY_LIST" "Ljava/util/ImmutableCollections$ListN;" (.ref el)) (G_ele : Exa Z Z.heap el "java/util/ImmutableCollections$ListN") (G_elf : Fld Z Z.heap el "java/util/ImmutableCollections$ListN" "elements" "[Ljava/lang/Object;" (.ref ee)) (G_eev : Arv Z Z.heap ee kee (.object "java/lang/Object") (0 : Int32) [] .null) (G_hi : Sta Z Z.heap "java/lang/Integer$IntegerCache" "high" "I" (.int (127 : Int32))) (G_ca : Sta Z Z.heap "java/lang/Integer$IntegerCache" "cache" "[Ljava/lang/Integer;" (.ref ca)) (G_bx : Bxs Z ca cc "java/lang/Integer" "I" 256 (fun j => .int (j - 128))) (G_eo : Sta Z Z.heap "java/util/ImmutableCollections" "EMPTY" "Ljava/lang/Object;" (.ref eo)) (G_eoe : Exa Z Z.heap eo "java/lang/Object") (G_mo : MirO Z "[Ljava/lang/Object;" mo)  (h0 : Heap) (O0 : Ext Z.heap h0) :
    MetFree l (⟨"java/util/List", "of", "()Ljava/util/List;"⟩ : MethodName) (head1 (Jvm.Cond.code (⟨"java/util/List", "of", "()Ljava/util/List;"⟩ : MethodName) jdk_40_method_36_code 0 (some (.object "java/util/List")) :: ws) ({ frames := 0, cells := 0, slots := 0, locals := 0 } : Room)) (fun a U => a = #[] ∧ Z.Warmed39 U.vm ∧ U.heap = h0) (fun _ _ _ _ _ => True) (fun _ U o U' => ∃ v L, o = .returned v ∧ Q_a10_0 Z dc kdc el ee kee ca cc eo mo h0 v U'.heap L ∧ FrameEnd U o U' L ({ frames := 0, cells := 0, slots := 0, locals := 0 } : Room).cells ({ frames := 0, cells := 0, slots := 0, locals := 0 } : Room).slots) := by
  refine MetFree.of_bodySF (plainFor_of_name pn_10) hisR ?_
  intro p e s m args below meth c s₁ Bd hml0 hP hK
  obtain ⟨rfl, hZ, hh⟩ := hP
  have hx := Bd.exec
  have hby := Bd.bytes
  have hlk := Bd.notSynchronized
  have hml : c.maxLocals = 0 := hml0
  have hown : s.vm.findClass "java/util/List" = some m.cls := findClass_of_methodNamed Bd.named
  have hnm := (name_of_methodNamed Bd.named Bd.method).1
  have X0 : Stand p l e ({ frames := 0, cells := 0, slots := 0, locals := 0 } : Room) s m #[] below meth c s₁ [] 0 0 := Stand.of_body Bd
  have e0 : s₁.heap = h0 := by rw [← hh, Bd.state]; rfl
  have N0 := Fr.nil Z.heap.size
  show Go FrameEnd p e below s ({ frames := 0, cells := 0, slots := 0, locals := 0 } : Room).cells ({ frames := 0, cells := 0, slots := 0, locals := 0 } : Room).slots (Q_a10_0 Z dc kdc el ee kee ca cc eo mo h0) s₁ (entryFrame m #[] 0)
  refine Go.cast (ef_a10_0 m ) ?_
  show Go _ _ _ _ _ _ _ _ s₁ (mkF m 0 #[] [])
  obtain ⟨T1, X1, e1, st1⟩ := getS2 X0 hx hZ hown (host := "") (Or.inl (hw _ (List.mem_of_getElem? (i := 71) rfl))) Via.refl e0 (Sta.ext O0 G_el) (g := (mkF m 0 #[] [])) rfl (hb hby d10_0)
  refine Go.step st1 ?_
  show Go _ _ _ _ _ _ _ _ T1 (mkF m 3 #[] [(.ref el)])
  exact Go.retA X1 hx Bd.returns rfl rfl hlk (hb hby d10_3) (by decide) (by decide) (by show _ ∧ _ ∧ _; rw [e1]; exact ⟨rfl, N0, rfl⟩)
theorem pd_LRLjava_util_List_ : parseMethodDescriptor "()Ljava/util/List;" = some ⟨[], some (.object "java/util/List")⟩ := by decide +kernel
theorem d8_43 : decode jdk_56_method_3_code 43 = .ok (.areturn, 1) := by decide +kernel
theorem pn_8 : plainName "java/util/ImmutableCollections" = true := by first | (simp [plainName, overriddenIn]; done) | decide +kernel
theorem ef_a8_0 (m : MethodId) (y0 : Addr) : entryFrame m #[(.ref y0)] 2 = mkF m 0 #[.val (.ref y0), .unset] [] := by first | (simp [entryFrame, mkF, argsToLocals, Value.category]; done) | rfl
def Q_a8_0 (Z : State) (dc : Addr) (kdc : ClassId) (el : Addr) (ee : Addr) (kee : ClassId) (ca : Addr) (cc : Cell) (eo : Addr) (mo : Addr) (x0 : Addr) (w1 : Int32) (h0 : Heap) (v : Option Value) (h : Heap) (L : List Loc) : Prop := v = some (.ref el) ∧ Fr Z.heap.size L ∧ h = h0
set_option maxRecDepth 65536 in
set_option maxHeartbeats 40000000 in
theorem rm_a8_0 (l : Launch) (Z : State) (a0 : Array Value) (hw : ∀ d ∈ tables_1, d.before a0 Z = true) (ws : List Jvm.Cond) (dc : Addr) (kdc : ClassId) (el : Addr) (ee : Addr) (kee : ClassId) (ca : Addr) (cc : Cell) (eo : Addr) (mo : Addr) (G_dc : Sta Z Z.heap "java/util/ArrayList" "DEFAULTCAPACITY_EMPTY_ELEMENTDATA" "[Ljava/lang/Object;" (.ref dc)) (G_dce : Exa Z Z.heap dc "[Ljava/lang/Object;") (G_dcv : Arv Z Z.heap dc kdc (.object "java/lang/Object") (0 : Int32) [] .null) (G_el : Sta Z Z.heap "java/util/ImmutableCollections" "EMPTY_LIST" "Ljava/util/ImmutableCollections$ListN;" (.ref el)) (G_ele : Exa Z Z.heap el "java/util/ImmutableCollections$ListN") (G_elf : Fld Z Z.heap el "java/util/ImmutableCollections$ListN" "elements" "[Ljava/lang/Object;" (.ref ee)) (G_eev : Arv Z Z.heap ee kee (.object "java/lang/Object") (0 : Int32) [] .null) (G_hi : Sta Z Z.heap "java/lang/Integer$IntegerCache" "high" "I" (.int (127 : Int32))) (G_ca : Sta Z Z.heap "java/lang/Integer$IntegerCache" "cache" "[Ljava/lang/Integer;" (.ref ca)) (G_bx : Bxs Z ca cc "java/lang/Integer" "I" 256 (fun j => .int (j - 128))) (G_eo : Sta Z Z.heap "java/util/ImmutableCollections" "EMPTY" "Ljava/lang/Object;" (.ref eo)) (G_eoe : Exa Z Z.heap eo "java/lang/Object") (G_mo : MirO Z "[Ljava/lang/Object;" mo) (x0 : Addr) (w1 : Int32) (h0 : Heap) (O0 : Ext Z.heap h0) (r0 : Exa Z h0 x0 "java/util/ArrayList") (r1 : Fld Z h0 x0 "java/util/ArrayList" "size" "I" (.int w1)) (r2 : w1 = (0 : Int32)) :
    MetFree l (⟨"java/util/ImmutableCollections", "listCopy", "(Ljava/util/Collection;)Ljava/util/List;"⟩ : MethodName) (head1 (Jvm.Cond.code (⟨"java/util/ImmutableCollections", "listCopy", "(Ljava/util/Collection;)Ljava/util/List;"⟩ : MethodName) jdk_56_method_3_code 2 (some (.object "java/util/List")) :: ws) ({ frames := 1, cells := 0, slots := 0, locals := 12 } : Room)) (fun a U => a = #[(.ref x0)] ∧ Z.Warmed39 U.vm ∧ U.heap = h0) (fun _ _ _ _ _ => True) (fun _ U o U' => ∃ v L, o = .returned v ∧ Q_a8_0 Z dc kdc el ee kee ca cc eo mo x0 w1 h0 v U'.heap L ∧ FrameEnd U o U' L ({ frames := 1, cells := 0, slots := 0, locals := 12 } : Room).cells ({ frames := 1, cells := 0, slots := 0, locals := 12 } : Room).slots) := by
  refine MetFree.of_bodySF (plainFor_of_name pn_8) hisR ?_
  intro p e s m args below meth c s₁ Bd hml0 hP hK
  obtain ⟨rfl, hZ, hh⟩ := hP
  have hx := Bd.exec
  have hby := Bd.bytes
  have hlk := Bd.notSynchronized
  have hml : c.maxLocals = 2 := hml0
  have hown : s.vm.findClass "java/util/ImmutableCollections" = some m.cls := findClass_of_methodNamed Bd.named
  have hnm := (name_of_methodNamed Bd.named Bd.method).1
  have X0 : Stand p l e ({ frames := 1, cells := 0, slots := 0, locals := 12 } : Room) s m #[(.ref x0)] below meth c s₁ [] 0 0 := Stand.of_body Bd
  have e0 : s₁.heap = h0 := by rw [← hh, Bd.state]; rfl
  have N0 := Fr.nil Z.heap.size
  show Go FrameEnd p e below s ({ frames := 1, cells := 0, slots := 0, locals := 12 } : Room).cells ({ frames := 1, cells := 0, slots := 0, locals := 12 } : Room).slots (Q_a8_0 Z dc kdc el ee kee ca cc eo mo x0 w1 h0) s₁ (entryFrame m #[(.ref x0)] 2)
  refine Go.cast (ef_a8_0 m x0) ?_
  show Go _ _ _ _ _ _ _ _ s₁ (mkF m 0 #[.val (.ref x0), .unset] [])
  refine Go.step (fun _ kt_ => XS.aloadN X0.here hx rfl (hb hby d8_0) rfl rfl kt_) ?_
  show Go _ _ _ _ _ _ _ _ s₁ (mkF m 1 #[.val (.ref x0), .unset] [(.ref x0)])
  obtain ⟨T1, X1, e1, st1⟩ := instNo X0 hx hZ hown (hw _ (List.mem_of_getElem? (i := 51) rfl)) e0 r0 (own_nsNo (hw _ (List.mem_of_getElem? (i := 52) rfl)) (hw _ (List.mem_of_getElem? (i := 248) rfl)) (NS.step (hw _ (List.mem_of_getElem? (i := 52) rfl)) (NS.step (hw _ (List.mem_of_getElem? (i := 53) rfl)) (NS.step (hw _ (List.mem_of_getElem? (i := 54) rfl)) (own_nsRoot (hw _ (List.mem_of_getElem? (i := 55) rfl)) (hw _ (List.mem_of_getElem? (i := 248) rfl)) (by decide)) (by decide)) (by decide)) (by decide)) (by decide)) (g := (mkF m 1 #[.val (.ref x0), .unset] [(.ref x0)])) rfl rfl (hb hby d8_1)
  refine Go.step st1 ?_
  show Go _ _ _ _ _ _ _ _ T1 (mkF m 4 #[.val (.ref x0), .unset] [(.int (0 : Int32))])
  refine Go.step (fun _ kt_ => XS.ifNo X1.here hx rfl (hb hby d8_4) rfl ((if0 _ _).trans (teq (by decide : (0 : Int32) = (0 : Int32))).2) kt_) ?_
  show Go _ _ _ _ _ _ _ _ T1 (mkF m 7 #[.val (.ref x0), .unset] [])
  refine Go.step (fun _ kt_ => XS.aloadN X1.here hx rfl (hb hby d8_7) rfl rfl kt_) ?_
  show Go _ _ _ _ _ _ _ _ T1 (mkF m 8 #[.val (.ref x0), .unset] [(.ref x0)])
  obtain ⟨T2, X2, e2, st2⟩ := instNo X1 hx hZ hown (hw _ (List.mem_of_getElem? (i := 56) rfl)) e1 r0 (own_nsNo (hw _ (List.mem_of_getElem? (i := 52) rfl)) (hw _ (List.mem_of_getElem? (i := 197) rfl)) (NS.step (hw _ (List.mem_of_getElem? (i := 52) rfl)) (NS.step (hw _ (List.mem_of_getElem? (i := 53) rfl)) (NS.step (hw _ (List.mem_of_getElem? (i := 54) rfl)) (own_nsRoot (hw _ (List.mem_of_getElem? (i := 55) rfl)) (hw _ (List.mem_of_getElem? (i := 197) rfl)) (by decide)) (by decide)) (by decide)) (by decide)) (by decide)) (g := (mkF m 8 #[.val (.ref x0), .unset] [(.ref x0)])) rfl rfl (hb hby d8_8)
  refine Go.step st2 ?_
  show Go _ _ _ _ _ _ _ _ T2 (mkF m 11 #[.val (.ref x0), .unset] [(.int (0 : Int32))])
  refine Go.step (fun _ kt_ => XS.ifYes X2.here hx rfl (pc0 := 11) (pc' := 31) rfl (hb hby d8_11) rfl ((if0 _ _).trans (teq (by decide : (0 : Int32) = (0 : Int32))).1) (by decide) (by decide) kt_) ?_
  show Go _ _ _ _ _ _ _ _ T2 (mkF m 31 #[.val (.ref x0), .unset] [])
  refine Go.step (fun _ kt_ => XS.aloadN X2.here hx rfl (hb hby d8_31) rfl rfl kt_) ?_
  show Go _ _ _ _ _ _ _ _ T2 (mkF m 32 #[.val (.ref x0), .unset] [(.ref x0)])
  obtain ⟨cq3, kq3, q3a, q3b, q3c⟩ := isOf hZ e2 r0
  obtain ⟨_, _, ⟨T3, L3, k3, n3⟩, -, X3, ⟨Lc3, hQ3, l3, y3, z3⟩, st3⟩ := X2.interfaceBack hx (xi := (⟨"java/util/Collection", "isEmpty", "()Z"⟩ : MethodName)) (y := (⟨"java/util/ArrayList", "isEmpty", "()Z"⟩ : MethodName)) hown (mvT hZ (hw _ (List.mem_of_getElem? (i := 57) rfl))) (mvT hZ (hw _ (List.mem_of_getElem? (i := 58) rfl))) (mvT hZ (hw _ (List.mem_of_getElem? (i := 59) rfl))) (mvT hZ (hw _ (List.mem_of_getElem? (i := 60) rfl))) (mvT hZ (hw _ (List.mem_of_getElem? (i := 61) rfl))) (mvT hZ (hw _ (List.mem_of_getElem? (i := 62) rfl))) (mvT hZ (hw _ (List.mem_of_getElem? (i := 63) rfl))) (mvT hZ (hw _ (List.mem_of_getElem? (i := 64) rfl))) (by decide) (backOf (W := 0) (rm_a9_0 l Z a0 hw [] dc kdc el ee kee ca cc eo mo G_dc G_dce G_dcv G_el G_ele G_elf G_eev G_hi G_ca G_bx G_eo G_eoe G_mo x0 w1 h0 O0 r1 r2) hZ (hw _ (List.mem_of_getElem? (i := 65) rfl)) (hw _ (List.mem_of_getElem? (i := 7) rfl)) (by decide) (by decide)) q3a q3b q3c (g := (mkF m 32 #[.val (.ref x0), .unset] [(.ref x0)])) rfl (by rw [hml]; rfl) (Steps.refl _) (argsL := []) (rest := []) (lenOf pd_LRZ rfl) rfl (by show 2 * 0 + _ ≤ _; exact Nat.le_of_eq rfl) (hb hby d8_32) (fun _ _ => ⟨rfl, e2, (by decide : 0 + 0 ≤ _), (by decide : 0 + 0 ≤ _)⟩)
  dsimp only [Pt.U, Pt.locs, Pt.cells, Pt.slots] at X3 l3 y3 z3 st3 hQ3
  subst l3 y3 z3
  obtain ⟨rfl, Nq3, e3⟩ := hQ3
  have N3_ := Fr.app N0 Nq3
  refine Go.trans st3 ?_
  show Go _ _ _ _ _ _ _ _ T3 (mkF m 37 #[.val (.ref x0), .unset] [(.int (1 : Int32))])
  refine Go.step (fun _ kt_ => XS.ifNo X3.here hx rfl (hb hby d8_37) rfl ((if0 _ _).trans (feq (by decide : ¬ ((1 : Int32) = (0 : Int32)))).1) kt_) ?_
  show Go _ _ _ _ _ _ _ _ T3 (mkF m 40 #[.val (.ref x0), .unset] [])
  obtain ⟨_, _, ⟨T4, L4, k4, n4⟩, -, X4, ⟨Lc4, hQ4, l4, y4, z4⟩, st4⟩ := Jvm.LawKit.callS X3 hx (y := (⟨"java/util/List", "of", "()Ljava/util/List;"⟩ : MethodName)) hown (mvT hZ (hw _ (List.mem_of_getElem? (i := 68) rfl))) (mvT hZ (hw _ (List.mem_of_getElem? (i := 69) rfl))) (mvT hZ (hw _ (List.mem_of_getElem? (i := 45) rfl))) (mvT hZ (hw _ (List.mem_of_getElem? (i := 70) rfl))) (by decide) (backOf (W := 0) (rm_a10_0 l Z a0 hw [] dc kdc el ee kee ca cc eo mo G_dc G_dce G_dcv G_el G_ele G_elf G_eev G_hi G_ca G_bx G_eo G_eoe G_mo  h0 O0 ) hZ (hw _ (List.mem_of_getElem? (i := 70) rfl)) (hw _ (List.mem_of_getElem? (i := 45) rfl)) (by decide) (by decide)) (g := (mkF m 40 #[.val (.ref x0), .unset] [])) rfl (by rw [hml]; rfl) (argsL := []) (rest := []) (lenOf pd_LRLjava_util_List_ rfl) rfl (by show 2 * 0 + _ ≤ _; exact Nat.le_of_eq rfl) (hb hby d8_40) (fun _ _ => ⟨rfl, e3, (by decide : 0 + 0 ≤ _), (by decide : 0 + 0 ≤ _)⟩)
  dsimp only [Pt.U, Pt.locs, Pt.cells, Pt.slots] at X4 l4 y4 z4 st4 hQ4
  subst l4 y4 z4
  obtain ⟨rfl, Nq4, e4⟩ := hQ4
  have N4_ := Fr.app N3_ Nq4
  refine Go.step st4 ?_
  show Go _ _ _ _ _ _ _ _ T4 (mkF m 43 #[.val (.ref x0), .unset] [(.ref el)])
  exact Go.retA X4 hx Bd.returns rfl rfl hlk (hb hby d8_43) (by decide) (by decide) (by show _ ∧ _ ∧ _; rw [e4]; exact ⟨rfl, N4_, rfl⟩)
theorem pd_LLjava_util_Collection_RLjava_util_List_ : parseMethodDescriptor "(Ljava/util/Collection;)Ljava/util/List;" = some ⟨[(.object "java/util/Collection")], some (.object "java/util/List")⟩ := by decide +kernel
theorem d7_4 : decode jdk_40_method_48_code 4 = .ok (.areturn, 1) := by decide +kernel
theorem pn_7 : plainName "java/util/List" = true := by first | (simp [plainName, overriddenIn]; done) | decide +kernel
theorem ef_a7_0 (m : MethodId) (y0 : Addr) : entryFrame m #[(.ref y0)] 1 = mkF m 0 #[.val (.ref y0)] [] := by first | (simp [entryFrame, mkF, argsToLocals, Value.category]; done) | rfl
def Q_a7_0 (Z : State) (dc : Addr) (kdc : ClassId) (el : Addr) (ee : Addr) (kee : ClassId) (ca : Addr) (cc : Cell) (eo : Addr) (mo : Addr) (x0 : Addr) (w1 : Int32) (h0 : Heap) (v : Option Value) (h : Heap) (L : List Loc) : Prop := v = some (.ref el) ∧ Fr Z.heap.size L ∧ h = h0
set_option maxRecDepth 65536 in
set_option maxHeartbeats 40000000 in
theorem rm_a7_0 (l : Launch) (Z : State) (a0 : Array Value) (hw : ∀ d ∈ tables_1, d.before a0 Z = true) (ws : List Jvm.Cond) (dc : Addr) (kdc : ClassId) (el : Addr) (ee : Addr) (kee : ClassId) (ca : Addr) (cc : Cell) (eo : Addr) (mo : Addr) (G_dc : Sta Z Z.heap "java/util/ArrayList" "DEFAULTCAPACITY_EMPTY_ELEMENTDATA" "[Ljava/lang/Object;" (.ref dc)) (G_dce : Exa Z Z.heap dc "[Ljava/lang/Object;") (G_dcv : Arv Z Z.heap dc kdc (.object "java/lang/Object") (0 : Int32) [] .null) (G_el : Sta Z Z.heap "java/util/ImmutableCollections" "EMPTY_LIST" "Ljava/util/ImmutableCollections$ListN;" (.ref el)) (G_ele : Exa Z Z.heap el "java/util/ImmutableCollections$ListN") (G_elf : Fld Z Z.heap el "java/util/ImmutableCollections$ListN" "elements" "[Ljava/lang/Object;" (.ref ee)) (G_eev : Arv Z Z.heap ee kee (.object "java/lang/Object") (0 : Int32) [] .null) (G_hi : Sta Z Z.heap "java/lang/Integer$IntegerCache" "high" "I" (.int (127 : Int32))) (G_ca : Sta Z Z.heap "java/lang/Integer$IntegerCache" "cache" "[Ljava/lang/Integer;" (.ref ca)) (G_bx : Bxs Z ca cc "java/lang/Integer" "I" 256 (fun j => .int (j - 128))) (G_eo : Sta Z Z.heap "java/util/ImmutableCollections" "EMPTY" "Ljava/lang/Object;" (.ref eo)) (G_eoe : Exa Z Z.heap eo "java/lang/Object") (G_mo : MirO Z "[Ljava/lang/Object;" mo) (x0 : Addr) (w1 : Int32) (h0 : Heap) (O0 : Ext Z.heap h0) (r0 : Exa Z h0 x0 "java/util/ArrayList") (r1 : Fld Z h0 x0 "java/util/ArrayList" "size" "I" (.int w1)) (r2 : w1 = (0 : Int32)) :
    MetFree l (⟨"java/util/List", "copyOf", "(Ljava/util/Collection;)Ljava/util/List;"⟩ : MethodName) (head1 (Jvm.Cond.code (⟨"java/util/List", "copyOf", "(Ljava/util/Collection;)Ljava/util/List;"⟩ : MethodName) jdk_40_method_48_code 1 (some (.object "java/util/List")) :: ws) ({ frames := 2, cells := 0, slots := 0, locals := 25 } : Room)) (fun a U => a = #[(.ref x0)] ∧ Z.Warmed39 U.vm ∧ U.heap = h0) (fun _ _ _ _ _ => True) (fun _ U o U' => ∃ v L, o = .returned v ∧ Q_a7_0 Z dc kdc el ee kee ca cc eo mo x0 w1 h0 v U'.heap L ∧ FrameEnd U o U' L ({ frames := 2, cells := 0, slots := 0, locals := 25 } : Room).cells ({ frames := 2, cells := 0, slots := 0, locals := 25 } : Room).slots) := by
  refine MetFree.of_bodySF (plainFor_of_name pn_7) hisR ?_
  intro p e s m args below meth c s₁ Bd hml0 hP hK
  obtain ⟨rfl, hZ, hh⟩ := hP
  have hx := Bd.exec
  have hby := Bd.bytes
  have hlk := Bd.notSynchronized
  have hml : c.maxLocals = 1 := hml0
  have hown : s.vm.findClass "java/util/List" = some m.cls := findClass_of_methodNamed Bd.named
  have hnm := (name_of_methodNamed Bd.named Bd.method).1
  have X0 : Stand p l e ({ frames := 2, cells := 0, slots := 0, locals := 25 } : Room) s m #[(.ref x0)] below meth c s₁ [] 0 0 := Stand.of_body Bd
  have e0 : s₁.heap = h0 := by rw [← hh, Bd.state]; rfl
  have N0 := Fr.nil Z.heap.size
  show Go FrameEnd p e below s ({ frames := 2, cells := 0, slots := 0, locals := 25 } : Room).cells ({ frames := 2, cells := 0, slots := 0, locals := 25 } : Room).slots (Q_a7_0 Z dc kdc el ee kee ca cc eo mo x0 w1 h0) s₁ (entryFrame m #[(.ref x0)] 1)
  refine Go.cast (ef_a7_0 m x0) ?_
  show Go _ _ _ _ _ _ _ _ s₁ (mkF m 0 #[.val (.ref x0)] [])
  refine Go.step (fun _ kt_ => XS.aloadN X0.here hx rfl (hb hby d7_0) rfl rfl kt_) ?_
  show Go _ _ _ _ _ _ _ _ s₁ (mkF m 1 #[.val (.ref x0)] [(.ref x0)])
  obtain ⟨_, _, ⟨T1, L1, k1, n1⟩, -, X1, ⟨Lc1, hQ1, l1, y1, z1⟩, st1⟩ := Jvm.LawKit.callS X0 hx (y := (⟨"java/util/ImmutableCollections", "listCopy", "(Ljava/util/Collection;)Ljava/util/List;"⟩ : MethodName)) hown (mvT hZ (hw _ (List.mem_of_getElem? (i := 47) rfl))) (mvT hZ (hw _ (List.mem_of_getElem? (i := 48) rfl))) (mvT hZ (hw _ (List.mem_of_getElem? (i := 49) rfl))) (mvT hZ (hw _ (List.mem_of_getElem? (i := 50) rfl))) (by decide) (backOf (W := 0) (rm_a8_0 l Z a0 hw [] dc kdc el ee kee ca cc eo mo G_dc G_dce G_dcv G_el G_ele G_elf G_eev G_hi G_ca G_bx G_eo G_eoe G_mo x0 w1 h0 O0 r0 r1 r2) hZ (hw _ (List.mem_of_getElem? (i := 50) rfl)) (hw _ (List.mem_of_getElem? (i := 49) rfl)) (by decide) (by decide)) (g := (mkF m 1 #[.val (.ref x0)] [(.ref x0)])) rfl (by rw [hml]; rfl) (argsL := [(.ref x0)]) (rest := []) (lenOf pd_LLjava_util_Collection_RLjava_util_List_ rfl) rfl (by show 2 * 0 + _ ≤ _; exact Nat.le_of_eq rfl) (hb hby d7_1) (fun _ _ => ⟨rfl, e0, (by decide : 0 + 0 ≤ _), (by decide : 0 + 0 ≤ _)⟩)
  dsimp only [Pt.U, Pt.locs, Pt.cells, Pt.slots] at X1 l1 y1 z1 st1 hQ1
  subst l1 y1 z1
  obtain ⟨rfl, Nq1, e1⟩ := hQ1
  have N1_ := Fr.app N0 Nq1
  refine Go.step st1 ?_
  show Go _ _ _ _ _ _ _ _ T1 (mkF m 4 #[.val (.ref x0)] [(.ref el)])
  exact Go.retA X1 hx Bd.returns rfl rfl hlk (hb hby d7_4) (by decide) (by decide) (by show _ ∧ _ ∧ _; rw [e1]; exact ⟨rfl, N1_, rfl⟩)
theorem d5_8 : decode prog_11_method_1_code 8 = .ok (.astore_n 1, 1) := by decide +kernel
theorem d5_9 : decode prog_11_method_1_code 9 = .ok (.aload_n 0, 1) := by decide +kernel
theorem d5_10 : decode prog_11_method_1_code 10 = .ok (.aload_n 1, 1) := by decide +kernel
theorem d5_11 : decode prog_11_method_1_code 11 = .ok (.putfield 13, 3) := by decide +kernel
theorem d5_14 : decode prog_11_method_1_code 14 = .ok (.aload_n 0, 1) := by decide +kernel
theorem d5_15 : decode prog_11_method_1_code 15 = .ok (.iload_n 2, 1) := by decide +kernel
theorem d5_16 : decode prog_11_method_1_code 16 = .ok (.putfield 19, 3) := by decide +kernel
theorem sn_3 {Z : State} {a0 : Array Value} (hw : ∀ d ∈ tables_1, d.before a0 Z = true) : Jvm.RoadKit.slotOf Z "com/example/wary_lock/warylock/LockState" "waiting" "I" ≠ Jvm.RoadKit.slotOf Z "com/example/wary_lock/warylock/LockState" "holders" "Ljava/util/List;" := slot_ne (Or.inr (hw _ (List.mem_of_getElem? (i := 75) rfl))) (Or.inr (hw _ (List.mem_of_getElem? (i := 73) rfl))) (by decide) pf_I pf_Ljava_util_List_
theorem d5_19 : decode prog_11_method_1_code 19 = .ok (.return_, 1) := by decide +kernel
theorem pn_5 : plainName "com/example/wary_lock/warylock/LockState" = true := by first | (simp [plainName, overriddenIn]; done) | decide +kernel
theorem ef_a5_0 (m : MethodId) (y0 : Addr) (y1 : Addr) (y2 : Int32) : entryFrame m #[(.ref y0), (.ref y1), (.int y2)] 3 = mkF m 0 #[.val (.ref y0), .val (.ref y1), .val (.int y2)] [] := by first | (simp [entryFrame, mkF, argsToLocals, Value.category]; done) | rfl
def Q_a5_0 (Z : State) (dc : Addr) (kdc : ClassId) (el : Addr) (ee : Addr) (kee : ClassId) (ca : Addr) (cc : Cell) (eo : Addr) (mo : Addr) (x0 : Addr) (x1 : Addr) (x2 : Int32) (w1 : Int32) (w2 : Int32) (h0 : Heap) (v : Option Value) (h : Heap) (L : List Loc) : Prop := v = none ∧ Fr Z.heap.size L ∧ Keep h0 h [x0] ∧ Fld Z h x0 "com/example/wary_lock/warylock/LockState" "holders" "Ljava/util/List;" (.ref el) ∧ Fld Z h x0 "com/example/wary_lock/warylock/LockState" "waiting" "I" (.int x2)
set_option maxRecDepth 65536 in
set_option maxHeartbeats 40000000 in
theorem rm_a5_0 (l : Launch) (Z : State) (a0 : Array Value) (hw : ∀ d ∈ tables_1, d.before a0 Z = true) (ws : List Jvm.Cond) (dc : Addr) (kdc : ClassId) (el : Addr) (ee : Addr) (kee : ClassId) (ca : Addr) (cc : Cell) (eo : Addr) (mo : Addr) (G_dc : Sta Z Z.heap "java/util/ArrayList" "DEFAULTCAPACITY_EMPTY_ELEMENTDATA" "[Ljava/lang/Object;" (.ref dc)) (G_dce : Exa Z Z.heap dc "[Ljava/lang/Object;") (G_dcv : Arv Z Z.heap dc kdc (.object "java/lang/Object") (0 : Int32) [] .null) (G_el : Sta Z Z.heap "java/util/ImmutableCollections" "EMPTY_LIST" "Ljava/util/ImmutableCollections$ListN;" (.ref el)) (G_ele : Exa Z Z.heap el "java/util/ImmutableCollections$ListN") (G_elf : Fld Z Z.heap el "java/util/ImmutableCollections$ListN" "elements" "[Ljava/lang/Object;" (.ref ee)) (G_eev : Arv Z Z.heap ee kee (.object "java/lang/Object") (0 : Int32) [] .null) (G_hi : Sta Z Z.heap "java/lang/Integer$IntegerCache" "high" "I" (.int (127 : Int32))) (G_ca : Sta Z Z.heap "java/lang/Integer$IntegerCache" "cache" "[Ljava/lang/Integer;" (.ref ca)) (G_bx : Bxs Z ca cc "java/lang/Integer" "I" 256 (fun j => .int (j - 128))) (G_eo : Sta Z Z.heap "java/util/ImmutableCollections" "EMPTY" "Ljava/lang/Object;" (.ref eo)) (G_eoe : Exa Z Z.heap eo "java/lang/Object") (G_mo : MirO Z "[Ljava/lang/Object;" mo) (x0 : Addr) (x1 : Addr) (x2 : Int32) (w1 : Int32) (w2 : Int32) (h0 : Heap) (O0 : Ext Z.heap h0) (r0 : Exa Z h0 x1 "java/util/ArrayList") (r1 : Fld Z h0 x1 "java/util/ArrayList" "size" "I" (.int w1)) (r2 : w1 = (0 : Int32)) (r3 : Exa Z h0 x0 "com/example/wary_lock/warylock/LockState") (r4 : Fld Z h0 x0 "com/example/wary_lock/warylock/LockState" "holders" "Ljava/util/List;" .null) (r5 : Z.heap.size ≤ x0) (r6 : Fld Z h0 x0 "com/example/wary_lock/warylock/LockState" "waiting" "I" (.int w2)) :
    MetFree l (⟨"com/example/wary_lock/warylock/LockState", "<init>", "(Ljava/util/List;I)V"⟩ : MethodName) (head1 (Jvm.Cond.code (⟨"com/example/wary_lock/warylock/LockState", "<init>", "(Ljava/util/List;I)V"⟩ : MethodName) prog_11_method_1_code 3 none :: ws) ({ frames := 3, cells := 0, slots := 0, locals := 37 } : Room)) (fun a U => a = #[(.ref x0), (.ref x1), (.int x2)] ∧ Z.Warmed39 U.vm ∧ U.heap = h0) (fun _ _ _ _ _ => True) (fun _ U o U' => ∃ v L, o = .returned v ∧ Q_a5_0 Z dc kdc el ee kee ca cc eo mo x0 x1 x2 w1 w2 h0 v U'.heap L ∧ FrameEnd U o U' L ({ frames := 3, cells := 0, slots := 0, locals := 37 } : Room).cells ({ frames := 3, cells := 0, slots := 0, locals := 37 } : Room).slots) := by
  refine MetFree.of_bodySF (plainFor_of_name pn_5) hisR ?_
  intro p e s m args below meth c s₁ Bd hml0 hP hK
  obtain ⟨rfl, hZ, hh⟩ := hP
  have hx := Bd.exec
  have hby := Bd.bytes
  have hlk := Bd.notSynchronized
  have hml : c.maxLocals = 3 := hml0
  have hown : s.vm.findClass "com/example/wary_lock/warylock/LockState" = some m.cls := findClass_of_methodNamed Bd.named
  have hnm := (name_of_methodNamed Bd.named Bd.method).1
  have X0 : Stand p l e ({ frames := 3, cells := 0, slots := 0, locals := 37 } : Room) s m #[(.ref x0), (.ref x1), (.int x2)] below meth c s₁ [] 0 0 := Stand.of_body Bd
  have e0 : s₁.heap = h0 := by rw [← hh, Bd.state]; rfl
  have N0 := Fr.nil Z.heap.size
  show Go FrameEnd p e below s ({ frames := 3, cells := 0, slots := 0, locals := 37 } : Room).cells ({ frames := 3, cells := 0, slots := 0, locals := 37 } : Room).slots (Q_a5_0 Z dc kdc el ee kee ca cc eo mo x0 x1 x2 w1 w2 h0) s₁ (entryFrame m #[(.ref x0), (.ref x1), (.int x2)] 3)
  refine Go.cast (ef_a5_0 m x0 x1 x2) ?_
  show Go _ _ _ _ _ _ _ _ s₁ (mkF m 0 #[.val (.ref x0), .val (.ref x1), .val (.int x2)] [])
  refine Go.step (fun _ kt_ => XS.aloadN X0.here hx rfl (hb hby d5_0) rfl rfl kt_) ?_
  show Go _ _ _ _ _ _ _ _ s₁ (mkF m 1 #[.val (.ref x0), .val (.ref x1), .val (.int x2)] [(.ref x0)])
  obtain ⟨_, _, ⟨T1, L1, k1, n1⟩, -, X1, ⟨Lc1, hQ1, l1, y1, z1⟩, st1⟩ := X0.specialBack hx (y := (⟨"java/lang/Record", "<init>", "()V"⟩ : MethodName)) rfl hown (mvT hZ (hw _ (List.mem_of_getElem? (i := 37) rfl))) (mvT hZ (hw _ (List.mem_of_getElem? (i := 38) rfl))) (mvT hZ (hw _ (List.mem_of_getElem? (i := 41) rfl))) (by decide) (backOf (W := 0) (rm_a6_0 l Z a0 hw [] dc kdc el ee kee ca cc eo mo G_dc G_dce G_dcv G_el G_ele G_elf G_eev G_hi G_ca G_bx G_eo G_eoe G_mo x0 h0 O0 ) hZ (hw _ (List.mem_of_getElem? (i := 41) rfl)) (hw _ (List.mem_of_getElem? (i := 40) rfl)) (by decide) (by decide)) (g := (mkF m 1 #[.val (.ref x0), .val (.ref x1), .val (.int x2)] [(.ref x0)])) rfl (by rw [hml]; rfl) (Steps.refl _) (a := x0) (argsL := []) (rest := []) (lenOf pd_LRV rfl) rfl (by show 2 * 0 + _ ≤ _; exact Nat.le_of_eq rfl) (hb hby d5_1) (fun _ _ => ⟨rfl, e0, (by decide : 0 + 0 ≤ _), (by decide : 0 + 0 ≤ _)⟩)
  dsimp only [Pt.U, Pt.locs, Pt.cells, Pt.slots] at X1 l1 y1 z1 st1 hQ1
  subst l1 y1 z1
  obtain ⟨rfl, Nq1, e1⟩ := hQ1
  have N1_ := Fr.app N0 Nq1
  refine Go.trans st1 ?_
  show Go _ _ _ _ _ _ _ _ T1 (mkF m 4 #[.val (.ref x0), .val (.ref x1), .val (.int x2)] [])
  refine Go.step (fun _ kt_ => XS.aloadN X1.here hx rfl (hb hby d5_4) rfl rfl kt_) ?_
  show Go _ _ _ _ _ _ _ _ T1 (mkF m 5 #[.val (.ref x0), .val (.ref x1), .val (.int x2)] [(.ref x1)])
  obtain ⟨_, _, ⟨T2, L2, k2, n2⟩, -, X2, ⟨Lc2, hQ2, l2, y2, z2⟩, st2⟩ := Jvm.LawKit.callS X1 hx (y := (⟨"java/util/List", "copyOf", "(Ljava/util/Collection;)Ljava/util/List;"⟩ : MethodName)) hown (mvT hZ (hw _ (List.mem_of_getElem? (i := 43) rfl))) (mvT hZ (hw _ (List.mem_of_getElem? (i := 44) rfl))) (mvT hZ (hw _ (List.mem_of_getElem? (i := 45) rfl))) (mvT hZ (hw _ (List.mem_of_getElem? (i := 46) rfl))) (by decide) (backOf (W := 0) (rm_a7_0 l Z a0 hw [] dc kdc el ee kee ca cc eo mo G_dc G_dce G_dcv G_el G_ele G_elf G_eev G_hi G_ca G_bx G_eo G_eoe G_mo x1 w1 h0 O0 r0 r1 r2) hZ (hw _ (List.mem_of_getElem? (i := 46) rfl)) (hw _ (List.mem_of_getElem? (i := 45) rfl)) (by decide) (by decide)) (g := (mkF m 5 #[.val (.ref x0), .val (.ref x1), .val (.int x2)] [(.ref x1)])) rfl (by rw [hml]; rfl) (argsL := [(.ref x1)]) (rest := []) (lenOf pd_LLjava_util_Collection_RLjava_util_List_ rfl) rfl (by show 2 * 0 + _ ≤ _; exact Nat.le_of_eq rfl) (hb hby d5_5) (fun _ _ => ⟨rfl, e1, (by decide : 0 + 0 ≤ _), (by decide : 0 + 0 ≤ _)⟩)
  dsimp only [Pt.U, Pt.locs, Pt.cells, Pt.slots] at X2 l2 y2 z2 st2 hQ2
  subst l2 y2 z2
  obtain ⟨rfl, Nq2, e2⟩ := hQ2
  have N2_ := Fr.app N1_ Nq2
  refine Go.step st2 ?_
  show Go _ _ _ _ _ _ _ _ T2 (mkF m 8 #[.val (.ref x0), .val (.ref x1), .val (.int x2)] [(.ref el)])
  refine Go.step (fun _ kt_ => XS.astoreN X2.here hx rfl (hb hby d5_8) rfl rfl (l' := #[.val (.ref x0), .val (.ref el), .val (.int x2)]) rfl kt_) ?_
  show Go _ _ _ _ _ _ _ _ T2 (mkF m 9 #[.val (.ref x0), .val (.ref el), .val (.int x2)] [])
  refine Go.step (fun _ kt_ => XS.aloadN X2.here hx rfl (hb hby d5_9) rfl rfl kt_) ?_
  show Go _ _ _ _ _ _ _ _ T2 (mkF m 10 #[.val (.ref x0), .val (.ref el), .val (.int x2)] [(.ref x0)])
  refine Go.step (fun _ kt_ => XS.aloadN X2.here hx rfl (hb hby d5_10) rfl rfl kt_) ?_
  show Go _ _ _ _ _ _ _ _ T2 (mkF m 11 #[.val (.ref x0), .val (.ref el), .val (.int x2)] [(.ref el), (.ref x0)])
  obtain ⟨T3, h3, X3, e3, W3, st3⟩ := putF X2 hx hZ hown (host := "") (Or.inl (hw _ (List.mem_of_getElem? (i := 72) rfl))) Via.refl e2 r4 r3 (Or.inr ⟨(hw _ (List.mem_of_getElem? (i := 73) rfl)), rfl, hnm⟩) (hw _ (List.mem_of_getElem? (i := 32) rfl)) (ty := (.object "java/util/List")) pf_Ljava_util_List_ rfl rfl (g := (mkF m 11 #[.val (.ref x0), .val (.ref el), .val (.int x2)] [(.ref el), (.ref x0)])) rfl rfl (hb hby d5_11)
  refine Go.step st3 ?_
  have N3_ := Fr.snoc X3 N2_ r5
  have O3_ : Ext Z.heap h3 := extWr O0 W3 r5
  have K3 := Keep.wr (Keep.refl h0 [x0]) W3 (Or.inl (List.mem_of_getElem? (i := 0) rfl))
  have F3 := Fld.same W3 r4
  show Go _ _ _ _ _ _ _ _ T3 (mkF m 14 #[.val (.ref x0), .val (.ref el), .val (.int x2)] [])
  refine Go.step (fun _ kt_ => XS.aloadN X3.here hx rfl (hb hby d5_14) rfl rfl kt_) ?_
  show Go _ _ _ _ _ _ _ _ T3 (mkF m 15 #[.val (.ref x0), .val (.ref el), .val (.int x2)] [(.ref x0)])
  refine Go.step (fun _ kt_ => XS.iloadN X3.here hx rfl (hb hby d5_15) rfl kt_) ?_
  show Go _ _ _ _ _ _ _ _ T3 (mkF m 16 #[.val (.ref x0), .val (.ref el), .val (.int x2)] [(.int x2), (.ref x0)])
  obtain ⟨T4, h4, X4, e4, W4, st4⟩ := putF X3 hx hZ hown (host := "") (Or.inl (hw _ (List.mem_of_getElem? (i := 74) rfl))) Via.refl e3 (Fld.other W3 r6 (Or.inr (sn_3 hw))) (Exa.wr W3 r3) (Or.inr ⟨(hw _ (List.mem_of_getElem? (i := 75) rfl)), rfl, hnm⟩) (hw _ (List.mem_of_getElem? (i := 32) rfl)) (ty := .int) pf_I rfl rfl (g := (mkF m 16 #[.val (.ref x0), .val (.ref el), .val (.int x2)] [(.int x2), (.ref x0)])) rfl rfl (hb hby d5_16)
  refine Go.step st4 ?_
  have N4_ := Fr.snoc X4 N3_ r5
  have O4_ : Ext Z.heap h4 := extWr O3_ W4 r5
  have K4 := Keep.wr K3 W4 (Or.inl (List.mem_of_getElem? (i := 0) rfl))
  have F4 := Fld.same W4 (Fld.other W3 r6 (Or.inr (sn_3 hw)))
  show Go _ _ _ _ _ _ _ _ T4 (mkF m 19 #[.val (.ref x0), .val (.ref el), .val (.int x2)] [])
  exact Go.retV X4 hx Bd.returns hlk (hb hby d5_19) (by decide) (by decide) (by show Q_a5_0 _ _ _ _ _ _ _ _ _ _ _ _ _ _ _ _ _ _ _; rw [e4]; exact ⟨rfl, N4_, K4, (Fld.other W4 F3 (Or.inr (Ne.symm (sn_3 hw)))), F4⟩)
theorem pd_LLjava_util_List_IRV : parseMethodDescriptor "(Ljava/util/List;I)V" = some ⟨[(.object "java/util/List"), .int], none⟩ := by decide +kernel
theorem d11_0 : decode prog_11_method_2_code 0 = .ok (.aload_n 0, 1) := by decide +kernel
theorem d11_1 : decode prog_11_method_2_code 1 = .ok (.getfield 13, 3) := by decide +kernel
theorem d11_4 : decode prog_11_method_2_code 4 = .ok (.invokeinterface 23 1, 5) := by decide +kernel
theorem d12_0 : decode jdk_45_method_2_code 0 = .ok (.aload_n 0, 1) := by decide +kernel
theorem d12_1 : decode jdk_45_method_2_code 1 = .ok (.getfield 7, 3) := by decide +kernel
theorem d12_4 : decode jdk_45_method_2_code 4 = .ok (.arraylength, 1) := by decide +kernel
theorem d12_5 : decode jdk_45_method_2_code 5 = .ok (.ifCond .ne 7, 3) := by decide +kernel
theorem d12_8 : decode jdk_45_method_2_code 8 = .ok (.iconst 1, 1) := by decide +kernel
theorem d12_9 : decode jdk_45_method_2_code 9 = .ok (.goto 4, 3) := by decide +kernel
theorem d12_13 : decode jdk_45_method_2_code 13 = .ok (.ireturn, 1) := by decide +kernel
theorem pn_12 : plainName "java/util/ImmutableCollections$ListN" = true := by first | (simp [plainName, overriddenIn]; done) | decide +kernel
theorem ef_a12_0 (m : MethodId) (y0 : Addr) : entryFrame m #[(.ref y0)] 1 = mkF m 0 #[.val (.ref y0)] [] := by first | (simp [entryFrame, mkF, argsToLocals, Value.category]; done) | rfl
def Q_a12_0 (Z : State) (dc : Addr) (kdc : ClassId) (el : Addr) (ee : Addr) (kee : ClassId) (ca : Addr) (cc : Cell) (eo : Addr) (mo : Addr) (h0 : Heap) (v : Option Value) (h : Heap) (L : List Loc) : Prop := v = some (.int (1 : Int32)) ∧ Fr Z.heap.size L ∧ h = h0
set_option maxRecDepth 65536 in
set_option maxHeartbeats 40000000 in
theorem rm_a12_0 (l : Launch) (Z : State) (a0 : Array Value) (hw : ∀ d ∈ tables_1, d.before a0 Z = true) (ws : List Jvm.Cond) (dc : Addr) (kdc : ClassId) (el : Addr) (ee : Addr) (kee : ClassId) (ca : Addr) (cc : Cell) (eo : Addr) (mo : Addr) (G_dc : Sta Z Z.heap "java/util/ArrayList" "DEFAULTCAPACITY_EMPTY_ELEMENTDATA" "[Ljava/lang/Object;" (.ref dc)) (G_dce : Exa Z Z.heap dc "[Ljava/lang/Object;") (G_dcv : Arv Z Z.heap dc kdc (.object "java/lang/Object") (0 : Int32) [] .null) (G_el : Sta Z Z.heap "java/util/ImmutableCollections" "EMPTY_LIST" "Ljava/util/ImmutableCollections$ListN;" (.ref el)) (G_ele : Exa Z Z.heap el "java/util/ImmutableCollections$ListN") (G_elf : Fld Z Z.heap el "java/util/ImmutableCollections$ListN" "elements" "[Ljava/lang/Object;" (.ref ee)) (G_eev : Arv Z Z.heap ee kee (.object "java/lang/Object") (0 : Int32) [] .null) (G_hi : Sta Z Z.heap "java/lang/Integer$IntegerCache" "high" "I" (.int (127 : Int32))) (G_ca : Sta Z Z.heap "java/lang/Integer$IntegerCache" "cache" "[Ljava/lang/Integer;" (.ref ca)) (G_bx : Bxs Z ca cc "java/lang/Integer" "I" 256 (fun j => .int (j - 128))) (G_eo : Sta Z Z.heap "java/util/ImmutableCollections" "EMPTY" "Ljava/lang/Object;" (.ref eo)) (G_eoe : Exa Z Z.heap eo "java/lang/Object") (G_mo : MirO Z "[Ljava/lang/Object;" mo)  (h0 : Heap) (O0 : Ext Z.heap h0) :
    MetFree l (⟨"java/util/ImmutableCollections$ListN", "isEmpty", "()Z"⟩ : MethodName) (head1 (Jvm.Cond.code (⟨"java/util/ImmutableCollections$ListN", "isEmpty", "()Z"⟩ : MethodName) jdk_45_method_2_code 1 (some .boolean) :: ws) ({ frames := 0, cells := 0, slots := 0, locals := 0 } : Room)) (fun a U => a = #[(.ref el)] ∧ Z.Warmed39 U.vm ∧ U.heap = h0) (fun _ _ _ _ _ => True) (fun _ U o U' => ∃ v L, o = .returned v ∧ Q_a12_0 Z dc kdc el ee kee ca cc eo mo h0 v U'.heap L ∧ FrameEnd U o U' L ({ frames := 0, cells := 0, slots := 0, locals := 0 } : Room).cells ({ frames := 0, cells := 0, slots := 0, locals := 0 } : Room).slots) := by
  refine MetFree.of_bodySF (plainFor_of_name pn_12) hisR ?_
  intro p e s m args below meth c s₁ Bd hml0 hP hK
  obtain ⟨rfl, hZ, hh⟩ := hP
  have hx := Bd.exec
  have hby := Bd.bytes
  have hlk := Bd.notSynchronized
  have hml : c.maxLocals = 1 := hml0
  have hown : s.vm.findClass "java/util/ImmutableCollections$ListN" = some m.cls := findClass_of_methodNamed Bd.named
  have hnm := (name_of_methodNamed Bd.named Bd.method).1
  have X0 : Stand p l e ({ frames := 0, cells := 0, slots := 0, locals := 0 } : Room) s m #[(.ref el)] below meth c s₁ [] 0 0 := Stand.of_body Bd
  have e0 : s₁.heap = h0 := by rw [← hh, Bd.state]; rfl
  have N0 := Fr.nil Z.heap.size
  show Go FrameEnd p e below s ({ frames := 0, cells := 0, slots := 0, locals := 0 } : Room).cells ({ frames := 0, cells := 0, slots := 0, locals := 0 } : Room).slots (Q_a12_0 Z dc kdc el ee kee ca cc eo mo h0) s₁ (entryFrame m #[(.ref el)] 1)
  refine Go.cast (ef_a12_0 m el) ?_
  show Go _ _ _ _ _ _ _ _ s₁ (mkF m 0 #[.val (.ref el)] [])
  refine Go.step (fun _ kt_ => XS.aloadN X0.here hx rfl (hb hby d12_0) rfl rfl kt_) ?_
  show Go _ _ _ _ _ _ _ _ s₁ (mkF m 1 #[.val (.ref el)] [(.ref el)])
  obtain ⟨T1, X1, e1, st1⟩ := getF X0 hx hZ hown (host := "") (Or.inl (hw _ (List.mem_of_getElem? (i := 91) rfl))) Via.refl e0 (Fld.ext O0 G_elf) (g := (mkF m 1 #[.val (.ref el)] [(.ref el)])) rfl rfl (hb hby d12_1)
  refine Go.step st1 ?_
  show Go _ _ _ _ _ _ _ _ T1 (mkF m 4 #[.val (.ref el)] [(.ref ee)])
  obtain ⟨cl2, Ar2, -, S2, N2, -, -⟩ := id (Arv.ext G_eev O0)
  refine Go.step (X1.arraylength hx (by rw [e1]; exact Ar2.1) (State.isArrayOf_alike hZ.alike Ar2.2.1) (g := (mkF m 4 #[.val (.ref el)] [(.ref ee)])) rfl rfl (hb hby d12_4)) ?_
  rw [len_of S2 N2]
  show Go _ _ _ _ _ _ _ _ T1 (mkF m 5 #[.val (.ref el)] [(.int (0 : Int32))])
  refine Go.step (fun _ kt_ => XS.ifNo X1.here hx rfl (hb hby d12_5) rfl ((if0 _ _).trans (teq (by decide : (0 : Int32) = (0 : Int32))).2) kt_) ?_
  show Go _ _ _ _ _ _ _ _ T1 (mkF m 8 #[.val (.ref el)] [])
  refine Go.step (fun _ kt_ => XS.iconst X1.here hx rfl (hb hby d12_8)  kt_) ?_
  show Go _ _ _ _ _ _ _ _ T1 (mkF m 9 #[.val (.ref el)] [(.int (1 : Int32))])
  refine Go.step (fun _ kt_ => XS.goto X1.here hx rfl (pc0 := 9) (pc' := 13) rfl (hb hby d12_9) (by decide) (by decide) kt_) ?_
  show Go _ _ _ _ _ _ _ _ T1 (mkF m 13 #[.val (.ref el)] [(.int (1 : Int32))])
  exact Go.retN X1 hx (t := .boolean) Bd.returns (by simp) hlk (hb hby d12_13) (by decide) (by decide) (by show _ ∧ _ ∧ _; rw [e1]; exact ⟨rfl, N0, rfl⟩)
theorem d11_9 : decode prog_11_method_2_code 9 = .ok (.ifCond .eq 7, 3) := by decide +kernel
theorem d11_12 : decode prog_11_method_2_code 12 = .ok (.aconst_null, 1) := by decide +kernel
theorem d11_13 : decode prog_11_method_2_code 13 = .ok (.goto 22, 3) := by decide +kernel
theorem d11_35 : decode prog_11_method_2_code 35 = .ok (.areturn, 1) := by decide +kernel
theorem pn_11 : plainName "com/example/wary_lock/warylock/LockState" = true := by first | (simp [plainName, overriddenIn]; done) | decide +kernel
theorem ef_a11_0 (m : MethodId) (y0 : Addr) : entryFrame m #[(.ref y0)] 1 = mkF m 0 #[.val (.ref y0)] [] := by first | (simp [entryFrame, mkF, argsToLocals, Value.category]; done) | rfl
def Q_a11_0 (Z : State) (dc : Addr) (kdc : ClassId) (el : Addr) (ee : Addr) (kee : ClassId) (ca : Addr) (cc : Cell) (eo : Addr) (mo : Addr) (x0 : Addr) (h0 : Heap) (v : Option Value) (h : Heap) (L : List Loc) : Prop := v = some .null ∧ Fr Z.heap.size L ∧ h = h0
set_option maxRecDepth 65536 in
set_option maxHeartbeats 40000000 in
theorem rm_a11_0 (l : Launch) (Z : State) (a0 : Array Value) (hw : ∀ d ∈ tables_1, d.before a0 Z = true) (ws : List Jvm.Cond) (dc : Addr) (kdc : ClassId) (el : Addr) (ee : Addr) (kee : ClassId) (ca : Addr) (cc : Cell) (eo : Addr) (mo : Addr) (G_dc : Sta Z Z.heap "java/util/ArrayList" "DEFAULTCAPACITY_EMPTY_ELEMENTDATA" "[Ljava/lang/Object;" (.ref dc)) (G_dce : Exa Z Z.heap dc "[Ljava/lang/Object;") (G_dcv : Arv Z Z.heap dc kdc (.object "java/lang/Object") (0 : Int32) [] .null) (G_el : Sta Z Z.heap "java/util/ImmutableCollections" "EMPTY_LIST" "Ljava/util/ImmutableCollections$ListN;" (.ref el)) (G_ele : Exa Z Z.heap el "java/util/ImmutableCollections$ListN") (G_elf : Fld Z Z.heap el "java/util/ImmutableCollections$ListN" "elements" "[Ljava/lang/Object;" (.ref ee)) (G_eev : Arv Z Z.heap ee kee (.object "java/lang/Object") (0 : Int32) [] .null) (G_hi : Sta Z Z.heap "java/lang/Integer$IntegerCache" "high" "I" (.int (127 : Int32))) (G_ca : Sta Z Z.heap "java/lang/Integer$IntegerCache" "cache" "[Ljava/lang/Integer;" (.ref ca)) (G_bx : Bxs Z ca cc "java/lang/Integer" "I" 256 (fun j => .int (j - 128))) (G_eo : Sta Z Z.heap "java/util/ImmutableCollections" "EMPTY" "Ljava/lang/Object;" (.ref eo)) (G_eoe : Exa Z Z.heap eo "java/lang/Object") (G_mo : MirO Z "[Ljava/lang/Object;" mo) (x0 : Addr) (h0 : Heap) (O0 : Ext Z.heap h0) (r0 : Fld Z h0 x0 "com/example/wary_lock/warylock/LockState" "holders" "Ljava/util/List;" (.ref el)) :
    MetFree l (⟨"com/example/wary_lock/warylock/LockState", "limit", "()Ljava/lang/Integer;"⟩ : MethodName) (head1 (Jvm.Cond.code (⟨"com/example/wary_lock/warylock/LockState", "limit", "()Ljava/lang/Integer;"⟩ : MethodName) prog_11_method_2_code 1 (some (.object "java/lang/Integer")) :: ws) ({ frames := 1, cells := 0, slots := 0, locals := 12 } : Room)) (fun a U => a = #[(.ref x0)] ∧ Z.Warmed39 U.vm ∧ U.heap = h0) (fun _ _ _ _ _ => True) (fun _ U o U' => ∃ v L, o = .returned v ∧ Q_a11_0 Z dc kdc el ee kee ca cc eo mo x0 h0 v U'.heap L ∧ FrameEnd U o U' L ({ frames := 1, cells := 0, slots := 0, locals := 12 } : Room).cells ({ frames := 1, cells := 0, slots := 0, locals := 12 } : Room).slots) := by
  refine MetFree.of_bodySF (plainFor_of_name pn_11) hisR ?_
  intro p e s m args below meth c s₁ Bd hml0 hP hK
  obtain ⟨rfl, hZ, hh⟩ := hP
  have hx := Bd.exec
  have hby := Bd.bytes
  have hlk := Bd.notSynchronized
  have hml : c.maxLocals = 1 := hml0
  have hown : s.vm.findClass "com/example/wary_lock/warylock/LockState" = some m.cls := findClass_of_methodNamed Bd.named
  have hnm := (name_of_methodNamed Bd.named Bd.method).1
  have X0 : Stand p l e ({ frames := 1, cells := 0, slots := 0, locals := 12 } : Room) s m #[(.ref x0)] below meth c s₁ [] 0 0 := Stand.of_body Bd
  have e0 : s₁.heap = h0 := by rw [← hh, Bd.state]; rfl
  have N0 := Fr.nil Z.heap.size
  show Go FrameEnd p e below s ({ frames := 1, cells := 0, slots := 0, locals := 12 } : Room).cells ({ frames := 1, cells := 0, slots := 0, locals := 12 } : Room).slots (Q_a11_0 Z dc kdc el ee kee ca cc eo mo x0 h0) s₁ (entryFrame m #[(.ref x0)] 1)
  refine Go.cast (ef_a11_0 m x0) ?_
  show Go _ _ _ _ _ _ _ _ s₁ (mkF m 0 #[.val (.ref x0)] [])
  refine Go.step (fun _ kt_ => XS.aloadN X0.here hx rfl (hb hby d11_0) rfl rfl kt_) ?_
  show Go _ _ _ _ _ _ _ _ s₁ (mkF m 1 #[.val (.ref x0)] [(.ref x0)])
  obtain ⟨T1, X1, e1, st1⟩ := getF X0 hx hZ hown (host := "") (Or.inl (hw _ (List.mem_of_getElem? (i := 72) rfl))) Via.refl e0 r0 (g := (mkF m 1 #[.val (.ref x0)] [(.ref x0)])) rfl rfl (hb hby d11_1)
  refine Go.step st1 ?_
  show Go _ _ _ _ _ _ _ _ T1 (mkF m 4 #[.val (.ref x0)] [(.ref el)])
  obtain ⟨cq2, kq2, q2a, q2b, q2c⟩ := isOf hZ e1 (Exa.ext O0 G_ele)
  obtain ⟨_, _, ⟨T2, L2, k2, n2⟩, -, X2, ⟨Lc2, hQ2, l2, y2, z2⟩, st2⟩ := X1.interfaceBack hx (xi := (⟨"java/util/List", "isEmpty", "()Z"⟩ : MethodName)) (y := (⟨"java/util/ImmutableCollections$ListN", "isEmpty", "()Z"⟩ : MethodName)) hown (mvT hZ (hw _ (List.mem_of_getElem? (i := 81) rfl))) (mvT hZ (hw _ (List.mem_of_getElem? (i := 82) rfl))) (mvT hZ (hw _ (List.mem_of_getElem? (i := 83) rfl))) (mvT hZ (hw _ (List.mem_of_getElem? (i := 84) rfl))) (mvT hZ (hw _ (List.mem_of_getElem? (i := 85) rfl))) (mvT hZ (hw _ (List.mem_of_getElem? (i := 86) rfl))) (mvT hZ (hw _ (List.mem_of_getElem? (i := 87) rfl))) (mvT hZ (hw _ (List.mem_of_getElem? (i := 88) rfl))) (by decide) (backOf (W := 0) (rm_a12_0 l Z a0 hw [] dc kdc el ee kee ca cc eo mo G_dc G_dce G_dcv G_el G_ele G_elf G_eev G_hi G_ca G_bx G_eo G_eoe G_mo  h0 O0 ) hZ (hw _ (List.mem_of_getElem? (i := 90) rfl)) (hw _ (List.mem_of_getElem? (i := 89) rfl)) (by decide) (by decide)) q2a q2b q2c (g := (mkF m 4 #[.val (.ref x0)] [(.ref el)])) rfl (by rw [hml]; rfl) (Steps.refl _) (argsL := []) (rest := []) (lenOf pd_LRZ rfl) rfl (by show 2 * 0 + _ ≤ _; exact Nat.le_of_eq rfl) (hb hby d11_4) (fun _ _ => ⟨rfl, e1, (by decide : 0 + 0 ≤ _), (by decide : 0 + 0 ≤ _)⟩)
  dsimp only [Pt.U, Pt.locs, Pt.cells, Pt.slots] at X2 l2 y2 z2 st2 hQ2
  subst l2 y2 z2
  obtain ⟨rfl, Nq2, e2⟩ := hQ2
  have N2_ := Fr.app N0 Nq2
  refine Go.trans st2 ?_
  show Go _ _ _ _ _ _ _ _ T2 (mkF m 9 #[.val (.ref x0)] [(.int (1 : Int32))])
  refine Go.step (fun _ kt_ => XS.ifNo X2.here hx rfl (hb hby d11_9) rfl ((if0 _ _).trans (feq (by decide : ¬ ((1 : Int32) = (0 : Int32)))).1) kt_) ?_
  show Go _ _ _ _ _ _ _ _ T2 (mkF m 12 #[.val (.ref x0)] [])
  refine Go.step (fun _ kt_ => XS.aconstNull X2.here hx rfl (hb hby d11_12)  kt_) ?_
  show Go _ _ _ _ _ _ _ _ T2 (mkF m 13 #[.val (.ref x0)] [.null])
  refine Go.step (fun _ kt_ => XS.goto X2.here hx rfl (pc0 := 13) (pc' := 35) rfl (hb hby d11_13) (by decide) (by decide) kt_) ?_
  show Go _ _ _ _ _ _ _ _ T2 (mkF m 35 #[.val (.ref x0)] [.null])
  exact Go.retA X2 hx Bd.returns rfl rfl hlk (hb hby d11_35) (by decide) (by decide) (by show _ ∧ _ ∧ _; rw [e2]; exact ⟨rfl, N2_, rfl⟩)
theorem pd_LRLjava_lang_Integer_ : parseMethodDescriptor "()Ljava/lang/Integer;" = some ⟨[], some (.object "java/lang/Integer")⟩ := by decide +kernel
theorem pf_Ljava_lang_String_ : parseFieldDescriptor "Ljava/lang/String;" = some (.object "java/lang/String") := by decide
theorem pf_J : parseFieldDescriptor "J" = some .long := by decide
theorem pf_Ljava_time_Instant_ : parseFieldDescriptor "Ljava/time/Instant;" = some (.object "java/time/Instant") := by decide
theorem pf_Lcom_example_wary_lock_warylock_LockMode_ : parseFieldDescriptor "Lcom/example/wary_lock/warylock/LockMode;" = some (.object "com/example/wary_lock/warylock/LockMode") := by decide
theorem d13_0 : decode prog_6_method_1_code 0 = .ok (.aload_n 0, 1) := by decide +kernel
theorem d13_1 : decode prog_6_method_1_code 1 = .ok (.invokespecial 1, 3) := by decide +kernel
theorem d13_4 : decode prog_6_method_1_code 4 = .ok (.aload_n 0, 1) := by decide +kernel
theorem d13_5 : decode prog_6_method_1_code 5 = .ok (.aload_n 1, 1) := by decide +kernel
theorem d13_6 : decode prog_6_method_1_code 6 = .ok (.putfield 7, 3) := by decide +kernel
theorem d13_9 : decode prog_6_method_1_code 9 = .ok (.aload_n 0, 1) := by decide +kernel
theorem d13_10 : decode prog_6_method_1_code 10 = .ok (.aload_n 2, 1) := by decide +kernel
theorem d13_11 : decode prog_6_method_1_code 11 = .ok (.putfield 13, 3) := by decide +kernel
theorem sn_4 {Z : State} {a0 : Array Value} (hw : ∀ d ∈ tables_1, d.before a0 Z = true) : Jvm.RoadKit.slotOf Z "com/example/wary_lock/warylock/Lease" "owner" "Ljava/lang/String;" ≠ Jvm.RoadKit.slotOf Z "com/example/wary_lock/warylock/Lease" "name" "Ljava/lang/String;" := slot_ne (Or.inr (hw _ (List.mem_of_getElem? (i := 112) rfl))) (Or.inr (hw _ (List.mem_of_getElem? (i := 110) rfl))) (by decide) pf_Ljava_lang_String_ pf_Ljava_lang_String_
theorem d13_14 : decode prog_6_method_1_code 14 = .ok (.aload_n 0, 1) := by decide +kernel
theorem d13_15 : decode prog_6_method_1_code 15 = .ok (.lload_n 3, 1) := by decide +kernel
theorem d13_16 : decode prog_6_method_1_code 16 = .ok (.putfield 16, 3) := by decide +kernel
theorem sn_5 {Z : State} {a0 : Array Value} (hw : ∀ d ∈ tables_1, d.before a0 Z = true) : Jvm.RoadKit.slotOf Z "com/example/wary_lock/warylock/Lease" "token" "J" ≠ Jvm.RoadKit.slotOf Z "com/example/wary_lock/warylock/Lease" "name" "Ljava/lang/String;" := slot_ne (Or.inr (hw _ (List.mem_of_getElem? (i := 114) rfl))) (Or.inr (hw _ (List.mem_of_getElem? (i := 110) rfl))) (by decide) pf_J pf_Ljava_lang_String_
theorem sn_6 {Z : State} {a0 : Array Value} (hw : ∀ d ∈ tables_1, d.before a0 Z = true) : Jvm.RoadKit.slotOf Z "com/example/wary_lock/warylock/Lease" "token" "J" ≠ Jvm.RoadKit.slotOf Z "com/example/wary_lock/warylock/Lease" "owner" "Ljava/lang/String;" := slot_ne (Or.inr (hw _ (List.mem_of_getElem? (i := 114) rfl))) (Or.inr (hw _ (List.mem_of_getElem? (i := 112) rfl))) (by decide) pf_J pf_Ljava_lang_String_
theorem d13_19 : decode prog_6_method_1_code 19 = .ok (.aload_n 0, 1) := by decide +kernel
theorem d13_20 : decode prog_6_method_1_code 20 = .ok (.lload 5, 2) := by decide +kernel
theorem d13_22 : decode prog_6_method_1_code 22 = .ok (.putfield 20, 3) := by decide +kernel
theorem sn_7 {Z : State} {a0 : Array Value} (hw : ∀ d ∈ tables_1, d.before a0 Z = true) : Jvm.RoadKit.slotOf Z "com/example/wary_lock/warylock/Lease" "ttlMs" "J" ≠ Jvm.RoadKit.slotOf Z "com/example/wary_lock/warylock/Lease" "name" "Ljava/lang/String;" := slot_ne (Or.inr (hw _ (List.mem_of_getElem? (i := 116) rfl))) (Or.inr (hw _ (List.mem_of_getElem? (i := 110) rfl))) (by decide) pf_J pf_Ljava_lang_String_
theorem sn_8 {Z : State} {a0 : Array Value} (hw : ∀ d ∈ tables_1, d.before a0 Z = true) : Jvm.RoadKit.slotOf Z "com/example/wary_lock/warylock/Lease" "ttlMs" "J" ≠ Jvm.RoadKit.slotOf Z "com/example/wary_lock/warylock/Lease" "owner" "Ljava/lang/String;" := slot_ne (Or.inr (hw _ (List.mem_of_getElem? (i := 116) rfl))) (Or.inr (hw _ (List.mem_of_getElem? (i := 112) rfl))) (by decide) pf_J pf_Ljava_lang_String_
theorem sn_9 {Z : State} {a0 : Array Value} (hw : ∀ d ∈ tables_1, d.before a0 Z = true) : Jvm.RoadKit.slotOf Z "com/example/wary_lock/warylock/Lease" "ttlMs" "J" ≠ Jvm.RoadKit.slotOf Z "com/example/wary_lock/warylock/Lease" "token" "J" := slot_ne (Or.inr (hw _ (List.mem_of_getElem? (i := 116) rfl))) (Or.inr (hw _ (List.mem_of_getElem? (i := 114) rfl))) (by decide) pf_J pf_J
theorem d13_25 : decode prog_6_method_1_code 25 = .ok (.aload_n 0, 1) := by decide +kernel
theorem d13_26 : decode prog_6_method_1_code 26 = .ok (.aload 7, 2) := by decide +kernel
theorem d13_28 : decode prog_6_method_1_code 28 = .ok (.putfield 23, 3) := by decide +kernel
theorem sn_10 {Z : State} {a0 : Array Value} (hw : ∀ d ∈ tables_1, d.before a0 Z = true) : Jvm.RoadKit.slotOf Z "com/example/wary_lock/warylock/Lease" "expiresAt" "Ljava/time/Instant;" ≠ Jvm.RoadKit.slotOf Z "com/example/wary_lock/warylock/Lease" "name" "Ljava/lang/String;" := slot_ne (Or.inr (hw _ (List.mem_of_getElem? (i := 118) rfl))) (Or.inr (hw _ (List.mem_of_getElem? (i := 110) rfl))) (by decide) pf_Ljava_time_Instant_ pf_Ljava_lang_String_
theorem sn_11 {Z : State} {a0 : Array Value} (hw : ∀ d ∈ tables_1, d.before a0 Z = true) : Jvm.RoadKit.slotOf Z "com/example/wary_lock/warylock/Lease" "expiresAt" "Ljava/time/Instant;" ≠ Jvm.RoadKit.slotOf Z "com/example/wary_lock/warylock/Lease" "owner" "Ljava/lang/String;" := slot_ne (Or.inr (hw _ (List.mem_of_getElem? (i := 118) rfl))) (Or.inr (hw _ (List.mem_of_getElem? (i := 112) rfl))) (by decide) pf_Ljava_time_Instant_ pf_Ljava_lang_String_
theorem sn_12 {Z : State} {a0 : Array Value} (hw : ∀ d ∈ tables_1, d.before a0 Z = true) : Jvm.RoadKit.slotOf Z "com/example/wary_lock/warylock/Lease" "expiresAt" "Ljava/time/Instant;" ≠ Jvm.RoadKit.slotOf Z "com/example/wary_lock/warylock/Lease" "token" "J" := slot_ne (Or.inr (hw _ (List.mem_of_getElem? (i := 118) rfl))) (Or.inr (hw _ (List.mem_of_getElem? (i := 114) rfl))) (by decide) pf_Ljava_time_Instant_ pf_J
theorem sn_13 {Z : State} {a0 : Array Value} (hw : ∀ d ∈ tables_1, d.before a0 Z = true) : Jvm.RoadKit.slotOf Z "com/example/wary_lock/warylock/Lease" "expiresAt" "Ljava/time/Instant;" ≠ Jvm.RoadKit.slotOf Z "com/example/wary_lock/warylock/Lease" "ttlMs" "J" := slot_ne (Or.inr (hw _ (List.mem_of_getElem? (i := 118) rfl))) (Or.inr (hw _ (List.mem_of_getElem? (i := 116) rfl))) (by decide) pf_Ljava_time_Instant_ pf_J
theorem d13_31 : decode prog_6_method_1_code 31 = .ok (.aload_n 0, 1) := by decide +kernel
theorem d13_32 : decode prog_6_method_1_code 32 = .ok (.lload 8, 2) := by decide +kernel
theorem d13_34 : decode prog_6_method_1_code 34 = .ok (.putfield 27, 3) := by decide +kernel
theorem sn_14 {Z : State} {a0 : Array Value} (hw : ∀ d ∈ tables_1, d.before a0 Z = true) : Jvm.RoadKit.slotOf Z "com/example/wary_lock/warylock/Lease" "expiresInMs" "J" ≠ Jvm.RoadKit.slotOf Z "com/example/wary_lock/warylock/Lease" "name" "Ljava/lang/String;" := slot_ne (Or.inr (hw _ (List.mem_of_getElem? (i := 120) rfl))) (Or.inr (hw _ (List.mem_of_getElem? (i := 110) rfl))) (by decide) pf_J pf_Ljava_lang_String_
theorem sn_15 {Z : State} {a0 : Array Value} (hw : ∀ d ∈ tables_1, d.before a0 Z = true) : Jvm.RoadKit.slotOf Z "com/example/wary_lock/warylock/Lease" "expiresInMs" "J" ≠ Jvm.RoadKit.slotOf Z "com/example/wary_lock/warylock/Lease" "owner" "Ljava/lang/String;" := slot_ne (Or.inr (hw _ (List.mem_of_getElem? (i := 120) rfl))) (Or.inr (hw _ (List.mem_of_getElem? (i := 112) rfl))) (by decide) pf_J pf_Ljava_lang_String_
theorem sn_16 {Z : State} {a0 : Array Value} (hw : ∀ d ∈ tables_1, d.before a0 Z = true) : Jvm.RoadKit.slotOf Z "com/example/wary_lock/warylock/Lease" "expiresInMs" "J" ≠ Jvm.RoadKit.slotOf Z "com/example/wary_lock/warylock/Lease" "token" "J" := slot_ne (Or.inr (hw _ (List.mem_of_getElem? (i := 120) rfl))) (Or.inr (hw _ (List.mem_of_getElem? (i := 114) rfl))) (by decide) pf_J pf_J
theorem sn_17 {Z : State} {a0 : Array Value} (hw : ∀ d ∈ tables_1, d.before a0 Z = true) : Jvm.RoadKit.slotOf Z "com/example/wary_lock/warylock/Lease" "expiresInMs" "J" ≠ Jvm.RoadKit.slotOf Z "com/example/wary_lock/warylock/Lease" "ttlMs" "J" := slot_ne (Or.inr (hw _ (List.mem_of_getElem? (i := 120) rfl))) (Or.inr (hw _ (List.mem_of_getElem? (i := 116) rfl))) (by decide) pf_J pf_J
theorem sn_18 {Z : State} {a0 : Array Value} (hw : ∀ d ∈ tables_1, d.before a0 Z = true) : Jvm.RoadKit.slotOf Z "com/example/wary_lock/warylock/Lease" "expiresInMs" "J" ≠ Jvm.RoadKit.slotOf Z "com/example/wary_lock/warylock/Lease" "expiresAt" "Ljava/time/Instant;" := slot_ne (Or.inr (hw _ (List.mem_of_getElem? (i := 120) rfl))) (Or.inr (hw _ (List.mem_of_getElem? (i := 118) rfl))) (by decide) pf_J pf_Ljava_time_Instant_
theorem d13_37 : decode prog_6_method_1_code 37 = .ok (.aload_n 0, 1) := by decide +kernel
theorem d13_38 : decode prog_6_method_1_code 38 = .ok (.iload 10, 2) := by decide +kernel
theorem d13_40 : decode prog_6_method_1_code 40 = .ok (.putfield 30, 3) := by decide +kernel
theorem sn_19 {Z : State} {a0 : Array Value} (hw : ∀ d ∈ tables_1, d.before a0 Z = true) : Jvm.RoadKit.slotOf Z "com/example/wary_lock/warylock/Lease" "limit" "I" ≠ Jvm.RoadKit.slotOf Z "com/example/wary_lock/warylock/Lease" "name" "Ljava/lang/String;" := slot_ne (Or.inr (hw _ (List.mem_of_getElem? (i := 122) rfl))) (Or.inr (hw _ (List.mem_of_getElem? (i := 110) rfl))) (by decide) pf_I pf_Ljava_lang_String_
theorem sn_20 {Z : State} {a0 : Array Value} (hw : ∀ d ∈ tables_1, d.before a0 Z = true) : Jvm.RoadKit.slotOf Z "com/example/wary_lock/warylock/Lease" "limit" "I" ≠ Jvm.RoadKit.slotOf Z "com/example/wary_lock/warylock/Lease" "owner" "Ljava/lang/String;" := slot_ne (Or.inr (hw _ (List.mem_of_getElem? (i := 122) rfl))) (Or.inr (hw _ (List.mem_of_getElem? (i := 112) rfl))) (by decide) pf_I pf_Ljava_lang_String_
theorem sn_21 {Z : State} {a0 : Array Value} (hw : ∀ d ∈ tables_1, d.before a0 Z = true) : Jvm.RoadKit.slotOf Z "com/example/wary_lock/warylock/Lease" "limit" "I" ≠ Jvm.RoadKit.slotOf Z "com/example/wary_lock/warylock/Lease" "token" "J" := slot_ne (Or.inr (hw _ (List.mem_of_getElem? (i := 122) rfl))) (Or.inr (hw _ (List.mem_of_getElem? (i := 114) rfl))) (by decide) pf_I pf_J
theorem sn_22 {Z : State} {a0 : Array Value} (hw : ∀ d ∈ tables_1, d.before a0 Z = true) : Jvm.RoadKit.slotOf Z "com/example/wary_lock/warylock/Lease" "limit" "I" ≠ Jvm.RoadKit.slotOf Z "com/example/wary_lock/warylock/Lease" "ttlMs" "J" := slot_ne (Or.inr (hw _ (List.mem_of_getElem? (i := 122) rfl))) (Or.inr (hw _ (List.mem_of_getElem? (i := 116) rfl))) (by decide) pf_I pf_J
theorem sn_23 {Z : State} {a0 : Array Value} (hw : ∀ d ∈ tables_1, d.before a0 Z = true) : Jvm.RoadKit.slotOf Z "com/example/wary_lock/warylock/Lease" "limit" "I" ≠ Jvm.RoadKit.slotOf Z "com/example/wary_lock/warylock/Lease" "expiresAt" "Ljava/time/Instant;" := slot_ne (Or.inr (hw _ (List.mem_of_getElem? (i := 122) rfl))) (Or.inr (hw _ (List.mem_of_getElem? (i := 118) rfl))) (by decide) pf_I pf_Ljava_time_Instant_
theorem sn_24 {Z : State} {a0 : Array Value} (hw : ∀ d ∈ tables_1, d.before a0 Z = true) : Jvm.RoadKit.slotOf Z "com/example/wary_lock/warylock/Lease" "limit" "I" ≠ Jvm.RoadKit.slotOf Z "com/example/wary_lock/warylock/Lease" "expiresInMs" "J" := slot_ne (Or.inr (hw _ (List.mem_of_getElem? (i := 122) rfl))) (Or.inr (hw _ (List.mem_of_getElem? (i := 120) rfl))) (by decide) pf_I pf_J
theorem d13_43 : decode prog_6_method_1_code 43 = .ok (.aload_n 0, 1) := by decide +kernel
theorem d13_44 : decode prog_6_method_1_code 44 = .ok (.aload 11, 2) := by decide +kernel
theorem d13_46 : decode prog_6_method_1_code 46 = .ok (.putfield 34, 3) := by decide +kernel
theorem sn_25 {Z : State} {a0 : Array Value} (hw : ∀ d ∈ tables_1, d.before a0 Z = true) : Jvm.RoadKit.slotOf Z "com/example/wary_lock/warylock/Lease" "mode" "Lcom/example/wary_lock/warylock/LockMode;" ≠ Jvm.RoadKit.slotOf Z "com/example/wary_lock/warylock/Lease" "name" "Ljava/lang/String;" := slot_ne (Or.inr (hw _ (List.mem_of_getElem? (i := 124) rfl))) (Or.inr (hw _ (List.mem_of_getElem? (i := 110) rfl))) (by decide) pf_Lcom_example_wary_lock_warylock_LockMode_ pf_Ljava_lang_String_
theorem sn_26 {Z : State} {a0 : Array Value} (hw : ∀ d ∈ tables_1, d.before a0 Z = true) : Jvm.RoadKit.slotOf Z "com/example/wary_lock/warylock/Lease" "mode" "Lcom/example/wary_lock/warylock/LockMode;" ≠ Jvm.RoadKit.slotOf Z "com/example/wary_lock/warylock/Lease" "owner" "Ljava/lang/String;" := slot_ne (Or.inr (hw _ (List.mem_of_getElem? (i := 124) rfl))) (Or.inr (hw _ (List.mem_of_getElem? (i := 112) rfl))) (by decide) pf_Lcom_example_wary_lock_warylock_LockMode_ pf_Ljava_lang_String_
theorem sn_27 {Z : State} {a0 : Array Value} (hw : ∀ d ∈ tables_1, d.before a0 Z = true) : Jvm.RoadKit.slotOf Z "com/example/wary_lock/warylock/Lease" "mode" "Lcom/example/wary_lock/warylock/LockMode;" ≠ Jvm.RoadKit.slotOf Z "com/example/wary_lock/warylock/Lease" "token" "J" := slot_ne (Or.inr (hw _ (List.mem_of_getElem? (i := 124) rfl))) (Or.inr (hw _ (List.mem_of_getElem? (i := 114) rfl))) (by decide) pf_Lcom_example_wary_lock_warylock_LockMode_ pf_J
theorem sn_28 {Z : State} {a0 : Array Value} (hw : ∀ d ∈ tables_1, d.before a0 Z = true) : Jvm.RoadKit.slotOf Z "com/example/wary_lock/warylock/Lease" "mode" "Lcom/example/wary_lock/warylock/LockMode;" ≠ Jvm.RoadKit.slotOf Z "com/example/wary_lock/warylock/Lease" "ttlMs" "J" := slot_ne (Or.inr (hw _ (List.mem_of_getElem? (i := 124) rfl))) (Or.inr (hw _ (List.mem_of_getElem? (i := 116) rfl))) (by decide) pf_Lcom_example_wary_lock_warylock_LockMode_ pf_J
theorem sn_29 {Z : State} {a0 : Array Value} (hw : ∀ d ∈ tables_1, d.before a0 Z = true) : Jvm.RoadKit.slotOf Z "com/example/wary_lock/warylock/Lease" "mode" "Lcom/example/wary_lock/warylock/LockMode;" ≠ Jvm.RoadKit.slotOf Z "com/example/wary_lock/warylock/Lease" "expiresAt" "Ljava/time/Instant;" := slot_ne (Or.inr (hw _ (List.mem_of_getElem? (i := 124) rfl))) (Or.inr (hw _ (List.mem_of_getElem? (i := 118) rfl))) (by decide) pf_Lcom_example_wary_lock_warylock_LockMode_ pf_Ljava_time_Instant_
theorem sn_30 {Z : State} {a0 : Array Value} (hw : ∀ d ∈ tables_1, d.before a0 Z = true) : Jvm.RoadKit.slotOf Z "com/example/wary_lock/warylock/Lease" "mode" "Lcom/example/wary_lock/warylock/LockMode;" ≠ Jvm.RoadKit.slotOf Z "com/example/wary_lock/warylock/Lease" "expiresInMs" "J" := slot_ne (Or.inr (hw _ (List.mem_of_getElem? (i := 124) rfl))) (Or.inr (hw _ (List.mem_of_getElem? (i := 120) rfl))) (by decide) pf_Lcom_example_wary_lock_warylock_LockMode_ pf_J
theorem sn_31 {Z : State} {a0 : Array Value} (hw : ∀ d ∈ tables_1, d.before a0 Z = true) : Jvm.RoadKit.slotOf Z "com/example/wary_lock/warylock/Lease" "mode" "Lcom/example/wary_lock/warylock/LockMode;" ≠ Jvm.RoadKit.slotOf Z "com/example/wary_lock/warylock/Lease" "limit" "I" := slot_ne (Or.inr (hw _ (List.mem_of_getElem? (i := 124) rfl))) (Or.inr (hw _ (List.mem_of_getElem? (i := 122) rfl))) (by decide) pf_Lcom_example_wary_lock_warylock_LockMode_ pf_I
theorem d13_49 : decode prog_6_method_1_code 49 = .ok (.return_, 1) := by decide +kernel
theorem pn_13 : plainName "com/example/wary_lock/warylock/Lease" = true := by first | (simp [plainName, overriddenIn]; done) | decide +kernel
theorem ef_a13_0 (m : MethodId) (y0 : Addr) (y1 : Addr) (y2 : Addr) (y3 : Int64) (y4 : Int64) (y6 : Int64) (y7 : Int32) (y8 : Addr) : entryFrame m #[(.ref y0), (.ref y1), (.ref y2), (.long y3), (.long y4), .null, (.long y6), (.int y7), (.ref y8)] 12 = mkF m 0 #[.val (.ref y0), .val (.ref y1), .val (.ref y2), .val (.long y3), .second, .val (.long y4), .second, .val .null, .val (.long y6), .second, .val (.int y7), .val (.ref y8)] [] := by first | (simp [entryFrame, mkF, argsToLocals, Value.category]; done) | rfl
def Q_a13_0 (Z : State) (dc : Addr) (kdc : ClassId) (el : Addr) (ee : Addr) (kee : ClassId) (ca : Addr) (cc : Cell) (eo : Addr) (mo : Addr) (x0 : Addr) (x1 : Addr) (x2 : Addr) (x3 : Int64) (x4 : Int64) (x6 : Int64) (x7 : Int32) (x8 : Addr) (w1 : Int64) (w2 : Int64) (w3 : Int64) (w4 : Int32) (h0 : Heap) (v : Option Value) (h : Heap) (L : List Loc) : Prop := v = none ∧ Fr Z.heap.size L ∧ Keep h0 h [x0] ∧ Fld Z h x0 "com/example/wary_lock/warylock/Lease" "name" "Ljava/lang/String;" (.ref x1) ∧ Fld Z h x0 "com/example/wary_lock/warylock/Lease" "owner" "Ljava/lang/String;" (.ref x2) ∧ Fld Z h x0 "com/example/wary_lock/warylock/Lease" "token" "J" (.long x3) ∧ Fld Z h x0 "com/example/wary_lock/warylock/Lease" "ttlMs" "J" (.long x4) ∧ Fld Z h x0 "com/example/wary_lock/warylock/Lease" "expiresAt" "Ljava/time/Instant;" .null ∧ Fld Z h x0 "com/example/wary_lock/warylock/Lease" "expiresInMs" "J" (.long x6) ∧ Fld Z h x0 "com/example/wary_lock/warylock/Lease" "limit" "I" (.int x7) ∧ Fld Z h x0 "com/example/wary_lock/warylock/Lease" "mode" "Lcom/example/wary_lock/warylock/LockMode;" (.ref x8)
set_option maxRecDepth 65536 in
set_option maxHeartbeats 40000000 in
theorem rm_a13_0 (l : Launch) (Z : State) (a0 : Array Value) (hw : ∀ d ∈ tables_1, d.before a0 Z = true) (ws : List Jvm.Cond) (dc : Addr) (kdc : ClassId) (el : Addr) (ee : Addr) (kee : ClassId) (ca : Addr) (cc : Cell) (eo : Addr) (mo : Addr) (G_dc : Sta Z Z.heap "java/util/ArrayList" "DEFAULTCAPACITY_EMPTY_ELEMENTDATA" "[Ljava/lang/Object;" (.ref dc)) (G_dce : Exa Z Z.heap dc "[Ljava/lang/Object;") (G_dcv : Arv Z Z.heap dc kdc (.object "java/lang/Object") (0 : Int32) [] .null) (G_el : Sta Z Z.heap "java/util/ImmutableCollections" "EMPTY_LIST" "Ljava/util/ImmutableCollections$ListN;" (.ref el)) (G_ele : Exa Z Z.heap el "java/util/ImmutableCollections$ListN") (G_elf : Fld Z Z.heap el "java/util/ImmutableCollections$ListN" "elements" "[Ljava/lang/Object;" (.ref ee)) (G_eev : Arv Z Z.heap ee kee (.object "java/lang/Object") (0 : Int32) [] .null) (G_hi : Sta Z Z.heap "java/lang/Integer$IntegerCache" "high" "I" (.int (127 : Int32))) (G_ca : Sta Z Z.heap "java/lang/Integer$IntegerCache" "cache" "[Ljava/lang/Integer;" (.ref ca)) (G_bx : Bxs Z ca cc "java/lang/Integer" "I" 256 (fun j => .int (j - 128))) (G_eo : Sta Z Z.heap "java/util/ImmutableCollections" "EMPTY" "Ljava/lang/Object;" (.ref eo)) (G_eoe : Exa Z Z.heap eo "java/lang/Object") (G_mo : MirO Z "[Ljava/lang/Object;" mo) (x0 : Addr) (x1 : Addr) (x2 : Addr) (x3 : Int64) (x4 : Int64) (x6 : Int64) (x7 : Int32) (x8 : Addr) (w1 : Int64) (w2 : Int64) (w3 : Int64) (w4 : Int32) (h0 : Heap) (O0 : Ext Z.heap h0) (r0 : Exa Z h0 x0 "com/example/wary_lock/warylock/Lease") (r1 : Fld Z h0 x0 "com/example/wary_lock/warylock/Lease" "name" "Ljava/lang/String;" .null) (r2 : Z.heap.size ≤ x0) (r3 : Fld Z h0 x0 "com/example/wary_lock/warylock/Lease" "owner" "Ljava/lang/String;" .null) (r4 : Fld Z h0 x0 "com/example/wary_lock/warylock/Lease" "token" "J" (.long w1)) (r5 : Fld Z h0 x0 "com/example/wary_lock/warylock/Lease" "ttlMs" "J" (.long w2)) (r6 : Fld Z h0 x0 "com/example/wary_lock/warylock/Lease" "expiresAt" "Ljava/time/Instant;" .null) (r7 : Fld Z h0 x0 "com/example/wary_lock/warylock/Lease" "expiresInMs" "J" (.long w3)) (r8 : Fld Z h0 x0 "com/example/wary_lock/warylock/Lease" "limit" "I" (.int w4)) (r9 : Fld Z h0 x0 "com/example/wary_lock/warylock/Lease" "mode" "Lcom/example/wary_lock/warylock/LockMode;" .null) :
    MetFree l (⟨"com/example/wary_lock/warylock/Lease", "<init>", "(Ljava/lang/String;Ljava/lang/String;JJLjava/time/Instant;JILcom/example/wary_lock/warylock/LockMode;)V"⟩ : MethodName) (head1 (Jvm.Cond.code (⟨"com/example/wary_lock/warylock/Lease", "<init>", "(Ljava/lang/String;Ljava/lang/String;JJLjava/time/Instant;JILcom/example/wary_lock/warylock/LockMode;)V"⟩ : MethodName) prog_6_method_1_code 12 none :: ws) ({ frames := 2, cells := 0, slots := 0, locals := 24 } : Room)) (fun a U => a = #[(.ref x0), (.ref x1), (.ref x2), (.long x3), (.long x4), .null, (.long x6), (.int x7), (.ref x8)] ∧ Z.Warmed39 U.vm ∧ U.heap = h0) (fun _ _ _ _ _ => True) (fun _ U o U' => ∃ v L, o = .returned v ∧ Q_a13_0 Z dc kdc el ee kee ca cc eo mo x0 x1 x2 x3 x4 x6 x7 x8 w1 w2 w3 w4 h0 v U'.heap L ∧ FrameEnd U o U' L ({ frames := 2, cells := 0, slots := 0, locals := 24 } : Room).cells ({ frames := 2, cells := 0, slots := 0, locals := 24 } : Room).slots) := by
  refine MetFree.of_bodySF (plainFor_of_name pn_13) hisR ?_
  intro p e s m args below meth c s₁ Bd hml0 hP hK
  obtain ⟨rfl, hZ, hh⟩ := hP
  have hx := Bd.exec
  have hby := Bd.bytes
  have hlk := Bd.notSynchronized
  have hml : c.maxLocals = 12 := hml0
  have hown : s.vm.findClass "com/example/wary_lock/warylock/Lease" = some m.cls := findClass_of_methodNamed Bd.named
  have hnm := (name_of_methodNamed Bd.named Bd.method).1
  have X0 : Stand p l e ({ frames := 2, cells := 0, slots := 0, locals := 24 } : Room) s m #[(.ref x0), (.ref x1), (.ref x2), (.long x3), (.long x4), .null, (.long x6), (.int x7), (.ref x8)] below meth c s₁ [] 0 0 := Stand.of_body Bd
  have e0 : s₁.heap = h0 := by rw [← hh, Bd.state]; rfl
  have N0 := Fr.nil Z.heap.size
  show Go FrameEnd p e below s ({ frames := 2, cells := 0, slots := 0, locals := 24 } : Room).cells ({ frames := 2, cells := 0, slots := 0, locals := 24 } : Room).slots (Q_a13_0 Z dc kdc el ee kee ca cc eo mo x0 x1 x2 x3 x4 x6 x7 x8 w1 w2 w3 w4 h0) s₁ (entryFrame m #[(.ref x0), (.ref x1), (.ref x2), (.long x3), (.long x4), .null, (.long x6), (.int x7), (.ref x8)] 12)
  refine Go.cast (ef_a13_0 m x0 x1 x2 x3 x4 x6 x7 x8) ?_
  show Go _ _ _ _ _ _ _ _ s₁ (mkF m 0 #[.val (.ref x0), .val (.ref x1), .val (.ref x2), .val (.long x3), .second, .val (.long x4), .second, .val .null, .val (.long x6), .second, .val (.int x7), .val (.ref x8)] [])
  refine Go.step (fun _ kt_ => XS.aloadN X0.here hx rfl (hb hby d13_0) rfl rfl kt_) ?_
  show Go _ _ _ _ _ _ _ _ s₁ (mkF m 1 #[.val (.ref x0), .val (.ref x1), .val (.ref x2), .val (.long x3), .second, .val (.long x4), .second, .val .null, .val (.long x6), .second, .val (.int x7), .val (.ref x8)] [(.ref x0)])
  obtain ⟨_, _, ⟨T1, L1, k1, n1⟩, -, X1, ⟨Lc1, hQ1, l1, y1, z1⟩, st1⟩ := X0.specialBack hx (y := (⟨"java/lang/Record", "<init>", "()V"⟩ : MethodName)) rfl hown (mvT hZ (hw _ (List.mem_of_getElem? (i := 108) rfl))) (mvT hZ (hw _ (List.mem_of_getElem? (i := 38) rfl))) (mvT hZ (hw _ (List.mem_of_getElem? (i := 41) rfl))) (by decide) (backOf (W := 0) (rm_a6_0 l Z a0 hw [] dc kdc el ee kee ca cc eo mo G_dc G_dce G_dcv G_el G_ele G_elf G_eev G_hi G_ca G_bx G_eo G_eoe G_mo x0 h0 O0 ) hZ (hw _ (List.mem_of_getElem? (i := 41) rfl)) (hw _ (List.mem_of_getElem? (i := 40) rfl)) (by decide) (by decide)) (g := (mkF m 1 #[.val (.ref x0), .val (.ref x1), .val (.ref x2), .val (.long x3), .second, .val (.long x4), .second, .val .null, .val (.long x6), .second, .val (.int x7), .val (.ref x8)] [(.ref x0)])) rfl (by rw [hml]; rfl) (Steps.refl _) (a := x0) (argsL := []) (rest := []) (lenOf pd_LRV rfl) rfl (by show 2 * 0 + _ ≤ _; exact Nat.le_of_eq rfl) (hb hby d13_1) (fun _ _ => ⟨rfl, e0, (by decide : 0 + 0 ≤ _), (by decide : 0 + 0 ≤ _)⟩)
  dsimp only [Pt.U, Pt.locs, Pt.cells, Pt.slots] at X1 l1 y1 z1 st1 hQ1
  subst l1 y1 z1
  obtain ⟨rfl, Nq1, e1⟩ := hQ1
  have N1_ := Fr.app N0 Nq1
  refine Go.trans st1 ?_
  show Go _ _ _ _ _ _ _ _ T1 (mkF m 4 #[.val (.ref x0), .val (.ref x1), .val (.ref x2), .val (.long x3), .second, .val (.long x4), .second, .val .null, .val (.long x6), .second, .val (.int x7), .val (.ref x8)] [])
  refine Go.step (fun _ kt_ => XS.aloadN X1.here hx rfl (hb hby d13_4) rfl rfl kt_) ?_
  show Go _ _ _ _ _ _ _ _ T1 (mkF m 5 #[.val (.ref x0), .val (.ref x1), .val (.ref x2), .val (.long x3), .second, .val (.long x4), .second, .val .null, .val (.long x6), .second, .val (.int x7), .val (.ref x8)] [(.ref x0)])
  refine Go.step (fun _ kt_ => XS.aloadN X1.here hx rfl (hb hby d13_5) rfl rfl kt_) ?_
  show Go _ _ _ _ _ _ _ _ T1 (mkF m 6 #[.val (.ref x0), .val (.ref x1), .val (.ref x2), .val (.long x3), .second, .val (.long x4), .second, .val .null, .val (.long x6), .second, .val (.int x7), .val (.ref x8)] [(.ref x1), (.ref x0)])
  obtain ⟨T2, h2, X2, e2, W2, st2⟩ := putF X1 hx hZ hown (host := "") (Or.inl (hw _ (List.mem_of_getElem? (i := 109) rfl))) Via.refl e1 r1 r0 (Or.inr ⟨(hw _ (List.mem_of_getElem? (i := 110) rfl)), rfl, hnm⟩) (hw _ (List.mem_of_getElem? (i := 94) rfl)) (ty := (.object "java/lang/String")) pf_Ljava_lang_String_ rfl rfl (g := (mkF m 6 #[.val (.ref x0), .val (.ref x1), .val (.ref x2), .val (.long x3), .second, .val (.long x4), .second, .val .null, .val (.long x6), .second, .val (.int x7), .val (.ref x8)] [(.ref x1), (.ref x0)])) rfl rfl (hb hby d13_6)
  refine Go.step st2 ?_
  have N2_ := Fr.snoc X2 N1_ r2
  have O2_ : Ext Z.heap h2 := extWr O0 W2 r2
  have K2 := Keep.wr (Keep.refl h0 [x0]) W2 (Or.inl (List.mem_of_getElem? (i := 0) rfl))
  have F2 := Fld.same W2 r1
  show Go _ _ _ _ _ _ _ _ T2 (mkF m 9 #[.val (.ref x0), .val (.ref x1), .val (.ref x2), .val (.long x3), .second, .val (.long x4), .second, .val .null, .val (.long x6), .second, .val (.int x7), .val (.ref x8)] [])
  refine Go.step (fun _ kt_ => XS.aloadN X2.here hx rfl (hb hby d13_9) rfl rfl kt_) ?_
  show Go _ _ _ _ _ _ _ _ T2 (mkF m 10 #[.val (.ref x0), .val (.ref x1), .val (.ref x2), .val (.long x3), .second, .val (.long x4), .second, .val .null, .val (.long x6), .second, .val (.int x7), .val (.ref x8)] [(.ref x0)])
  refine Go.step (fun _ kt_ => XS.aloadN X2.here hx rfl (hb hby d13_10) rfl rfl kt_) ?_
  show Go _ _ _ _ _ _ _ _ T2 (mkF m 11 #[.val (.ref x0), .val (.ref x1), .val (.ref x2), .val (.long x3), .second, .val (.long x4), .second, .val .null, .val (.long x6), .second, .val (.int x7), .val (.ref x8)] [(.ref x2), (.ref x0)])
  obtain ⟨T3, h3, X3, e3, W3, st3⟩ := putF X2 hx hZ hown (host := "") (Or.inl (hw _ (List.mem_of_getElem? (i := 111) rfl))) Via.refl e2 (Fld.other W2 r3 (Or.inr (sn_4 hw))) (Exa.wr W2 r0) (Or.inr ⟨(hw _ (List.mem_of_getElem? (i := 112) rfl)), rfl, hnm⟩) (hw _ (List.mem_of_getElem? (i := 94) rfl)) (ty := (.object "java/lang/String")) pf_Ljava_lang_String_ rfl rfl (g := (mkF m 11 #[.val (.ref x0), .val (.ref x1), .val (.ref x2), .val (.long x3), .second, .val (.long x4), .second, .val .null, .val (.long x6), .second, .val (.int x7), .val (.ref x8)] [(.ref x2), (.ref x0)])) rfl rfl (hb hby d13_11)
  refine Go.step st3 ?_
  have N3_ := Fr.snoc X3 N2_ r2
  have O3_ : Ext Z.heap h3 := extWr O2_ W3 r2
  have K3 := Keep.wr K2 W3 (Or.inl (List.mem_of_getElem? (i := 0) rfl))
  have F3 := Fld.same W3 (Fld.other W2 r3 (Or.inr (sn_4 hw)))
  show Go _ _ _ _ _ _ _ _ T3 (mkF m 14 #[.val (.ref x0), .val (.ref x1), .val (.ref x2), .val (.long x3), .second, .val (.long x4), .second, .val .null, .val (.long x6), .second, .val (.int x7), .val (.ref x8)] [])
  refine Go.step (fun _ kt_ => XS.aloadN X3.here hx rfl (hb hby d13_14) rfl rfl kt_) ?_
  show Go _ _ _ _ _ _ _ _ T3 (mkF m 15 #[.val (.ref x0), .val (.ref x1), .val (.ref x2), .val (.long x3), .second, .val (.long x4), .second, .val .null, .val (.long x6), .second, .val (.int x7), .val (.ref x8)] [(.ref x0)])
  refine Go.step (fun _ kt_ => XS.lloadN X3.here hx rfl (hb hby d13_15) rfl kt_) ?_
  show Go _ _ _ _ _ _ _ _ T3 (mkF m 16 #[.val (.ref x0), .val (.ref x1), .val (.ref x2), .val (.long x3), .second, .val (.long x4), .second, .val .null, .val (.long x6), .second, .val (.int x7), .val (.ref x8)] [(.long x3), (.ref x0)])
  have f4 := (Fld.other W3 (Fld.other W2 r4 (Or.inr (sn_5 hw))) (Or.inr (sn_6 hw)))
  obtain ⟨T5, h5, X5, e5, W5, st5⟩ := putF X3 hx hZ hown (host := "") (Or.inl (hw _ (List.mem_of_getElem? (i := 113) rfl))) Via.refl e3 f4 (Exa.wr W3 (Exa.wr W2 r0)) (Or.inr ⟨(hw _ (List.mem_of_getElem? (i := 114) rfl)), rfl, hnm⟩) (hw _ (List.mem_of_getElem? (i := 94) rfl)) (ty := .long) pf_J rfl rfl (g := (mkF m 16 #[.val (.ref x0), .val (.ref x1), .val (.ref x2), .val (.long x3), .second, .val (.long x4), .second, .val .null, .val (.long x6), .second, .val (.int x7), .val (.ref x8)] [(.long x3), (.ref x0)])) rfl rfl (hb hby d13_16)
  refine Go.step st5 ?_
  have N5_ := Fr.snoc X5 N3_ r2
  have O5_ : Ext Z.heap h5 := extWr O3_ W5 r2
  have K5 := Keep.wr K3 W5 (Or.inl (List.mem_of_getElem? (i := 0) rfl))
  have F5 := Fld.same W5 f4
  show Go _ _ _ _ _ _ _ _ T5 (mkF m 19 #[.val (.ref x0), .val (.ref x1), .val (.ref x2), .val (.long x3), .second, .val (.long x4), .second, .val .null, .val (.long x6), .second, .val (.int x7), .val (.ref x8)] [])
  refine Go.step (fun _ kt_ => XS.aloadN X5.here hx rfl (hb hby d13_19) rfl rfl kt_) ?_
  show Go _ _ _ _ _ _ _ _ T5 (mkF m 20 #[.val (.ref x0), .val (.ref x1), .val (.ref x2), .val (.long x3), .second, .val (.long x4), .second, .val .null, .val (.long x6), .second, .val (.int x7), .val (.ref x8)] [(.ref x0)])
  refine Go.step (fun _ kt_ => XS.lload X5.here hx rfl (hb hby d13_20) rfl kt_) ?_
  show Go _ _ _ _ _ _ _ _ T5 (mkF m 22 #[.val (.ref x0), .val (.ref x1), .val (.ref x2), .val (.long x3), .second, .val (.long x4), .second, .val .null, .val (.long x6), .second, .val (.int x7), .val (.ref x8)] [(.long x4), (.ref x0)])
  have f6 := (Fld.other W5 (Fld.other W3 (Fld.other W2 r5 (Or.inr (sn_7 hw))) (Or.inr (sn_8 hw))) (Or.inr (sn_9 hw)))
  obtain ⟨T7, h7, X7, e7, W7, st7⟩ := putF X5 hx hZ hown (host := "") (Or.inl (hw _ (List.mem_of_getElem? (i := 115) rfl))) Via.refl e5 f6 (Exa.wr W5 (Exa.wr W3 (Exa.wr W2 r0))) (Or.inr ⟨(hw _ (List.mem_of_getElem? (i := 116) rfl)), rfl, hnm⟩) (hw _ (List.mem_of_getElem? (i := 94) rfl)) (ty := .long) pf_J rfl rfl (g := (mkF m 22 #[.val (.ref x0), .val (.ref x1), .val (.ref x2), .val (.long x3), .second, .val (.long x4), .second, .val .null, .val (.long x6), .second, .val (.int x7), .val (.ref x8)] [(.long x4), (.ref x0)])) rfl rfl (hb hby d13_22)
  refine Go.step st7 ?_
  have N7_ := Fr.snoc X7 N5_ r2
  have O7_ : Ext Z.heap h7 := extWr O5_ W7 r2
  have K7 := Keep.wr K5 W7 (Or.inl (List.mem_of_getElem? (i := 0) rfl))
  have F7 := Fld.same W7 f6
  show Go _ _ _ _ _ _ _ _ T7 (mkF m 25 #[.val (.ref x0), .val (.ref x1), .val (.ref x2), .val (.long x3), .second, .val (.long x4), .second, .val .null, .val (.long x6), .second, .val (.int x7), .val (.ref x8)] [])
  refine Go.step (fun _ kt_ => XS.aloadN X7.here hx rfl (hb hby d13_25) rfl rfl kt_) ?_
  show Go _ _ _ _ _ _ _ _ T7 (mkF m 26 #[.val (.ref x0), .val (.ref x1), .val (.ref x2), .val (.long x3), .second, .val (.long x4), .second, .val .null, .val (.long x6), .second, .val (.int x7), .val (.ref x8)] [(.ref x0)])
  refine Go.step (fun _ kt_ => XS.aload X7.here hx rfl (hb hby d13_26) rfl rfl kt_) ?_
  show Go _ _ _ _ _ _ _ _ T7 (mkF m 28 #[.val (.ref x0), .val (.ref x1), .val (.ref x2), .val (.long x3), .second, .val (.long x4), .second, .val .null, .val (.long x6), .second, .val (.int x7), .val (.ref x8)] [.null, (.ref x0)])
  have f8 := (Exa.wr W7 (Exa.wr W5 (Exa.wr W3 (Exa.wr W2 r0))))
  have f9 := (Fld.other W7 (Fld.other W5 (Fld.other W3 (Fld.other W2 r6 (Or.inr (sn_10 hw))) (Or.inr (sn_11 hw))) (Or.inr (sn_12 hw))) (Or.inr (sn_13 hw)))
  obtain ⟨T10, h10, X10, e10, W10, st10⟩ := putF X7 hx hZ hown (host := "") (Or.inl (hw _ (List.mem_of_getElem? (i := 117) rfl))) Via.refl e7 f9 f8 (Or.inr ⟨(hw _ (List.mem_of_getElem? (i := 118) rfl)), rfl, hnm⟩) (hw _ (List.mem_of_getElem? (i := 94) rfl)) (ty := (.object "java/time/Instant")) pf_Ljava_time_Instant_ rfl rfl (g := (mkF m 28 #[.val (.ref x0), .val (.ref x1), .val (.ref x2), .val (.long x3), .second, .val (.long x4), .second, .val .null, .val (.long x6), .second, .val (.int x7), .val (.ref x8)] [.null, (.ref x0)])) rfl rfl (hb hby d13_28)
  refine Go.step st10 ?_
  have N10_ := Fr.snoc X10 N7_ r2
  have O10_ : Ext Z.heap h10 := extWr O7_ W10 r2
  have K10 := Keep.wr K7 W10 (Or.inl (List.mem_of_getElem? (i := 0) rfl))
  have F10 := Fld.same W10 f9
  show Go _ _ _ _ _ _ _ _ T10 (mkF m 31 #[.val (.ref x0), .val (.ref x1), .val (.ref x2), .val (.long x3), .second, .val (.long x4), .second, .val .null, .val (.long x6), .second, .val (.int x7), .val (.ref x8)] [])
  refine Go.step (fun _ kt_ => XS.aloadN X10.here hx rfl (hb hby d13_31) rfl rfl kt_) ?_
  show Go _ _ _ _ _ _ _ _ T10 (mkF m 32 #[.val (.ref x0), .val (.ref x1), .val (.ref x2), .val (.long x3), .second, .val (.long x4), .second, .val .null, .val (.long x6), .second, .val (.int x7), .val (.ref x8)] [(.ref x0)])
  refine Go.step (fun _ kt_ => XS.lload X10.here hx rfl (hb hby d13_32) rfl kt_) ?_
  show Go _ _ _ _ _ _ _ _ T10 (mkF m 34 #[.val (.ref x0), .val (.ref x1), .val (.ref x2), .val (.long x3), .second, .val (.long x4), .second, .val .null, .val (.long x6), .second, .val (.int x7), .val (.ref x8)] [(.long x6), (.ref x0)])
  have f11 := (Fld.other W10 (Fld.other W7 (Fld.other W5 (Fld.other W3 (Fld.other W2 r7 (Or.inr (sn_14 hw))) (Or.inr (sn_15 hw))) (Or.inr (sn_16 hw))) (Or.inr (sn_17 hw))) (Or.inr (sn_18 hw)))
  obtain ⟨T12, h12, X12, e12, W12, st12⟩ := putF X10 hx hZ hown (host := "") (Or.inl (hw _ (List.mem_of_getElem? (i := 119) rfl))) Via.refl e10 f11 (Exa.wr W10 f8) (Or.inr ⟨(hw _ (List.mem_of_getElem? (i := 120) rfl)), rfl, hnm⟩) (hw _ (List.mem_of_getElem? (i := 94) rfl)) (ty := .long) pf_J rfl rfl (g := (mkF m 34 #[.val (.ref x0), .val (.ref x1), .val (.ref x2), .val (.long x3), .second, .val (.long x4), .second, .val .null, .val (.long x6), .second, .val (.int x7), .val (.ref x8)] [(.long x6), (.ref x0)])) rfl rfl (hb hby d13_34)
  refine Go.step st12 ?_
  have N12_ := Fr.snoc X12 N10_ r2
  have O12_ : Ext Z.heap h12 := extWr O10_ W12 r2
  have K12 := Keep.wr K10 W12 (Or.inl (List.mem_of_getElem? (i := 0) rfl))
  have F12 := Fld.same W12 f11
  show Go _ _ _ _ _ _ _ _ T12 (mkF m 37 #[.val (.ref x0), .val (.ref x1), .val (.ref x2), .val (.long x3), .second, .val (.long x4), .second, .val .null, .val (.long x6), .second, .val (.int x7), .val (.ref x8)] [])
  refine Go.step (fun _ kt_ => XS.aloadN X12.here hx rfl (hb hby d13_37) rfl rfl kt_) ?_
  show Go _ _ _ _ _ _ _ _ T12 (mkF m 38 #[.val (.ref x0), .val (.ref x1), .val (.ref x2), .val (.long x3), .second, .val (.long x4), .second, .val .null, .val (.long x6), .second, .val (.int x7), .val (.ref x8)] [(.ref x0)])
  refine Go.step (fun _ kt_ => XS.iload X12.here hx rfl (hb hby d13_38) rfl kt_) ?_
  show Go _ _ _ _ _ _ _ _ T12 (mkF m 40 #[.val (.ref x0), .val (.ref x1), .val (.ref x2), .val (.long x3), .second, .val (.long x4), .second, .val .null, .val (.long x6), .second, .val (.int x7), .val (.ref x8)] [(.int x7), (.ref x0)])
  have f13 := (Fld.other W12 (Fld.other W10 (Fld.other W7 (Fld.other W5 (Fld.other W3 (Fld.other W2 r8 (Or.inr (sn_19 hw))) (Or.inr (sn_20 hw))) (Or.inr (sn_21 hw))) (Or.inr (sn_22 hw))) (Or.inr (sn_23 hw))) (Or.inr (sn_24 hw)))
  obtain ⟨T14, h14, X14, e14, W14, st14⟩ := putF X12 hx hZ hown (host := "") (Or.inl (hw _ (List.mem_of_getElem? (i := 121) rfl))) Via.refl e12 f13 (Exa.wr W12 (Exa.wr W10 f8)) (Or.inr ⟨(hw _ (List.mem_of_getElem? (i := 122) rfl)), rfl, hnm⟩) (hw _ (List.mem_of_getElem? (i := 94) rfl)) (ty := .int) pf_I rfl rfl (g := (mkF m 40 #[.val (.ref x0), .val (.ref x1), .val (.ref x2), .val (.long x3), .second, .val (.long x4), .second, .val .null, .val (.long x6), .second, .val (.int x7), .val (.ref x8)] [(.int x7), (.ref x0)])) rfl rfl (hb hby d13_40)
  refine Go.step st14 ?_
  have N14_ := Fr.snoc X14 N12_ r2
  have O14_ : Ext Z.heap h14 := extWr O12_ W14 r2
  have K14 := Keep.wr K12 W14 (Or.inl (List.mem_of_getElem? (i := 0) rfl))
  have F14 := Fld.same W14 f13
  show Go _ _ _ _ _ _ _ _ T14 (mkF m 43 #[.val (.ref x0), .val (.ref x1), .val (.ref x2), .val (.long x3), .second, .val (.long x4), .second, .val .null, .val (.long x6), .second, .val (.int x7), .val (.ref x8)] [])
  refine Go.step (fun _ kt_ => XS.aloadN X14.here hx rfl (hb hby d13_43) rfl rfl kt_) ?_
  show Go _ _ _ _ _ _ _ _ T14 (mkF m 44 #[.val (.ref x0), .val (.ref x1), .val (.ref x2), .val (.long x3), .second, .val (.long x4), .second, .val .null, .val (.long x6), .second, .val (.int x7), .val (.ref x8)] [(.ref x0)])
  refine Go.step (fun _ kt_ => XS.aload X14.here hx rfl (hb hby d13_44) rfl rfl kt_) ?_
  show Go _ _ _ _ _ _ _ _ T14 (mkF m 46 #[.val (.ref x0), .val (.ref x1), .val (.ref x2), .val (.long x3), .second, .val (.long x4), .second, .val .null, .val (.long x6), .second, .val (.int x7), .val (.ref x8)] [(.ref x8), (.ref x0)])
  have f15 := (Exa.wr W14 (Exa.wr W12 (Exa.wr W10 f8)))
  have f16 := (Fld.other W14 (Fld.other W12 (Fld.other W10 (Fld.other W7 (Fld.other W5 (Fld.other W3 (Fld.other W2 r9 (Or.inr (sn_25 hw))) (Or.inr (sn_26 hw))) (Or.inr (sn_27 hw))) (Or.inr (sn_28 hw))) (Or.inr (sn_29 hw))) (Or.inr (sn_30 hw))) (Or.inr (sn_31 hw)))
  obtain ⟨T17, h17, X17, e17, W17, st17⟩ := putF X14 hx hZ hown (host := "") (Or.inl (hw _ (List.mem_of_getElem? (i := 123) rfl))) Via.refl e14 f16 f15 (Or.inr ⟨(hw _ (List.mem_of_getElem? (i := 124) rfl)), rfl, hnm⟩) (hw _ (List.mem_of_getElem? (i := 94) rfl)) (ty := (.object "com/example/wary_lock/warylock/LockMode")) pf_Lcom_example_wary_lock_warylock_LockMode_ rfl rfl (g := (mkF m 46 #[.val (.ref x0), .val (.ref x1), .val (.ref x2), .val (.long x3), .second, .val (.long x4), .second, .val .null, .val (.long x6), .second, .val (.int x7), .val (.ref x8)] [(.ref x8), (.ref x0)])) rfl rfl (hb hby d13_46)
  refine Go.step st17 ?_
  have N17_ := Fr.snoc X17 N14_ r2
  have O17_ : Ext Z.heap h17 := extWr O14_ W17 r2
  have K17 := Keep.wr K14 W17 (Or.inl (List.mem_of_getElem? (i := 0) rfl))
  have F17 := Fld.same W17 f16
  show Go _ _ _ _ _ _ _ _ T17 (mkF m 49 #[.val (.ref x0), .val (.ref x1), .val (.ref x2), .val (.long x3), .second, .val (.long x4), .second, .val .null, .val (.long x6), .second, .val (.int x7), .val (.ref x8)] [])
  exact Go.retV X17 hx Bd.returns hlk (hb hby d13_49) (by decide) (by decide) (by show Q_a13_0 _ _ _ _ _ _ _ _ _ _ _ _ _ _ _ _ _ _ _ _ _ _ _ _ _ _; rw [e17]; exact ⟨rfl, N17_, K17, (Fld.other W17 (Fld.other W14 (Fld.other W12 (Fld.other W10 (Fld.other W7 (Fld.other W5 (Fld.other W3 F2 (Or.inr (Ne.symm (sn_4 hw)))) (Or.inr (Ne.symm (sn_5 hw)))) (Or.inr (Ne.symm (sn_7 hw)))) (Or.inr (Ne.symm (sn_10 hw)))) (Or.inr (Ne.symm (sn_14 hw)))) (Or.inr (Ne.symm (sn_19 hw)))) (Or.inr (Ne.symm (sn_25 hw)))), (Fld.other W17 (Fld.other W14 (Fld.other W12 (Fld.other W10 (Fld.other W7 (Fld.other W5 F3 (Or.inr (Ne.symm (sn_6 hw)))) (Or.inr (Ne.symm (sn_8 hw)))) (Or.inr (Ne.symm (sn_11 hw)))) (Or.inr (Ne.symm (sn_15 hw)))) (Or.inr (Ne.symm (sn_20 hw)))) (Or.inr (Ne.symm (sn_26 hw)))), (Fld.other W17 (Fld.other W14 (Fld.other W12 (Fld.other W10 (Fld.other W7 F5 (Or.inr (Ne.symm (sn_9 hw)))) (Or.inr (Ne.symm (sn_12 hw)))) (Or.inr (Ne.symm (sn_16 hw)))) (Or.inr (Ne.symm (sn_21 hw)))) (Or.inr (Ne.symm (sn_27 hw)))), (Fld.other W17 (Fld.other W14 (Fld.other W12 (Fld.other W10 F7 (Or.inr (Ne.symm (sn_13 hw)))) (Or.inr (Ne.symm (sn_17 hw)))) (Or.inr (Ne.symm (sn_22 hw)))) (Or.inr (Ne.symm (sn_28 hw)))), (Fld.other W17 (Fld.other W14 (Fld.other W12 F10 (Or.inr (Ne.symm (sn_18 hw)))) (Or.inr (Ne.symm (sn_23 hw)))) (Or.inr (Ne.symm (sn_29 hw)))), (Fld.other W17 (Fld.other W14 F12 (Or.inr (Ne.symm (sn_24 hw)))) (Or.inr (Ne.symm (sn_30 hw)))), (Fld.other W17 F14 (Or.inr (Ne.symm (sn_31 hw)))), F17⟩)
theorem pd_LLjava_lang_String_Ljava_lang_String_JJLjava_time_Instant_JILcom_example_wary_lock_warylock_LockMode_RV : parseMethodDescriptor "(Ljava/lang/String;Ljava/lang/String;JJLjava/time/Instant;JILcom/example/wary_lock/warylock/LockMode;)V" = some ⟨[(.object "java/lang/String"), (.object "java/lang/String"), .long, .long, (.object "java/time/Instant"), .long, .int, (.object "com/example/wary_lock/warylock/LockMode")], none⟩ := by decide +kernel
theorem d14_0 : decode jdk_38_method_25_code 0 = .ok (.aload_n 0, 1) := by decide +kernel
theorem d14_1 : decode jdk_38_method_25_code 1 = .ok (.dup, 1) := by decide +kernel
theorem d14_2 : decode jdk_38_method_25_code 2 = .ok (.getfield 63, 3) := by decide +kernel
theorem d14_5 : decode jdk_38_method_25_code 5 = .ok (.iconst 1, 1) := by decide +kernel
theorem d14_6 : decode jdk_38_method_25_code 6 = .ok (.iadd, 1) := by decide +kernel
theorem d14_7 : decode jdk_38_method_25_code 7 = .ok (.putfield 63, 3) := by decide +kernel
theorem d14_10 : decode jdk_38_method_25_code 10 = .ok (.aload_n 0, 1) := by decide +kernel
theorem d14_11 : decode jdk_38_method_25_code 11 = .ok (.aload_n 1, 1) := by decide +kernel
theorem d14_12 : decode jdk_38_method_25_code 12 = .ok (.aload_n 0, 1) := by decide +kernel
theorem d14_13 : decode jdk_38_method_25_code 13 = .ok (.getfield 9, 3) := by decide +kernel
theorem d14_16 : decode jdk_38_method_25_code 16 = .ok (.aload_n 0, 1) := by decide +kernel
theorem d14_17 : decode jdk_38_method_25_code 17 = .ok (.getfield 48, 3) := by decide +kernel
theorem d14_20 : decode jdk_38_method_25_code 20 = .ok (.invokevirtual 131, 3) := by decide +kernel
theorem d15_0 : decode jdk_38_method_24_code 0 = .ok (.iload_n 3, 1) := by decide +kernel
theorem d15_1 : decode jdk_38_method_24_code 1 = .ok (.aload_n 2, 1) := by decide +kernel
theorem d15_2 : decode jdk_38_method_24_code 2 = .ok (.arraylength, 1) := by decide +kernel
theorem d15_3 : decode jdk_38_method_24_code 3 = .ok (.if_icmp .ne 8, 3) := by decide +kernel
theorem d15_6 : decode jdk_38_method_24_code 6 = .ok (.aload_n 0, 1) := by decide +kernel
theorem d15_7 : decode jdk_38_method_24_code 7 = .ok (.invokevirtual 129, 3) := by decide +kernel
theorem d16_0 : decode jdk_38_method_7_code 0 = .ok (.aload_n 0, 1) := by decide +kernel
theorem d16_1 : decode jdk_38_method_7_code 1 = .ok (.aload_n 0, 1) := by decide +kernel
theorem d16_2 : decode jdk_38_method_7_code 2 = .ok (.getfield 48, 3) := by decide +kernel
theorem d16_5 : decode jdk_38_method_7_code 5 = .ok (.iconst 1, 1) := by decide +kernel
theorem d16_6 : decode jdk_38_method_7_code 6 = .ok (.iadd, 1) := by decide +kernel
theorem d16_7 : decode jdk_38_method_7_code 7 = .ok (.invokevirtual 69, 3) := by decide +kernel
theorem d17_0 : decode jdk_38_method_6_code 0 = .ok (.aload_n 0, 1) := by decide +kernel
theorem d17_1 : decode jdk_38_method_6_code 1 = .ok (.getfield 9, 3) := by decide +kernel
theorem d17_4 : decode jdk_38_method_6_code 4 = .ok (.arraylength, 1) := by decide +kernel
theorem d17_5 : decode jdk_38_method_6_code 5 = .ok (.istore_n 2, 1) := by decide +kernel
theorem d17_6 : decode jdk_38_method_6_code 6 = .ok (.iload_n 2, 1) := by decide +kernel
theorem d17_7 : decode jdk_38_method_6_code 7 = .ok (.ifCond .gt 13, 3) := by decide +kernel
theorem d17_10 : decode jdk_38_method_6_code 10 = .ok (.aload_n 0, 1) := by decide +kernel
theorem d17_11 : decode jdk_38_method_6_code 11 = .ok (.getfield 9, 3) := by decide +kernel
theorem d17_14 : decode jdk_38_method_6_code 14 = .ok (.getstatic 39, 3) := by decide +kernel
theorem d17_17 : decode jdk_38_method_6_code 17 = .ok (.if_acmp .eq 28, 3) := by decide +kernel
theorem d17_45 : decode jdk_38_method_6_code 45 = .ok (.aload_n 0, 1) := by decide +kernel
theorem d17_46 : decode jdk_38_method_6_code 46 = .ok (.bipush 10, 2) := by decide +kernel
theorem d17_48 : decode jdk_38_method_6_code 48 = .ok (.iload_n 1, 1) := by decide +kernel
theorem d17_49 : decode jdk_38_method_6_code 49 = .ok (.invokestatic 79, 3) := by decide +kernel
theorem d18_0 : decode jdk_29_method_65_code 0 = .ok (.iload_n 0, 1) := by decide +kernel
theorem d18_1 : decode jdk_29_method_65_code 1 = .ok (.iload_n 1, 1) := by decide +kernel
theorem d18_2 : decode jdk_29_method_65_code 2 = .ok (.if_icmp .lt 7, 3) := by decide +kernel
theorem d18_5 : decode jdk_29_method_65_code 5 = .ok (.iload_n 0, 1) := by decide +kernel
theorem d18_6 : decode jdk_29_method_65_code 6 = .ok (.goto 4, 3) := by decide +kernel
theorem d18_10 : decode jdk_29_method_65_code 10 = .ok (.ireturn, 1) := by decide +kernel
theorem ef_a18_0 (m : MethodId) (y0 : Int32) (y1 : Int32) : entryFrame m #[(.int y0), (.int y1)] 2 = mkF m 0 #[.val (.int y0), .val (.int y1)] [] := by first | (simp [entryFrame, mkF, argsToLocals, Value.category]; done) | rfl
def Q_a18_0 (Z : State) (dc : Addr) (kdc : ClassId) (el : Addr) (ee : Addr) (kee : ClassId) (ca : Addr) (cc : Cell) (eo : Addr) (mo : Addr) (x0 : Int32) (x1 : Int32) (h0 : Heap) (v : Option Value) (h : Heap) (L : List Loc) : Prop := v = some (.int x0) ∧ Fr Z.heap.size L ∧ h = h0
set_option maxRecDepth 65536 in
set_option maxHeartbeats 40000000 in
theorem rm_a18_0 (l : Launch) (Z : State) (a0 : Array Value) (hw : ∀ d ∈ tables_1, d.before a0 Z = true) (ws : List Jvm.Cond) (dc : Addr) (kdc : ClassId) (el : Addr) (ee : Addr) (kee : ClassId) (ca : Addr) (cc : Cell) (eo : Addr) (mo : Addr) (G_dc : Sta Z Z.heap "java/util/ArrayList" "DEFAULTCAPACITY_EMPTY_ELEMENTDATA" "[Ljava/lang/Object;" (.ref dc)) (G_dce : Exa Z Z.heap dc "[Ljava/lang/Object;") (G_dcv : Arv Z Z.heap dc kdc (.object "java/lang/Object") (0 : Int32) [] .null) (G_el : Sta Z Z.heap "java/util/ImmutableCollections" "EMPTY_LIST" "Ljava/util/ImmutableCollections$ListN;" (.ref el)) (G_ele : Exa Z Z.heap el "java/util/ImmutableCollections$ListN") (G_elf : Fld Z Z.heap el "java/util/ImmutableCollections$ListN" "elements" "[Ljava/lang/Object;" (.ref ee)) (G_eev : Arv Z Z.heap ee kee (.object "java/lang/Object") (0 : Int32) [] .null) (G_hi : Sta Z Z.heap "java/lang/Integer$IntegerCache" "high" "I" (.int (127 : Int32))) (G_ca : Sta Z Z.heap "java/lang/Integer$IntegerCache" "cache" "[Ljava/lang/Integer;" (.ref ca)) (G_bx : Bxs Z ca cc "java/lang/Integer" "I" 256 (fun j => .int (j - 128))) (G_eo : Sta Z Z.heap "java/util/ImmutableCollections" "EMPTY" "Ljava/lang/Object;" (.ref eo)) (G_eoe : Exa Z Z.heap eo "java/lang/Object") (G_mo : MirO Z "[Ljava/lang/Object;" mo) (x0 : Int32) (x1 : Int32) (h0 : Heap) (O0 : Ext Z.heap h0) (r0 : ¬ (x0 < x1)) :
    MetFree l (⟨"java/lang/Math", "max", "(II)I"⟩ : MethodName) (head1 (Jvm.Cond.code (⟨"java/lang/Math", "max", "(II)I"⟩ : MethodName) jdk_29_method_65_code 2 (some .int) :: ws) ({ frames := 0, cells := 0, slots := 0, locals := 0 } : Room)) (fun a U => a = #[(.int x0), (.int x1)] ∧ Z.Warmed39 U.vm ∧ U.heap = h0) (fun _ _ _ _ _ => True) (fun _ U o U' => ∃ v L, o = .returned v ∧ Q_a18_0 Z dc kdc el ee kee ca cc eo mo x0 x1 h0 v U'.heap L ∧ FrameEnd U o U' L ({ frames := 0, cells := 0, slots := 0, locals := 0 } : Room).cells ({ frames := 0, cells := 0, slots := 0, locals := 0 } : Room).slots) := by
  refine MetFree.of_bodySF (Jvm.Free.JP.mathPlain rfl (by decide +kernel)) hisR ?_
  intro p e s m args below meth c s₁ Bd hml0 hP hK
  obtain ⟨rfl, hZ, hh⟩ := hP
  have hx := Bd.exec
  have hby := Bd.bytes
  have hlk := Bd.notSynchronized
  have hml : c.maxLocals = 2 := hml0
  have hown : s.vm.findClass "java/lang/Math" = some m.cls := findClass_of_methodNamed Bd.named
  have hnm := (name_of_methodNamed Bd.named Bd.method).1
  have X0 : Stand p l e ({ frames := 0, cells := 0, slots := 0, locals := 0 } : Room) s m #[(.int x0), (.int x1)] below meth c s₁ [] 0 0 := Stand.of_body Bd
  have e0 : s₁.heap = h0 := by rw [← hh, Bd.state]; rfl
  have N0 := Fr.nil Z.heap.size
  show Go FrameEnd p e below s ({ frames := 0, cells := 0, slots := 0, locals := 0 } : Room).cells ({ frames := 0, cells := 0, slots := 0, locals := 0 } : Room).slots (Q_a18_0 Z dc kdc el ee kee ca cc eo mo x0 x1 h0) s₁ (entryFrame m #[(.int x0), (.int x1)] 2)
  refine Go.cast (ef_a18_0 m x0 x1) ?_
  show Go _ _ _ _ _ _ _ _ s₁ (mkF m 0 #[.val (.int x0), .val (.int x1)] [])
  refine Go.step (fun _ kt_ => XS.iloadN X0.here hx rfl (hb hby d18_0) rfl kt_) ?_
  show Go _ _ _ _ _ _ _ _ s₁ (mkF m 1 #[.val (.int x0), .val (.int x1)] [(.int x0)])
  refine Go.step (fun _ kt_ => XS.iloadN X0.here hx rfl (hb hby d18_1) rfl kt_) ?_
  show Go _ _ _ _ _ _ _ _ s₁ (mkF m 2 #[.val (.int x0), .val (.int x1)] [(.int x1), (.int x0)])
  refine Go.step (fun _ kt_ => XS.icmpNo X0.here hx rfl (hb hby d18_2) rfl (flt r0).1 kt_) ?_
  show Go _ _ _ _ _ _ _ _ s₁ (mkF m 5 #[.val (.int x0), .val (.int x1)] [])
  refine Go.step (fun _ kt_ => XS.iloadN X0.here hx rfl (hb hby d18_5) rfl kt_) ?_
  show Go _ _ _ _ _ _ _ _ s₁ (mkF m 6 #[.val (.int x0), .val (.int x1)] [(.int x0)])
  refine Go.step (fun _ kt_ => XS.goto X0.here hx rfl (pc0 := 6) (pc' := 10) rfl (hb hby d18_6) (by decide) (by decide) kt_) ?_
  show Go _ _ _ _ _ _ _ _ s₁ (mkF m 10 #[.val (.int x0), .val (.int x1)] [(.int x0)])
  exact Go.retI X0 hx Bd.returns hlk (hb hby d18_10) (by decide) (by decide) (by show _ ∧ _ ∧ _; rw [e0]; exact ⟨rfl, N0, rfl⟩)
theorem pd_LIIRI : parseMethodDescriptor "(II)I" = some ⟨[.int, .int], some .int⟩ := by decide +kernel
theorem d17_52 : decode jdk_38_method_6_code 52 = .ok (.anewarray 7, 3) := by decide +kernel
theorem d17_55 : decode jdk_38_method_6_code 55 = .ok (.dup_x1, 1) := by decide +kernel
theorem d17_56 : decode jdk_38_method_6_code 56 = .ok (.putfield 9, 3) := by decide +kernel
theorem d17_59 : decode jdk_38_method_6_code 59 = .ok (.areturn, 1) := by decide +kernel
theorem pn_17 : plainName "java/util/ArrayList" = true := by first | (simp [plainName, overriddenIn]; done) | decide +kernel
theorem ef_a17_0 (m : MethodId) (y0 : Addr) (y1 : Int32) : entryFrame m #[(.ref y0), (.int y1)] 4 = mkF m 0 #[.val (.ref y0), .val (.int y1), .unset, .unset] [] := by first | (simp [entryFrame, mkF, argsToLocals, Value.category]; done) | rfl
def Q_a17_0 (Z : State) (dc : Addr) (kdc : ClassId) (el : Addr) (ee : Addr) (kee : ClassId) (ca : Addr) (cc : Cell) (eo : Addr) (mo : Addr) (x0 : Addr) (x1 : Int32) (w1 : Int32) (w2 : Int32) (h0 : Heap) (v : Option Value) (h : Heap) (L : List Loc) : Prop := ∃ (b6 : Addr) (k6 : ClassId), v = some (.ref b6) ∧ Fr Z.heap.size L ∧ Keep h0 h [x0] ∧ Fld Z h x0 "java/util/ArrayList" "elementData" "[Ljava/lang/Object;" (.ref b6) ∧ Fld Z h x0 "java/util/ArrayList" "size" "I" (.int w1) ∧ Fld Z h x0 "java/util/AbstractList" "modCount" "I" (.int w2) ∧ h0.size ≤ b6 ∧ Exa Z h b6 "[Ljava/lang/Object;" ∧ Arv Z h b6 k6 (.object "java/lang/Object") (10 : Int32) [.null, .null, .null, .null, .null, .null, .null, .null, .null, .null] .null ∧ Ovr Z k6 "java/lang/Object"
set_option maxRecDepth 65536 in
set_option maxHeartbeats 40000000 in
theorem rm_a17_0 (l : Launch) (Z : State) (a0 : Array Value) (hw : ∀ d ∈ tables_1, d.before a0 Z = true) (ws : List Jvm.Cond) (dc : Addr) (kdc : ClassId) (el : Addr) (ee : Addr) (kee : ClassId) (ca : Addr) (cc : Cell) (eo : Addr) (mo : Addr) (G_dc : Sta Z Z.heap "java/util/ArrayList" "DEFAULTCAPACITY_EMPTY_ELEMENTDATA" "[Ljava/lang/Object;" (.ref dc)) (G_dce : Exa Z Z.heap dc "[Ljava/lang/Object;") (G_dcv : Arv Z Z.heap dc kdc (.object "java/lang/Object") (0 : Int32) [] .null) (G_el : Sta Z Z.heap "java/util/ImmutableCollections" "EMPTY_LIST" "Ljava/util/ImmutableCollections$ListN;" (.ref el)) (G_ele : Exa Z Z.heap el "java/util/ImmutableCollections$ListN") (G_elf : Fld Z Z.heap el "java/util/ImmutableCollections$ListN" "elements" "[Ljava/lang/Object;" (.ref ee)) (G_eev : Arv Z Z.heap ee kee (.object "java/lang/Object") (0 : Int32) [] .null) (G_hi : Sta Z Z.heap "java/lang/Integer$IntegerCache" "high" "I" (.int (127 : Int32))) (G_ca : Sta Z Z.heap "java/lang/Integer$IntegerCache" "cache" "[Ljava/lang/Integer;" (.ref ca)) (G_bx : Bxs Z ca cc "java/lang/Integer" "I" 256 (fun j => .int (j - 128))) (G_eo : Sta Z Z.heap "java/util/ImmutableCollections" "EMPTY" "Ljava/lang/Object;" (.ref eo)) (G_eoe : Exa Z Z.heap eo "java/lang/Object") (G_mo : MirO Z "[Ljava/lang/Object;" mo) (x0 : Addr) (x1 : Int32) (w1 : Int32) (w2 : Int32) (h0 : Heap) (O0 : Ext Z.heap h0) (r0 : Fld Z h0 x0 "java/util/ArrayList" "elementData" "[Ljava/lang/Object;" (.ref dc)) (r1 : ¬ ((10 : Int32) < x1)) (r2 : Exa Z h0 x0 "java/util/ArrayList") (r3 : Z.heap.size ≤ x0) (r4 : Fld Z h0 x0 "java/util/ArrayList" "size" "I" (.int w1)) (r5 : Fld Z h0 x0 "java/util/AbstractList" "modCount" "I" (.int w2)) :
    MetFree l (⟨"java/util/ArrayList", "grow", "(I)[Ljava/lang/Object;"⟩ : MethodName) (head1 (Jvm.Cond.code (⟨"java/util/ArrayList", "grow", "(I)[Ljava/lang/Object;"⟩ : MethodName) jdk_38_method_6_code 4 (some (.array (.object "java/lang/Object"))) :: ws) ({ frames := 1, cells := 1, slots := 10, locals := 14 } : Room)) (fun a U => a = #[(.ref x0), (.int x1)] ∧ Z.Warmed39 U.vm ∧ U.heap = h0) (fun _ _ _ _ _ => True) (fun _ U o U' => ∃ v L, o = .returned v ∧ Q_a17_0 Z dc kdc el ee kee ca cc eo mo x0 x1 w1 w2 h0 v U'.heap L ∧ FrameEnd U o U' L ({ frames := 1, cells := 1, slots := 10, locals := 14 } : Room).cells ({ frames := 1, cells := 1, slots := 10, locals := 14 } : Room).slots) := by
  refine MetFree.of_bodySF (plainFor_of_name pn_17) hisR ?_
  intro p e s m args below meth c s₁ Bd hml0 hP hK
  obtain ⟨rfl, hZ, hh⟩ := hP
  have hx := Bd.exec
  have hby := Bd.bytes
  have hlk := Bd.notSynchronized
  have hml : c.maxLocals = 4 := hml0
  have hown : s.vm.findClass "java/util/ArrayList" = some m.cls := findClass_of_methodNamed Bd.named
  have hnm := (name_of_methodNamed Bd.named Bd.method).1
  have X0 : Stand p l e ({ frames := 1, cells := 1, slots := 10, locals := 14 } : Room) s m #[(.ref x0), (.int x1)] below meth c s₁ [] 0 0 := Stand.of_body Bd
  have e0 : s₁.heap = h0 := by rw [← hh, Bd.state]; rfl
  have N0 := Fr.nil Z.heap.size
  show Go FrameEnd p e below s ({ frames := 1, cells := 1, slots := 10, locals := 14 } : Room).cells ({ frames := 1, cells := 1, slots := 10, locals := 14 } : Room).slots (Q_a17_0 Z dc kdc el ee kee ca cc eo mo x0 x1 w1 w2 h0) s₁ (entryFrame m #[(.ref x0), (.int x1)] 4)
  refine Go.cast (ef_a17_0 m x0 x1) ?_
  show Go _ _ _ _ _ _ _ _ s₁ (mkF m 0 #[.val (.ref x0), .val (.int x1), .unset, .unset] [])
  refine Go.step (fun _ kt_ => XS.aloadN X0.here hx rfl (hb hby d17_0) rfl rfl kt_) ?_
  show Go _ _ _ _ _ _ _ _ s₁ (mkF m 1 #[.val (.ref x0), .val (.int x1), .unset, .unset] [(.ref x0)])
  obtain ⟨T1, X1, e1, st1⟩ := getF X0 hx hZ hown (host := "") (Or.inl (hw _ (List.mem_of_getElem? (i := 29) rfl))) Via.refl e0 r0 (g := (mkF m 1 #[.val (.ref x0), .val (.int x1), .unset, .unset] [(.ref x0)])) rfl rfl (hb hby d17_1)
  refine Go.step st1 ?_
  show Go _ _ _ _ _ _ _ _ T1 (mkF m 4 #[.val (.ref x0), .val (.int x1), .unset, .unset] [(.ref dc)])
  obtain ⟨cl2, Ar2, -, S2, N2, -, -⟩ := id (Arv.ext G_dcv O0)
  refine Go.step (X1.arraylength hx (by rw [e1]; exact Ar2.1) (State.isArrayOf_alike hZ.alike Ar2.2.1) (g := (mkF m 4 #[.val (.ref x0), .val (.int x1), .unset, .unset] [(.ref dc)])) rfl rfl (hb hby d17_4)) ?_
  rw [len_of S2 N2]
  show Go _ _ _ _ _ _ _ _ T1 (mkF m 5 #[.val (.ref x0), .val (.int x1), .unset, .unset] [(.int (0 : Int32))])
  refine Go.step (fun _ kt_ => XS.istoreN X1.here hx rfl (hb hby d17_5) rfl (l' := #[.val (.ref x0), .val (.int x1), .val (.int (0 : Int32)), .unset]) rfl kt_) ?_
  show Go _ _ _ _ _ _ _ _ T1 (mkF m 6 #[.val (.ref x0), .val (.int x1), .val (.int (0 : Int32)), .unset] [])
  refine Go.step (fun _ kt_ => XS.iloadN X1.here hx rfl (hb hby d17_6) rfl kt_) ?_
  show Go _ _ _ _ _ _ _ _ T1 (mkF m 7 #[.val (.ref x0), .val (.int x1), .val (.int (0 : Int32)), .unset] [(.int (0 : Int32))])
  refine Go.step (fun _ kt_ => XS.ifNo X1.here hx rfl (hb hby d17_7) rfl ((if0 _ _).trans (flt (by decide : ¬ ((0 : Int32) < (0 : Int32)))).2.2.1) kt_) ?_
  show Go _ _ _ _ _ _ _ _ T1 (mkF m 10 #[.val (.ref x0), .val (.int x1), .val (.int (0 : Int32)), .unset] [])
  refine Go.step (fun _ kt_ => XS.aloadN X1.here hx rfl (hb hby d17_10) rfl rfl kt_) ?_
  show Go _ _ _ _ _ _ _ _ T1 (mkF m 11 #[.val (.ref x0), .val (.int x1), .val (.int (0 : Int32)), .unset] [(.ref x0)])
  obtain ⟨T3, X3, e3, st3⟩ := getF X1 hx hZ hown (host := "") (Or.inl (hw _ (List.mem_of_getElem? (i := 29) rfl))) Via.refl e1 r0 (g := (mkF m 11 #[.val (.ref x0), .val (.int x1), .val (.int (0 : Int32)), .unset] [(.ref x0)])) rfl rfl (hb hby d17_11)
  refine Go.step st3 ?_
  show Go _ _ _ _ _ _ _ _ T3 (mkF m 14 #[.val (.ref x0), .val (.int x1), .val (.int (0 : Int32)), .unset] [(.ref dc)])
  obtain ⟨T4, X4, e4, st4⟩ := getS2 X3 hx hZ hown (host := "") (Or.inl (hw _ (List.mem_of_getElem? (i := 28) rfl))) Via.refl e3 (Sta.ext O0 G_dc) (g := (mkF m 14 #[.val (.ref x0), .val (.int x1), .val (.int (0 : Int32)), .unset] [(.ref dc)])) rfl (hb hby d17_14)
  refine Go.step st4 ?_
  show Go _ _ _ _ _ _ _ _ T4 (mkF m 17 #[.val (.ref x0), .val (.int x1), .val (.int (0 : Int32)), .unset] [(.ref dc), (.ref dc)])
  refine Go.step (fun _ kt_ => Jvm.RoadKit.acmp (g := (mkF m 17 #[.val (.ref x0), .val (.int x1), .val (.int (0 : Int32)), .unset] [(.ref dc), (.ref dc)])) X4 hx rfl rfl rfl (pc0 := 17) (pc' := 45) (same := true) rfl (hb hby d17_17) rfl (decide_eq_true rfl) (by decide) (by decide) kt_) ?_
  show Go _ _ _ _ _ _ _ _ T4 (mkF m 45 #[.val (.ref x0), .val (.int x1), .val (.int (0 : Int32)), .unset] [])
  refine Go.step (fun _ kt_ => XS.aloadN X4.here hx rfl (hb hby d17_45) rfl rfl kt_) ?_
  show Go _ _ _ _ _ _ _ _ T4 (mkF m 46 #[.val (.ref x0), .val (.int x1), .val (.int (0 : Int32)), .unset] [(.ref x0)])
  refine Go.step (fun _ kt_ => XS.bipush X4.here hx rfl (hb hby d17_46)  kt_) ?_
  show Go _ _ _ _ _ _ _ _ T4 (mkF m 48 #[.val (.ref x0), .val (.int x1), .val (.int (0 : Int32)), .unset] [(.int (10 : Int32)), (.ref x0)])
  refine Go.step (fun _ kt_ => XS.iloadN X4.here hx rfl (hb hby d17_48) rfl kt_) ?_
  show Go _ _ _ _ _ _ _ _ T4 (mkF m 49 #[.val (.ref x0), .val (.int x1), .val (.int (0 : Int32)), .unset] [(.int x1), (.int (10 : Int32)), (.ref x0)])
  obtain ⟨_, _, ⟨T5, L5, k5, n5⟩, -, X5, ⟨Lc5, hQ5, l5, y5, z5⟩, st5⟩ := Jvm.LawKit.callS X4 hx (y := (⟨"java/lang/Math", "max", "(II)I"⟩ : MethodName)) hown (mvT hZ (hw _ (List.mem_of_getElem? (i := 147) rfl))) (mvT hZ (hw _ (List.mem_of_getElem? (i := 148) rfl))) (mvT hZ (hw _ (List.mem_of_getElem? (i := 149) rfl))) (mvT hZ (hw _ (List.mem_of_getElem? (i := 150) rfl))) (by decide) (backOf (W := 1) (rm_a18_0 l Z a0 hw [] dc kdc el ee kee ca cc eo mo G_dc G_dce G_dcv G_el G_ele G_elf G_eev G_hi G_ca G_bx G_eo G_eoe G_mo (10 : Int32) x1 h0 O0 r1) hZ (hw _ (List.mem_of_getElem? (i := 150) rfl)) (hw _ (List.mem_of_getElem? (i := 149) rfl)) (by decide) (by decide)) (g := (mkF m 49 #[.val (.ref x0), .val (.int x1), .val (.int (0 : Int32)), .unset] [(.int x1), (.int (10 : Int32)), (.ref x0)])) rfl (by rw [hml]; rfl) (argsL := [(.int (10 : Int32)), (.int x1)]) (rest := [(.ref x0)]) (lenOf pd_LIIRI rfl) rfl (by show 2 * 0 + _ ≤ _; exact Nat.le_of_eq rfl) (hb hby d17_49) (fun _ _ => ⟨rfl, e4, (by decide : 0 + 0 ≤ _), (by decide : 0 + 0 ≤ _)⟩)
  dsimp only [Pt.U, Pt.locs, Pt.cells, Pt.slots] at X5 l5 y5 z5 st5 hQ5
  subst l5 y5 z5
  obtain ⟨rfl, Nq5, e5⟩ := hQ5
  have N5_ := Fr.app N0 Nq5
  refine Go.step st5 ?_
  show Go _ _ _ _ _ _ _ _ T5 (mkF m 52 #[.val (.ref x0), .val (.int x1), .val (.int (0 : Int32)), .unset] [(.int (10 : Int32)), (.ref x0)])
  obtain ⟨T6, h6, k6, X6, e6, E6, A6, B6, O6, st6⟩ := newRE X5 hx hZ hown (hw _ (List.mem_of_getElem? (i := 151) rfl)) (hw _ (List.mem_of_getElem? (i := 152) rfl)) e5 (g := (mkF m 52 #[.val (.ref x0), .val (.int x1), .val (.int (0 : Int32)), .unset] [(.int (10 : Int32)), (.ref x0)])) rfl (hb hby d17_52) rfl (by decide) (cap := 10) (by decide) (by decide) (by decide) (by decide) rfl
  obtain ⟨b6, hb6⟩ : ∃ z, z = h0.size := ⟨_, rfl⟩
  rw [← hb6] at A6 B6 st6
  refine Go.step st6 ?_
  have g_b6 : Z.heap.size ≤ b6 := Nat.le_trans O0.1 (Nat.le_of_eq hb6.symm)
  have O6_ : Ext Z.heap h6 := extTr O0 E6
  have sz_b6 : h0.size ≤ b6 := Nat.le_trans (Keep.refl h0 [x0]).1 (Nat.le_of_eq hb6.symm)
  have K6 := Keep.ext (Keep.refl h0 [x0]) E6
  have V6 : Arv Z h6 b6 k6 (.object "java/lang/Object") (10 : Int32) [.null, .null, .null, .null, .null, .null, .null, .null, .null, .null] .null := (Arv.new A6 (by decide)).pad (pad_rep [] .null 10)
  show Go _ _ _ _ _ _ _ _ T6 (mkF m 55 #[.val (.ref x0), .val (.int x1), .val (.int (0 : Int32)), .unset] [(.ref b6), (.ref x0)])
  refine Go.step (fun _ kt_ => XS.dupX1 X6.here hx rfl (hb hby d17_55) rfl rfl rfl kt_) ?_
  show Go _ _ _ _ _ _ _ _ T6 (mkF m 56 #[.val (.ref x0), .val (.int x1), .val (.int (0 : Int32)), .unset] [(.ref b6), (.ref x0), (.ref b6)])
  obtain ⟨T7, h7, X7, e7, W7, st7⟩ := putF X6 hx hZ hown (host := "") (Or.inl (hw _ (List.mem_of_getElem? (i := 29) rfl))) Via.refl e6 (Fld.ext E6 r0) (Exa.ext E6 r2) (Or.inl (hw _ (List.mem_of_getElem? (i := 30) rfl))) (hw _ (List.mem_of_getElem? (i := 6) rfl)) (ty := (.array (.object "java/lang/Object"))) pf_ALjava_lang_Object_ rfl rfl (g := (mkF m 56 #[.val (.ref x0), .val (.int x1), .val (.int (0 : Int32)), .unset] [(.ref b6), (.ref x0), (.ref b6)])) rfl rfl (hb hby d17_56)
  refine Go.step st7 ?_
  have N7_ := Fr.snoc X7 N5_ r3
  have O7_ : Ext Z.heap h7 := extWr O6_ W7 r3
  have K7 := Keep.wr K6 W7 (Or.inl (List.mem_of_getElem? (i := 0) rfl))
  have F7 := Fld.same W7 (Fld.ext E6 r0)
  show Go _ _ _ _ _ _ _ _ T7 (mkF m 59 #[.val (.ref x0), .val (.int x1), .val (.int (0 : Int32)), .unset] [(.ref b6)])
  exact Go.retA X7 hx Bd.returns rfl rfl hlk (hb hby d17_59) (by decide) (by decide) (by show Q_a17_0 _ _ _ _ _ _ _ _ _ _ _ _ _ _ _ _ _ _; rw [e7]; exact ⟨b6, k6, rfl, N7_, K7, F7, (Fld.other W7 (Fld.ext E6 r4) (Or.inr (sn_2 hw))), (Fld.other W7 (Fld.ext E6 r5) (Or.inr (Ne.symm (sn_0 hw)))), sz_b6, (Exa.wr W7 B6), (V6.other W7 (Ne.symm (Nat.ne_of_lt (Nat.lt_of_lt_of_le r2.lt (Nat.le_of_eq hb6.symm))))), O6⟩)
theorem pd_LIRALjava_lang_Object_ : parseMethodDescriptor "(I)[Ljava/lang/Object;" = some ⟨[.int], some (.array (.object "java/lang/Object"))⟩ := by decide +kernel
theorem d16_10 : decode jdk_38_method_7_code 10 = .ok (.areturn, 1) := by decide +kernel
theorem pn_16 : plainName "java/util/ArrayList" = true := by first | (simp [plainName, overriddenIn]; done) | decide +kernel
theorem ef_a16_0 (m : MethodId) (y0 : Addr) : entryFrame m #[(.ref y0)] 1 = mkF m 0 #[.val (.ref y0)] [] := by first | (simp [entryFrame, mkF, argsToLocals, Value.category]; done) | rfl
def Q_a16_0 (Z : State) (dc : Addr) (kdc : ClassId) (el : Addr) (ee : Addr) (kee : ClassId) (ca : Addr) (cc : Cell) (eo : Addr) (mo : Addr) (x0 : Addr) (w1 : Int32) (w2 : Int32) (h0 : Heap) (v : Option Value) (h : Heap) (L : List Loc) : Prop := ∃ (b6q2 : Addr) (k6q2 : ClassId), v = some (.ref b6q2) ∧ Fr Z.heap.size L ∧ Keep h0 h [x0] ∧ Fld Z h x0 "java/util/ArrayList" "elementData" "[Ljava/lang/Object;" (.ref b6q2) ∧ Fld Z h x0 "java/util/ArrayList" "size" "I" (.int w1) ∧ Fld Z h x0 "java/util/AbstractList" "modCount" "I" (.int w2) ∧ h0.size ≤ b6q2 ∧ Exa Z h b6q2 "[Ljava/lang/Object;" ∧ Arv Z h b6q2 k6q2 (.object "java/lang/Object") (10 : Int32) [.null, .null, .null, .null, .null, .null, .null, .null, .null, .null] .null ∧ Ovr Z k6q2 "java/lang/Object"
set_option maxRecDepth 65536 in
set_option maxHeartbeats 40000000 in
theorem rm_a16_0 (l : Launch) (Z : State) (a0 : Array Value) (hw : ∀ d ∈ tables_1, d.before a0 Z = true) (ws : List Jvm.Cond) (dc : Addr) (kdc : ClassId) (el : Addr) (ee : Addr) (kee : ClassId) (ca : Addr) (cc : Cell) (eo : Addr) (mo : Addr) (G_dc : Sta Z Z.heap "java/util/ArrayList" "DEFAULTCAPACITY_EMPTY_ELEMENTDATA" "[Ljava/lang/Object;" (.ref dc)) (G_dce : Exa Z Z.heap dc "[Ljava/lang/Object;") (G_dcv : Arv Z Z.heap dc kdc (.object "java/lang/Object") (0 : Int32) [] .null) (G_el : Sta Z Z.heap "java/util/ImmutableCollections" "EMPTY_LIST" "Ljava/util/ImmutableCollections$ListN;" (.ref el)) (G_ele : Exa Z Z.heap el "java/util/ImmutableCollections$ListN") (G_elf : Fld Z Z.heap el "java/util/ImmutableCollections$ListN" "elements" "[Ljava/lang/Object;" (.ref ee)) (G_eev : Arv Z Z.heap ee kee (.object "java/lang/Object") (0 : Int32) [] .null) (G_hi : Sta Z Z.heap "java/lang/Integer$IntegerCache" "high" "I" (.int (127 : Int32))) (G_ca : Sta Z Z.heap "java/lang/Integer$IntegerCache" "cache" "[Ljava/lang/Integer;" (.ref ca)) (G_bx : Bxs Z ca cc "java/lang/Integer" "I" 256 (fun j => .int (j - 128))) (G_eo : Sta Z Z.heap "java/util/ImmutableCollections" "EMPTY" "Ljava/lang/Object;" (.ref eo)) (G_eoe : Exa Z Z.heap eo "java/lang/Object") (G_mo : MirO Z "[Ljava/lang/Object;" mo) (x0 : Addr) (w1 : Int32) (w2 : Int32) (h0 : Heap) (O0 : Ext Z.heap h0) (r0 : Fld Z h0 x0 "java/util/ArrayList" "size" "I" (.int w1)) (r1 : Fld Z h0 x0 "java/util/ArrayList" "elementData" "[Ljava/lang/Object;" (.ref dc)) (r2 : ¬ ((10 : Int32) < (w1 + (1 : Int32)))) (r3 : Exa Z h0 x0 "java/util/ArrayList") (r4 : Z.heap.size ≤ x0) (r5 : Fld Z h0 x0 "java/util/AbstractList" "modCount" "I" (.int w2)) :
    MetFree l (⟨"java/util/ArrayList", "grow", "()[Ljava/lang/Object;"⟩ : MethodName) (head1 (Jvm.Cond.code (⟨"java/util/ArrayList", "grow", "()[Ljava/lang/Object;"⟩ : MethodName) jdk_38_method_7_code 1 (some (.array (.object "java/lang/Object"))) :: ws) ({ frames := 2, cells := 1, slots := 10, locals := 29 } : Room)) (fun a U => a = #[(.ref x0)] ∧ Z.Warmed39 U.vm ∧ U.heap = h0) (fun _ _ _ _ _ => True) (fun _ U o U' => ∃ v L, o = .returned v ∧ Q_a16_0 Z dc kdc el ee kee ca cc eo mo x0 w1 w2 h0 v U'.heap L ∧ FrameEnd U o U' L ({ frames := 2, cells := 1, slots := 10, locals := 29 } : Room).cells ({ frames := 2, cells := 1, slots := 10, locals := 29 } : Room).slots) := by
  refine MetFree.of_bodySF (plainFor_of_name pn_16) hisR ?_
  intro p e s m args below meth c s₁ Bd hml0 hP hK
  obtain ⟨rfl, hZ, hh⟩ := hP
  have hx := Bd.exec
  have hby := Bd.bytes
  have hlk := Bd.notSynchronized
  have hml : c.maxLocals = 1 := hml0
  have hown : s.vm.findClass "java/util/ArrayList" = some m.cls := findClass_of_methodNamed Bd.named
  have hnm := (name_of_methodNamed Bd.named Bd.method).1
  have X0 : Stand p l e ({ frames := 2, cells := 1, slots := 10, locals := 29 } : Room) s m #[(.ref x0)] below meth c s₁ [] 0 0 := Stand.of_body Bd
  have e0 : s₁.heap = h0 := by rw [← hh, Bd.state]; rfl
  have N0 := Fr.nil Z.heap.size
  show Go FrameEnd p e below s ({ frames := 2, cells := 1, slots := 10, locals := 29 } : Room).cells ({ frames := 2, cells := 1, slots := 10, locals := 29 } : Room).slots (Q_a16_0 Z dc kdc el ee kee ca cc eo mo x0 w1 w2 h0) s₁ (entryFrame m #[(.ref x0)] 1)
  refine Go.cast (ef_a16_0 m x0) ?_
  show Go _ _ _ _ _ _ _ _ s₁ (mkF m 0 #[.val (.ref x0)] [])
  refine Go.step (fun _ kt_ => XS.aloadN X0.here hx rfl (hb hby d16_0) rfl rfl kt_) ?_
  show Go _ _ _ _ _ _ _ _ s₁ (mkF m 1 #[.val (.ref x0)] [(.ref x0)])
  refine Go.step (fun _ kt_ => XS.aloadN X0.here hx rfl (hb hby d16_1) rfl rfl kt_) ?_
  show Go _ _ _ _ _ _ _ _ s₁ (mkF m 2 #[.val (.ref x0)] [(.ref x0), (.ref x0)])
  obtain ⟨T1, X1, e1, st1⟩ := getF X0 hx hZ hown (host := "") (Or.inl (hw _ (List.mem_of_getElem? (i := 66) rfl))) Via.refl e0 r0 (g := (mkF m 2 #[.val (.ref x0)] [(.ref x0), (.ref x0)])) rfl rfl (hb hby d16_2)
  refine Go.step st1 ?_
  show Go _ _ _ _ _ _ _ _ T1 (mkF m 5 #[.val (.ref x0)] [(.int w1), (.ref x0)])
  refine Go.step (fun _ kt_ => XS.iconst X1.here hx rfl (hb hby d16_5)  kt_) ?_
  show Go _ _ _ _ _ _ _ _ T1 (mkF m 6 #[.val (.ref x0)] [(.int (1 : Int32)), (.int w1), (.ref x0)])
  refine Go.step (fun _ kt_ => XS.iadd X1.here hx rfl (hb hby d16_6) rfl kt_) ?_
  show Go _ _ _ _ _ _ _ _ T1 (mkF m 7 #[.val (.ref x0)] [(.int (w1 + (1 : Int32))), (.ref x0)])
  obtain ⟨cq2, q2, q2'⟩ := r3.cell
  obtain ⟨_, _, ⟨T2, L2, k2, n2⟩, -, X2, ⟨Lc2, hQ2, l2, y2, z2⟩, st2⟩ := X1.privateBack hx (y := (⟨"java/util/ArrayList", "grow", "(I)[Ljava/lang/Object;"⟩ : MethodName)) hown (mvT hZ (hw _ (List.mem_of_getElem? (i := 142) rfl))) (mvT hZ (hw _ (List.mem_of_getElem? (i := 143) rfl))) (mvT hZ (hw _ (List.mem_of_getElem? (i := 145) rfl))) (Cond.privateMethod_at (mvP hZ (hw _ (List.mem_of_getElem? (i := 144) rfl)) (args := #[]))) (mvT hZ (hw _ (List.mem_of_getElem? (i := 146) rfl))) (by decide) (backOf (W := 0) (rm_a17_0 l Z a0 hw [] dc kdc el ee kee ca cc eo mo G_dc G_dce G_dcv G_el G_ele G_elf G_eev G_hi G_ca G_bx G_eo G_eoe G_mo x0 (w1 + (1 : Int32)) w1 w2 h0 O0 r1 r2 r3 r4 r0 r5) hZ (hw _ (List.mem_of_getElem? (i := 146) rfl)) (hw _ (List.mem_of_getElem? (i := 7) rfl)) (by decide) (by decide)) (g := (mkF m 7 #[.val (.ref x0)] [(.int (w1 + (1 : Int32))), (.ref x0)])) rfl (by rw [hml]; rfl) (Steps.refl _) (a := x0) (by rw [e1]; exact q2) q2' (argsL := [(.int (w1 + (1 : Int32)))]) (rest := []) (lenOf pd_LIRALjava_lang_Object_ rfl) rfl (by show 2 * 0 + _ ≤ _; exact Nat.le_of_eq rfl) (hb hby d16_7) (fun _ _ => ⟨rfl, e1, (by decide : 0 + 1 ≤ _), (by decide : 0 + 10 ≤ _)⟩)
  dsimp only [Pt.U, Pt.locs, Pt.cells, Pt.slots] at X2 l2 y2 z2 st2 hQ2
  subst l2 y2 z2
  obtain ⟨b6q2, k6q2, rfl, Nq2, Kq2, p2_0, p2_1, p2_2, p2_3, p2_4, p2_5, p2_6⟩ := hQ2
  have O2_ : Ext Z.heap T2.heap := extKeep O0 Kq2 (allS r4 all0)
  have K2 := Keep.trans (Keep.refl h0 [x0]) Kq2 (allS (Or.inl (List.mem_of_getElem? (i := 0) rfl)) all0)
  have N2_ := Fr.app N0 Nq2
  have g_b6q2 : Z.heap.size ≤ b6q2 := Nat.le_trans O0.1 p2_3
  have sz_b6q2 : h0.size ≤ b6q2 := Nat.le_trans (Keep.refl h0 [x0]).1 p2_3
  refine Go.trans st2 ?_
  show Go _ _ _ _ _ _ _ _ T2 (mkF m 10 #[.val (.ref x0)] [(.ref b6q2)])
  exact Go.retA X2 hx Bd.returns rfl rfl hlk (hb hby d16_10) (by decide) (by decide) ⟨b6q2, k6q2, rfl, N2_, K2, p2_0, p2_1, p2_2, sz_b6q2, p2_4, p2_5, p2_6⟩
theorem pd_LRALjava_lang_Object_ : parseMethodDescriptor "()[Ljava/lang/Object;" = some ⟨[], some (.array (.object "java/lang/Object"))⟩ := by decide +kernel
theorem d15_10 : decode jdk_38_method_24_code 10 = .ok (.astore_n 2, 1) := by decide +kernel
theorem d15_11 : decode jdk_38_method_24_code 11 = .ok (.aload_n 2, 1) := by decide +kernel
theorem d15_12 : decode jdk_38_method_24_code 12 = .ok (.iload_n 3, 1) := by decide +kernel
theorem d15_13 : decode jdk_38_method_24_code 13 = .ok (.aload_n 1, 1) := by decide +kernel
theorem d15_14 : decode jdk_38_method_24_code 14 = .ok (.aastore, 1) := by decide +kernel
theorem d15_15 : decode jdk_38_method_24_code 15 = .ok (.aload_n 0, 1) := by decide +kernel
theorem d15_16 : decode jdk_38_method_24_code 16 = .ok (.iload_n 3, 1) := by decide +kernel
theorem d15_17 : decode jdk_38_method_24_code 17 = .ok (.iconst 1, 1) := by decide +kernel
theorem d15_18 : decode jdk_38_method_24_code 18 = .ok (.iadd, 1) := by decide +kernel
theorem d15_19 : decode jdk_38_method_24_code 19 = .ok (.putfield 48, 3) := by decide +kernel
theorem d15_22 : decode jdk_38_method_24_code 22 = .ok (.return_, 1) := by decide +kernel
theorem pn_15 : plainName "java/util/ArrayList" = true := by first | (simp [plainName, overriddenIn]; done) | decide +kernel
theorem ef_a15_0 (m : MethodId) (y0 : Addr) (y1 : Addr) (y2 : Addr) (y3 : Int32) : entryFrame m #[(.ref y0), (.ref y1), (.ref y2), (.int y3)] 4 = mkF m 0 #[.val (.ref y0), .val (.ref y1), .val (.ref y2), .val (.int y3)] [] := by first | (simp [entryFrame, mkF, argsToLocals, Value.category]; done) | rfl
def Q_a15_0 (Z : State) (dc : Addr) (kdc : ClassId) (el : Addr) (ee : Addr) (kee : ClassId) (ca : Addr) (cc : Cell) (eo : Addr) (mo : Addr) (x0 : Addr) (x1 : Addr) (h0 : Heap) (v : Option Value) (h : Heap) (L : List Loc) : Prop := ∃ (b6q2q2 : Addr) (k6q2q2 : ClassId), v = none ∧ Fr Z.heap.size L ∧ Keep h0 h [x0] ∧ Fld Z h x0 "java/util/ArrayList" "elementData" "[Ljava/lang/Object;" (.ref b6q2q2) ∧ Fld Z h x0 "java/util/ArrayList" "size" "I" (.int (1 : Int32)) ∧ Fld Z h x0 "java/util/AbstractList" "modCount" "I" (.int (1 : Int32)) ∧ h0.size ≤ b6q2q2 ∧ Exa Z h b6q2q2 "[Ljava/lang/Object;" ∧ Arv Z h b6q2q2 k6q2q2 (.object "java/lang/Object") (10 : Int32) [(.ref x1), .null, .null, .null, .null, .null, .null, .null, .null, .null] .null ∧ Ovr Z k6q2q2 "java/lang/Object"
set_option maxRecDepth 65536 in
set_option maxHeartbeats 40000000 in
theorem rm_a15_0 (l : Launch) (Z : State) (a0 : Array Value) (hw : ∀ d ∈ tables_1, d.before a0 Z = true) (ws : List Jvm.Cond) (dc : Addr) (kdc : ClassId) (el : Addr) (ee : Addr) (kee : ClassId) (ca : Addr) (cc : Cell) (eo : Addr) (mo : Addr) (G_dc : Sta Z Z.heap "java/util/ArrayList" "DEFAULTCAPACITY_EMPTY_ELEMENTDATA" "[Ljava/lang/Object;" (.ref dc)) (G_dce : Exa Z Z.heap dc "[Ljava/lang/Object;") (G_dcv : Arv Z Z.heap dc kdc (.object "java/lang/Object") (0 : Int32) [] .null) (G_el : Sta Z Z.heap "java/util/ImmutableCollections" "EMPTY_LIST" "Ljava/util/ImmutableCollections$ListN;" (.ref el)) (G_ele : Exa Z Z.heap el "java/util/ImmutableCollections$ListN") (G_elf : Fld Z Z.heap el "java/util/ImmutableCollections$ListN" "elements" "[Ljava/lang/Object;" (.ref ee)) (G_eev : Arv Z Z.heap ee kee (.object "java/lang/Object") (0 : Int32) [] .null) (G_hi : Sta Z Z.heap "java/lang/Integer$IntegerCache" "high" "I" (.int (127 : Int32))) (G_ca : Sta Z Z.heap "java/lang/Integer$IntegerCache" "cache" "[Ljava/lang/Integer;" (.ref ca)) (G_bx : Bxs Z ca cc "java/lang/Integer" "I" 256 (fun j => .int (j - 128))) (G_eo : Sta Z Z.heap "java/util/ImmutableCollections" "EMPTY" "Ljava/lang/Object;" (.ref eo)) (G_eoe : Exa Z Z.heap eo "java/lang/Object") (G_mo : MirO Z "[Ljava/lang/Object;" mo) (x0 : Addr) (x1 : Addr) (h0 : Heap) (O0 : Ext Z.heap h0) (r0 : Fld Z h0 x0 "java/util/ArrayList" "size" "I" (.int (0 : Int32))) (r1 : Fld Z h0 x0 "java/util/ArrayList" "elementData" "[Ljava/lang/Object;" (.ref dc)) (r2 : Exa Z h0 x0 "java/util/ArrayList") (r3 : Z.heap.size ≤ x0) (r4 : Fld Z h0 x0 "java/util/AbstractList" "modCount" "I" (.int (1 : Int32))) (r5 : Exa Z h0 x1 "com/example/wary_lock/warylock/Lease") :
    MetFree l (⟨"java/util/ArrayList", "add", "(Ljava/lang/Object;[Ljava/lang/Object;I)V"⟩ : MethodName) (head1 (Jvm.Cond.code (⟨"java/util/ArrayList", "add", "(Ljava/lang/Object;[Ljava/lang/Object;I)V"⟩ : MethodName) jdk_38_method_24_code 4 none :: ws) ({ frames := 3, cells := 1, slots := 10, locals := 41 } : Room)) (fun a U => a = #[(.ref x0), (.ref x1), (.ref dc), (.int (0 : Int32))] ∧ Z.Warmed39 U.vm ∧ U.heap = h0) (fun _ _ _ _ _ => True) (fun _ U o U' => ∃ v L, o = .returned v ∧ Q_a15_0 Z dc kdc el ee kee ca cc eo mo x0 x1 h0 v U'.heap L ∧ FrameEnd U o U' L ({ frames := 3, cells := 1, slots := 10, locals := 41 } : Room).cells ({ frames := 3, cells := 1, slots := 10, locals := 41 } : Room).slots) := by
  refine MetFree.of_bodySF (plainFor_of_name pn_15) hisR ?_
  intro p e s m args below meth c s₁ Bd hml0 hP hK
  obtain ⟨rfl, hZ, hh⟩ := hP
  have hx := Bd.exec
  have hby := Bd.bytes
  have hlk := Bd.notSynchronized
  have hml : c.maxLocals = 4 := hml0
  have hown : s.vm.findClass "java/util/ArrayList" = some m.cls := findClass_of_methodNamed Bd.named
  have hnm := (name_of_methodNamed Bd.named Bd.method).1
  have X0 : Stand p l e ({ frames := 3, cells := 1, slots := 10, locals := 41 } : Room) s m #[(.ref x0), (.ref x1), (.ref dc), (.int (0 : Int32))] below meth c s₁ [] 0 0 := Stand.of_body Bd
  have e0 : s₁.heap = h0 := by rw [← hh, Bd.state]; rfl
  have N0 := Fr.nil Z.heap.size
  show Go FrameEnd p e below s ({ frames := 3, cells := 1, slots := 10, locals := 41 } : Room).cells ({ frames := 3, cells := 1, slots := 10, locals := 41 } : Room).slots (Q_a15_0 Z dc kdc el ee kee ca cc eo mo x0 x1 h0) s₁ (entryFrame m #[(.ref x0), (.ref x1), (.ref dc), (.int (0 : Int32))] 4)
  refine Go.cast (ef_a15_0 m x0 x1 dc (0 : Int32)) ?_
  show Go _ _ _ _ _ _ _ _ s₁ (mkF m 0 #[.val (.ref x0), .val (.ref x1), .val (.ref dc), .val (.int (0 : Int32))] [])
  refine Go.step (fun _ kt_ => XS.iloadN X0.here hx rfl (hb hby d15_0) rfl kt_) ?_
  show Go _ _ _ _ _ _ _ _ s₁ (mkF m 1 #[.val (.ref x0), .val (.ref x1), .val (.ref dc), .val (.int (0 : Int32))] [(.int (0 : Int32))])
  refine Go.step (fun _ kt_ => XS.aloadN X0.here hx rfl (hb hby d15_1) rfl rfl kt_) ?_
  show Go _ _ _ _ _ _ _ _ s₁ (mkF m 2 #[.val (.ref x0), .val (.ref x1), .val (.ref dc), .val (.int (0 : Int32))] [(.ref dc), (.int (0 : Int32))])
  obtain ⟨cl1, Ar1, -, S1, N1, -, -⟩ := id (Arv.ext G_dcv O0)
  refine Go.step (X0.arraylength hx (by rw [e0]; exact Ar1.1) (State.isArrayOf_alike hZ.alike Ar1.2.1) (g := (mkF m 2 #[.val (.ref x0), .val (.ref x1), .val (.ref dc), .val (.int (0 : Int32))] [(.ref dc), (.int (0 : Int32))])) rfl rfl (hb hby d15_2)) ?_
  rw [len_of S1 N1]
  show Go _ _ _ _ _ _ _ _ s₁ (mkF m 3 #[.val (.ref x0), .val (.ref x1), .val (.ref dc), .val (.int (0 : Int32))] [(.int (0 : Int32)), (.int (0 : Int32))])
  refine Go.step (fun _ kt_ => XS.icmpNo X0.here hx rfl (hb hby d15_3) rfl (teq (by decide : (0 : Int32) = (0 : Int32))).2 kt_) ?_
  show Go _ _ _ _ _ _ _ _ s₁ (mkF m 6 #[.val (.ref x0), .val (.ref x1), .val (.ref dc), .val (.int (0 : Int32))] [])
  refine Go.step (fun _ kt_ => XS.aloadN X0.here hx rfl (hb hby d15_6) rfl rfl kt_) ?_
  show Go _ _ _ _ _ _ _ _ s₁ (mkF m 7 #[.val (.ref x0), .val (.ref x1), .val (.ref dc), .val (.int (0 : Int32))] [(.ref x0)])
  obtain ⟨cq2, q2, q2'⟩ := r2.cell
  obtain ⟨_, _, ⟨T2, L2, k2, n2⟩, -, X2, ⟨Lc2, hQ2, l2, y2, z2⟩, st2⟩ := X0.privateBack hx (y := (⟨"java/util/ArrayList", "grow", "()[Ljava/lang/Object;"⟩ : MethodName)) hown (mvT hZ (hw _ (List.mem_of_getElem? (i := 137) rfl))) (mvT hZ (hw _ (List.mem_of_getElem? (i := 138) rfl))) (mvT hZ (hw _ (List.mem_of_getElem? (i := 140) rfl))) (Cond.privateMethod_at (mvP hZ (hw _ (List.mem_of_getElem? (i := 139) rfl)) (args := #[]))) (mvT hZ (hw _ (List.mem_of_getElem? (i := 141) rfl))) (by decide) (backOf (W := 0) (rm_a16_0 l Z a0 hw [] dc kdc el ee kee ca cc eo mo G_dc G_dce G_dcv G_el G_ele G_elf G_eev G_hi G_ca G_bx G_eo G_eoe G_mo x0 (0 : Int32) (1 : Int32) h0 O0 r0 r1 (by decide) r2 r3 r4) hZ (hw _ (List.mem_of_getElem? (i := 141) rfl)) (hw _ (List.mem_of_getElem? (i := 7) rfl)) (by decide) (by decide)) (g := (mkF m 7 #[.val (.ref x0), .val (.ref x1), .val (.ref dc), .val (.int (0 : Int32))] [(.ref x0)])) rfl (by rw [hml]; rfl) (Steps.refl _) (a := x0) (by rw [e0]; exact q2) q2' (argsL := []) (rest := []) (lenOf pd_LRALjava_lang_Object_ rfl) rfl (by show 2 * 0 + _ ≤ _; exact Nat.le_of_eq rfl) (hb hby d15_7) (fun _ _ => ⟨rfl, e0, (by decide : 0 + 1 ≤ _), (by decide : 0 + 10 ≤ _)⟩)
  dsimp only [Pt.U, Pt.locs, Pt.cells, Pt.slots] at X2 l2 y2 z2 st2 hQ2
  subst l2 y2 z2
  obtain ⟨b6q2q2, k6q2q2, rfl, Nq2, Kq2, p2_0, p2_1, p2_2, p2_3, p2_4, p2_5, p2_6⟩ := hQ2
  have O2_ : Ext Z.heap T2.heap := extKeep O0 Kq2 (allS r3 all0)
  have K2 := Keep.trans (Keep.refl h0 [x0]) Kq2 (allS (Or.inl (List.mem_of_getElem? (i := 0) rfl)) all0)
  have N2_ := Fr.app N0 Nq2
  have g_b6q2q2 : Z.heap.size ≤ b6q2q2 := Nat.le_trans O0.1 p2_3
  have sz_b6q2q2 : h0.size ≤ b6q2q2 := Nat.le_trans (Keep.refl h0 [x0]).1 p2_3
  refine Go.trans st2 ?_
  show Go _ _ _ _ _ _ _ _ T2 (mkF m 10 #[.val (.ref x0), .val (.ref x1), .val (.ref dc), .val (.int (0 : Int32))] [(.ref b6q2q2)])
  refine Go.step (fun _ kt_ => XS.astoreN X2.here hx rfl (hb hby d15_10) rfl rfl (l' := #[.val (.ref x0), .val (.ref x1), .val (.ref b6q2q2), .val (.int (0 : Int32))]) rfl kt_) ?_
  show Go _ _ _ _ _ _ _ _ T2 (mkF m 11 #[.val (.ref x0), .val (.ref x1), .val (.ref b6q2q2), .val (.int (0 : Int32))] [])
  refine Go.step (fun _ kt_ => XS.aloadN X2.here hx rfl (hb hby d15_11) rfl rfl kt_) ?_
  show Go _ _ _ _ _ _ _ _ T2 (mkF m 12 #[.val (.ref x0), .val (.ref x1), .val (.ref b6q2q2), .val (.int (0 : Int32))] [(.ref b6q2q2)])
  refine Go.step (fun _ kt_ => XS.iloadN X2.here hx rfl (hb hby d15_12) rfl kt_) ?_
  show Go _ _ _ _ _ _ _ _ T2 (mkF m 13 #[.val (.ref x0), .val (.ref x1), .val (.ref b6q2q2), .val (.int (0 : Int32))] [(.int (0 : Int32)), (.ref b6q2q2)])
  refine Go.step (fun _ kt_ => XS.aloadN X2.here hx rfl (hb hby d15_13) rfl rfl kt_) ?_
  show Go _ _ _ _ _ _ _ _ T2 (mkF m 14 #[.val (.ref x0), .val (.ref x1), .val (.ref b6q2q2), .val (.int (0 : Int32))] [(.ref x1), (.int (0 : Int32)), (.ref b6q2q2)])
  obtain ⟨cl3, Ar3, q3, S3, N3, H3, G3⟩ := id p2_5
  have hin3 : ¬ ((0 : Int32) < 0 ∨ cl3.slots.size ≤ ((0 : Int32)).toNatClampNeg) := inb_of S3 ⟨by decide, by decide⟩
  obtain ⟨T3, h3, X3, e3, W3, st3⟩ := stR X2 hx hZ rfl Ar3 (j := (0 : Int32)) hin3 rfl (Sto.ofV Ar3 q3 p2_6 (Ins.of_exa (r5.keep Kq2) (hw _ (List.mem_of_getElem? (i := 153) rfl)))) (g := (mkF m 14 #[.val (.ref x0), .val (.ref x1), .val (.ref b6q2q2), .val (.int (0 : Int32))] [(.ref x1), (.int (0 : Int32)), (.ref b6q2q2)])) rfl rfl (hb hby d15_14)
  refine Go.step st3 ?_
  have V3 : Arv Z h3 b6q2q2 k6q2q2 (.object "java/lang/Object") (10 : Int32) [(.ref x1), .null, .null, .null, .null, .null, .null, .null, .null, .null] .null := Arv.set Ar3 q3 S3 N3 H3 G3 rfl W3 0 rfl (Nat.le_of_ble_eq_true rfl)
  have N3_ := Fr.snoc X3 N2_ g_b6q2q2
  have O3_ : Ext Z.heap h3 := extWr O2_ W3 g_b6q2q2
  have K3 := Keep.wr K2 W3 (Or.inr sz_b6q2q2)
  show Go _ _ _ _ _ _ _ _ T3 (mkF m 15 #[.val (.ref x0), .val (.ref x1), .val (.ref b6q2q2), .val (.int (0 : Int32))] [])
  refine Go.step (fun _ kt_ => XS.aloadN X3.here hx rfl (hb hby d15_15) rfl rfl kt_) ?_
  show Go _ _ _ _ _ _ _ _ T3 (mkF m 16 #[.val (.ref x0), .val (.ref x1), .val (.ref b6q2q2), .val (.int (0 : Int32))] [(.ref x0)])
  refine Go.step (fun _ kt_ => XS.iloadN X3.here hx rfl (hb hby d15_16) rfl kt_) ?_
  show Go _ _ _ _ _ _ _ _ T3 (mkF m 17 #[.val (.ref x0), .val (.ref x1), .val (.ref b6q2q2), .val (.int (0 : Int32))] [(.int (0 : Int32)), (.ref x0)])
  refine Go.step (fun _ kt_ => XS.iconst X3.here hx rfl (hb hby d15_17)  kt_) ?_
  show Go _ _ _ _ _ _ _ _ T3 (mkF m 18 #[.val (.ref x0), .val (.ref x1), .val (.ref b6q2q2), .val (.int (0 : Int32))] [(.int (1 : Int32)), (.int (0 : Int32)), (.ref x0)])
  refine Go.step (fun _ kt_ => XS.iadd X3.here hx rfl (hb hby d15_18) rfl kt_) ?_
  show Go _ _ _ _ _ _ _ _ T3 (mkF m 19 #[.val (.ref x0), .val (.ref x1), .val (.ref b6q2q2), .val (.int (0 : Int32))] [(.int (1 : Int32)), (.ref x0)])
  have f4 := (Fld.other W3 p2_1 (Or.inl (Nat.ne_of_lt (Nat.lt_of_lt_of_le r2.lt p2_3))))
  obtain ⟨T5, h5, X5, e5, W5, st5⟩ := putF X3 hx hZ hown (host := "") (Or.inl (hw _ (List.mem_of_getElem? (i := 66) rfl))) Via.refl e3 f4 (Exa.wr W3 (r2.keep Kq2)) (Or.inl (hw _ (List.mem_of_getElem? (i := 67) rfl))) (hw _ (List.mem_of_getElem? (i := 6) rfl)) (ty := .int) pf_I rfl rfl (g := (mkF m 19 #[.val (.ref x0), .val (.ref x1), .val (.ref b6q2q2), .val (.int (0 : Int32))] [(.int (1 : Int32)), (.ref x0)])) rfl rfl (hb hby d15_19)
  refine Go.step st5 ?_
  have N5_ := Fr.snoc X5 N3_ r3
  have O5_ : Ext Z.heap h5 := extWr O3_ W5 r3
  have K5 := Keep.wr K3 W5 (Or.inl (List.mem_of_getElem? (i := 0) rfl))
  have F5 := Fld.same W5 f4
  show Go _ _ _ _ _ _ _ _ T5 (mkF m 22 #[.val (.ref x0), .val (.ref x1), .val (.ref b6q2q2), .val (.int (0 : Int32))] [])
  exact Go.retV X5 hx Bd.returns hlk (hb hby d15_22) (by decide) (by decide) (by show Q_a15_0 _ _ _ _ _ _ _ _ _ _ _ _ _ _ _ _; rw [e5]; exact ⟨b6q2q2, k6q2q2, rfl, N5_, K5, (Fld.other W5 (Fld.other W3 p2_0 (Or.inl (Nat.ne_of_lt (Nat.lt_of_lt_of_le r2.lt p2_3)))) (Or.inr (Ne.symm (sn_2 hw)))), F5, (Fld.other W5 (Fld.other W3 p2_2 (Or.inl (Nat.ne_of_lt (Nat.lt_of_lt_of_le r2.lt p2_3)))) (Or.inr (Ne.symm (sn_1 hw)))), sz_b6q2q2, (Exa.wr W5 (Exa.wr W3 p2_4)), (V3.other W5 (Ne.symm (Nat.ne_of_lt (Nat.lt_of_lt_of_le r2.lt p2_3)))), p2_6⟩)
theorem pd_LLjava_lang_Object_ALjava_lang_Object_IRV : parseMethodDescriptor "(Ljava/lang/Object;[Ljava/lang/Object;I)V" = some ⟨[(.object "java/lang/Object"), (.array (.object "java/lang/Object")), .int], none⟩ := by decide +kernel
theorem d14_23 : decode jdk_38_method_25_code 23 = .ok (.iconst 1, 1) := by decide +kernel
theorem d14_24 : decode jdk_38_method_25_code 24 = .ok (.ireturn, 1) := by decide +kernel
theorem pn_14 : plainName "java/util/ArrayList" = true := by first | (simp [plainName, overriddenIn]; done) | decide +kernel
theorem ef_a14_0 (m : MethodId) (y0 : Addr) (y1 : Addr) : entryFrame m #[(.ref y0), (.ref y1)] 2 = mkF m 0 #[.val (.ref y0), .val (.ref y1)] [] := by first | (simp [entryFrame, mkF, argsToLocals, Value.category]; done) | rfl
def Q_a14_0 (Z : State) (dc : Addr) (kdc : ClassId) (el : Addr) (ee : Addr) (kee : ClassId) (ca : Addr) (cc : Cell) (eo : Addr) (mo : Addr) (x0 : Addr) (x1 : Addr) (h0 : Heap) (v : Option Value) (h : Heap) (L : List Loc) : Prop := ∃ (b6q2q2q5 : Addr) (k6q2q2q5 : ClassId), v = some (.int (1 : Int32)) ∧ Fr Z.heap.size L ∧ Keep h0 h [x0] ∧ Fld Z h x0 "java/util/ArrayList" "elementData" "[Ljava/lang/Object;" (.ref b6q2q2q5) ∧ Fld Z h x0 "java/util/ArrayList" "size" "I" (.int (1 : Int32)) ∧ Fld Z h x0 "java/util/AbstractList" "modCount" "I" (.int (1 : Int32)) ∧ h0.size ≤ b6q2q2q5 ∧ Exa Z h b6q2q2q5 "[Ljava/lang/Object;" ∧ Arv Z h b6q2q2q5 k6q2q2q5 (.object "java/lang/Object") (10 : Int32) [(.ref x1), .null, .null, .null, .null, .null, .null, .null, .null, .null] .null ∧ Ovr Z k6q2q2q5 "java/lang/Object"
set_option maxRecDepth 65536 in
set_option maxHeartbeats 40000000 in
theorem rm_a14_0 (l : Launch) (Z : State) (a0 : Array Value) (hw : ∀ d ∈ tables_1, d.before a0 Z = true) (ws : List Jvm.Cond) (dc : Addr) (kdc : ClassId) (el : Addr) (ee : Addr) (kee : ClassId) (ca : Addr) (cc : Cell) (eo : Addr) (mo : Addr) (G_dc : Sta Z Z.heap "java/util/ArrayList" "DEFAULTCAPACITY_EMPTY_ELEMENTDATA" "[Ljava/lang/Object;" (.ref dc)) (G_dce : Exa Z Z.heap dc "[Ljava/lang/Object;") (G_dcv : Arv Z Z.heap dc kdc (.object "java/lang/Object") (0 : Int32) [] .null) (G_el : Sta Z Z.heap "java/util/ImmutableCollections" "EMPTY_LIST" "Ljava/util/ImmutableCollections$ListN;" (.ref el)) (G_ele : Exa Z Z.heap el "java/util/ImmutableCollections$ListN") (G_elf : Fld Z Z.heap el "java/util/ImmutableCollections$ListN" "elements" "[Ljava/lang/Object;" (.ref ee)) (G_eev : Arv Z Z.heap ee kee (.object "java/lang/Object") (0 : Int32) [] .null) (G_hi : Sta Z Z.heap "java/lang/Integer$IntegerCache" "high" "I" (.int (127 : Int32))) (G_ca : Sta Z Z.heap "java/lang/Integer$IntegerCache" "cache" "[Ljava/lang/Integer;" (.ref ca)) (G_bx : Bxs Z ca cc "java/lang/Integer" "I" 256 (fun j => .int (j - 128))) (G_eo : Sta Z Z.heap "java/util/ImmutableCollections" "EMPTY" "Ljava/lang/Object;" (.ref eo)) (G_eoe : Exa Z Z.heap eo "java/lang/Object") (G_mo : MirO Z "[Ljava/lang/Object;" mo) (x0 : Addr) (x1 : Addr) (h0 : Heap) (O0 : Ext Z.heap h0) (r0 : Fld Z h0 x0 "java/util/AbstractList" "modCount" "I" (.int (0 : Int32))) (r1 : Exa Z h0 x0 "java/util/ArrayList") (r2 : Z.heap.size ≤ x0) (r3 : Fld Z h0 x0 "java/util/ArrayList" "elementData" "[Ljava/lang/Object;" (.ref dc)) (r4 : Fld Z h0 x0 "java/util/ArrayList" "size" "I" (.int (0 : Int32))) (r5 : Exa Z h0 x1 "com/example/wary_lock/warylock/Lease") :
    MetFree l (⟨"java/util/ArrayList", "add", "(Ljava/lang/Object;)Z"⟩ : MethodName) (head1 (Jvm.Cond.code (⟨"java/util/ArrayList", "add", "(Ljava/lang/Object;)Z"⟩ : MethodName) jdk_38_method_25_code 2 (some .boolean) :: ws) ({ frames := 4, cells := 1, slots := 10, locals := 56 } : Room)) (fun a U => a = #[(.ref x0), (.ref x1)] ∧ Z.Warmed39 U.vm ∧ U.heap = h0) (fun _ _ _ _ _ => True) (fun _ U o U' => ∃ v L, o = .returned v ∧ Q_a14_0 Z dc kdc el ee kee ca cc eo mo x0 x1 h0 v U'.heap L ∧ FrameEnd U o U' L ({ frames := 4, cells := 1, slots := 10, locals := 56 } : Room).cells ({ frames := 4, cells := 1, slots := 10, locals := 56 } : Room).slots) := by
  refine MetFree.of_bodySF (plainFor_of_name pn_14) hisR ?_
  intro p e s m args below meth c s₁ Bd hml0 hP hK
  obtain ⟨rfl, hZ, hh⟩ := hP
  have hx := Bd.exec
  have hby := Bd.bytes
  have hlk := Bd.notSynchronized
  have hml : c.maxLocals = 2 := hml0
  have hown : s.vm.findClass "java/util/ArrayList" = some m.cls := findClass_of_methodNamed Bd.named
  have hnm := (name_of_methodNamed Bd.named Bd.method).1
  have X0 : Stand p l e ({ frames := 4, cells := 1, slots := 10, locals := 56 } : Room) s m #[(.ref x0), (.ref x1)] below meth c s₁ [] 0 0 := Stand.of_body Bd
  have e0 : s₁.heap = h0 := by rw [← hh, Bd.state]; rfl
  have N0 := Fr.nil Z.heap.size
  show Go FrameEnd p e below s ({ frames := 4, cells := 1, slots := 10, locals := 56 } : Room).cells ({ frames := 4, cells := 1, slots := 10, locals := 56 } : Room).slots (Q_a14_0 Z dc kdc el ee kee ca cc eo mo x0 x1 h0) s₁ (entryFrame m #[(.ref x0), (.ref x1)] 2)
  refine Go.cast (ef_a14_0 m x0 x1) ?_
  show Go _ _ _ _ _ _ _ _ s₁ (mkF m 0 #[.val (.ref x0), .val (.ref x1)] [])
  refine Go.step (fun _ kt_ => XS.aloadN X0.here hx rfl (hb hby d14_0) rfl rfl kt_) ?_
  show Go _ _ _ _ _ _ _ _ s₁ (mkF m 1 #[.val (.ref x0), .val (.ref x1)] [(.ref x0)])
  refine Go.step (fun _ kt_ => XS.dup X0.here hx rfl (hb hby d14_1) rfl rfl kt_) ?_
  show Go _ _ _ _ _ _ _ _ s₁ (mkF m 2 #[.val (.ref x0), .val (.ref x1)] [(.ref x0), (.ref x0)])
  obtain ⟨T1, X1, e1, st1⟩ := getF X0 hx hZ hown (host := "") (Or.inl (hw _ (List.mem_of_getElem? (i := 130) rfl))) (Via.of (hw _ (List.mem_of_getElem? (i := 131) rfl))) e0 r0 (g := (mkF m 2 #[.val (.ref x0), .val (.ref x1)] [(.ref x0), (.ref x0)])) rfl rfl (hb hby d14_2)
  refine Go.step st1 ?_
  show Go _ _ _ _ _ _ _ _ T1 (mkF m 5 #[.val (.ref x0), .val (.ref x1)] [(.int (0 : Int32)), (.ref x0)])
  refine Go.step (fun _ kt_ => XS.iconst X1.here hx rfl (hb hby d14_5)  kt_) ?_
  show Go _ _ _ _ _ _ _ _ T1 (mkF m 6 #[.val (.ref x0), .val (.ref x1)] [(.int (1 : Int32)), (.int (0 : Int32)), (.ref x0)])
  refine Go.step (fun _ kt_ => XS.iadd X1.here hx rfl (hb hby d14_6) rfl kt_) ?_
  show Go _ _ _ _ _ _ _ _ T1 (mkF m 7 #[.val (.ref x0), .val (.ref x1)] [(.int (1 : Int32)), (.ref x0)])
  obtain ⟨T2, h2, X2, e2, W2, st2⟩ := putF X1 hx hZ hown (host := "") (Or.inl (hw _ (List.mem_of_getElem? (i := 130) rfl))) (Via.of (hw _ (List.mem_of_getElem? (i := 131) rfl))) e1 r0 r1 (Or.inl (hw _ (List.mem_of_getElem? (i := 27) rfl))) (hw _ (List.mem_of_getElem? (i := 6) rfl)) (ty := .int) pf_I rfl rfl (g := (mkF m 7 #[.val (.ref x0), .val (.ref x1)] [(.int (1 : Int32)), (.ref x0)])) rfl rfl (hb hby d14_7)
  refine Go.step st2 ?_
  have N2_ := Fr.snoc X2 N0 r2
  have O2_ : Ext Z.heap h2 := extWr O0 W2 r2
  have K2 := Keep.wr (Keep.refl h0 [x0]) W2 (Or.inl (List.mem_of_getElem? (i := 0) rfl))
  have F2 := Fld.same W2 r0
  show Go _ _ _ _ _ _ _ _ T2 (mkF m 10 #[.val (.ref x0), .val (.ref x1)] [])
  refine Go.step (fun _ kt_ => XS.aloadN X2.here hx rfl (hb hby d14_10) rfl rfl kt_) ?_
  show Go _ _ _ _ _ _ _ _ T2 (mkF m 11 #[.val (.ref x0), .val (.ref x1)] [(.ref x0)])
  refine Go.step (fun _ kt_ => XS.aloadN X2.here hx rfl (hb hby d14_11) rfl rfl kt_) ?_
  show Go _ _ _ _ _ _ _ _ T2 (mkF m 12 #[.val (.ref x0), .val (.ref x1)] [(.ref x1), (.ref x0)])
  refine Go.step (fun _ kt_ => XS.aloadN X2.here hx rfl (hb hby d14_12) rfl rfl kt_) ?_
  show Go _ _ _ _ _ _ _ _ T2 (mkF m 13 #[.val (.ref x0), .val (.ref x1)] [(.ref x0), (.ref x1), (.ref x0)])
  obtain ⟨T3, X3, e3, st3⟩ := getF X2 hx hZ hown (host := "") (Or.inl (hw _ (List.mem_of_getElem? (i := 29) rfl))) Via.refl e2 (Fld.other W2 r3 (Or.inr (sn_0 hw))) (g := (mkF m 13 #[.val (.ref x0), .val (.ref x1)] [(.ref x0), (.ref x1), (.ref x0)])) rfl rfl (hb hby d14_13)
  refine Go.step st3 ?_
  show Go _ _ _ _ _ _ _ _ T3 (mkF m 16 #[.val (.ref x0), .val (.ref x1)] [(.ref dc), (.ref x1), (.ref x0)])
  refine Go.step (fun _ kt_ => XS.aloadN X3.here hx rfl (hb hby d14_16) rfl rfl kt_) ?_
  show Go _ _ _ _ _ _ _ _ T3 (mkF m 17 #[.val (.ref x0), .val (.ref x1)] [(.ref x0), (.ref dc), (.ref x1), (.ref x0)])
  obtain ⟨T4, X4, e4, st4⟩ := getF X3 hx hZ hown (host := "") (Or.inl (hw _ (List.mem_of_getElem? (i := 66) rfl))) Via.refl e3 (Fld.other W2 r4 (Or.inr (sn_1 hw))) (g := (mkF m 17 #[.val (.ref x0), .val (.ref x1)] [(.ref x0), (.ref dc), (.ref x1), (.ref x0)])) rfl rfl (hb hby d14_17)
  refine Go.step st4 ?_
  show Go _ _ _ _ _ _ _ _ T4 (mkF m 20 #[.val (.ref x0), .val (.ref x1)] [(.int (0 : Int32)), (.ref dc), (.ref x1), (.ref x0)])
  obtain ⟨cq5, q5, q5'⟩ := (Exa.wr W2 r1).cell
  obtain ⟨_, _, ⟨T5, L5, k5, n5⟩, -, X5, ⟨Lc5, hQ5, l5, y5, z5⟩, st5⟩ := X4.privateBack hx (y := (⟨"java/util/ArrayList", "add", "(Ljava/lang/Object;[Ljava/lang/Object;I)V"⟩ : MethodName)) hown (mvT hZ (hw _ (List.mem_of_getElem? (i := 132) rfl))) (mvT hZ (hw _ (List.mem_of_getElem? (i := 133) rfl))) (mvT hZ (hw _ (List.mem_of_getElem? (i := 135) rfl))) (Cond.privateMethod_at (mvP hZ (hw _ (List.mem_of_getElem? (i := 134) rfl)) (args := #[]))) (mvT hZ (hw _ (List.mem_of_getElem? (i := 136) rfl))) (by decide) (backOf (W := 0) (rm_a15_0 l Z a0 hw [] dc kdc el ee kee ca cc eo mo G_dc G_dce G_dcv G_el G_ele G_elf G_eev G_hi G_ca G_bx G_eo G_eoe G_mo x0 x1 h2 O2_ (Fld.other W2 r4 (Or.inr (sn_1 hw))) (Fld.other W2 r3 (Or.inr (sn_0 hw))) (Exa.wr W2 r1) r2 F2 (Exa.wr W2 r5)) hZ (hw _ (List.mem_of_getElem? (i := 136) rfl)) (hw _ (List.mem_of_getElem? (i := 7) rfl)) (by decide) (by decide)) (g := (mkF m 20 #[.val (.ref x0), .val (.ref x1)] [(.int (0 : Int32)), (.ref dc), (.ref x1), (.ref x0)])) rfl (by rw [hml]; rfl) (Steps.refl _) (a := x0) (by rw [e4]; exact q5) q5' (argsL := [(.ref x1), (.ref dc), (.int (0 : Int32))]) (rest := []) (lenOf pd_LLjava_lang_Object_ALjava_lang_Object_IRV rfl) rfl (by show 2 * 0 + _ ≤ _; exact Nat.le_of_eq rfl) (hb hby d14_20) (fun _ _ => ⟨rfl, e4, (by decide : 0 + 1 ≤ _), (by decide : 0 + 10 ≤ _)⟩)
  dsimp only [Pt.U, Pt.locs, Pt.cells, Pt.slots] at X5 l5 y5 z5 st5 hQ5
  subst l5 y5 z5
  obtain ⟨b6q2q2q5, k6q2q2q5, rfl, Nq5, Kq5, p5_0, p5_1, p5_2, p5_3, p5_4, p5_5, p5_6⟩ := hQ5
  have O5_ : Ext Z.heap T5.heap := extKeep O2_ Kq5 (allS r2 all0)
  have K5 := Keep.trans K2 Kq5 (allS (Or.inl (List.mem_of_getElem? (i := 0) rfl)) all0)
  have N5_ := Fr.app N2_ Nq5
  have g_b6q2q2q5 : Z.heap.size ≤ b6q2q2q5 := Nat.le_trans O2_.1 p5_3
  have sz_b6q2q2q5 : h0.size ≤ b6q2q2q5 := Nat.le_trans K2.1 p5_3
  refine Go.trans st5 ?_
  show Go _ _ _ _ _ _ _ _ T5 (mkF m 23 #[.val (.ref x0), .val (.ref x1)] [])
  refine Go.step (fun _ kt_ => XS.iconst X5.here hx rfl (hb hby d14_23)  kt_) ?_
  show Go _ _ _ _ _ _ _ _ T5 (mkF m 24 #[.val (.ref x0), .val (.ref x1)] [(.int (1 : Int32))])
  exact Go.retN X5 hx (t := .boolean) Bd.returns (by simp) hlk (hb hby d14_24) (by decide) (by decide) ⟨b6q2q2q5, k6q2q2q5, rfl, N5_, K5, p5_0, p5_1, p5_2, sz_b6q2q2q5, p5_4, p5_5, p5_6⟩
theorem pd_LLjava_lang_Object_RZ : parseMethodDescriptor "(Ljava/lang/Object;)Z" = some ⟨[(.object "java/lang/Object")], some .boolean⟩ := by decide +kernel
theorem d9_11 : decode jdk_38_method_9_code 11 = .ok (.iconst 0, 1) := by decide +kernel
theorem ef_a9_1 (m : MethodId) (y0 : Addr) : entryFrame m #[(.ref y0)] 1 = mkF m 0 #[.val (.ref y0)] [] := by first | (simp [entryFrame, mkF, argsToLocals, Value.category]; done) | rfl
def Q_a9_1 (Z : State) (dc : Addr) (kdc : ClassId) (el : Addr) (ee : Addr) (kee : ClassId) (ca : Addr) (cc : Cell) (eo : Addr) (mo : Addr) (x0 : Addr) (w1 : Int32) (h0 : Heap) (v : Option Value) (h : Heap) (L : List Loc) : Prop := v = some (.int (0 : Int32)) ∧ Fr Z.heap.size L ∧ h = h0
set_option maxRecDepth 65536 in
set_option maxHeartbeats 40000000 in
theorem rm_a9_1 (l : Launch) (Z : State) (a0 : Array Value) (hw : ∀ d ∈ tables_1, d.before a0 Z = true) (ws : List Jvm.Cond) (dc : Addr) (kdc : ClassId) (el : Addr) (ee : Addr) (kee : ClassId) (ca : Addr) (cc : Cell) (eo : Addr) (mo : Addr) (G_dc : Sta Z Z.heap "java/util/ArrayList" "DEFAULTCAPACITY_EMPTY_ELEMENTDATA" "[Ljava/lang/Object;" (.ref dc)) (G_dce : Exa Z Z.heap dc "[Ljava/lang/Object;") (G_dcv : Arv Z Z.heap dc kdc (.object "java/lang/Object") (0 : Int32) [] .null) (G_el : Sta Z Z.heap "java/util/ImmutableCollections" "EMPTY_LIST" "Ljava/util/ImmutableCollections$ListN;" (.ref el)) (G_ele : Exa Z Z.heap el "java/util/ImmutableCollections$ListN") (G_elf : Fld Z Z.heap el "java/util/ImmutableCollections$ListN" "elements" "[Ljava/lang/Object;" (.ref ee)) (G_eev : Arv Z Z.heap ee kee (.object "java/lang/Object") (0 : Int32) [] .null) (G_hi : Sta Z Z.heap "java/lang/Integer$IntegerCache" "high" "I" (.int (127 : Int32))) (G_ca : Sta Z Z.heap "java/lang/Integer$IntegerCache" "cache" "[Ljava/lang/Integer;" (.ref ca)) (G_bx : Bxs Z ca cc "java/lang/Integer" "I" 256 (fun j => .int (j - 128))) (G_eo : Sta Z Z.heap "java/util/ImmutableCollections" "EMPTY" "Ljava/lang/Object;" (.ref eo)) (G_eoe : Exa Z Z.heap eo "java/lang/Object") (G_mo : MirO Z "[Ljava/lang/Object;" mo) (x0 : Addr) (w1 : Int32) (h0 : Heap) (O0 : Ext Z.heap h0) (r0 : Fld Z h0 x0 "java/util/ArrayList" "size" "I" (.int w1)) (r1 : ¬ (w1 = (0 : Int32))) :
    MetFree l (⟨"java/util/ArrayList", "isEmpty", "()Z"⟩ : MethodName) (head1 (Jvm.Cond.code (⟨"java/util/ArrayList", "isEmpty", "()Z"⟩ : MethodName) jdk_38_method_9_code 1 (some .boolean) :: ws) ({ frames := 0, cells := 0, slots := 0, locals := 0 } : Room)) (fun a U => a = #[(.ref x0)] ∧ Z.Warmed39 U.vm ∧ U.heap = h0) (fun _ _ _ _ _ => True) (fun _ U o U' => ∃ v L, o = .returned v ∧ Q_a9_1 Z dc kdc el ee kee ca cc eo mo x0 w1 h0 v U'.heap L ∧ FrameEnd U o U' L ({ frames := 0, cells := 0, slots := 0, locals := 0 } : Room).cells ({ frames := 0, cells := 0, slots := 0, locals := 0 } : Room).slots) := by
  refine MetFree.of_bodySF (plainFor_of_name pn_9) hisR ?_
  intro p e s m args below meth c s₁ Bd hml0 hP hK
  obtain ⟨rfl, hZ, hh⟩ := hP
  have hx := Bd.exec
  have hby := Bd.bytes
  have hlk := Bd.notSynchronized
  have hml : c.maxLocals = 1 := hml0
  have hown : s.vm.findClass "java/util/ArrayList" = some m.cls := findClass_of_methodNamed Bd.named
  have hnm := (name_of_methodNamed Bd.named Bd.method).1
  have X0 : Stand p l e ({ frames := 0, cells := 0, slots := 0, locals := 0 } : Room) s m #[(.ref x0)] below meth c s₁ [] 0 0 := Stand.of_body Bd
  have e0 : s₁.heap = h0 := by rw [← hh, Bd.state]; rfl
  have N0 := Fr.nil Z.heap.size
  show Go FrameEnd p e below s ({ frames := 0, cells := 0, slots := 0, locals := 0 } : Room).cells ({ frames := 0, cells := 0, slots := 0, locals := 0 } : Room).slots (Q_a9_1 Z dc kdc el ee kee ca cc eo mo x0 w1 h0) s₁ (entryFrame m #[(.ref x0)] 1)
  refine Go.cast (ef_a9_1 m x0) ?_
  show Go _ _ _ _ _ _ _ _ s₁ (mkF m 0 #[.val (.ref x0)] [])
  refine Go.step (fun _ kt_ => XS.aloadN X0.here hx rfl (hb hby d9_0) rfl rfl kt_) ?_
  show Go _ _ _ _ _ _ _ _ s₁ (mkF m 1 #[.val (.ref x0)] [(.ref x0)])
  obtain ⟨T1, X1, e1, st1⟩ := getF X0 hx hZ hown (host := "") (Or.inl (hw _ (List.mem_of_getElem? (i := 66) rfl))) Via.refl e0 r0 (g := (mkF m 1 #[.val (.ref x0)] [(.ref x0)])) rfl rfl (hb hby d9_1)
  refine Go.step st1 ?_
  show Go _ _ _ _ _ _ _ _ T1 (mkF m 4 #[.val (.ref x0)] [(.int w1)])
  refine Go.step (fun _ kt_ => XS.ifYes X1.here hx rfl (pc0 := 4) (pc' := 11) rfl (hb hby d9_4) rfl ((if0 _ _).trans (feq r1).2) (by decide) (by decide) kt_) ?_
  show Go _ _ _ _ _ _ _ _ T1 (mkF m 11 #[.val (.ref x0)] [])
  refine Go.step (fun _ kt_ => XS.iconst X1.here hx rfl (hb hby d9_11)  kt_) ?_
  show Go _ _ _ _ _ _ _ _ T1 (mkF m 12 #[.val (.ref x0)] [(.int (0 : Int32))])
  exact Go.retN X1 hx (t := .boolean) Bd.returns (by simp) hlk (hb hby d9_12) (by decide) (by decide) (by show _ ∧ _ ∧ _; rw [e1]; exact ⟨rfl, N0, rfl⟩)
theorem d8_44 : decode jdk_56_method_3_code 44 = .ok (.aload_n 0, 1) := by decide +kernel
theorem d8_45 : decode jdk_56_method_3_code 45 = .ok (.invokeinterface 30 1, 5) := by decide +kernel
theorem d19_0 : decode jdk_38_method_16_code 0 = .ok (.aload_n 0, 1) := by decide +kernel
theorem d19_1 : decode jdk_38_method_16_code 1 = .ok (.getfield 9, 3) := by decide +kernel
theorem d19_4 : decode jdk_38_method_16_code 4 = .ok (.aload_n 0, 1) := by decide +kernel
theorem d19_5 : decode jdk_38_method_16_code 5 = .ok (.getfield 48, 3) := by decide +kernel
theorem d19_8 : decode jdk_38_method_16_code 8 = .ok (.invokestatic 66, 3) := by decide +kernel
theorem d20_0 : decode jdk_65_method_119_code 0 = .ok (.aload_n 0, 1) := by decide +kernel
theorem d20_1 : decode jdk_65_method_119_code 1 = .ok (.iload_n 1, 1) := by decide +kernel
theorem d20_2 : decode jdk_65_method_119_code 2 = .ok (.aload_n 0, 1) := by decide +kernel
theorem d20_3 : decode jdk_65_method_119_code 3 = .ok (.invokevirtual 86, 3) := by decide +kernel
theorem d20_6 : decode jdk_65_method_119_code 6 = .ok (.invokestatic 300, 3) := by decide +kernel
theorem d21_0 : decode jdk_65_method_120_code 0 = .ok (.aload_n 2, 1) := by decide +kernel
theorem d21_1 : decode jdk_65_method_120_code 1 = .ok (.ldc 110, 2) := by decide +kernel
theorem d21_3 : decode jdk_65_method_120_code 3 = .ok (.if_acmp .ne 10, 3) := by decide +kernel
theorem d21_6 : decode jdk_65_method_120_code 6 = .ok (.iload_n 1, 1) := by decide +kernel
theorem d21_7 : decode jdk_65_method_120_code 7 = .ok (.anewarray 2, 3) := by decide +kernel
theorem d21_10 : decode jdk_65_method_120_code 10 = .ok (.goto 14, 3) := by decide +kernel
theorem d21_24 : decode jdk_65_method_120_code 24 = .ok (.astore_n 3, 1) := by decide +kernel
theorem d21_25 : decode jdk_65_method_120_code 25 = .ok (.aload_n 0, 1) := by decide +kernel
theorem d21_26 : decode jdk_65_method_120_code 26 = .ok (.iconst 0, 1) := by decide +kernel
theorem d21_27 : decode jdk_65_method_120_code 27 = .ok (.aload_n 3, 1) := by decide +kernel
theorem d21_28 : decode jdk_65_method_120_code 28 = .ok (.iconst 0, 1) := by decide +kernel
theorem d21_29 : decode jdk_65_method_120_code 29 = .ok (.aload_n 0, 1) := by decide +kernel
theorem d21_30 : decode jdk_65_method_120_code 30 = .ok (.arraylength, 1) := by decide +kernel
theorem d21_31 : decode jdk_65_method_120_code 31 = .ok (.iload_n 1, 1) := by decide +kernel
theorem d21_32 : decode jdk_65_method_120_code 32 = .ok (.invokestatic 304, 3) := by decide +kernel
theorem d22_0 : decode jdk_29_method_69_code 0 = .ok (.iload_n 0, 1) := by decide +kernel
theorem d22_1 : decode jdk_29_method_69_code 1 = .ok (.iload_n 1, 1) := by decide +kernel
theorem d22_2 : decode jdk_29_method_69_code 2 = .ok (.if_icmp .gt 7, 3) := by decide +kernel
theorem d22_9 : decode jdk_29_method_69_code 9 = .ok (.iload_n 1, 1) := by decide +kernel
theorem d22_10 : decode jdk_29_method_69_code 10 = .ok (.ireturn, 1) := by decide +kernel
theorem ef_a22_0 (m : MethodId) (y0 : Int32) (y1 : Int32) : entryFrame m #[(.int y0), (.int y1)] 2 = mkF m 0 #[.val (.int y0), .val (.int y1)] [] := by first | (simp [entryFrame, mkF, argsToLocals, Value.category]; done) | rfl
def Q_a22_0 (Z : State) (dc : Addr) (kdc : ClassId) (el : Addr) (ee : Addr) (kee : ClassId) (ca : Addr) (cc : Cell) (eo : Addr) (mo : Addr) (x0 : Int32) (x1 : Int32) (h0 : Heap) (v : Option Value) (h : Heap) (L : List Loc) : Prop := v = some (.int x1) ∧ Fr Z.heap.size L ∧ h = h0
set_option maxRecDepth 65536 in
set_option maxHeartbeats 40000000 in
theorem rm_a22_0 (l : Launch) (Z : State) (a0 : Array Value) (hw : ∀ d ∈ tables_1, d.before a0 Z = true) (ws : List Jvm.Cond) (dc : Addr) (kdc : ClassId) (el : Addr) (ee : Addr) (kee : ClassId) (ca : Addr) (cc : Cell) (eo : Addr) (mo : Addr) (G_dc : Sta Z Z.heap "java/util/ArrayList" "DEFAULTCAPACITY_EMPTY_ELEMENTDATA" "[Ljava/lang/Object;" (.ref dc)) (G_dce : Exa Z Z.heap dc "[Ljava/lang/Object;") (G_dcv : Arv Z Z.heap dc kdc (.object "java/lang/Object") (0 : Int32) [] .null) (G_el : Sta Z Z.heap "java/util/ImmutableCollections" "EMPTY_LIST" "Ljava/util/ImmutableCollections$ListN;" (.ref el)) (G_ele : Exa Z Z.heap el "java/util/ImmutableCollections$ListN") (G_elf : Fld Z Z.heap el "java/util/ImmutableCollections$ListN" "elements" "[Ljava/lang/Object;" (.ref ee)) (G_eev : Arv Z Z.heap ee kee (.object "java/lang/Object") (0 : Int32) [] .null) (G_hi : Sta Z Z.heap "java/lang/Integer$IntegerCache" "high" "I" (.int (127 : Int32))) (G_ca : Sta Z Z.heap "java/lang/Integer$IntegerCache" "cache" "[Ljava/lang/Integer;" (.ref ca)) (G_bx : Bxs Z ca cc "java/lang/Integer" "I" 256 (fun j => .int (j - 128))) (G_eo : Sta Z Z.heap "java/util/ImmutableCollections" "EMPTY" "Ljava/lang/Object;" (.ref eo)) (G_eoe : Exa Z Z.heap eo "java/lang/Object") (G_mo : MirO Z "[Ljava/lang/Object;" mo) (x0 : Int32) (x1 : Int32) (h0 : Heap) (O0 : Ext Z.heap h0) (r0 : x1 < x0) :
    MetFree l (⟨"java/lang/Math", "min", "(II)I"⟩ : MethodName) (head1 (Jvm.Cond.code (⟨"java/lang/Math", "min", "(II)I"⟩ : MethodName) jdk_29_method_69_code 2 (some .int) :: ws) ({ frames := 0, cells := 0, slots := 0, locals := 0 } : Room)) (fun a U => a = #[(.int x0), (.int x1)] ∧ Z.Warmed39 U.vm ∧ U.heap = h0) (fun _ _ _ _ _ => True) (fun _ U o U' => ∃ v L, o = .returned v ∧ Q_a22_0 Z dc kdc el ee kee ca cc eo mo x0 x1 h0 v U'.heap L ∧ FrameEnd U o U' L ({ frames := 0, cells := 0, slots := 0, locals := 0 } : Room).cells ({ frames := 0, cells := 0, slots := 0, locals := 0 } : Room).slots) := by
  refine MetFree.of_bodySF (Jvm.Free.JP.mathPlain rfl (by decide +kernel)) hisR ?_
  intro p e s m args below meth c s₁ Bd hml0 hP hK
  obtain ⟨rfl, hZ, hh⟩ := hP
  have hx := Bd.exec
  have hby := Bd.bytes
  have hlk := Bd.notSynchronized
  have hml : c.maxLocals = 2 := hml0
  have hown : s.vm.findClass "java/lang/Math" = some m.cls := findClass_of_methodNamed Bd.named
  have hnm := (name_of_methodNamed Bd.named Bd.method).1
  have X0 : Stand p l e ({ frames := 0, cells := 0, slots := 0, locals := 0 } : Room) s m #[(.int x0), (.int x1)] below meth c s₁ [] 0 0 := Stand.of_body Bd
  have e0 : s₁.heap = h0 := by rw [← hh, Bd.state]; rfl
  have N0 := Fr.nil Z.heap.size
  show Go FrameEnd p e below s ({ frames := 0, cells := 0, slots := 0, locals := 0 } : Room).cells ({ frames := 0, cells := 0, slots := 0, locals := 0 } : Room).slots (Q_a22_0 Z dc kdc el ee kee ca cc eo mo x0 x1 h0) s₁ (entryFrame m #[(.int x0), (.int x1)] 2)
  refine Go.cast (ef_a22_0 m x0 x1) ?_
  show Go _ _ _ _ _ _ _ _ s₁ (mkF m 0 #[.val (.int x0), .val (.int x1)] [])
  refine Go.step (fun _ kt_ => XS.iloadN X0.here hx rfl (hb hby d22_0) rfl kt_) ?_
  show Go _ _ _ _ _ _ _ _ s₁ (mkF m 1 #[.val (.int x0), .val (.int x1)] [(.int x0)])
  refine Go.step (fun _ kt_ => XS.iloadN X0.here hx rfl (hb hby d22_1) rfl kt_) ?_
  show Go _ _ _ _ _ _ _ _ s₁ (mkF m 2 #[.val (.int x0), .val (.int x1)] [(.int x1), (.int x0)])
  refine Go.step (fun _ kt_ => XS.icmpYes X0.here hx rfl (pc0 := 2) (pc' := 9) rfl (hb hby d22_2) rfl (tlt r0).2.2.1 (by decide) (by decide) kt_) ?_
  show Go _ _ _ _ _ _ _ _ s₁ (mkF m 9 #[.val (.int x0), .val (.int x1)] [])
  refine Go.step (fun _ kt_ => XS.iloadN X0.here hx rfl (hb hby d22_9) rfl kt_) ?_
  show Go _ _ _ _ _ _ _ _ s₁ (mkF m 10 #[.val (.int x0), .val (.int x1)] [(.int x1)])
  exact Go.retI X0 hx Bd.returns hlk (hb hby d22_10) (by decide) (by decide) (by show _ ∧ _ ∧ _; rw [e0]; exact ⟨rfl, N0, rfl⟩)
theorem d21_35 : decode jdk_65_method_120_code 35 = .ok (.invokestatic 150, 3) := by decide +kernel
theorem d21_38 : decode jdk_65_method_120_code 38 = .ok (.aload_n 3, 1) := by decide +kernel
theorem d21_39 : decode jdk_65_method_120_code 39 = .ok (.areturn, 1) := by decide +kernel
theorem pn_21 : plainName "java/util/Arrays" = true := by first | (simp [plainName, overriddenIn]; done) | decide +kernel
theorem ef_a21_0 (m : MethodId) (y0 : Addr) (y1 : Int32) (y2 : Addr) : entryFrame m #[(.ref y0), (.int y1), (.ref y2)] 4 = mkF m 0 #[.val (.ref y0), .val (.int y1), .val (.ref y2), .unset] [] := by first | (simp [entryFrame, mkF, argsToLocals, Value.category]; done) | rfl
def Q_a21_0 (Z : State) (dc : Addr) (kdc : ClassId) (el : Addr) (ee : Addr) (kee : ClassId) (ca : Addr) (cc : Cell) (eo : Addr) (mo : Addr) (x0 : Addr) (kk1 : ClassId) (w2 : Addr) (h0 : Heap) (v : Option Value) (h : Heap) (L : List Loc) : Prop := ∃ (b2 : Addr) (k2 : ClassId), v = some (.ref b2) ∧ Fr Z.heap.size L ∧ Keep h0 h [] ∧ h0.size ≤ b2 ∧ Exa Z h b2 "[Ljava/lang/Object;" ∧ Arv Z h b2 k2 (.object "java/lang/Object") (1 : Int32) [(.ref w2)] .null ∧ Ovr Z k2 "java/lang/Object"
set_option maxRecDepth 65536 in
set_option maxHeartbeats 40000000 in
theorem rm_a21_0 (l : Launch) (Z : State) (a0 : Array Value) (hw : ∀ d ∈ tables_1, d.before a0 Z = true) (ws : List Jvm.Cond) (dc : Addr) (kdc : ClassId) (el : Addr) (ee : Addr) (kee : ClassId) (ca : Addr) (cc : Cell) (eo : Addr) (mo : Addr) (G_dc : Sta Z Z.heap "java/util/ArrayList" "DEFAULTCAPACITY_EMPTY_ELEMENTDATA" "[Ljava/lang/Object;" (.ref dc)) (G_dce : Exa Z Z.heap dc "[Ljava/lang/Object;") (G_dcv : Arv Z Z.heap dc kdc (.object "java/lang/Object") (0 : Int32) [] .null) (G_el : Sta Z Z.heap "java/util/ImmutableCollections" "EMPTY_LIST" "Ljava/util/ImmutableCollections$ListN;" (.ref el)) (G_ele : Exa Z Z.heap el "java/util/ImmutableCollections$ListN") (G_elf : Fld Z Z.heap el "java/util/ImmutableCollections$ListN" "elements" "[Ljava/lang/Object;" (.ref ee)) (G_eev : Arv Z Z.heap ee kee (.object "java/lang/Object") (0 : Int32) [] .null) (G_hi : Sta Z Z.heap "java/lang/Integer$IntegerCache" "high" "I" (.int (127 : Int32))) (G_ca : Sta Z Z.heap "java/lang/Integer$IntegerCache" "cache" "[Ljava/lang/Integer;" (.ref ca)) (G_bx : Bxs Z ca cc "java/lang/Integer" "I" 256 (fun j => .int (j - 128))) (G_eo : Sta Z Z.heap "java/util/ImmutableCollections" "EMPTY" "Ljava/lang/Object;" (.ref eo)) (G_eoe : Exa Z Z.heap eo "java/lang/Object") (G_mo : MirO Z "[Ljava/lang/Object;" mo) (x0 : Addr) (kk1 : ClassId) (w2 : Addr) (h0 : Heap) (O0 : Ext Z.heap h0) (r0 : Arv Z h0 x0 kk1 (.object "java/lang/Object") (10 : Int32) [(.ref w2), .null, .null, .null, .null, .null, .null, .null, .null, .null] .null) (r1 : Exa Z h0 w2 "com/example/wary_lock/warylock/Lease") :
    MetFree l (⟨"java/util/Arrays", "copyOf", "([Ljava/lang/Object;ILjava/lang/Class;)[Ljava/lang/Object;"⟩ : MethodName) (head1 (Jvm.Cond.code (⟨"java/util/Arrays", "copyOf", "([Ljava/lang/Object;ILjava/lang/Class;)[Ljava/lang/Object;"⟩ : MethodName) jdk_65_method_120_code 4 (some (.array (.object "java/lang/Object"))) :: ws) ({ frames := 1, cells := 1, slots := 1, locals := 18 } : Room)) (fun a U => a = #[(.ref x0), (.int (1 : Int32)), (.ref mo)] ∧ Z.Warmed39 U.vm ∧ U.heap = h0) (fun _ _ _ _ _ => True) (fun _ U o U' => ∃ v L, o = .returned v ∧ Q_a21_0 Z dc kdc el ee kee ca cc eo mo x0 kk1 w2 h0 v U'.heap L ∧ FrameEnd U o U' L ({ frames := 1, cells := 1, slots := 1, locals := 18 } : Room).cells ({ frames := 1, cells := 1, slots := 1, locals := 18 } : Room).slots) := by
  refine MetFree.of_bodySF (plainFor_of_name pn_21) hisR ?_
  intro p e s m args below meth c s₁ Bd hml0 hP hK
  obtain ⟨rfl, hZ, hh⟩ := hP
  have hx := Bd.exec
  have hby := Bd.bytes
  have hlk := Bd.notSynchronized
  have hml : c.maxLocals = 4 := hml0
  have hown : s.vm.findClass "java/util/Arrays" = some m.cls := findClass_of_methodNamed Bd.named
  have hnm := (name_of_methodNamed Bd.named Bd.method).1
  have X0 : Stand p l e ({ frames := 1, cells := 1, slots := 1, locals := 18 } : Room) s m #[(.ref x0), (.int (1 : Int32)), (.ref mo)] below meth c s₁ [] 0 0 := Stand.of_body Bd
  have e0 : s₁.heap = h0 := by rw [← hh, Bd.state]; rfl
  have N0 := Fr.nil Z.heap.size
  show Go FrameEnd p e below s ({ frames := 1, cells := 1, slots := 1, locals := 18 } : Room).cells ({ frames := 1, cells := 1, slots := 1, locals := 18 } : Room).slots (Q_a21_0 Z dc kdc el ee kee ca cc eo mo x0 kk1 w2 h0) s₁ (entryFrame m #[(.ref x0), (.int (1 : Int32)), (.ref mo)] 4)
  refine Go.cast (ef_a21_0 m x0 (1 : Int32) mo) ?_
  show Go _ _ _ _ _ _ _ _ s₁ (mkF m 0 #[.val (.ref x0), .val (.int (1 : Int32)), .val (.ref mo), .unset] [])
  refine Go.step (fun _ kt_ => XS.aloadN X0.here hx rfl (hb hby d21_0) rfl rfl kt_) ?_
  show Go _ _ _ _ _ _ _ _ s₁ (mkF m 1 #[.val (.ref x0), .val (.int (1 : Int32)), .val (.ref mo), .unset] [(.ref mo)])
  obtain ⟨T1, X1, e1, st1⟩ := own_ldcMir X0 hx hZ hown (hw _ (List.mem_of_getElem? (i := 177) rfl)) e0 G_mo (g := (mkF m 1 #[.val (.ref x0), .val (.int (1 : Int32)), .val (.ref mo), .unset] [(.ref mo)])) rfl (hb hby d21_1)
  refine Go.step st1 ?_
  show Go _ _ _ _ _ _ _ _ T1 (mkF m 3 #[.val (.ref x0), .val (.int (1 : Int32)), .val (.ref mo), .unset] [(.ref mo), (.ref mo)])
  refine Go.step (fun _ kt_ => Jvm.RoadKit.acmp (g := (mkF m 3 #[.val (.ref x0), .val (.int (1 : Int32)), .val (.ref mo), .unset] [(.ref mo), (.ref mo)])) X1 hx rfl rfl rfl (pc0 := 3) (pc' := 6) (same := true) rfl (hb hby d21_3) rfl (decide_eq_true rfl) (by decide) (by decide) kt_) ?_
  show Go _ _ _ _ _ _ _ _ T1 (mkF m 6 #[.val (.ref x0), .val (.int (1 : Int32)), .val (.ref mo), .unset] [])
  refine Go.step (fun _ kt_ => XS.iloadN X1.here hx rfl (hb hby d21_6) rfl kt_) ?_
  show Go _ _ _ _ _ _ _ _ T1 (mkF m 7 #[.val (.ref x0), .val (.int (1 : Int32)), .val (.ref mo), .unset] [(.int (1 : Int32))])
  obtain ⟨T2, h2, k2, X2, e2, E2, A2, B2, O2, st2⟩ := newRE X1 hx hZ hown (hw _ (List.mem_of_getElem? (i := 178) rfl)) (hw _ (List.mem_of_getElem? (i := 152) rfl)) e1 (g := (mkF m 7 #[.val (.ref x0), .val (.int (1 : Int32)), .val (.ref mo), .unset] [(.int (1 : Int32))])) rfl (hb hby d21_7) rfl (by decide) (cap := 1) (by decide) (by decide) (by decide) (by decide) rfl
  obtain ⟨b2, hb2⟩ : ∃ z, z = h0.size := ⟨_, rfl⟩
  rw [← hb2] at A2 B2 st2
  refine Go.step st2 ?_
  have g_b2 : Z.heap.size ≤ b2 := Nat.le_trans O0.1 (Nat.le_of_eq hb2.symm)
  have O2_ : Ext Z.heap h2 := extTr O0 E2
  have sz_b2 : h0.size ≤ b2 := Nat.le_trans (Keep.refl h0 []).1 (Nat.le_of_eq hb2.symm)
  have K2 := Keep.ext (Keep.refl h0 []) E2
  have V2 : Arv Z h2 b2 k2 (.object "java/lang/Object") (1 : Int32) [.null] .null := (Arv.new A2 (by decide)).pad (pad_rep [] .null 1)
  show Go _ _ _ _ _ _ _ _ T2 (mkF m 10 #[.val (.ref x0), .val (.int (1 : Int32)), .val (.ref mo), .unset] [(.ref b2)])
  refine Go.step (fun _ kt_ => XS.goto X2.here hx rfl (pc0 := 10) (pc' := 24) rfl (hb hby d21_10) (by decide) (by decide) kt_) ?_
  show Go _ _ _ _ _ _ _ _ T2 (mkF m 24 #[.val (.ref x0), .val (.int (1 : Int32)), .val (.ref mo), .unset] [(.ref b2)])
  refine Go.step (fun _ kt_ => XS.astoreN X2.here hx rfl (hb hby d21_24) rfl rfl (l' := #[.val (.ref x0), .val (.int (1 : Int32)), .val (.ref mo), .val (.ref b2)]) rfl kt_) ?_
  show Go _ _ _ _ _ _ _ _ T2 (mkF m 25 #[.val (.ref x0), .val (.int (1 : Int32)), .val (.ref mo), .val (.ref b2)] [])
  refine Go.step (fun _ kt_ => XS.aloadN X2.here hx rfl (hb hby d21_25) rfl rfl kt_) ?_
  show Go _ _ _ _ _ _ _ _ T2 (mkF m 26 #[.val (.ref x0), .val (.int (1 : Int32)), .val (.ref mo), .val (.ref b2)] [(.ref x0)])
  refine Go.step (fun _ kt_ => XS.iconst X2.here hx rfl (hb hby d21_26)  kt_) ?_
  show Go _ _ _ _ _ _ _ _ T2 (mkF m 27 #[.val (.ref x0), .val (.int (1 : Int32)), .val (.ref mo), .val (.ref b2)] [(.int (0 : Int32)), (.ref x0)])
  refine Go.step (fun _ kt_ => XS.aloadN X2.here hx rfl (hb hby d21_27) rfl rfl kt_) ?_
  show Go _ _ _ _ _ _ _ _ T2 (mkF m 28 #[.val (.ref x0), .val (.int (1 : Int32)), .val (.ref mo), .val (.ref b2)] [(.ref b2), (.int (0 : Int32)), (.ref x0)])
  refine Go.step (fun _ kt_ => XS.iconst X2.here hx rfl (hb hby d21_28)  kt_) ?_
  show Go _ _ _ _ _ _ _ _ T2 (mkF m 29 #[.val (.ref x0), .val (.int (1 : Int32)), .val (.ref mo), .val (.ref b2)] [(.int (0 : Int32)), (.ref b2), (.int (0 : Int32)), (.ref x0)])
  refine Go.step (fun _ kt_ => XS.aloadN X2.here hx rfl (hb hby d21_29) rfl rfl kt_) ?_
  show Go _ _ _ _ _ _ _ _ T2 (mkF m 30 #[.val (.ref x0), .val (.int (1 : Int32)), .val (.ref mo), .val (.ref b2)] [(.ref x0), (.int (0 : Int32)), (.ref b2), (.int (0 : Int32)), (.ref x0)])
  obtain ⟨cl3, Ar3, -, S3, N3, -, -⟩ := id (r0.ext E2)
  refine Go.step (X2.arraylength hx (by rw [e2]; exact Ar3.1) (State.isArrayOf_alike hZ.alike Ar3.2.1) (g := (mkF m 30 #[.val (.ref x0), .val (.int (1 : Int32)), .val (.ref mo), .val (.ref b2)] [(.ref x0), (.int (0 : Int32)), (.ref b2), (.int (0 : Int32)), (.ref x0)])) rfl rfl (hb hby d21_30)) ?_
  rw [len_of S3 N3]
  show Go _ _ _ _ _ _ _ _ T2 (mkF m 31 #[.val (.ref x0), .val (.int (1 : Int32)), .val (.ref mo), .val (.ref b2)] [(.int (10 : Int32)), (.int (0 : Int32)), (.ref b2), (.int (0 : Int32)), (.ref x0)])
  refine Go.step (fun _ kt_ => XS.iloadN X2.here hx rfl (hb hby d21_31) rfl kt_) ?_
  show Go _ _ _ _ _ _ _ _ T2 (mkF m 32 #[.val (.ref x0), .val (.int (1 : Int32)), .val (.ref mo), .val (.ref b2)] [(.int (1 : Int32)), (.int (10 : Int32)), (.int (0 : Int32)), (.ref b2), (.int (0 : Int32)), (.ref x0)])
  obtain ⟨_, _, ⟨T4, L4, k4, n4⟩, -, X4, ⟨Lc4, hQ4, l4, y4, z4⟩, st4⟩ := Jvm.LawKit.callS X2 hx (y := (⟨"java/lang/Math", "min", "(II)I"⟩ : MethodName)) hown (mvT hZ (hw _ (List.mem_of_getElem? (i := 179) rfl))) (mvT hZ (hw _ (List.mem_of_getElem? (i := 180) rfl))) (mvT hZ (hw _ (List.mem_of_getElem? (i := 149) rfl))) (mvT hZ (hw _ (List.mem_of_getElem? (i := 181) rfl))) (by decide) (backOf (W := 4) (rm_a22_0 l Z a0 hw [] dc kdc el ee kee ca cc eo mo G_dc G_dce G_dcv G_el G_ele G_elf G_eev G_hi G_ca G_bx G_eo G_eoe G_mo (10 : Int32) (1 : Int32) h2 O2_ (by decide)) hZ (hw _ (List.mem_of_getElem? (i := 181) rfl)) (hw _ (List.mem_of_getElem? (i := 149) rfl)) (by decide) (by decide)) (g := (mkF m 32 #[.val (.ref x0), .val (.int (1 : Int32)), .val (.ref mo), .val (.ref b2)] [(.int (1 : Int32)), (.int (10 : Int32)), (.int (0 : Int32)), (.ref b2), (.int (0 : Int32)), (.ref x0)])) rfl (by rw [hml]; rfl) (argsL := [(.int (10 : Int32)), (.int (1 : Int32))]) (rest := [(.int (0 : Int32)), (.ref b2), (.int (0 : Int32)), (.ref x0)]) (lenOf pd_LIIRI rfl) rfl (by show 2 * 0 + _ ≤ _; exact Nat.le_of_eq rfl) (hb hby d21_32) (fun _ _ => ⟨rfl, e2, (by decide : 1 + 0 ≤ _), (by decide : 1 + 0 ≤ _)⟩)
  dsimp only [Pt.U, Pt.locs, Pt.cells, Pt.slots] at X4 l4 y4 z4 st4 hQ4
  subst l4 y4 z4
  obtain ⟨rfl, Nq4, e4⟩ := hQ4
  have N4_ := Fr.app N0 Nq4
  refine Go.step st4 ?_
  show Go _ _ _ _ _ _ _ _ T4 (mkF m 35 #[.val (.ref x0), .val (.int (1 : Int32)), .val (.ref mo), .val (.ref b2)] [(.int (1 : Int32)), (.int (0 : Int32)), (.ref b2), (.int (0 : Int32)), (.ref x0)])
  obtain ⟨cl5, Ar5, q5, -⟩ := id V2
  obtain ⟨T5, h5, L5, X5, e5, N5_, K5_, V5_, st5⟩ := cpA X4 hx hZ hown (hw _ (List.mem_of_getElem? (i := 182) rfl)) (hw _ (List.mem_of_getElem? (i := 185) rfl)) (hw _ (List.mem_of_getElem? (i := 183) rfl)) (hw _ (List.mem_of_getElem? (i := 184) rfl)) e4 (us := [(.ref w2)]) (r0.ext E2) V2 (Or.inr ⟨rfl, rfl, ⟨(Sto.ofV Ar5 q5 O2 (Ins.of_exa (Exa.ext E2 r1) (hw _ (List.mem_of_getElem? (i := 153) rfl)))), trivial⟩⟩) (by decide) (by decide) (by decide) (by decide) (by decide) rfl (by decide) N4_ g_b2 (g := (mkF m 35 #[.val (.ref x0), .val (.int (1 : Int32)), .val (.ref mo), .val (.ref b2)] [(.int (1 : Int32)), (.int (0 : Int32)), (.ref b2), (.int (0 : Int32)), (.ref x0)])) rfl (by rw [hml]; rfl) rfl (hb hby d21_35) (by decide) (W := 0) (by show 2 * 0 + _ ≤ _; exact Nat.le_of_eq rfl) (by decide)
  refine Go.step st5 ?_
  have V5 : Arv Z h5 b2 k2 (.object "java/lang/Object") (1 : Int32) [(.ref w2)] .null := V5_
  have O5_ : Ext Z.heap h5 := extKeep O2_ K5_ (allS g_b2 all0)
  have K5 := Keep.trans K2 K5_ (allS (Or.inr sz_b2) all0)
  show Go _ _ _ _ _ _ _ _ T5 (mkF m 38 #[.val (.ref x0), .val (.int (1 : Int32)), .val (.ref mo), .val (.ref b2)] [])
  refine Go.step (fun _ kt_ => XS.aloadN X5.here hx rfl (hb hby d21_38) rfl rfl kt_) ?_
  show Go _ _ _ _ _ _ _ _ T5 (mkF m 39 #[.val (.ref x0), .val (.int (1 : Int32)), .val (.ref mo), .val (.ref b2)] [(.ref b2)])
  exact Go.retA X5 hx Bd.returns rfl rfl hlk (hb hby d21_39) (by decide) (by decide) (by show Q_a21_0 _ _ _ _ _ _ _ _ _ _ _ _ _ _ _ _ _; rw [e5]; exact ⟨b2, k2, rfl, N5_, K5, sz_b2, (B2.keep K5_), V5, O2⟩)
theorem pd_LALjava_lang_Object_ILjava_lang_Class_RALjava_lang_Object_ : parseMethodDescriptor "([Ljava/lang/Object;ILjava/lang/Class;)[Ljava/lang/Object;" = some ⟨[(.array (.object "java/lang/Object")), .int, (.object "java/lang/Class")], some (.array (.object "java/lang/Object"))⟩ := by decide +kernel
theorem d20_9 : decode jdk_65_method_119_code 9 = .ok (.areturn, 1) := by decide +kernel
theorem pn_20 : plainName "java/util/Arrays" = true := by first | (simp [plainName, overriddenIn]; done) | decide +kernel
theorem ef_a20_0 (m : MethodId) (y0 : Addr) (y1 : Int32) : entryFrame m #[(.ref y0), (.int y1)] 2 = mkF m 0 #[.val (.ref y0), .val (.int y1)] [] := by first | (simp [entryFrame, mkF, argsToLocals, Value.category]; done) | rfl
def Q_a20_0 (Z : State) (dc : Addr) (kdc : ClassId) (el : Addr) (ee : Addr) (kee : ClassId) (ca : Addr) (cc : Cell) (eo : Addr) (mo : Addr) (x0 : Addr) (kk1 : ClassId) (w2 : Addr) (h0 : Heap) (v : Option Value) (h : Heap) (L : List Loc) : Prop := ∃ (b2q2 : Addr) (k2q2 : ClassId), v = some (.ref b2q2) ∧ Fr Z.heap.size L ∧ Keep h0 h [] ∧ h0.size ≤ b2q2 ∧ Exa Z h b2q2 "[Ljava/lang/Object;" ∧ Arv Z h b2q2 k2q2 (.object "java/lang/Object") (1 : Int32) [(.ref w2)] .null ∧ Ovr Z k2q2 "java/lang/Object"
set_option maxRecDepth 65536 in
set_option maxHeartbeats 40000000 in
theorem rm_a20_0 (l : Launch) (Z : State) (a0 : Array Value) (hw : ∀ d ∈ tables_1, d.before a0 Z = true) (ws : List Jvm.Cond) (dc : Addr) (kdc : ClassId) (el : Addr) (ee : Addr) (kee : ClassId) (ca : Addr) (cc : Cell) (eo : Addr) (mo : Addr) (G_dc : Sta Z Z.heap "java/util/ArrayList" "DEFAULTCAPACITY_EMPTY_ELEMENTDATA" "[Ljava/lang/Object;" (.ref dc)) (G_dce : Exa Z Z.heap dc "[Ljava/lang/Object;") (G_dcv : Arv Z Z.heap dc kdc (.object "java/lang/Object") (0 : Int32) [] .null) (G_el : Sta Z Z.heap "java/util/ImmutableCollections" "EMPTY_LIST" "Ljava/util/ImmutableCollections$ListN;" (.ref el)) (G_ele : Exa Z Z.heap el "java/util/ImmutableCollections$ListN") (G_elf : Fld Z Z.heap el "java/util/ImmutableCollections$ListN" "elements" "[Ljava/lang/Object;" (.ref ee)) (G_eev : Arv Z Z.heap ee kee (.object "java/lang/Object") (0 : Int32) [] .null) (G_hi : Sta Z Z.heap "java/lang/Integer$IntegerCache" "high" "I" (.int (127 : Int32))) (G_ca : Sta Z Z.heap "java/lang/Integer$IntegerCache" "cache" "[Ljava/lang/Integer;" (.ref ca)) (G_bx : Bxs Z ca cc "java/lang/Integer" "I" 256 (fun j => .int (j - 128))) (G_eo : Sta Z Z.heap "java/util/ImmutableCollections" "EMPTY" "Ljava/lang/Object;" (.ref eo)) (G_eoe : Exa Z Z.heap eo "java/lang/Object") (G_mo : MirO Z "[Ljava/lang/Object;" mo) (x0 : Addr) (kk1 : ClassId) (w2 : Addr) (h0 : Heap) (O0 : Ext Z.heap h0) (r0 : Exa Z h0 x0 "[Ljava/lang/Object;") (r1 : Arv Z h0 x0 kk1 (.object "java/lang/Object") (10 : Int32) [(.ref w2), .null, .null, .null, .null, .null, .null, .null, .null, .null] .null) (r2 : Exa Z h0 w2 "com/example/wary_lock/warylock/Lease") :
    MetFree l (⟨"java/util/Arrays", "copyOf", "([Ljava/lang/Object;I)[Ljava/lang/Object;"⟩ : MethodName) (head1 (Jvm.Cond.code (⟨"java/util/Arrays", "copyOf", "([Ljava/lang/Object;I)[Ljava/lang/Object;"⟩ : MethodName) jdk_65_method_119_code 2 (some (.array (.object "java/lang/Object"))) :: ws) ({ frames := 2, cells := 1, slots := 1, locals := 33 } : Room)) (fun a U => a = #[(.ref x0), (.int (1 : Int32))] ∧ Z.Warmed39 U.vm ∧ U.heap = h0) (fun _ _ _ _ _ => True) (fun _ U o U' => ∃ v L, o = .returned v ∧ Q_a20_0 Z dc kdc el ee kee ca cc eo mo x0 kk1 w2 h0 v U'.heap L ∧ FrameEnd U o U' L ({ frames := 2, cells := 1, slots := 1, locals := 33 } : Room).cells ({ frames := 2, cells := 1, slots := 1, locals := 33 } : Room).slots) := by
  refine MetFree.of_bodySF (plainFor_of_name pn_20) hisR ?_
  intro p e s m args below meth c s₁ Bd hml0 hP hK
  obtain ⟨rfl, hZ, hh⟩ := hP
  have hx := Bd.exec
  have hby := Bd.bytes
  have hlk := Bd.notSynchronized
  have hml : c.maxLocals = 2 := hml0
  have hown : s.vm.findClass "java/util/Arrays" = some m.cls := findClass_of_methodNamed Bd.named
  have hnm := (name_of_methodNamed Bd.named Bd.method).1
  have X0 : Stand p l e ({ frames := 2, cells := 1, slots := 1, locals := 33 } : Room) s m #[(.ref x0), (.int (1 : Int32))] below meth c s₁ [] 0 0 := Stand.of_body Bd
  have e0 : s₁.heap = h0 := by rw [← hh, Bd.state]; rfl
  have N0 := Fr.nil Z.heap.size
  show Go FrameEnd p e below s ({ frames := 2, cells := 1, slots := 1, locals := 33 } : Room).cells ({ frames := 2, cells := 1, slots := 1, locals := 33 } : Room).slots (Q_a20_0 Z dc kdc el ee kee ca cc eo mo x0 kk1 w2 h0) s₁ (entryFrame m #[(.ref x0), (.int (1 : Int32))] 2)
  refine Go.cast (ef_a20_0 m x0 (1 : Int32)) ?_
  show Go _ _ _ _ _ _ _ _ s₁ (mkF m 0 #[.val (.ref x0), .val (.int (1 : Int32))] [])
  refine Go.step (fun _ kt_ => XS.aloadN X0.here hx rfl (hb hby d20_0) rfl rfl kt_) ?_
  show Go _ _ _ _ _ _ _ _ s₁ (mkF m 1 #[.val (.ref x0), .val (.int (1 : Int32))] [(.ref x0)])
  refine Go.step (fun _ kt_ => XS.iloadN X0.here hx rfl (hb hby d20_1) rfl kt_) ?_
  show Go _ _ _ _ _ _ _ _ s₁ (mkF m 2 #[.val (.ref x0), .val (.int (1 : Int32))] [(.int (1 : Int32)), (.ref x0)])
  refine Go.step (fun _ kt_ => XS.aloadN X0.here hx rfl (hb hby d20_2) rfl rfl kt_) ?_
  show Go _ _ _ _ _ _ _ _ s₁ (mkF m 3 #[.val (.ref x0), .val (.int (1 : Int32))] [(.ref x0), (.int (1 : Int32)), (.ref x0)])
  obtain ⟨T1, X1, e1, st1⟩ := own_gcls X0 hx hZ hown (hw _ (List.mem_of_getElem? (i := 168) rfl)) (hw _ (List.mem_of_getElem? (i := 169) rfl)) (hw _ (List.mem_of_getElem? (i := 55) rfl)) (hw _ (List.mem_of_getElem? (i := 171) rfl)) (hw _ (List.mem_of_getElem? (i := 170) rfl)) (hw _ (List.mem_of_getElem? (i := 172) rfl)) e0 r0 G_mo (g := (mkF m 3 #[.val (.ref x0), .val (.int (1 : Int32))] [(.ref x0), (.int (1 : Int32)), (.ref x0)])) rfl (by rw [hml]; rfl) rfl (hb hby d20_3) (by decide) (W := 2) (by show 2 * 0 + _ ≤ _; exact Nat.le_of_eq rfl) (by decide)
  refine Go.step st1 ?_
  show Go _ _ _ _ _ _ _ _ T1 (mkF m 6 #[.val (.ref x0), .val (.int (1 : Int32))] [(.ref mo), (.int (1 : Int32)), (.ref x0)])
  obtain ⟨_, _, ⟨T2, L2, k2, n2⟩, -, X2, ⟨Lc2, hQ2, l2, y2, z2⟩, st2⟩ := Jvm.LawKit.callS X1 hx (y := (⟨"java/util/Arrays", "copyOf", "([Ljava/lang/Object;ILjava/lang/Class;)[Ljava/lang/Object;"⟩ : MethodName)) hown (mvT hZ (hw _ (List.mem_of_getElem? (i := 174) rfl))) (mvT hZ (hw _ (List.mem_of_getElem? (i := 175) rfl))) (mvT hZ (hw _ (List.mem_of_getElem? (i := 166) rfl))) (mvT hZ (hw _ (List.mem_of_getElem? (i := 176) rfl))) (by decide) (backOf (W := 0) (rm_a21_0 l Z a0 hw [] dc kdc el ee kee ca cc eo mo G_dc G_dce G_dcv G_el G_ele G_elf G_eev G_hi G_ca G_bx G_eo G_eoe G_mo x0 kk1 w2 h0 O0 r1 r2) hZ (hw _ (List.mem_of_getElem? (i := 176) rfl)) (hw _ (List.mem_of_getElem? (i := 166) rfl)) (by decide) (by decide)) (g := (mkF m 6 #[.val (.ref x0), .val (.int (1 : Int32))] [(.ref mo), (.int (1 : Int32)), (.ref x0)])) rfl (by rw [hml]; rfl) (argsL := [(.ref x0), (.int (1 : Int32)), (.ref mo)]) (rest := []) (lenOf pd_LALjava_lang_Object_ILjava_lang_Class_RALjava_lang_Object_ rfl) rfl (by show 2 * 0 + _ ≤ _; exact Nat.le_of_eq rfl) (hb hby d20_6) (fun _ _ => ⟨rfl, e1, (by decide : 0 + 1 ≤ _), (by decide : 0 + 1 ≤ _)⟩)
  dsimp only [Pt.U, Pt.locs, Pt.cells, Pt.slots] at X2 l2 y2 z2 st2 hQ2
  subst l2 y2 z2
  obtain ⟨b2q2, k2q2, rfl, Nq2, Kq2, p2_0, p2_1, p2_2, p2_3⟩ := hQ2
  have O2_ : Ext Z.heap T2.heap := extKeep O0 Kq2 all0
  have K2 := Keep.trans (Keep.refl h0 []) Kq2 all0
  have N2_ := Fr.app N0 Nq2
  have g_b2q2 : Z.heap.size ≤ b2q2 := Nat.le_trans O0.1 p2_0
  have sz_b2q2 : h0.size ≤ b2q2 := Nat.le_trans (Keep.refl h0 []).1 p2_0
  refine Go.step st2 ?_
  show Go _ _ _ _ _ _ _ _ T2 (mkF m 9 #[.val (.ref x0), .val (.int (1 : Int32))] [(.ref b2q2)])
  exact Go.retA X2 hx Bd.returns rfl rfl hlk (hb hby d20_9) (by decide) (by decide) ⟨b2q2, k2q2, rfl, N2_, K2, sz_b2q2, p2_1, p2_2, p2_3⟩
theorem pd_LALjava_lang_Object_IRALjava_lang_Object_ : parseMethodDescriptor "([Ljava/lang/Object;I)[Ljava/lang/Object;" = some ⟨[(.array (.object "java/lang/Object")), .int], some (.array (.object "java/lang/Object"))⟩ := by decide +kernel
theorem d19_11 : decode jdk_38_method_16_code 11 = .ok (.areturn, 1) := by decide +kernel
theorem pn_19 : plainName "java/util/ArrayList" = true := by first | (simp [plainName, overriddenIn]; done) | decide +kernel
theorem ef_a19_0 (m : MethodId) (y0 : Addr) : entryFrame m #[(.ref y0)] 1 = mkF m 0 #[.val (.ref y0)] [] := by first | (simp [entryFrame, mkF, argsToLocals, Value.category]; done) | rfl
def Q_a19_0 (Z : State) (dc : Addr) (kdc : ClassId) (el : Addr) (ee : Addr) (kee : ClassId) (ca : Addr) (cc : Cell) (eo : Addr) (mo : Addr) (x0 : Addr) (w1 : Addr) (kk2 : ClassId) (w3 : Addr) (h0 : Heap) (v : Option Value) (h : Heap) (L : List Loc) : Prop := ∃ (b2q2q3 : Addr) (k2q2q3 : ClassId), v = some (.ref b2q2q3) ∧ Fr Z.heap.size L ∧ Keep h0 h [] ∧ h0.size ≤ b2q2q3 ∧ Exa Z h b2q2q3 "[Ljava/lang/Object;" ∧ Arv Z h b2q2q3 k2q2q3 (.object "java/lang/Object") (1 : Int32) [(.ref w3)] .null ∧ Ovr Z k2q2q3 "java/lang/Object"
set_option maxRecDepth 65536 in
set_option maxHeartbeats 40000000 in
theorem rm_a19_0 (l : Launch) (Z : State) (a0 : Array Value) (hw : ∀ d ∈ tables_1, d.before a0 Z = true) (ws : List Jvm.Cond) (dc : Addr) (kdc : ClassId) (el : Addr) (ee : Addr) (kee : ClassId) (ca : Addr) (cc : Cell) (eo : Addr) (mo : Addr) (G_dc : Sta Z Z.heap "java/util/ArrayList" "DEFAULTCAPACITY_EMPTY_ELEMENTDATA" "[Ljava/lang/Object;" (.ref dc)) (G_dce : Exa Z Z.heap dc "[Ljava/lang/Object;") (G_dcv : Arv Z Z.heap dc kdc (.object "java/lang/Object") (0 : Int32) [] .null) (G_el : Sta Z Z.heap "java/util/ImmutableCollections" "EMPTY_LIST" "Ljava/util/ImmutableCollections$ListN;" (.ref el)) (G_ele : Exa Z Z.heap el "java/util/ImmutableCollections$ListN") (G_elf : Fld Z Z.heap el "java/util/ImmutableCollections$ListN" "elements" "[Ljava/lang/Object;" (.ref ee)) (G_eev : Arv Z Z.heap ee kee (.object "java/lang/Object") (0 : Int32) [] .null) (G_hi : Sta Z Z.heap "java/lang/Integer$IntegerCache" "high" "I" (.int (127 : Int32))) (G_ca : Sta Z Z.heap "java/lang/Integer$IntegerCache" "cache" "[Ljava/lang/Integer;" (.ref ca)) (G_bx : Bxs Z ca cc "java/lang/Integer" "I" 256 (fun j => .int (j - 128))) (G_eo : Sta Z Z.heap "java/util/ImmutableCollections" "EMPTY" "Ljava/lang/Object;" (.ref eo)) (G_eoe : Exa Z Z.heap eo "java/lang/Object") (G_mo : MirO Z "[Ljava/lang/Object;" mo) (x0 : Addr) (w1 : Addr) (kk2 : ClassId) (w3 : Addr) (h0 : Heap) (O0 : Ext Z.heap h0) (r0 : Fld Z h0 x0 "java/util/ArrayList" "elementData" "[Ljava/lang/Object;" (.ref w1)) (r1 : Fld Z h0 x0 "java/util/ArrayList" "size" "I" (.int (1 : Int32))) (r2 : Exa Z h0 w1 "[Ljava/lang/Object;") (r3 : Arv Z h0 w1 kk2 (.object "java/lang/Object") (10 : Int32) [(.ref w3), .null, .null, .null, .null, .null, .null, .null, .null, .null] .null) (r4 : Exa Z h0 w3 "com/example/wary_lock/warylock/Lease") :
    MetFree l (⟨"java/util/ArrayList", "toArray", "()[Ljava/lang/Object;"⟩ : MethodName) (head1 (Jvm.Cond.code (⟨"java/util/ArrayList", "toArray", "()[Ljava/lang/Object;"⟩ : MethodName) jdk_38_method_16_code 1 (some (.array (.object "java/lang/Object"))) :: ws) ({ frames := 3, cells := 1, slots := 1, locals := 46 } : Room)) (fun a U => a = #[(.ref x0)] ∧ Z.Warmed39 U.vm ∧ U.heap = h0) (fun _ _ _ _ _ => True) (fun _ U o U' => ∃ v L, o = .returned v ∧ Q_a19_0 Z dc kdc el ee kee ca cc eo mo x0 w1 kk2 w3 h0 v U'.heap L ∧ FrameEnd U o U' L ({ frames := 3, cells := 1, slots := 1, locals := 46 } : Room).cells ({ frames := 3, cells := 1, slots := 1, locals := 46 } : Room).slots) := by
  refine MetFree.of_bodySF (plainFor_of_name pn_19) hisR ?_
  intro p e s m args below meth c s₁ Bd hml0 hP hK
  obtain ⟨rfl, hZ, hh⟩ := hP
  have hx := Bd.exec
  have hby := Bd.bytes
  have hlk := Bd.notSynchronized
  have hml : c.maxLocals = 1 := hml0
  have hown : s.vm.findClass "java/util/ArrayList" = some m.cls := findClass_of_methodNamed Bd.named
  have hnm := (name_of_methodNamed Bd.named Bd.method).1
  have X0 : Stand p l e ({ frames := 3, cells := 1, slots := 1, locals := 46 } : Room) s m #[(.ref x0)] below meth c s₁ [] 0 0 := Stand.of_body Bd
  have e0 : s₁.heap = h0 := by rw [← hh, Bd.state]; rfl
  have N0 := Fr.nil Z.heap.size
  show Go FrameEnd p e below s ({ frames := 3, cells := 1, slots := 1, locals := 46 } : Room).cells ({ frames := 3, cells := 1, slots := 1, locals := 46 } : Room).slots (Q_a19_0 Z dc kdc el ee kee ca cc eo mo x0 w1 kk2 w3 h0) s₁ (entryFrame m #[(.ref x0)] 1)
  refine Go.cast (ef_a19_0 m x0) ?_
  show Go _ _ _ _ _ _ _ _ s₁ (mkF m 0 #[.val (.ref x0)] [])
  refine Go.step (fun _ kt_ => XS.aloadN X0.here hx rfl (hb hby d19_0) rfl rfl kt_) ?_
  show Go _ _ _ _ _ _ _ _ s₁ (mkF m 1 #[.val (.ref x0)] [(.ref x0)])
  obtain ⟨T1, X1, e1, st1⟩ := getF X0 hx hZ hown (host := "") (Or.inl (hw _ (List.mem_of_getElem? (i := 29) rfl))) Via.refl e0 r0 (g := (mkF m 1 #[.val (.ref x0)] [(.ref x0)])) rfl rfl (hb hby d19_1)
  refine Go.step st1 ?_
  show Go _ _ _ _ _ _ _ _ T1 (mkF m 4 #[.val (.ref x0)] [(.ref w1)])
  refine Go.step (fun _ kt_ => XS.aloadN X1.here hx rfl (hb hby d19_4) rfl rfl kt_) ?_
  show Go _ _ _ _ _ _ _ _ T1 (mkF m 5 #[.val (.ref x0)] [(.ref x0), (.ref w1)])
  obtain ⟨T2, X2, e2, st2⟩ := getF X1 hx hZ hown (host := "") (Or.inl (hw _ (List.mem_of_getElem? (i := 66) rfl))) Via.refl e1 r1 (g := (mkF m 5 #[.val (.ref x0)] [(.ref x0), (.ref w1)])) rfl rfl (hb hby d19_5)
  refine Go.step st2 ?_
  show Go _ _ _ _ _ _ _ _ T2 (mkF m 8 #[.val (.ref x0)] [(.int (1 : Int32)), (.ref w1)])
  obtain ⟨_, _, ⟨T3, L3, k3, n3⟩, -, X3, ⟨Lc3, hQ3, l3, y3, z3⟩, st3⟩ := Jvm.LawKit.callS X2 hx (y := (⟨"java/util/Arrays", "copyOf", "([Ljava/lang/Object;I)[Ljava/lang/Object;"⟩ : MethodName)) hown (mvT hZ (hw _ (List.mem_of_getElem? (i := 164) rfl))) (mvT hZ (hw _ (List.mem_of_getElem? (i := 165) rfl))) (mvT hZ (hw _ (List.mem_of_getElem? (i := 166) rfl))) (mvT hZ (hw _ (List.mem_of_getElem? (i := 167) rfl))) (by decide) (backOf (W := 0) (rm_a20_0 l Z a0 hw [] dc kdc el ee kee ca cc eo mo G_dc G_dce G_dcv G_el G_ele G_elf G_eev G_hi G_ca G_bx G_eo G_eoe G_mo w1 kk2 w3 h0 O0 r2 r3 r4) hZ (hw _ (List.mem_of_getElem? (i := 167) rfl)) (hw _ (List.mem_of_getElem? (i := 166) rfl)) (by decide) (by decide)) (g := (mkF m 8 #[.val (.ref x0)] [(.int (1 : Int32)), (.ref w1)])) rfl (by rw [hml]; rfl) (argsL := [(.ref w1), (.int (1 : Int32))]) (rest := []) (lenOf pd_LALjava_lang_Object_IRALjava_lang_Object_ rfl) rfl (by show 2 * 0 + _ ≤ _; exact Nat.le_of_eq rfl) (hb hby d19_8) (fun _ _ => ⟨rfl, e2, (by decide : 0 + 1 ≤ _), (by decide : 0 + 1 ≤ _)⟩)
  dsimp only [Pt.U, Pt.locs, Pt.cells, Pt.slots] at X3 l3 y3 z3 st3 hQ3
  subst l3 y3 z3
  obtain ⟨b2q2q3, k2q2q3, rfl, Nq3, Kq3, p3_0, p3_1, p3_2, p3_3⟩ := hQ3
  have O3_ : Ext Z.heap T3.heap := extKeep O0 Kq3 all0
  have K3 := Keep.trans (Keep.refl h0 []) Kq3 all0
  have N3_ := Fr.app N0 Nq3
  have g_b2q2q3 : Z.heap.size ≤ b2q2q3 := Nat.le_trans O0.1 p3_0
  have sz_b2q2q3 : h0.size ≤ b2q2q3 := Nat.le_trans (Keep.refl h0 []).1 p3_0
  refine Go.step st3 ?_
  show Go _ _ _ _ _ _ _ _ T3 (mkF m 11 #[.val (.ref x0)] [(.ref b2q2q3)])
  exact Go.retA X3 hx Bd.returns rfl rfl hlk (hb hby d19_11) (by decide) (by decide) ⟨b2q2q3, k2q2q3, rfl, N3_, K3, sz_b2q2q3, p3_1, p3_2, p3_3⟩
theorem d8_50 : decode jdk_56_method_3_code 50 = .ok (.invokestatic 34, 3) := by decide +kernel
theorem d23_0 : decode jdk_40_method_47_code 0 = .ok (.aload_n 0, 1) := by decide +kernel
theorem d23_1 : decode jdk_40_method_47_code 1 = .ok (.arraylength, 1) := by decide +kernel
theorem d23_2 : decode jdk_40_method_47_code 2 = .ok (.tableswitch 57 0 2 #[26, 32, 43], 26) := by decide +kernel
theorem d23_34 : decode jdk_40_method_47_code 34 = .ok (.new 96, 3) := by decide +kernel
theorem pf_Ljava_lang_Object_ : parseFieldDescriptor "Ljava/lang/Object;" = some (.object "java/lang/Object") := by decide
theorem d23_37 : decode jdk_40_method_47_code 37 = .ok (.dup, 1) := by decide +kernel
theorem d23_38 : decode jdk_40_method_47_code 38 = .ok (.aload_n 0, 1) := by decide +kernel
theorem d23_39 : decode jdk_40_method_47_code 39 = .ok (.iconst 0, 1) := by decide +kernel
theorem d23_40 : decode jdk_40_method_47_code 40 = .ok (.aaload, 1) := by decide +kernel
theorem d23_41 : decode jdk_40_method_47_code 41 = .ok (.invokespecial 98, 3) := by decide +kernel
theorem d38_0 : decode jdk_44_method_1_code 0 = .ok (.aload_n 0, 1) := by decide +kernel
theorem d38_1 : decode jdk_44_method_1_code 1 = .ok (.invokespecial 1, 3) := by decide +kernel
theorem d27_0 : decode jdk_46_method_1_code 0 = .ok (.aload_n 0, 1) := by decide +kernel
theorem d27_1 : decode jdk_46_method_1_code 1 = .ok (.invokespecial 1, 3) := by decide +kernel
theorem d28_0 : decode jdk_47_method_1_code 0 = .ok (.aload_n 0, 1) := by decide +kernel
theorem d28_1 : decode jdk_47_method_1_code 1 = .ok (.invokespecial 1, 3) := by decide +kernel
theorem d28_4 : decode jdk_47_method_1_code 4 = .ok (.return_, 1) := by decide +kernel
theorem pn_28 : plainName "java/util/ImmutableCollections$AbstractImmutableCollection" = true := by first | (simp [plainName, overriddenIn]; done) | decide +kernel
theorem ef_a28_0 (m : MethodId) (y0 : Addr) : entryFrame m #[(.ref y0)] 1 = mkF m 0 #[.val (.ref y0)] [] := by first | (simp [entryFrame, mkF, argsToLocals, Value.category]; done) | rfl
def Q_a28_0 (Z : State) (dc : Addr) (kdc : ClassId) (el : Addr) (ee : Addr) (kee : ClassId) (ca : Addr) (cc : Cell) (eo : Addr) (mo : Addr) (x0 : Addr) (h0 : Heap) (v : Option Value) (h : Heap) (L : List Loc) : Prop := v = none ∧ Fr Z.heap.size L ∧ h = h0
set_option maxRecDepth 65536 in
set_option maxHeartbeats 40000000 in
theorem rm_a28_0 (l : Launch) (Z : State) (a0 : Array Value) (hw : ∀ d ∈ tables_1, d.before a0 Z = true) (ws : List Jvm.Cond) (dc : Addr) (kdc : ClassId) (el : Addr) (ee : Addr) (kee : ClassId) (ca : Addr) (cc : Cell) (eo : Addr) (mo : Addr) (G_dc : Sta Z Z.heap "java/util/ArrayList" "DEFAULTCAPACITY_EMPTY_ELEMENTDATA" "[Ljava/lang/Object;" (.ref dc)) (G_dce : Exa Z Z.heap dc "[Ljava/lang/Object;") (G_dcv : Arv Z Z.heap dc kdc (.object "java/lang/Object") (0 : Int32) [] .null) (G_el : Sta Z Z.heap "java/util/ImmutableCollections" "EMPTY_LIST" "Ljava/util/ImmutableCollections$ListN;" (.ref el)) (G_ele : Exa Z Z.heap el "java/util/ImmutableCollections$ListN") (G_elf : Fld Z Z.heap el "java/util/ImmutableCollections$ListN" "elements" "[Ljava/lang/Object;" (.ref ee)) (G_eev : Arv Z Z.heap ee kee (.object "java/lang/Object") (0 : Int32) [] .null) (G_hi : Sta Z Z.heap "java/lang/Integer$IntegerCache" "high" "I" (.int (127 : Int32))) (G_ca : Sta Z Z.heap "java/lang/Integer$IntegerCache" "cache" "[Ljava/lang/Integer;" (.ref ca)) (G_bx : Bxs Z ca cc "java/lang/Integer" "I" 256 (fun j => .int (j - 128))) (G_eo : Sta Z Z.heap "java/util/ImmutableCollections" "EMPTY" "Ljava/lang/Object;" (.ref eo)) (G_eoe : Exa Z Z.heap eo "java/lang/Object") (G_mo : MirO Z "[Ljava/lang/Object;" mo) (x0 : Addr) (h0 : Heap) (O0 : Ext Z.heap h0) :
    MetFree l (⟨"java/util/ImmutableCollections$AbstractImmutableCollection", "<init>", "()V"⟩ : MethodName) (head1 (Jvm.Cond.code (⟨"java/util/ImmutableCollections$AbstractImmutableCollection", "<init>", "()V"⟩ : MethodName) jdk_47_method_1_code 1 none :: ws) ({ frames := 2, cells := 0, slots := 0, locals := 24 } : Room)) (fun a U => a = #[(.ref x0)] ∧ Z.Warmed39 U.vm ∧ U.heap = h0) (fun _ _ _ _ _ => True) (fun _ U o U' => ∃ v L, o = .returned v ∧ Q_a28_0 Z dc kdc el ee kee ca cc eo mo x0 h0 v U'.heap L ∧ FrameEnd U o U' L ({ frames := 2, cells := 0, slots := 0, locals := 24 } : Room).cells ({ frames := 2, cells := 0, slots := 0, locals := 24 } : Room).slots) := by
  refine MetFree.of_bodySF (plainFor_of_name pn_28) hisR ?_
  intro p e s m args below meth c s₁ Bd hml0 hP hK
  obtain ⟨rfl, hZ, hh⟩ := hP
  have hx := Bd.exec
  have hby := Bd.bytes
  have hlk := Bd.notSynchronized
  have hml : c.maxLocals = 1 := hml0
  have hown : s.vm.findClass "java/util/ImmutableCollections$AbstractImmutableCollection" = some m.cls := findClass_of_methodNamed Bd.named
  have hnm := (name_of_methodNamed Bd.named Bd.method).1
  have X0 : Stand p l e ({ frames := 2, cells := 0, slots := 0, locals := 24 } : Room) s m #[(.ref x0)] below meth c s₁ [] 0 0 := Stand.of_body Bd
  have e0 : s₁.heap = h0 := by rw [← hh, Bd.state]; rfl
  have N0 := Fr.nil Z.heap.size
  show Go FrameEnd p e below s ({ frames := 2, cells := 0, slots := 0, locals := 24 } : Room).cells ({ frames := 2, cells := 0, slots := 0, locals := 24 } : Room).slots (Q_a28_0 Z dc kdc el ee kee ca cc eo mo x0 h0) s₁ (entryFrame m #[(.ref x0)] 1)
  refine Go.cast (ef_a28_0 m x0) ?_
  show Go _ _ _ _ _ _ _ _ s₁ (mkF m 0 #[.val (.ref x0)] [])
  refine Go.step (fun _ kt_ => XS.aloadN X0.here hx rfl (hb hby d28_0) rfl rfl kt_) ?_
  show Go _ _ _ _ _ _ _ _ s₁ (mkF m 1 #[.val (.ref x0)] [(.ref x0)])
  obtain ⟨_, _, ⟨T1, L1, k1, n1⟩, -, X1, ⟨Lc1, hQ1, l1, y1, z1⟩, st1⟩ := X0.specialBack hx (y := (⟨"java/util/AbstractCollection", "<init>", "()V"⟩ : MethodName)) rfl hown (mvT hZ (hw _ (List.mem_of_getElem? (i := 214) rfl))) (mvT hZ (hw _ (List.mem_of_getElem? (i := 18) rfl))) (mvT hZ (hw _ (List.mem_of_getElem? (i := 22) rfl))) (by decide) (backOf (W := 0) (rm_a3_0 l Z a0 hw [] dc kdc el ee kee ca cc eo mo G_dc G_dce G_dcv G_el G_ele G_elf G_eev G_hi G_ca G_bx G_eo G_eoe G_mo x0 h0 O0 ) hZ (hw _ (List.mem_of_getElem? (i := 22) rfl)) (hw _ (List.mem_of_getElem? (i := 21) rfl)) (by decide) (by decide)) (g := (mkF m 1 #[.val (.ref x0)] [(.ref x0)])) rfl (by rw [hml]; rfl) (Steps.refl _) (a := x0) (argsL := []) (rest := []) (lenOf pd_LRV rfl) rfl (by show 2 * 0 + _ ≤ _; exact Nat.le_of_eq rfl) (hb hby d28_1) (fun _ _ => ⟨rfl, e0, (by decide : 0 + 0 ≤ _), (by decide : 0 + 0 ≤ _)⟩)
  dsimp only [Pt.U, Pt.locs, Pt.cells, Pt.slots] at X1 l1 y1 z1 st1 hQ1
  subst l1 y1 z1
  obtain ⟨rfl, Nq1, e1⟩ := hQ1
  have N1_ := Fr.app N0 Nq1
  refine Go.trans st1 ?_
  show Go _ _ _ _ _ _ _ _ T1 (mkF m 4 #[.val (.ref x0)] [])
  exact Go.retV X1 hx Bd.returns hlk (hb hby d28_4) (by decide) (by decide) (by show _ ∧ _ ∧ _; rw [e1]; exact ⟨rfl, N1_, rfl⟩)
theorem d27_4 : decode jdk_46_method_1_code 4 = .ok (.return_, 1) := by decide +kernel
theorem pn_27 : plainName "java/util/ImmutableCollections$AbstractImmutableList" = true := by first | (simp [plainName, overriddenIn]; done) | decide +kernel
theorem ef_a27_0 (m : MethodId) (y0 : Addr) : entryFrame m #[(.ref y0)] 1 = mkF m 0 #[.val (.ref y0)] [] := by first | (simp [entryFrame, mkF, argsToLocals, Value.category]; done) | rfl
def Q_a27_0 (Z : State) (dc : Addr) (kdc : ClassId) (el : Addr) (ee : Addr) (kee : ClassId) (ca : Addr) (cc : Cell) (eo : Addr) (mo : Addr) (x0 : Addr) (h0 : Heap) (v : Option Value) (h : Heap) (L : List Loc) : Prop := v = none ∧ Fr Z.heap.size L ∧ h = h0
set_option maxRecDepth 65536 in
set_option maxHeartbeats 40000000 in
theorem rm_a27_0 (l : Launch) (Z : State) (a0 : Array Value) (hw : ∀ d ∈ tables_1, d.before a0 Z = true) (ws : List Jvm.Cond) (dc : Addr) (kdc : ClassId) (el : Addr) (ee : Addr) (kee : ClassId) (ca : Addr) (cc : Cell) (eo : Addr) (mo : Addr) (G_dc : Sta Z Z.heap "java/util/ArrayList" "DEFAULTCAPACITY_EMPTY_ELEMENTDATA" "[Ljava/lang/Object;" (.ref dc)) (G_dce : Exa Z Z.heap dc "[Ljava/lang/Object;") (G_dcv : Arv Z Z.heap dc kdc (.object "java/lang/Object") (0 : Int32) [] .null) (G_el : Sta Z Z.heap "java/util/ImmutableCollections" "EMPTY_LIST" "Ljava/util/ImmutableCollections$ListN;" (.ref el)) (G_ele : Exa Z Z.heap el "java/util/ImmutableCollections$ListN") (G_elf : Fld Z Z.heap el "java/util/ImmutableCollections$ListN" "elements" "[Ljava/lang/Object;" (.ref ee)) (G_eev : Arv Z Z.heap ee kee (.object "java/lang/Object") (0 : Int32) [] .null) (G_hi : Sta Z Z.heap "java/lang/Integer$IntegerCache" "high" "I" (.int (127 : Int32))) (G_ca : Sta Z Z.heap "java/lang/Integer$IntegerCache" "cache" "[Ljava/lang/Integer;" (.ref ca)) (G_bx : Bxs Z ca cc "java/lang/Integer" "I" 256 (fun j => .int (j - 128))) (G_eo : Sta Z Z.heap "java/util/ImmutableCollections" "EMPTY" "Ljava/lang/Object;" (.ref eo)) (G_eoe : Exa Z Z.heap eo "java/lang/Object") (G_mo : MirO Z "[Ljava/lang/Object;" mo) (x0 : Addr) (h0 : Heap) (O0 : Ext Z.heap h0) :
    MetFree l (⟨"java/util/ImmutableCollections$AbstractImmutableList", "<init>", "()V"⟩ : MethodName) (head1 (Jvm.Cond.code (⟨"java/util/ImmutableCollections$AbstractImmutableList", "<init>", "()V"⟩ : MethodName) jdk_46_method_1_code 1 none :: ws) ({ frames := 3, cells := 0, slots := 0, locals := 36 } : Room)) (fun a U => a = #[(.ref x0)] ∧ Z.Warmed39 U.vm ∧ U.heap = h0) (fun _ _ _ _ _ => True) (fun _ U o U' => ∃ v L, o = .returned v ∧ Q_a27_0 Z dc kdc el ee kee ca cc eo mo x0 h0 v U'.heap L ∧ FrameEnd U o U' L ({ frames := 3, cells := 0, slots := 0, locals := 36 } : Room).cells ({ frames := 3, cells := 0, slots := 0, locals := 36 } : Room).slots) := by
  refine MetFree.of_bodySF (plainFor_of_name pn_27) hisR ?_
  intro p e s m args below meth c s₁ Bd hml0 hP hK
  obtain ⟨rfl, hZ, hh⟩ := hP
  have hx := Bd.exec
  have hby := Bd.bytes
  have hlk := Bd.notSynchronized
  have hml : c.maxLocals = 1 := hml0
  have hown : s.vm.findClass "java/util/ImmutableCollections$AbstractImmutableList" = some m.cls := findClass_of_methodNamed Bd.named
  have hnm := (name_of_methodNamed Bd.named Bd.method).1
  have X0 : Stand p l e ({ frames := 3, cells := 0, slots := 0, locals := 36 } : Room) s m #[(.ref x0)] below meth c s₁ [] 0 0 := Stand.of_body Bd
  have e0 : s₁.heap = h0 := by rw [← hh, Bd.state]; rfl
  have N0 := Fr.nil Z.heap.size
  show Go FrameEnd p e below s ({ frames := 3, cells := 0, slots := 0, locals := 36 } : Room).cells ({ frames := 3, cells := 0, slots := 0, locals := 36 } : Room).slots (Q_a27_0 Z dc kdc el ee kee ca cc eo mo x0 h0) s₁ (entryFrame m #[(.ref x0)] 1)
  refine Go.cast (ef_a27_0 m x0) ?_
  show Go _ _ _ _ _ _ _ _ s₁ (mkF m 0 #[.val (.ref x0)] [])
  refine Go.step (fun _ kt_ => XS.aloadN X0.here hx rfl (hb hby d27_0) rfl rfl kt_) ?_
  show Go _ _ _ _ _ _ _ _ s₁ (mkF m 1 #[.val (.ref x0)] [(.ref x0)])
  obtain ⟨_, _, ⟨T1, L1, k1, n1⟩, -, X1, ⟨Lc1, hQ1, l1, y1, z1⟩, st1⟩ := X0.specialBack hx (y := (⟨"java/util/ImmutableCollections$AbstractImmutableCollection", "<init>", "()V"⟩ : MethodName)) rfl hown (mvT hZ (hw _ (List.mem_of_getElem? (i := 208) rfl))) (mvT hZ (hw _ (List.mem_of_getElem? (i := 209) rfl))) (mvT hZ (hw _ (List.mem_of_getElem? (i := 213) rfl))) (by decide) (backOf (W := 0) (rm_a28_0 l Z a0 hw [] dc kdc el ee kee ca cc eo mo G_dc G_dce G_dcv G_el G_ele G_elf G_eev G_hi G_ca G_bx G_eo G_eoe G_mo x0 h0 O0 ) hZ (hw _ (List.mem_of_getElem? (i := 213) rfl)) (hw _ (List.mem_of_getElem? (i := 212) rfl)) (by decide) (by decide)) (g := (mkF m 1 #[.val (.ref x0)] [(.ref x0)])) rfl (by rw [hml]; rfl) (Steps.refl _) (a := x0) (argsL := []) (rest := []) (lenOf pd_LRV rfl) rfl (by show 2 * 0 + _ ≤ _; exact Nat.le_of_eq rfl) (hb hby d27_1) (fun _ _ => ⟨rfl, e0, (by decide : 0 + 0 ≤ _), (by decide : 0 + 0 ≤ _)⟩)
  dsimp only [Pt.U, Pt.locs, Pt.cells, Pt.slots] at X1 l1 y1 z1 st1 hQ1
  subst l1 y1 z1
  obtain ⟨rfl, Nq1, e1⟩ := hQ1
  have N1_ := Fr.app N0 Nq1
  refine Go.trans st1 ?_
  show Go _ _ _ _ _ _ _ _ T1 (mkF m 4 #[.val (.ref x0)] [])
  exact Go.retV X1 hx Bd.returns hlk (hb hby d27_4) (by decide) (by decide) (by show _ ∧ _ ∧ _; rw [e1]; exact ⟨rfl, N1_, rfl⟩)
theorem d38_4 : decode jdk_44_method_1_code 4 = .ok (.aload_n 0, 1) := by decide +kernel
theorem d38_5 : decode jdk_44_method_1_code 5 = .ok (.aload_n 1, 1) := by decide +kernel
theorem d38_6 : decode jdk_44_method_1_code 6 = .ok (.invokestatic 7, 3) := by decide +kernel
theorem d25_0 : decode jdk_31_method_10_code 0 = .ok (.aload_n 0, 1) := by decide +kernel
theorem d25_1 : decode jdk_31_method_10_code 1 = .ok (.ifnonnull 11, 3) := by decide +kernel
theorem d25_12 : decode jdk_31_method_10_code 12 = .ok (.aload_n 0, 1) := by decide +kernel
theorem d25_13 : decode jdk_31_method_10_code 13 = .ok (.areturn, 1) := by decide +kernel
theorem pn_25 : plainName "java/util/Objects" = true := by first | (simp [plainName, overriddenIn]; done) | decide +kernel
theorem ef_a25_0 (m : MethodId) (y0 : Addr) : entryFrame m #[(.ref y0)] 1 = mkF m 0 #[.val (.ref y0)] [] := by first | (simp [entryFrame, mkF, argsToLocals, Value.category]; done) | rfl
def Q_a25_0 (Z : State) (dc : Addr) (kdc : ClassId) (el : Addr) (ee : Addr) (kee : ClassId) (ca : Addr) (cc : Cell) (eo : Addr) (mo : Addr) (x0 : Addr) (h0 : Heap) (v : Option Value) (h : Heap) (L : List Loc) : Prop := v = some (.ref x0) ∧ Fr Z.heap.size L ∧ h = h0
set_option maxRecDepth 65536 in
set_option maxHeartbeats 40000000 in
theorem rm_a25_0 (l : Launch) (Z : State) (a0 : Array Value) (hw : ∀ d ∈ tables_1, d.before a0 Z = true) (ws : List Jvm.Cond) (dc : Addr) (kdc : ClassId) (el : Addr) (ee : Addr) (kee : ClassId) (ca : Addr) (cc : Cell) (eo : Addr) (mo : Addr) (G_dc : Sta Z Z.heap "java/util/ArrayList" "DEFAULTCAPACITY_EMPTY_ELEMENTDATA" "[Ljava/lang/Object;" (.ref dc)) (G_dce : Exa Z Z.heap dc "[Ljava/lang/Object;") (G_dcv : Arv Z Z.heap dc kdc (.object "java/lang/Object") (0 : Int32) [] .null) (G_el : Sta Z Z.heap "java/util/ImmutableCollections" "EMPTY_LIST" "Ljava/util/ImmutableCollections$ListN;" (.ref el)) (G_ele : Exa Z Z.heap el "java/util/ImmutableCollections$ListN") (G_elf : Fld Z Z.heap el "java/util/ImmutableCollections$ListN" "elements" "[Ljava/lang/Object;" (.ref ee)) (G_eev : Arv Z Z.heap ee kee (.object "java/lang/Object") (0 : Int32) [] .null) (G_hi : Sta Z Z.heap "java/lang/Integer$IntegerCache" "high" "I" (.int (127 : Int32))) (G_ca : Sta Z Z.heap "java/lang/Integer$IntegerCache" "cache" "[Ljava/lang/Integer;" (.ref ca)) (G_bx : Bxs Z ca cc "java/lang/Integer" "I" 256 (fun j => .int (j - 128))) (G_eo : Sta Z Z.heap "java/util/ImmutableCollections" "EMPTY" "Ljava/lang/Object;" (.ref eo)) (G_eoe : Exa Z Z.heap eo "java/lang/Object") (G_mo : MirO Z "[Ljava/lang/Object;" mo) (x0 : Addr) (h0 : Heap) (O0 : Ext Z.heap h0) :
    MetFree l (⟨"java/util/Objects", "requireNonNull", "(Ljava/lang/Object;)Ljava/lang/Object;"⟩ : MethodName) (head1 (Jvm.Cond.code (⟨"java/util/Objects", "requireNonNull", "(Ljava/lang/Object;)Ljava/lang/Object;"⟩ : MethodName) jdk_31_method_10_code 1 (some (.object "java/lang/Object")) :: ws) ({ frames := 0, cells := 0, slots := 0, locals := 0 } : Room)) (fun a U => a = #[(.ref x0)] ∧ Z.Warmed39 U.vm ∧ U.heap = h0) (fun _ _ _ _ _ => True) (fun _ U o U' => ∃ v L, o = .returned v ∧ Q_a25_0 Z dc kdc el ee kee ca cc eo mo x0 h0 v U'.heap L ∧ FrameEnd U o U' L ({ frames := 0, cells := 0, slots := 0, locals := 0 } : Room).cells ({ frames := 0, cells := 0, slots := 0, locals := 0 } : Room).slots) := by
  refine MetFree.of_bodySF (plainFor_of_name pn_25) hisR ?_
  intro p e s m args below meth c s₁ Bd hml0 hP hK
  obtain ⟨rfl, hZ, hh⟩ := hP
  have hx := Bd.exec
  have hby := Bd.bytes
  have hlk := Bd.notSynchronized
  have hml : c.maxLocals = 1 := hml0
  have hown : s.vm.findClass "java/util/Objects" = some m.cls := findClass_of_methodNamed Bd.named
  have hnm := (name_of_methodNamed Bd.named Bd.method).1
  have X0 : Stand p l e ({ frames := 0, cells := 0, slots := 0, locals := 0 } : Room) s m #[(.ref x0)] below meth c s₁ [] 0 0 := Stand.of_body Bd
  have e0 : s₁.heap = h0 := by rw [← hh, Bd.state]; rfl
  have N0 := Fr.nil Z.heap.size
  show Go FrameEnd p e below s ({ frames := 0, cells := 0, slots := 0, locals := 0 } : Room).cells ({ frames := 0, cells := 0, slots := 0, locals := 0 } : Room).slots (Q_a25_0 Z dc kdc el ee kee ca cc eo mo x0 h0) s₁ (entryFrame m #[(.ref x0)] 1)
  refine Go.cast (ef_a25_0 m x0) ?_
  show Go _ _ _ _ _ _ _ _ s₁ (mkF m 0 #[.val (.ref x0)] [])
  refine Go.step (fun _ kt_ => XS.aloadN X0.here hx rfl (hb hby d25_0) rfl rfl kt_) ?_
  show Go _ _ _ _ _ _ _ _ s₁ (mkF m 1 #[.val (.ref x0)] [(.ref x0)])
  refine Go.step (fun _ kt_ => XS.ifnonnullYes X0.here hx rfl (pc0 := 1) (pc' := 12) rfl (hb hby d25_1) rfl (by decide) (by decide) kt_) ?_
  show Go _ _ _ _ _ _ _ _ s₁ (mkF m 12 #[.val (.ref x0)] [])
  refine Go.step (fun _ kt_ => XS.aloadN X0.here hx rfl (hb hby d25_12) rfl rfl kt_) ?_
  show Go _ _ _ _ _ _ _ _ s₁ (mkF m 13 #[.val (.ref x0)] [(.ref x0)])
  exact Go.retA X0 hx Bd.returns rfl rfl hlk (hb hby d25_13) (by decide) (by decide) (by show _ ∧ _ ∧ _; rw [e0]; exact ⟨rfl, N0, rfl⟩)
theorem pd_LLjava_lang_Object_RLjava_lang_Object_ : parseMethodDescriptor "(Ljava/lang/Object;)Ljava/lang/Object;" = some ⟨[(.object "java/lang/Object")], some (.object "java/lang/Object")⟩ := by decide +kernel
theorem d38_9 : decode jdk_44_method_1_code 9 = .ok (.putfield 13, 3) := by decide +kernel
theorem d38_12 : decode jdk_44_method_1_code 12 = .ok (.aload_n 0, 1) := by decide +kernel
theorem d38_13 : decode jdk_44_method_1_code 13 = .ok (.getstatic 19, 3) := by decide +kernel
theorem d38_16 : decode jdk_44_method_1_code 16 = .ok (.putfield 24, 3) := by decide +kernel
theorem sn_32 {Z : State} {a0 : Array Value} (hw : ∀ d ∈ tables_1, d.before a0 Z = true) : Jvm.RoadKit.slotOf Z "java/util/ImmutableCollections$List12" "e1" "Ljava/lang/Object;" ≠ Jvm.RoadKit.slotOf Z "java/util/ImmutableCollections$List12" "e0" "Ljava/lang/Object;" := slot_ne (Or.inr (hw _ (List.mem_of_getElem? (i := 262) rfl))) (Or.inr (hw _ (List.mem_of_getElem? (i := 260) rfl))) (by decide) pf_Ljava_lang_Object_ pf_Ljava_lang_Object_
theorem d38_19 : decode jdk_44_method_1_code 19 = .ok (.return_, 1) := by decide +kernel
theorem pn_38 : plainName "java/util/ImmutableCollections$List12" = true := by first | (simp [plainName, overriddenIn]; done) | decide +kernel
theorem ef_a38_0 (m : MethodId) (y0 : Addr) (y1 : Addr) : entryFrame m #[(.ref y0), (.ref y1)] 2 = mkF m 0 #[.val (.ref y0), .val (.ref y1)] [] := by first | (simp [entryFrame, mkF, argsToLocals, Value.category]; done) | rfl
def Q_a38_0 (Z : State) (dc : Addr) (kdc : ClassId) (el : Addr) (ee : Addr) (kee : ClassId) (ca : Addr) (cc : Cell) (eo : Addr) (mo : Addr) (x0 : Addr) (x1 : Addr) (h0 : Heap) (v : Option Value) (h : Heap) (L : List Loc) : Prop := v = none ∧ Fr Z.heap.size L ∧ Keep h0 h [x0] ∧ Fld Z h x0 "java/util/ImmutableCollections$List12" "e0" "Ljava/lang/Object;" (.ref x1) ∧ Fld Z h x0 "java/util/ImmutableCollections$List12" "e1" "Ljava/lang/Object;" (.ref eo)
set_option maxRecDepth 65536 in
set_option maxHeartbeats 40000000 in
theorem rm_a38_0 (l : Launch) (Z : State) (a0 : Array Value) (hw : ∀ d ∈ tables_1, d.before a0 Z = true) (ws : List Jvm.Cond) (dc : Addr) (kdc : ClassId) (el : Addr) (ee : Addr) (kee : ClassId) (ca : Addr) (cc : Cell) (eo : Addr) (mo : Addr) (G_dc : Sta Z Z.heap "java/util/ArrayList" "DEFAULTCAPACITY_EMPTY_ELEMENTDATA" "[Ljava/lang/Object;" (.ref dc)) (G_dce : Exa Z Z.heap dc "[Ljava/lang/Object;") (G_dcv : Arv Z Z.heap dc kdc (.object "java/lang/Object") (0 : Int32) [] .null) (G_el : Sta Z Z.heap "java/util/ImmutableCollections" "EMPTY_LIST" "Ljava/util/ImmutableCollections$ListN;" (.ref el)) (G_ele : Exa Z Z.heap el "java/util/ImmutableCollections$ListN") (G_elf : Fld Z Z.heap el "java/util/ImmutableCollections$ListN" "elements" "[Ljava/lang/Object;" (.ref ee)) (G_eev : Arv Z Z.heap ee kee (.object "java/lang/Object") (0 : Int32) [] .null) (G_hi : Sta Z Z.heap "java/lang/Integer$IntegerCache" "high" "I" (.int (127 : Int32))) (G_ca : Sta Z Z.heap "java/lang/Integer$IntegerCache" "cache" "[Ljava/lang/Integer;" (.ref ca)) (G_bx : Bxs Z ca cc "java/lang/Integer" "I" 256 (fun j => .int (j - 128))) (G_eo : Sta Z Z.heap "java/util/ImmutableCollections" "EMPTY" "Ljava/lang/Object;" (.ref eo)) (G_eoe : Exa Z Z.heap eo "java/lang/Object") (G_mo : MirO Z "[Ljava/lang/Object;" mo) (x0 : Addr) (x1 : Addr) (h0 : Heap) (O0 : Ext Z.heap h0) (r0 : Exa Z h0 x0 "java/util/ImmutableCollections$List12") (r1 : Fld Z h0 x0 "java/util/ImmutableCollections$List12" "e0" "Ljava/lang/Object;" .null) (r2 : Z.heap.size ≤ x0) (r3 : Fld Z h0 x0 "java/util/ImmutableCollections$List12" "e1" "Ljava/lang/Object;" .null) :
    MetFree l (⟨"java/util/ImmutableCollections$List12", "<init>", "(Ljava/lang/Object;)V"⟩ : MethodName) (head1 (Jvm.Cond.code (⟨"java/util/ImmutableCollections$List12", "<init>", "(Ljava/lang/Object;)V"⟩ : MethodName) jdk_44_method_1_code 2 none :: ws) ({ frames := 4, cells := 0, slots := 0, locals := 48 } : Room)) (fun a U => a = #[(.ref x0), (.ref x1)] ∧ Z.Warmed39 U.vm ∧ U.heap = h0) (fun _ _ _ _ _ => True) (fun _ U o U' => ∃ v L, o = .returned v ∧ Q_a38_0 Z dc kdc el ee kee ca cc eo mo x0 x1 h0 v U'.heap L ∧ FrameEnd U o U' L ({ frames := 4, cells := 0, slots := 0, locals := 48 } : Room).cells ({ frames := 4, cells := 0, slots := 0, locals := 48 } : Room).slots) := by
  refine MetFree.of_bodySF (plainFor_of_name pn_38) hisR ?_
  intro p e s m args below meth c s₁ Bd hml0 hP hK
  obtain ⟨rfl, hZ, hh⟩ := hP
  have hx := Bd.exec
  have hby := Bd.bytes
  have hlk := Bd.notSynchronized
  have hml : c.maxLocals = 2 := hml0
  have hown : s.vm.findClass "java/util/ImmutableCollections$List12" = some m.cls := findClass_of_methodNamed Bd.named
  have hnm := (name_of_methodNamed Bd.named Bd.method).1
  have X0 : Stand p l e ({ frames := 4, cells := 0, slots := 0, locals := 48 } : Room) s m #[(.ref x0), (.ref x1)] below meth c s₁ [] 0 0 := Stand.of_body Bd
  have e0 : s₁.heap = h0 := by rw [← hh, Bd.state]; rfl
  have N0 := Fr.nil Z.heap.size
  show Go FrameEnd p e below s ({ frames := 4, cells := 0, slots := 0, locals := 48 } : Room).cells ({ frames := 4, cells := 0, slots := 0, locals := 48 } : Room).slots (Q_a38_0 Z dc kdc el ee kee ca cc eo mo x0 x1 h0) s₁ (entryFrame m #[(.ref x0), (.ref x1)] 2)
  refine Go.cast (ef_a38_0 m x0 x1) ?_
  show Go _ _ _ _ _ _ _ _ s₁ (mkF m 0 #[.val (.ref x0), .val (.ref x1)] [])
  refine Go.step (fun _ kt_ => XS.aloadN X0.here hx rfl (hb hby d38_0) rfl rfl kt_) ?_
  show Go _ _ _ _ _ _ _ _ s₁ (mkF m 1 #[.val (.ref x0), .val (.ref x1)] [(.ref x0)])
  obtain ⟨_, _, ⟨T1, L1, k1, n1⟩, -, X1, ⟨Lc1, hQ1, l1, y1, z1⟩, st1⟩ := X0.specialBack hx (y := (⟨"java/util/ImmutableCollections$AbstractImmutableList", "<init>", "()V"⟩ : MethodName)) rfl hown (mvT hZ (hw _ (List.mem_of_getElem? (i := 254) rfl))) (mvT hZ (hw _ (List.mem_of_getElem? (i := 203) rfl))) (mvT hZ (hw _ (List.mem_of_getElem? (i := 207) rfl))) (by decide) (backOf (W := 0) (rm_a27_0 l Z a0 hw [] dc kdc el ee kee ca cc eo mo G_dc G_dce G_dcv G_el G_ele G_elf G_eev G_hi G_ca G_bx G_eo G_eoe G_mo x0 h0 O0 ) hZ (hw _ (List.mem_of_getElem? (i := 207) rfl)) (hw _ (List.mem_of_getElem? (i := 206) rfl)) (by decide) (by decide)) (g := (mkF m 1 #[.val (.ref x0), .val (.ref x1)] [(.ref x0)])) rfl (by rw [hml]; rfl) (Steps.refl _) (a := x0) (argsL := []) (rest := []) (lenOf pd_LRV rfl) rfl (by show 2 * 0 + _ ≤ _; exact Nat.le_of_eq rfl) (hb hby d38_1) (fun _ _ => ⟨rfl, e0, (by decide : 0 + 0 ≤ _), (by decide : 0 + 0 ≤ _)⟩)
  dsimp only [Pt.U, Pt.locs, Pt.cells, Pt.slots] at X1 l1 y1 z1 st1 hQ1
  subst l1 y1 z1
  obtain ⟨rfl, Nq1, e1⟩ := hQ1
  have N1_ := Fr.app N0 Nq1
  refine Go.trans st1 ?_
  show Go _ _ _ _ _ _ _ _ T1 (mkF m 4 #[.val (.ref x0), .val (.ref x1)] [])
  refine Go.step (fun _ kt_ => XS.aloadN X1.here hx rfl (hb hby d38_4) rfl rfl kt_) ?_
  show Go _ _ _ _ _ _ _ _ T1 (mkF m 5 #[.val (.ref x0), .val (.ref x1)] [(.ref x0)])
  refine Go.step (fun _ kt_ => XS.aloadN X1.here hx rfl (hb hby d38_5) rfl rfl kt_) ?_
  show Go _ _ _ _ _ _ _ _ T1 (mkF m 6 #[.val (.ref x0), .val (.ref x1)] [(.ref x1), (.ref x0)])
  obtain ⟨_, _, ⟨T2, L2, k2, n2⟩, -, X2, ⟨Lc2, hQ2, l2, y2, z2⟩, st2⟩ := Jvm.LawKit.callS X1 hx (y := (⟨"java/util/Objects", "requireNonNull", "(Ljava/lang/Object;)Ljava/lang/Object;"⟩ : MethodName)) hown (mvT hZ (hw _ (List.mem_of_getElem? (i := 258) rfl))) (mvT hZ (hw _ (List.mem_of_getElem? (i := 194) rfl))) (mvT hZ (hw _ (List.mem_of_getElem? (i := 195) rfl))) (mvT hZ (hw _ (List.mem_of_getElem? (i := 196) rfl))) (by decide) (backOf (W := 1) (rm_a25_0 l Z a0 hw [] dc kdc el ee kee ca cc eo mo G_dc G_dce G_dcv G_el G_ele G_elf G_eev G_hi G_ca G_bx G_eo G_eoe G_mo x1 h0 O0 ) hZ (hw _ (List.mem_of_getElem? (i := 196) rfl)) (hw _ (List.mem_of_getElem? (i := 195) rfl)) (by decide) (by decide)) (g := (mkF m 6 #[.val (.ref x0), .val (.ref x1)] [(.ref x1), (.ref x0)])) rfl (by rw [hml]; rfl) (argsL := [(.ref x1)]) (rest := [(.ref x0)]) (lenOf pd_LLjava_lang_Object_RLjava_lang_Object_ rfl) rfl (by show 2 * 0 + _ ≤ _; exact Nat.le_of_eq rfl) (hb hby d38_6) (fun _ _ => ⟨rfl, e1, (by decide : 0 + 0 ≤ _), (by decide : 0 + 0 ≤ _)⟩)
  dsimp only [Pt.U, Pt.locs, Pt.cells, Pt.slots] at X2 l2 y2 z2 st2 hQ2
  subst l2 y2 z2
  obtain ⟨rfl, Nq2, e2⟩ := hQ2
  have N2_ := Fr.app N1_ Nq2
  refine Go.step st2 ?_
  show Go _ _ _ _ _ _ _ _ T2 (mkF m 9 #[.val (.ref x0), .val (.ref x1)] [(.ref x1), (.ref x0)])
  obtain ⟨T3, h3, X3, e3, W3, st3⟩ := putF X2 hx hZ hown (host := "") (Or.inl (hw _ (List.mem_of_getElem? (i := 259) rfl))) Via.refl e2 r1 r0 (Or.inr ⟨(hw _ (List.mem_of_getElem? (i := 260) rfl)), rfl, hnm⟩) (hw _ (List.mem_of_getElem? (i := 248) rfl)) (ty := (.object "java/lang/Object")) pf_Ljava_lang_Object_ rfl rfl (g := (mkF m 9 #[.val (.ref x0), .val (.ref x1)] [(.ref x1), (.ref x0)])) rfl rfl (hb hby d38_9)
  refine Go.step st3 ?_
  have N3_ := Fr.snoc X3 N2_ r2
  have O3_ : Ext Z.heap h3 := extWr O0 W3 r2
  have K3 := Keep.wr (Keep.refl h0 [x0]) W3 (Or.inl (List.mem_of_getElem? (i := 0) rfl))
  have F3 := Fld.same W3 r1
  show Go _ _ _ _ _ _ _ _ T3 (mkF m 12 #[.val (.ref x0), .val (.ref x1)] [])
  refine Go.step (fun _ kt_ => XS.aloadN X3.here hx rfl (hb hby d38_12) rfl rfl kt_) ?_
  show Go _ _ _ _ _ _ _ _ T3 (mkF m 13 #[.val (.ref x0), .val (.ref x1)] [(.ref x0)])
  obtain ⟨T4, X4, e4, st4⟩ := getS2 X3 hx hZ hown (Or.inr (hw _ (List.mem_of_getElem? (i := 290) rfl))) Via.refl e3 (Sta.ext O3_ G_eo) (g := (mkF m 13 #[.val (.ref x0), .val (.ref x1)] [(.ref x0)])) rfl (hb hby d38_13)
  refine Go.step st4 ?_
  show Go _ _ _ _ _ _ _ _ T4 (mkF m 16 #[.val (.ref x0), .val (.ref x1)] [(.ref eo), (.ref x0)])
  obtain ⟨T5, h5, X5, e5, W5, st5⟩ := putF X4 hx hZ hown (host := "") (Or.inl (hw _ (List.mem_of_getElem? (i := 261) rfl))) Via.refl e4 (Fld.other W3 r3 (Or.inr (sn_32 hw))) (Exa.wr W3 r0) (Or.inr ⟨(hw _ (List.mem_of_getElem? (i := 262) rfl)), rfl, hnm⟩) (hw _ (List.mem_of_getElem? (i := 248) rfl)) (ty := (.object "java/lang/Object")) pf_Ljava_lang_Object_ rfl rfl (g := (mkF m 16 #[.val (.ref x0), .val (.ref x1)] [(.ref eo), (.ref x0)])) rfl rfl (hb hby d38_16)
  refine Go.step st5 ?_
  have N5_ := Fr.snoc X5 N3_ r2
  have O5_ : Ext Z.heap h5 := extWr O3_ W5 r2
  have K5 := Keep.wr K3 W5 (Or.inl (List.mem_of_getElem? (i := 0) rfl))
  have F5 := Fld.same W5 (Fld.other W3 r3 (Or.inr (sn_32 hw)))
  show Go _ _ _ _ _ _ _ _ T5 (mkF m 19 #[.val (.ref x0), .val (.ref x1)] [])
  exact Go.retV X5 hx Bd.returns hlk (hb hby d38_19) (by decide) (by decide) (by show Q_a38_0 _ _ _ _ _ _ _ _ _ _ _ _ _ _ _ _; rw [e5]; exact ⟨rfl, N5_, K5, (Fld.other W5 F3 (Or.inr (Ne.symm (sn_32 hw)))), F5⟩)
theorem pd_LLjava_lang_Object_RV : parseMethodDescriptor "(Ljava/lang/Object;)V" = some ⟨[(.object "java/lang/Object")], none⟩ := by decide +kernel
theorem d23_44 : decode jdk_40_method_47_code 44 = .ok (.areturn, 1) := by decide +kernel
theorem pn_23 : plainName "java/util/List" = true := by first | (simp [plainName, overriddenIn]; done) | decide +kernel
theorem ef_a23_0 (m : MethodId) (y0 : Addr) : entryFrame m #[(.ref y0)] 2 = mkF m 0 #[.val (.ref y0), .unset] [] := by first | (simp [entryFrame, mkF, argsToLocals, Value.category]; done) | rfl
def Q_a23_0 (Z : State) (dc : Addr) (kdc : ClassId) (el : Addr) (ee : Addr) (kee : ClassId) (ca : Addr) (cc : Cell) (eo : Addr) (mo : Addr) (x0 : Addr) (kk1 : ClassId) (w2 : Addr) (h0 : Heap) (v : Option Value) (h : Heap) (L : List Loc) : Prop := ∃ (b2 : Addr), v = some (.ref b2) ∧ Fr Z.heap.size L ∧ Keep h0 h [] ∧ h0.size ≤ b2 ∧ Exa Z h b2 "java/util/ImmutableCollections$List12" ∧ Fld Z h b2 "java/util/ImmutableCollections$List12" "e0" "Ljava/lang/Object;" (.ref w2) ∧ Fld Z h b2 "java/util/ImmutableCollections$List12" "e1" "Ljava/lang/Object;" (.ref eo)
set_option maxRecDepth 65536 in
set_option maxHeartbeats 40000000 in
theorem rm_a23_0 (l : Launch) (Z : State) (a0 : Array Value) (hw : ∀ d ∈ tables_1, d.before a0 Z = true) (ws : List Jvm.Cond) (dc : Addr) (kdc : ClassId) (el : Addr) (ee : Addr) (kee : ClassId) (ca : Addr) (cc : Cell) (eo : Addr) (mo : Addr) (G_dc : Sta Z Z.heap "java/util/ArrayList" "DEFAULTCAPACITY_EMPTY_ELEMENTDATA" "[Ljava/lang/Object;" (.ref dc)) (G_dce : Exa Z Z.heap dc "[Ljava/lang/Object;") (G_dcv : Arv Z Z.heap dc kdc (.object "java/lang/Object") (0 : Int32) [] .null) (G_el : Sta Z Z.heap "java/util/ImmutableCollections" "EMPTY_LIST" "Ljava/util/ImmutableCollections$ListN;" (.ref el)) (G_ele : Exa Z Z.heap el "java/util/ImmutableCollections$ListN") (G_elf : Fld Z Z.heap el "java/util/ImmutableCollections$ListN" "elements" "[Ljava/lang/Object;" (.ref ee)) (G_eev : Arv Z Z.heap ee kee (.object "java/lang/Object") (0 : Int32) [] .null) (G_hi : Sta Z Z.heap "java/lang/Integer$IntegerCache" "high" "I" (.int (127 : Int32))) (G_ca : Sta Z Z.heap "java/lang/Integer$IntegerCache" "cache" "[Ljava/lang/Integer;" (.ref ca)) (G_bx : Bxs Z ca cc "java/lang/Integer" "I" 256 (fun j => .int (j - 128))) (G_eo : Sta Z Z.heap "java/util/ImmutableCollections" "EMPTY" "Ljava/lang/Object;" (.ref eo)) (G_eoe : Exa Z Z.heap eo "java/lang/Object") (G_mo : MirO Z "[Ljava/lang/Object;" mo) (x0 : Addr) (kk1 : ClassId) (w2 : Addr) (h0 : Heap) (O0 : Ext Z.heap h0) (r0 : Arv Z h0 x0 kk1 (.object "java/lang/Object") (1 : Int32) [(.ref w2)] .null) :
    MetFree l (⟨"java/util/List", "of", "([Ljava/lang/Object;)Ljava/util/List;"⟩ : MethodName) (head1 (Jvm.Cond.code (⟨"java/util/List", "of", "([Ljava/lang/Object;)Ljava/util/List;"⟩ : MethodName) jdk_40_method_47_code 2 (some (.object "java/util/List")) :: ws) ({ frames := 5, cells := 1, slots := 2, locals := 62 } : Room)) (fun a U => a = #[(.ref x0)] ∧ Z.Warmed39 U.vm ∧ U.heap = h0) (fun _ _ _ _ _ => True) (fun _ U o U' => ∃ v L, o = .returned v ∧ Q_a23_0 Z dc kdc el ee kee ca cc eo mo x0 kk1 w2 h0 v U'.heap L ∧ FrameEnd U o U' L ({ frames := 5, cells := 1, slots := 2, locals := 62 } : Room).cells ({ frames := 5, cells := 1, slots := 2, locals := 62 } : Room).slots) := by
  refine MetFree.of_bodySF (plainFor_of_name pn_23) hisR ?_
  intro p e s m args below meth c s₁ Bd hml0 hP hK
  obtain ⟨rfl, hZ, hh⟩ := hP
  have hx := Bd.exec
  have hby := Bd.bytes
  have hlk := Bd.notSynchronized
  have hml : c.maxLocals = 2 := hml0
  have hown : s.vm.findClass "java/util/List" = some m.cls := findClass_of_methodNamed Bd.named
  have hnm := (name_of_methodNamed Bd.named Bd.method).1
  have X0 : Stand p l e ({ frames := 5, cells := 1, slots := 2, locals := 62 } : Room) s m #[(.ref x0)] below meth c s₁ [] 0 0 := Stand.of_body Bd
  have e0 : s₁.heap = h0 := by rw [← hh, Bd.state]; rfl
  have N0 := Fr.nil Z.heap.size
  show Go FrameEnd p e below s ({ frames := 5, cells := 1, slots := 2, locals := 62 } : Room).cells ({ frames := 5, cells := 1, slots := 2, locals := 62 } : Room).slots (Q_a23_0 Z dc kdc el ee kee ca cc eo mo x0 kk1 w2 h0) s₁ (entryFrame m #[(.ref x0)] 2)
  refine Go.cast (ef_a23_0 m x0) ?_
  show Go _ _ _ _ _ _ _ _ s₁ (mkF m 0 #[.val (.ref x0), .unset] [])
  refine Go.step (fun _ kt_ => XS.aloadN X0.here hx rfl (hb hby d23_0) rfl rfl kt_) ?_
  show Go _ _ _ _ _ _ _ _ s₁ (mkF m 1 #[.val (.ref x0), .unset] [(.ref x0)])
  obtain ⟨cl1, Ar1, -, S1, N1, -, -⟩ := id r0
  refine Go.step (X0.arraylength hx (by rw [e0]; exact Ar1.1) (State.isArrayOf_alike hZ.alike Ar1.2.1) (g := (mkF m 1 #[.val (.ref x0), .unset] [(.ref x0)])) rfl rfl (hb hby d23_1)) ?_
  rw [len_of S1 N1]
  show Go _ _ _ _ _ _ _ _ s₁ (mkF m 2 #[.val (.ref x0), .unset] [(.int (1 : Int32))])
  refine Go.step (fun _ kt_ => XS.tswIn X0.here hx rfl (pc0 := 2) (pc' := 34) (o := 32) rfl (hb hby d23_2) rfl (by decide) rfl (by decide) (by decide) kt_) ?_
  show Go _ _ _ _ _ _ _ _ s₁ (mkF m 34 #[.val (.ref x0), .unset] [])
  obtain ⟨T2, h2, X2, e2, E2, A2, D2, U2, st2⟩ := newO X0 hx hZ hown (hw _ (List.mem_of_getElem? (i := 247) rfl)) (hw _ (List.mem_of_getElem? (i := 248) rfl)) (hw _ (List.mem_of_getElem? (i := 249) rfl)) e0 (g := (mkF m 34 #[.val (.ref x0), .unset] [])) rfl (hb hby d23_34) (by decide) (by decide)
  obtain ⟨b2, hb2⟩ : ∃ z, z = h0.size := ⟨_, rfl⟩
  rw [← hb2] at A2 D2 U2 st2
  refine Go.step st2 ?_
  have g_b2 : Z.heap.size ≤ b2 := Nat.le_trans O0.1 (Nat.le_of_eq hb2.symm)
  have O2_ : Ext Z.heap h2 := extTr O0 E2
  have sz_b2 : h0.size ≤ b2 := Nat.le_trans (Keep.refl h0 []).1 (Nat.le_of_eq hb2.symm)
  have K2 := Keep.ext (Keep.refl h0 []) E2
  have F2_e0 : Fld Z h2 b2 "java/util/ImmutableCollections$List12" "e0" "Ljava/lang/Object;" .null := D2 (Or.inr (hw _ (List.mem_of_getElem? (i := 260) rfl))) (ty := (.object "java/lang/Object")) pf_Ljava_lang_Object_
  have F2_e1 : Fld Z h2 b2 "java/util/ImmutableCollections$List12" "e1" "Ljava/lang/Object;" .null := D2 (Or.inr (hw _ (List.mem_of_getElem? (i := 262) rfl))) (ty := (.object "java/lang/Object")) pf_Ljava_lang_Object_
  show Go _ _ _ _ _ _ _ _ T2 (mkF m 37 #[.val (.ref x0), .unset] [(.ref b2)])
  refine Go.step (fun _ kt_ => XS.dup X2.here hx rfl (hb hby d23_37) rfl rfl kt_) ?_
  show Go _ _ _ _ _ _ _ _ T2 (mkF m 38 #[.val (.ref x0), .unset] [(.ref b2), (.ref b2)])
  refine Go.step (fun _ kt_ => XS.aloadN X2.here hx rfl (hb hby d23_38) rfl rfl kt_) ?_
  show Go _ _ _ _ _ _ _ _ T2 (mkF m 39 #[.val (.ref x0), .unset] [(.ref x0), (.ref b2), (.ref b2)])
  refine Go.step (fun _ kt_ => XS.iconst X2.here hx rfl (hb hby d23_39)  kt_) ?_
  show Go _ _ _ _ _ _ _ _ T2 (mkF m 40 #[.val (.ref x0), .unset] [(.int (0 : Int32)), (.ref x0), (.ref b2), (.ref b2)])
  obtain ⟨cl3, Ar3, q3, S3, N3, H3, G3⟩ := id (r0.ext E2)
  have hin3 : ¬ ((0 : Int32) < 0 ∨ cl3.slots.size ≤ ((0 : Int32)).toNatClampNeg) := inb_of S3 ⟨by decide, by decide⟩
  refine Go.step (X2.aaload hx (j := (0 : Int32)) (v := (.ref w2)) (by rw [e2]; exact Ar3.1) (State.isArrayOf_alike hZ.alike Ar3.2.1) rfl Ar3.2.2 hin3 (Has.at H3 hin3 rfl) (g := (mkF m 40 #[.val (.ref x0), .unset] [(.int (0 : Int32)), (.ref x0), (.ref b2), (.ref b2)])) rfl rfl (hb hby d23_40)) ?_
  show Go _ _ _ _ _ _ _ _ T2 (mkF m 41 #[.val (.ref x0), .unset] [(.ref w2), (.ref b2), (.ref b2)])
  obtain ⟨_, _, ⟨T4, L4, k4, n4⟩, -, X4, ⟨Lc4, hQ4, l4, y4, z4⟩, st4⟩ := X2.specialBack hx (y := (⟨"java/util/ImmutableCollections$List12", "<init>", "(Ljava/lang/Object;)V"⟩ : MethodName)) rfl hown (mvT hZ (hw _ (List.mem_of_getElem? (i := 287) rfl))) (mvT hZ (hw _ (List.mem_of_getElem? (i := 288) rfl))) (mvT hZ (hw _ (List.mem_of_getElem? (i := 289) rfl))) (by decide) (backOf (W := 1) (rm_a38_0 l Z a0 hw [] dc kdc el ee kee ca cc eo mo G_dc G_dce G_dcv G_el G_ele G_elf G_eev G_hi G_ca G_bx G_eo G_eoe G_mo b2 w2 h2 O2_ A2 F2_e0 g_b2 F2_e1) hZ (hw _ (List.mem_of_getElem? (i := 289) rfl)) (hw _ (List.mem_of_getElem? (i := 249) rfl)) (by decide) (by decide)) (g := (mkF m 41 #[.val (.ref x0), .unset] [(.ref w2), (.ref b2), (.ref b2)])) rfl (by rw [hml]; rfl) (Steps.refl _) (a := b2) (argsL := [(.ref w2)]) (rest := [(.ref b2)]) (lenOf pd_LLjava_lang_Object_RV rfl) rfl (by show 2 * 0 + _ ≤ _; exact Nat.le_of_eq rfl) (hb hby d23_41) (fun _ _ => ⟨rfl, e2, (by decide : 1 + 0 ≤ _), (by decide : 2 + 0 ≤ _)⟩)
  dsimp only [Pt.U, Pt.locs, Pt.cells, Pt.slots] at X4 l4 y4 z4 st4 hQ4
  subst l4 y4 z4
  obtain ⟨rfl, Nq4, Kq4, p4_0, p4_1⟩ := hQ4
  have O4_ : Ext Z.heap T4.heap := extKeep O2_ Kq4 (allS g_b2 all0)
  have K4 := Keep.trans K2 Kq4 (allS (Or.inr sz_b2) all0)
  have N4_ := Fr.app N0 Nq4
  refine Go.trans st4 ?_
  show Go _ _ _ _ _ _ _ _ T4 (mkF m 44 #[.val (.ref x0), .unset] [(.ref b2)])
  exact Go.retA X4 hx Bd.returns rfl rfl hlk (hb hby d23_44) (by decide) (by decide) ⟨b2, rfl, N4_, K4, sz_b2, (A2.keep Kq4), p4_0, p4_1⟩
theorem pd_LALjava_lang_Object_RLjava_util_List_ : parseMethodDescriptor "([Ljava/lang/Object;)Ljava/util/List;" = some ⟨[(.array (.object "java/lang/Object"))], some (.object "java/util/List")⟩ := by decide +kernel
theorem d8_53 : decode jdk_56_method_3_code 53 = .ok (.areturn, 1) := by decide +kernel
theorem ef_a8_1 (m : MethodId) (y0 : Addr) : entryFrame m #[(.ref y0)] 2 = mkF m 0 #[.val (.ref y0), .unset] [] := by first | (simp [entryFrame, mkF, argsToLocals, Value.category]; done) | rfl
def Q_a8_1 (Z : State) (dc : Addr) (kdc : ClassId) (el : Addr) (ee : Addr) (kee : ClassId) (ca : Addr) (cc : Cell) (eo : Addr) (mo : Addr) (x0 : Addr) (w1 : Addr) (kk2 : ClassId) (w3 : Addr) (h0 : Heap) (v : Option Value) (h : Heap) (L : List Loc) : Prop := ∃ (b2q5 : Addr), v = some (.ref b2q5) ∧ Fr Z.heap.size L ∧ Keep h0 h [] ∧ h0.size ≤ b2q5 ∧ Exa Z h b2q5 "java/util/ImmutableCollections$List12" ∧ Fld Z h b2q5 "java/util/ImmutableCollections$List12" "e0" "Ljava/lang/Object;" (.ref w3) ∧ Fld Z h b2q5 "java/util/ImmutableCollections$List12" "e1" "Ljava/lang/Object;" (.ref eo)
set_option maxRecDepth 65536 in
set_option maxHeartbeats 40000000 in
theorem rm_a8_1 (l : Launch) (Z : State) (a0 : Array Value) (hw : ∀ d ∈ tables_1, d.before a0 Z = true) (ws : List Jvm.Cond) (dc : Addr) (kdc : ClassId) (el : Addr) (ee : Addr) (kee : ClassId) (ca : Addr) (cc : Cell) (eo : Addr) (mo : Addr) (G_dc : Sta Z Z.heap "java/util/ArrayList" "DEFAULTCAPACITY_EMPTY_ELEMENTDATA" "[Ljava/lang/Object;" (.ref dc)) (G_dce : Exa Z Z.heap dc "[Ljava/lang/Object;") (G_dcv : Arv Z Z.heap dc kdc (.object "java/lang/Object") (0 : Int32) [] .null) (G_el : Sta Z Z.heap "java/util/ImmutableCollections" "EMPTY_LIST" "Ljava/util/ImmutableCollections$ListN;" (.ref el)) (G_ele : Exa Z Z.heap el "java/util/ImmutableCollections$ListN") (G_elf : Fld Z Z.heap el "java/util/ImmutableCollections$ListN" "elements" "[Ljava/lang/Object;" (.ref ee)) (G_eev : Arv Z Z.heap ee kee (.object "java/lang/Object") (0 : Int32) [] .null) (G_hi : Sta Z Z.heap "java/lang/Integer$IntegerCache" "high" "I" (.int (127 : Int32))) (G_ca : Sta Z Z.heap "java/lang/Integer$IntegerCache" "cache" "[Ljava/lang/Integer;" (.ref ca)) (G_bx : Bxs Z ca cc "java/lang/Integer" "I" 256 (fun j => .int (j - 128))) (G_eo : Sta Z Z.heap "java/util/ImmutableCollections" "EMPTY" "Ljava/lang/Object;" (.ref eo)) (G_eoe : Exa Z Z.heap eo "java/lang/Object") (G_mo : MirO Z "[Ljava/lang/Object;" mo) (x0 : Addr) (w1 : Addr) (kk2 : ClassId) (w3 : Addr) (h0 : Heap) (O0 : Ext Z.heap h0) (r0 : Exa Z h0 x0 "java/util/ArrayList") (r1 : Fld Z h0 x0 "java/util/ArrayList" "size" "I" (.int (1 : Int32))) (r2 : Fld Z h0 x0 "java/util/ArrayList" "elementData" "[Ljava/lang/Object;" (.ref w1)) (r3 : Exa Z h0 w1 "[Ljava/lang/Object;") (r4 : Arv Z h0 w1 kk2 (.object "java/lang/Object") (10 : Int32) [(.ref w3), .null, .null, .null, .null, .null, .null, .null, .null, .null] .null) (r5 : Exa Z h0 w3 "com/example/wary_lock/warylock/Lease") :
    MetFree l (⟨"java/util/ImmutableCollections", "listCopy", "(Ljava/util/Collection;)Ljava/util/List;"⟩ : MethodName) (head1 (Jvm.Cond.code (⟨"java/util/ImmutableCollections", "listCopy", "(Ljava/util/Collection;)Ljava/util/List;"⟩ : MethodName) jdk_56_method_3_code 2 (some (.object "java/util/List")) :: ws) ({ frames := 6, cells := 2, slots := 3, locals := 75 } : Room)) (fun a U => a = #[(.ref x0)] ∧ Z.Warmed39 U.vm ∧ U.heap = h0) (fun _ _ _ _ _ => True) (fun _ U o U' => ∃ v L, o = .returned v ∧ Q_a8_1 Z dc kdc el ee kee ca cc eo mo x0 w1 kk2 w3 h0 v U'.heap L ∧ FrameEnd U o U' L ({ frames := 6, cells := 2, slots := 3, locals := 75 } : Room).cells ({ frames := 6, cells := 2, slots := 3, locals := 75 } : Room).slots) := by
  refine MetFree.of_bodySF (plainFor_of_name pn_8) hisR ?_
  intro p e s m args below meth c s₁ Bd hml0 hP hK
  obtain ⟨rfl, hZ, hh⟩ := hP
  have hx := Bd.exec
  have hby := Bd.bytes
  have hlk := Bd.notSynchronized
  have hml : c.maxLocals = 2 := hml0
  have hown : s.vm.findClass "java/util/ImmutableCollections" = some m.cls := findClass_of_methodNamed Bd.named
  have hnm := (name_of_methodNamed Bd.named Bd.method).1
  have X0 : Stand p l e ({ frames := 6, cells := 2, slots := 3, locals := 75 } : Room) s m #[(.ref x0)] below meth c s₁ [] 0 0 := Stand.of_body Bd
  have e0 : s₁.heap = h0 := by rw [← hh, Bd.state]; rfl
  have N0 := Fr.nil Z.heap.size
  show Go FrameEnd p e below s ({ frames := 6, cells := 2, slots := 3, locals := 75 } : Room).cells ({ frames := 6, cells := 2, slots := 3, locals := 75 } : Room).slots (Q_a8_1 Z dc kdc el ee kee ca cc eo mo x0 w1 kk2 w3 h0) s₁ (entryFrame m #[(.ref x0)] 2)
  refine Go.cast (ef_a8_1 m x0) ?_
  show Go _ _ _ _ _ _ _ _ s₁ (mkF m 0 #[.val (.ref x0), .unset] [])
  refine Go.step (fun _ kt_ => XS.aloadN X0.here hx rfl (hb hby d8_0) rfl rfl kt_) ?_
  show Go _ _ _ _ _ _ _ _ s₁ (mkF m 1 #[.val (.ref x0), .unset] [(.ref x0)])
  obtain ⟨T1, X1, e1, st1⟩ := instNo X0 hx hZ hown (hw _ (List.mem_of_getElem? (i := 51) rfl)) e0 r0 (own_nsNo (hw _ (List.mem_of_getElem? (i := 52) rfl)) (hw _ (List.mem_of_getElem? (i := 248) rfl)) (NS.step (hw _ (List.mem_of_getElem? (i := 52) rfl)) (NS.step (hw _ (List.mem_of_getElem? (i := 53) rfl)) (NS.step (hw _ (List.mem_of_getElem? (i := 54) rfl)) (own_nsRoot (hw _ (List.mem_of_getElem? (i := 55) rfl)) (hw _ (List.mem_of_getElem? (i := 248) rfl)) (by decide)) (by decide)) (by decide)) (by decide)) (by decide)) (g := (mkF m 1 #[.val (.ref x0), .unset] [(.ref x0)])) rfl rfl (hb hby d8_1)
  refine Go.step st1 ?_
  show Go _ _ _ _ _ _ _ _ T1 (mkF m 4 #[.val (.ref x0), .unset] [(.int (0 : Int32))])
  refine Go.step (fun _ kt_ => XS.ifNo X1.here hx rfl (hb hby d8_4) rfl ((if0 _ _).trans (teq (by decide : (0 : Int32) = (0 : Int32))).2) kt_) ?_
  show Go _ _ _ _ _ _ _ _ T1 (mkF m 7 #[.val (.ref x0), .unset] [])
  refine Go.step (fun _ kt_ => XS.aloadN X1.here hx rfl (hb hby d8_7) rfl rfl kt_) ?_
  show Go _ _ _ _ _ _ _ _ T1 (mkF m 8 #[.val (.ref x0), .unset] [(.ref x0)])
  obtain ⟨T2, X2, e2, st2⟩ := instNo X1 hx hZ hown (hw _ (List.mem_of_getElem? (i := 56) rfl)) e1 r0 (own_nsNo (hw _ (List.mem_of_getElem? (i := 52) rfl)) (hw _ (List.mem_of_getElem? (i := 197) rfl)) (NS.step (hw _ (List.mem_of_getElem? (i := 52) rfl)) (NS.step (hw _ (List.mem_of_getElem? (i := 53) rfl)) (NS.step (hw _ (List.mem_of_getElem? (i := 54) rfl)) (own_nsRoot (hw _ (List.mem_of_getElem? (i := 55) rfl)) (hw _ (List.mem_of_getElem? (i := 197) rfl)) (by decide)) (by decide)) (by decide)) (by decide)) (by decide)) (g := (mkF m 8 #[.val (.ref x0), .unset] [(.ref x0)])) rfl rfl (hb hby d8_8)
  refine Go.step st2 ?_
  show Go _ _ _ _ _ _ _ _ T2 (mkF m 11 #[.val (.ref x0), .unset] [(.int (0 : Int32))])
  refine Go.step (fun _ kt_ => XS.ifYes X2.here hx rfl (pc0 := 11) (pc' := 31) rfl (hb hby d8_11) rfl ((if0 _ _).trans (teq (by decide : (0 : Int32) = (0 : Int32))).1) (by decide) (by decide) kt_) ?_
  show Go _ _ _ _ _ _ _ _ T2 (mkF m 31 #[.val (.ref x0), .unset] [])
  refine Go.step (fun _ kt_ => XS.aloadN X2.here hx rfl (hb hby d8_31) rfl rfl kt_) ?_
  show Go _ _ _ _ _ _ _ _ T2 (mkF m 32 #[.val (.ref x0), .unset] [(.ref x0)])
  obtain ⟨cq3, kq3, q3a, q3b, q3c⟩ := isOf hZ e2 r0
  obtain ⟨_, _, ⟨T3, L3, k3, n3⟩, -, X3, ⟨Lc3, hQ3, l3, y3, z3⟩, st3⟩ := X2.interfaceBack hx (xi := (⟨"java/util/Collection", "isEmpty", "()Z"⟩ : MethodName)) (y := (⟨"java/util/ArrayList", "isEmpty", "()Z"⟩ : MethodName)) hown (mvT hZ (hw _ (List.mem_of_getElem? (i := 57) rfl))) (mvT hZ (hw _ (List.mem_of_getElem? (i := 58) rfl))) (mvT hZ (hw _ (List.mem_of_getElem? (i := 59) rfl))) (mvT hZ (hw _ (List.mem_of_getElem? (i := 60) rfl))) (mvT hZ (hw _ (List.mem_of_getElem? (i := 61) rfl))) (mvT hZ (hw _ (List.mem_of_getElem? (i := 62) rfl))) (mvT hZ (hw _ (List.mem_of_getElem? (i := 63) rfl))) (mvT hZ (hw _ (List.mem_of_getElem? (i := 64) rfl))) (by decide) (backOf (W := 0) (rm_a9_1 l Z a0 hw [] dc kdc el ee kee ca cc eo mo G_dc G_dce G_dcv G_el G_ele G_elf G_eev G_hi G_ca G_bx G_eo G_eoe G_mo x0 (1 : Int32) h0 O0 r1 (by decide)) hZ (hw _ (List.mem_of_getElem? (i := 65) rfl)) (hw _ (List.mem_of_getElem? (i := 7) rfl)) (by decide) (by decide)) q3a q3b q3c (g := (mkF m 32 #[.val (.ref x0), .unset] [(.ref x0)])) rfl (by rw [hml]; rfl) (Steps.refl _) (argsL := []) (rest := []) (lenOf pd_LRZ rfl) rfl (by show 2 * 0 + _ ≤ _; exact Nat.le_of_eq rfl) (hb hby d8_32) (fun _ _ => ⟨rfl, e2, (by decide : 0 + 0 ≤ _), (by decide : 0 + 0 ≤ _)⟩)
  dsimp only [Pt.U, Pt.locs, Pt.cells, Pt.slots] at X3 l3 y3 z3 st3 hQ3
  subst l3 y3 z3
  obtain ⟨rfl, Nq3, e3⟩ := hQ3
  have N3_ := Fr.app N0 Nq3
  refine Go.trans st3 ?_
  show Go _ _ _ _ _ _ _ _ T3 (mkF m 37 #[.val (.ref x0), .unset] [(.int (0 : Int32))])
  refine Go.step (fun _ kt_ => XS.ifYes X3.here hx rfl (pc0 := 37) (pc' := 44) rfl (hb hby d8_37) rfl ((if0 _ _).trans (teq (by decide : (0 : Int32) = (0 : Int32))).1) (by decide) (by decide) kt_) ?_
  show Go _ _ _ _ _ _ _ _ T3 (mkF m 44 #[.val (.ref x0), .unset] [])
  refine Go.step (fun _ kt_ => XS.aloadN X3.here hx rfl (hb hby d8_44) rfl rfl kt_) ?_
  show Go _ _ _ _ _ _ _ _ T3 (mkF m 45 #[.val (.ref x0), .unset] [(.ref x0)])
  obtain ⟨cq4, kq4, q4a, q4b, q4c⟩ := isOf hZ e3 r0
  obtain ⟨_, _, ⟨T4, L4, k4, n4⟩, -, X4, ⟨Lc4, hQ4, l4, y4, z4⟩, st4⟩ := X3.interfaceBack hx (xi := (⟨"java/util/Collection", "toArray", "()[Ljava/lang/Object;"⟩ : MethodName)) (y := (⟨"java/util/ArrayList", "toArray", "()[Ljava/lang/Object;"⟩ : MethodName)) hown (mvT hZ (hw _ (List.mem_of_getElem? (i := 156) rfl))) (mvT hZ (hw _ (List.mem_of_getElem? (i := 157) rfl))) (mvT hZ (hw _ (List.mem_of_getElem? (i := 158) rfl))) (mvT hZ (hw _ (List.mem_of_getElem? (i := 159) rfl))) (mvT hZ (hw _ (List.mem_of_getElem? (i := 160) rfl))) (mvT hZ (hw _ (List.mem_of_getElem? (i := 161) rfl))) (mvT hZ (hw _ (List.mem_of_getElem? (i := 162) rfl))) (mvT hZ (hw _ (List.mem_of_getElem? (i := 64) rfl))) (by decide) (backOf (W := 0) (rm_a19_0 l Z a0 hw [] dc kdc el ee kee ca cc eo mo G_dc G_dce G_dcv G_el G_ele G_elf G_eev G_hi G_ca G_bx G_eo G_eoe G_mo x0 w1 kk2 w3 h0 O0 r2 r1 r3 r4 r5) hZ (hw _ (List.mem_of_getElem? (i := 163) rfl)) (hw _ (List.mem_of_getElem? (i := 7) rfl)) (by decide) (by decide)) q4a q4b q4c (g := (mkF m 45 #[.val (.ref x0), .unset] [(.ref x0)])) rfl (by rw [hml]; rfl) (Steps.refl _) (argsL := []) (rest := []) (lenOf pd_LRALjava_lang_Object_ rfl) rfl (by show 2 * 0 + _ ≤ _; exact Nat.le_of_eq rfl) (hb hby d8_45) (fun _ _ => ⟨rfl, e3, (by decide : 0 + 1 ≤ _), (by decide : 0 + 1 ≤ _)⟩)
  dsimp only [Pt.U, Pt.locs, Pt.cells, Pt.slots] at X4 l4 y4 z4 st4 hQ4
  subst l4 y4 z4
  obtain ⟨b2q2q3q4, k2q2q3q4, rfl, Nq4, Kq4, p4_0, p4_1, p4_2, p4_3⟩ := hQ4
  have O4_ : Ext Z.heap T4.heap := extKeep O0 Kq4 all0
  have K4 := Keep.trans (Keep.refl h0 []) Kq4 all0
  have N4_ := Fr.app N3_ Nq4
  have g_b2q2q3q4 : Z.heap.size ≤ b2q2q3q4 := Nat.le_trans O0.1 p4_0
  have sz_b2q2q3q4 : h0.size ≤ b2q2q3q4 := Nat.le_trans (Keep.refl h0 []).1 p4_0
  refine Go.trans st4 ?_
  show Go _ _ _ _ _ _ _ _ T4 (mkF m 50 #[.val (.ref x0), .unset] [(.ref b2q2q3q4)])
  obtain ⟨_, _, ⟨T5, L5, k5, n5⟩, -, X5, ⟨Lc5, hQ5, l5, y5, z5⟩, st5⟩ := Jvm.LawKit.callS X4 hx (y := (⟨"java/util/List", "of", "([Ljava/lang/Object;)Ljava/util/List;"⟩ : MethodName)) hown (mvT hZ (hw _ (List.mem_of_getElem? (i := 186) rfl))) (mvT hZ (hw _ (List.mem_of_getElem? (i := 187) rfl))) (mvT hZ (hw _ (List.mem_of_getElem? (i := 45) rfl))) (mvT hZ (hw _ (List.mem_of_getElem? (i := 188) rfl))) (by decide) (backOf (W := 0) (rm_a23_0 l Z a0 hw [] dc kdc el ee kee ca cc eo mo G_dc G_dce G_dcv G_el G_ele G_elf G_eev G_hi G_ca G_bx G_eo G_eoe G_mo b2q2q3q4 k2q2q3q4 w3 T4.heap O4_ p4_2) hZ (hw _ (List.mem_of_getElem? (i := 188) rfl)) (hw _ (List.mem_of_getElem? (i := 45) rfl)) (by decide) (by decide)) (g := (mkF m 50 #[.val (.ref x0), .unset] [(.ref b2q2q3q4)])) rfl (by rw [hml]; rfl) (argsL := [(.ref b2q2q3q4)]) (rest := []) (lenOf pd_LALjava_lang_Object_RLjava_util_List_ rfl) rfl (by show 2 * 0 + _ ≤ _; exact Nat.le_of_eq rfl) (hb hby d8_50) (fun _ _ => ⟨rfl, rfl, (by decide : 1 + 1 ≤ _), (by decide : 1 + 2 ≤ _)⟩)
  dsimp only [Pt.U, Pt.locs, Pt.cells, Pt.slots] at X5 l5 y5 z5 st5 hQ5
  subst l5 y5 z5
  obtain ⟨b2q5, rfl, Nq5, Kq5, p5_0, p5_1, p5_2, p5_3⟩ := hQ5
  have O5_ : Ext Z.heap T5.heap := extKeep O4_ Kq5 all0
  have K5 := Keep.trans K4 Kq5 all0
  have N5_ := Fr.app N4_ Nq5
  have g_b2q5 : Z.heap.size ≤ b2q5 := Nat.le_trans O4_.1 p5_0
  have sz_b2q5 : h0.size ≤ b2q5 := Nat.le_trans K4.1 p5_0
  refine Go.step st5 ?_
  show Go _ _ _ _ _ _ _ _ T5 (mkF m 53 #[.val (.ref x0), .unset] [(.ref b2q5)])
  exact Go.retA X5 hx Bd.returns rfl rfl hlk (hb hby d8_53) (by decide) (by decide) ⟨b2q5, rfl, N5_, K5, sz_b2q5, p5_1, p5_2, p5_3⟩
theorem ef_a7_1 (m : MethodId) (y0 : Addr) : entryFrame m #[(.ref y0)] 1 = mkF m 0 #[.val (.ref y0)] [] := by first | (simp [entryFrame, mkF, argsToLocals, Value.category]; done) | rfl
def Q_a7_1 (Z : State) (dc : Addr) (kdc : ClassId) (el : Addr) (ee : Addr) (kee : ClassId) (ca : Addr) (cc : Cell) (eo : Addr) (mo : Addr) (x0 : Addr) (w1 : Addr) (kk2 : ClassId) (w3 : Addr) (h0 : Heap) (v : Option Value) (h : Heap) (L : List Loc) : Prop := ∃ (b2q5q1 : Addr), v = some (.ref b2q5q1) ∧ Fr Z.heap.size L ∧ Keep h0 h [] ∧ h0.size ≤ b2q5q1 ∧ Exa Z h b2q5q1 "java/util/ImmutableCollections$List12" ∧ Fld Z h b2q5q1 "java/util/ImmutableCollections$List12" "e0" "Ljava/lang/Object;" (.ref w3) ∧ Fld Z h b2q5q1 "java/util/ImmutableCollections$List12" "e1" "Ljava/lang/Object;" (.ref eo)
set_option maxRecDepth 65536 in
set_option maxHeartbeats 40000000 in
theorem rm_a7_1 (l : Launch) (Z : State) (a0 : Array Value) (hw : ∀ d ∈ tables_1, d.before a0 Z = true) (ws : List Jvm.Cond) (dc : Addr) (kdc : ClassId) (el : Addr) (ee : Addr) (kee : ClassId) (ca : Addr) (cc : Cell) (eo : Addr) (mo : Addr) (G_dc : Sta Z Z.heap "java/util/ArrayList" "DEFAULTCAPACITY_EMPTY_ELEMENTDATA" "[Ljava/lang/Object;" (.ref dc)) (G_dce : Exa Z Z.heap dc "[Ljava/lang/Object;") (G_dcv : Arv Z Z.heap dc kdc (.object "java/lang/Object") (0 : Int32) [] .null) (G_el : Sta Z Z.heap "java/util/ImmutableCollections" "EMPTY_LIST" "Ljava/util/ImmutableCollections$ListN;" (.ref el)) (G_ele : Exa Z Z.heap el "java/util/ImmutableCollections$ListN") (G_elf : Fld Z Z.heap el "java/util/ImmutableCollections$ListN" "elements" "[Ljava/lang/Object;" (.ref ee)) (G_eev : Arv Z Z.heap ee kee (.object "java/lang/Object") (0 : Int32) [] .null) (G_hi : Sta Z Z.heap "java/lang/Integer$IntegerCache" "high" "I" (.int (127 : Int32))) (G_ca : Sta Z Z.heap "java/lang/Integer$IntegerCache" "cache" "[Ljava/lang/Integer;" (.ref ca)) (G_bx : Bxs Z ca cc "java/lang/Integer" "I" 256 (fun j => .int (j - 128))) (G_eo : Sta Z Z.heap "java/util/ImmutableCollections" "EMPTY" "Ljava/lang/Object;" (.ref eo)) (G_eoe : Exa Z Z.heap eo "java/lang/Object") (G_mo : MirO Z "[Ljava/lang/Object;" mo) (x0 : Addr) (w1 : Addr) (kk2 : ClassId) (w3 : Addr) (h0 : Heap) (O0 : Ext Z.heap h0) (r0 : Exa Z h0 x0 "java/util/ArrayList") (r1 : Fld Z h0 x0 "java/util/ArrayList" "size" "I" (.int (1 : Int32))) (r2 : Fld Z h0 x0 "java/util/ArrayList" "elementData" "[Ljava/lang/Object;" (.ref w1)) (r3 : Exa Z h0 w1 "[Ljava/lang/Object;") (r4 : Arv Z h0 w1 kk2 (.object "java/lang/Object") (10 : Int32) [(.ref w3), .null, .null, .null, .null, .null, .null, .null, .null, .null] .null) (r5 : Exa Z h0 w3 "com/example/wary_lock/warylock/Lease") :
    MetFree l (⟨"java/util/List", "copyOf", "(Ljava/util/Collection;)Ljava/util/List;"⟩ : MethodName) (head1 (Jvm.Cond.code (⟨"java/util/List", "copyOf", "(Ljava/util/Collection;)Ljava/util/List;"⟩ : MethodName) jdk_40_method_48_code 1 (some (.object "java/util/List")) :: ws) ({ frames := 7, cells := 2, slots := 3, locals := 88 } : Room)) (fun a U => a = #[(.ref x0)] ∧ Z.Warmed39 U.vm ∧ U.heap = h0) (fun _ _ _ _ _ => True) (fun _ U o U' => ∃ v L, o = .returned v ∧ Q_a7_1 Z dc kdc el ee kee ca cc eo mo x0 w1 kk2 w3 h0 v U'.heap L ∧ FrameEnd U o U' L ({ frames := 7, cells := 2, slots := 3, locals := 88 } : Room).cells ({ frames := 7, cells := 2, slots := 3, locals := 88 } : Room).slots) := by
  refine MetFree.of_bodySF (plainFor_of_name pn_7) hisR ?_
  intro p e s m args below meth c s₁ Bd hml0 hP hK
  obtain ⟨rfl, hZ, hh⟩ := hP
  have hx := Bd.exec
  have hby := Bd.bytes
  have hlk := Bd.notSynchronized
  have hml : c.maxLocals = 1 := hml0
  have hown : s.vm.findClass "java/util/List" = some m.cls := findClass_of_methodNamed Bd.named
  have hnm := (name_of_methodNamed Bd.named Bd.method).1
  have X0 : Stand p l e ({ frames := 7, cells := 2, slots := 3, locals := 88 } : Room) s m #[(.ref x0)] below meth c s₁ [] 0 0 := Stand.of_body Bd
  have e0 : s₁.heap = h0 := by rw [← hh, Bd.state]; rfl
  have N0 := Fr.nil Z.heap.size
  show Go FrameEnd p e below s ({ frames := 7, cells := 2, slots := 3, locals := 88 } : Room).cells ({ frames := 7, cells := 2, slots := 3, locals := 88 } : Room).slots (Q_a7_1 Z dc kdc el ee kee ca cc eo mo x0 w1 kk2 w3 h0) s₁ (entryFrame m #[(.ref x0)] 1)
  refine Go.cast (ef_a7_1 m x0) ?_
  show Go _ _ _ _ _ _ _ _ s₁ (mkF m 0 #[.val (.ref x0)] [])
  refine Go.step (fun _ kt_ => XS.aloadN X0.here hx rfl (hb hby d7_0) rfl rfl kt_) ?_
  show Go _ _ _ _ _ _ _ _ s₁ (mkF m 1 #[.val (.ref x0)] [(.ref x0)])
  obtain ⟨_, _, ⟨T1, L1, k1, n1⟩, -, X1, ⟨Lc1, hQ1, l1, y1, z1⟩, st1⟩ := Jvm.LawKit.callS X0 hx (y := (⟨"java/util/ImmutableCollections", "listCopy", "(Ljava/util/Collection;)Ljava/util/List;"⟩ : MethodName)) hown (mvT hZ (hw _ (List.mem_of_getElem? (i := 47) rfl))) (mvT hZ (hw _ (List.mem_of_getElem? (i := 48) rfl))) (mvT hZ (hw _ (List.mem_of_getElem? (i := 49) rfl))) (mvT hZ (hw _ (List.mem_of_getElem? (i := 50) rfl))) (by decide) (backOf (W := 0) (rm_a8_1 l Z a0 hw [] dc kdc el ee kee ca cc eo mo G_dc G_dce G_dcv G_el G_ele G_elf G_eev G_hi G_ca G_bx G_eo G_eoe G_mo x0 w1 kk2 w3 h0 O0 r0 r1 r2 r3 r4 r5) hZ (hw _ (List.mem_of_getElem? (i := 50) rfl)) (hw _ (List.mem_of_getElem? (i := 49) rfl)) (by decide) (by decide)) (g := (mkF m 1 #[.val (.ref x0)] [(.ref x0)])) rfl (by rw [hml]; rfl) (argsL := [(.ref x0)]) (rest := []) (lenOf pd_LLjava_util_Collection_RLjava_util_List_ rfl) rfl (by show 2 * 0 + _ ≤ _; exact Nat.le_of_eq rfl) (hb hby d7_1) (fun _ _ => ⟨rfl, e0, (by decide : 0 + 2 ≤ _), (by decide : 0 + 3 ≤ _)⟩)
  dsimp only [Pt.U, Pt.locs, Pt.cells, Pt.slots] at X1 l1 y1 z1 st1 hQ1
  subst l1 y1 z1
  obtain ⟨b2q5q1, rfl, Nq1, Kq1, p1_0, p1_1, p1_2, p1_3⟩ := hQ1
  have O1_ : Ext Z.heap T1.heap := extKeep O0 Kq1 all0
  have K1 := Keep.trans (Keep.refl h0 []) Kq1 all0
  have N1_ := Fr.app N0 Nq1
  have g_b2q5q1 : Z.heap.size ≤ b2q5q1 := Nat.le_trans O0.1 p1_0
  have sz_b2q5q1 : h0.size ≤ b2q5q1 := Nat.le_trans (Keep.refl h0 []).1 p1_0
  refine Go.step st1 ?_
  show Go _ _ _ _ _ _ _ _ T1 (mkF m 4 #[.val (.ref x0)] [(.ref b2q5q1)])
  exact Go.retA X1 hx Bd.returns rfl rfl hlk (hb hby d7_4) (by decide) (by decide) ⟨b2q5q1, rfl, N1_, K1, sz_b2q5q1, p1_1, p1_2, p1_3⟩
theorem ef_a5_1 (m : MethodId) (y0 : Addr) (y1 : Addr) (y2 : Int32) : entryFrame m #[(.ref y0), (.ref y1), (.int y2)] 3 = mkF m 0 #[.val (.ref y0), .val (.ref y1), .val (.int y2)] [] := by first | (simp [entryFrame, mkF, argsToLocals, Value.category]; done) | rfl
def Q_a5_1 (Z : State) (dc : Addr) (kdc : ClassId) (el : Addr) (ee : Addr) (kee : ClassId) (ca : Addr) (cc : Cell) (eo : Addr) (mo : Addr) (x0 : Addr) (x1 : Addr) (x2 : Int32) (w1 : Addr) (kk2 : ClassId) (w3 : Addr) (h0 : Heap) (v : Option Value) (h : Heap) (L : List Loc) : Prop := ∃ (b2q5q1q2 : Addr), v = none ∧ Fr Z.heap.size L ∧ Keep h0 h [x0] ∧ Fld Z h x0 "com/example/wary_lock/warylock/LockState" "holders" "Ljava/util/List;" (.ref b2q5q1q2) ∧ Fld Z h x0 "com/example/wary_lock/warylock/LockState" "waiting" "I" (.int x2) ∧ h0.size ≤ b2q5q1q2 ∧ Exa Z h b2q5q1q2 "java/util/ImmutableCollections$List12" ∧ Fld Z h b2q5q1q2 "java/util/ImmutableCollections$List12" "e0" "Ljava/lang/Object;" (.ref w3) ∧ Fld Z h b2q5q1q2 "java/util/ImmutableCollections$List12" "e1" "Ljava/lang/Object;" (.ref eo)
set_option maxRecDepth 65536 in
set_option maxHeartbeats 40000000 in
theorem rm_a5_1 (l : Launch) (Z : State) (a0 : Array Value) (hw : ∀ d ∈ tables_1, d.before a0 Z = true) (ws : List Jvm.Cond) (dc : Addr) (kdc : ClassId) (el : Addr) (ee : Addr) (kee : ClassId) (ca : Addr) (cc : Cell) (eo : Addr) (mo : Addr) (G_dc : Sta Z Z.heap "java/util/ArrayList" "DEFAULTCAPACITY_EMPTY_ELEMENTDATA" "[Ljava/lang/Object;" (.ref dc)) (G_dce : Exa Z Z.heap dc "[Ljava/lang/Object;") (G_dcv : Arv Z Z.heap dc kdc (.object "java/lang/Object") (0 : Int32) [] .null) (G_el : Sta Z Z.heap "java/util/ImmutableCollections" "EMPTY_LIST" "Ljava/util/ImmutableCollections$ListN;" (.ref el)) (G_ele : Exa Z Z.heap el "java/util/ImmutableCollections$ListN") (G_elf : Fld Z Z.heap el "java/util/ImmutableCollections$ListN" "elements" "[Ljava/lang/Object;" (.ref ee)) (G_eev : Arv Z Z.heap ee kee (.object "java/lang/Object") (0 : Int32) [] .null) (G_hi : Sta Z Z.heap "java/lang/Integer$IntegerCache" "high" "I" (.int (127 : Int32))) (G_ca : Sta Z Z.heap "java/lang/Integer$IntegerCache" "cache" "[Ljava/lang/Integer;" (.ref ca)) (G_bx : Bxs Z ca cc "java/lang/Integer" "I" 256 (fun j => .int (j - 128))) (G_eo : Sta Z Z.heap "java/util/ImmutableCollections" "EMPTY" "Ljava/lang/Object;" (.ref eo)) (G_eoe : Exa Z Z.heap eo "java/lang/Object") (G_mo : MirO Z "[Ljava/lang/Object;" mo) (x0 : Addr) (x1 : Addr) (x2 : Int32) (w1 : Addr) (kk2 : ClassId) (w3 : Addr) (h0 : Heap) (O0 : Ext Z.heap h0) (r0 : Exa Z h0 x1 "java/util/ArrayList") (r1 : Fld Z h0 x1 "java/util/ArrayList" "size" "I" (.int (1 : Int32))) (r2 : Fld Z h0 x1 "java/util/ArrayList" "elementData" "[Ljava/lang/Object;" (.ref w1)) (r3 : Exa Z h0 w1 "[Ljava/lang/Object;") (r4 : Arv Z h0 w1 kk2 (.object "java/lang/Object") (10 : Int32) [(.ref w3), .null, .null, .null, .null, .null, .null, .null, .null, .null] .null) (r5 : Exa Z h0 w3 "com/example/wary_lock/warylock/Lease") (r6 : Exa Z h0 x0 "com/example/wary_lock/warylock/LockState") (r7 : Fld Z h0 x0 "com/example/wary_lock/warylock/LockState" "holders" "Ljava/util/List;" .null) (r8 : Z.heap.size ≤ x0) (r9 : Fld Z h0 x0 "com/example/wary_lock/warylock/LockState" "waiting" "I" (.int (0 : Int32))) :
    MetFree l (⟨"com/example/wary_lock/warylock/LockState", "<init>", "(Ljava/util/List;I)V"⟩ : MethodName) (head1 (Jvm.Cond.code (⟨"com/example/wary_lock/warylock/LockState", "<init>", "(Ljava/util/List;I)V"⟩ : MethodName) prog_11_method_1_code 3 none :: ws) ({ frames := 8, cells := 2, slots := 3, locals := 100 } : Room)) (fun a U => a = #[(.ref x0), (.ref x1), (.int x2)] ∧ Z.Warmed39 U.vm ∧ U.heap = h0) (fun _ _ _ _ _ => True) (fun _ U o U' => ∃ v L, o = .returned v ∧ Q_a5_1 Z dc kdc el ee kee ca cc eo mo x0 x1 x2 w1 kk2 w3 h0 v U'.heap L ∧ FrameEnd U o U' L ({ frames := 8, cells := 2, slots := 3, locals := 100 } : Room).cells ({ frames := 8, cells := 2, slots := 3, locals := 100 } : Room).slots) := by
  refine MetFree.of_bodySF (plainFor_of_name pn_5) hisR ?_
  intro p e s m args below meth c s₁ Bd hml0 hP hK
  obtain ⟨rfl, hZ, hh⟩ := hP
  have hx := Bd.exec
  have hby := Bd.bytes
  have hlk := Bd.notSynchronized
  have hml : c.maxLocals = 3 := hml0
  have hown : s.vm.findClass "com/example/wary_lock/warylock/LockState" = some m.cls := findClass_of_methodNamed Bd.named
  have hnm := (name_of_methodNamed Bd.named Bd.method).1
  have X0 : Stand p l e ({ frames := 8, cells := 2, slots := 3, locals := 100 } : Room) s m #[(.ref x0), (.ref x1), (.int x2)] below meth c s₁ [] 0 0 := Stand.of_body Bd
  have e0 : s₁.heap = h0 := by rw [← hh, Bd.state]; rfl
  have N0 := Fr.nil Z.heap.size
  show Go FrameEnd p e below s ({ frames := 8, cells := 2, slots := 3, locals := 100 } : Room).cells ({ frames := 8, cells := 2, slots := 3, locals := 100 } : Room).slots (Q_a5_1 Z dc kdc el ee kee ca cc eo mo x0 x1 x2 w1 kk2 w3 h0) s₁ (entryFrame m #[(.ref x0), (.ref x1), (.int x2)] 3)
  refine Go.cast (ef_a5_1 m x0 x1 x2) ?_
  show Go _ _ _ _ _ _ _ _ s₁ (mkF m 0 #[.val (.ref x0), .val (.ref x1), .val (.int x2)] [])
  refine Go.step (fun _ kt_ => XS.aloadN X0.here hx rfl (hb hby d5_0) rfl rfl kt_) ?_
  show Go _ _ _ _ _ _ _ _ s₁ (mkF m 1 #[.val (.ref x0), .val (.ref x1), .val (.int x2)] [(.ref x0)])
  obtain ⟨_, _, ⟨T1, L1, k1, n1⟩, -, X1, ⟨Lc1, hQ1, l1, y1, z1⟩, st1⟩ := X0.specialBack hx (y := (⟨"java/lang/Record", "<init>", "()V"⟩ : MethodName)) rfl hown (mvT hZ (hw _ (List.mem_of_getElem? (i := 37) rfl))) (mvT hZ (hw _ (List.mem_of_getElem? (i := 38) rfl))) (mvT hZ (hw _ (List.mem_of_getElem? (i := 41) rfl))) (by decide) (backOf (W := 0) (rm_a6_0 l Z a0 hw [] dc kdc el ee kee ca cc eo mo G_dc G_dce G_dcv G_el G_ele G_elf G_eev G_hi G_ca G_bx G_eo G_eoe G_mo x0 h0 O0 ) hZ (hw _ (List.mem_of_getElem? (i := 41) rfl)) (hw _ (List.mem_of_getElem? (i := 40) rfl)) (by decide) (by decide)) (g := (mkF m 1 #[.val (.ref x0), .val (.ref x1), .val (.int x2)] [(.ref x0)])) rfl (by rw [hml]; rfl) (Steps.refl _) (a := x0) (argsL := []) (rest := []) (lenOf pd_LRV rfl) rfl (by show 2 * 0 + _ ≤ _; exact Nat.le_of_eq rfl) (hb hby d5_1) (fun _ _ => ⟨rfl, e0, (by decide : 0 + 0 ≤ _), (by decide : 0 + 0 ≤ _)⟩)
  dsimp only [Pt.U, Pt.locs, Pt.cells, Pt.slots] at X1 l1 y1 z1 st1 hQ1
  subst l1 y1 z1
  obtain ⟨rfl, Nq1, e1⟩ := hQ1
  have N1_ := Fr.app N0 Nq1
  refine Go.trans st1 ?_
  show Go _ _ _ _ _ _ _ _ T1 (mkF m 4 #[.val (.ref x0), .val (.ref x1), .val (.int x2)] [])
  refine Go.step (fun _ kt_ => XS.aloadN X1.here hx rfl (hb hby d5_4) rfl rfl kt_) ?_
  show Go _ _ _ _ _ _ _ _ T1 (mkF m 5 #[.val (.ref x0), .val (.ref x1), .val (.int x2)] [(.ref x1)])
  obtain ⟨_, _, ⟨T2, L2, k2, n2⟩, -, X2, ⟨Lc2, hQ2, l2, y2, z2⟩, st2⟩ := Jvm.LawKit.callS X1 hx (y := (⟨"java/util/List", "copyOf", "(Ljava/util/Collection;)Ljava/util/List;"⟩ : MethodName)) hown (mvT hZ (hw _ (List.mem_of_getElem? (i := 43) rfl))) (mvT hZ (hw _ (List.mem_of_getElem? (i := 44) rfl))) (mvT hZ (hw _ (List.mem_of_getElem? (i := 45) rfl))) (mvT hZ (hw _ (List.mem_of_getElem? (i := 46) rfl))) (by decide) (backOf (W := 0) (rm_a7_1 l Z a0 hw [] dc kdc el ee kee ca cc eo mo G_dc G_dce G_dcv G_el G_ele G_elf G_eev G_hi G_ca G_bx G_eo G_eoe G_mo x1 w1 kk2 w3 h0 O0 r0 r1 r2 r3 r4 r5) hZ (hw _ (List.mem_of_getElem? (i := 46) rfl)) (hw _ (List.mem_of_getElem? (i := 45) rfl)) (by decide) (by decide)) (g := (mkF m 5 #[.val (.ref x0), .val (.ref x1), .val (.int x2)] [(.ref x1)])) rfl (by rw [hml]; rfl) (argsL := [(.ref x1)]) (rest := []) (lenOf pd_LLjava_util_Collection_RLjava_util_List_ rfl) rfl (by show 2 * 0 + _ ≤ _; exact Nat.le_of_eq rfl) (hb hby d5_5) (fun _ _ => ⟨rfl, e1, (by decide : 0 + 2 ≤ _), (by decide : 0 + 3 ≤ _)⟩)
  dsimp only [Pt.U, Pt.locs, Pt.cells, Pt.slots] at X2 l2 y2 z2 st2 hQ2
  subst l2 y2 z2
  obtain ⟨b2q5q1q2, rfl, Nq2, Kq2, p2_0, p2_1, p2_2, p2_3⟩ := hQ2
  have O2_ : Ext Z.heap T2.heap := extKeep O0 Kq2 all0
  have K2 := Keep.trans (Keep.refl h0 [x0]) Kq2 all0
  have N2_ := Fr.app N1_ Nq2
  have g_b2q5q1q2 : Z.heap.size ≤ b2q5q1q2 := Nat.le_trans O0.1 p2_0
  have sz_b2q5q1q2 : h0.size ≤ b2q5q1q2 := Nat.le_trans (Keep.refl h0 [x0]).1 p2_0
  refine Go.step st2 ?_
  show Go _ _ _ _ _ _ _ _ T2 (mkF m 8 #[.val (.ref x0), .val (.ref x1), .val (.int x2)] [(.ref b2q5q1q2)])
  refine Go.step (fun _ kt_ => XS.astoreN X2.here hx rfl (hb hby d5_8) rfl rfl (l' := #[.val (.ref x0), .val (.ref b2q5q1q2), .val (.int x2)]) rfl kt_) ?_
  show Go _ _ _ _ _ _ _ _ T2 (mkF m 9 #[.val (.ref x0), .val (.ref b2q5q1q2), .val (.int x2)] [])
  refine Go.step (fun _ kt_ => XS.aloadN X2.here hx rfl (hb hby d5_9) rfl rfl kt_) ?_
  show Go _ _ _ _ _ _ _ _ T2 (mkF m 10 #[.val (.ref x0), .val (.ref b2q5q1q2), .val (.int x2)] [(.ref x0)])
  refine Go.step (fun _ kt_ => XS.aloadN X2.here hx rfl (hb hby d5_10) rfl rfl kt_) ?_
  show Go _ _ _ _ _ _ _ _ T2 (mkF m 11 #[.val (.ref x0), .val (.ref b2q5q1q2), .val (.int x2)] [(.ref b2q5q1q2), (.ref x0)])
  obtain ⟨T3, h3, X3, e3, W3, st3⟩ := putF X2 hx hZ hown (host := "") (Or.inl (hw _ (List.mem_of_getElem? (i := 72) rfl))) Via.refl rfl (r7.keep Kq2 nin0) (r6.keep Kq2) (Or.inr ⟨(hw _ (List.mem_of_getElem? (i := 73) rfl)), rfl, hnm⟩) (hw _ (List.mem_of_getElem? (i := 32) rfl)) (ty := (.object "java/util/List")) pf_Ljava_util_List_ rfl rfl (g := (mkF m 11 #[.val (.ref x0), .val (.ref b2q5q1q2), .val (.int x2)] [(.ref b2q5q1q2), (.ref x0)])) rfl rfl (hb hby d5_11)
  refine Go.step st3 ?_
  have N3_ := Fr.snoc X3 N2_ r8
  have O3_ : Ext Z.heap h3 := extWr O2_ W3 r8
  have K3 := Keep.wr K2 W3 (Or.inl (List.mem_of_getElem? (i := 0) rfl))
  have F3 := Fld.same W3 (r7.keep Kq2 nin0)
  show Go _ _ _ _ _ _ _ _ T3 (mkF m 14 #[.val (.ref x0), .val (.ref b2q5q1q2), .val (.int x2)] [])
  refine Go.step (fun _ kt_ => XS.aloadN X3.here hx rfl (hb hby d5_14) rfl rfl kt_) ?_
  show Go _ _ _ _ _ _ _ _ T3 (mkF m 15 #[.val (.ref x0), .val (.ref b2q5q1q2), .val (.int x2)] [(.ref x0)])
  refine Go.step (fun _ kt_ => XS.iloadN X3.here hx rfl (hb hby d5_15) rfl kt_) ?_
  show Go _ _ _ _ _ _ _ _ T3 (mkF m 16 #[.val (.ref x0), .val (.ref b2q5q1q2), .val (.int x2)] [(.int x2), (.ref x0)])
  have f4 := (Fld.other W3 (r9.keep Kq2 nin0) (Or.inr (sn_3 hw)))
  obtain ⟨T5, h5, X5, e5, W5, st5⟩ := putF X3 hx hZ hown (host := "") (Or.inl (hw _ (List.mem_of_getElem? (i := 74) rfl))) Via.refl e3 f4 (Exa.wr W3 (r6.keep Kq2)) (Or.inr ⟨(hw _ (List.mem_of_getElem? (i := 75) rfl)), rfl, hnm⟩) (hw _ (List.mem_of_getElem? (i := 32) rfl)) (ty := .int) pf_I rfl rfl (g := (mkF m 16 #[.val (.ref x0), .val (.ref b2q5q1q2), .val (.int x2)] [(.int x2), (.ref x0)])) rfl rfl (hb hby d5_16)
  refine Go.step st5 ?_
  have N5_ := Fr.snoc X5 N3_ r8
  have O5_ : Ext Z.heap h5 := extWr O3_ W5 r8
  have K5 := Keep.wr K3 W5 (Or.inl (List.mem_of_getElem? (i := 0) rfl))
  have F5 := Fld.same W5 f4
  show Go _ _ _ _ _ _ _ _ T5 (mkF m 19 #[.val (.ref x0), .val (.ref b2q5q1q2), .val (.int x2)] [])
  exact Go.retV X5 hx Bd.returns hlk (hb hby d5_19) (by decide) (by decide) (by show Q_a5_1 _ _ _ _ _ _ _ _ _ _ _ _ _ _ _ _ _ _ _ _; rw [e5]; exact ⟨b2q5q1q2, rfl, N5_, K5, (Fld.other W5 F3 (Or.inr (Ne.symm (sn_3 hw)))), F5, sz_b2q5q1q2, (Exa.wr W5 (Exa.wr W3 p2_1)), (Fld.other W5 (Fld.other W3 p2_2 (Or.inl (Ne.symm (Nat.ne_of_lt (Nat.lt_of_lt_of_le r6.lt p2_0))))) (Or.inl (Ne.symm (Nat.ne_of_lt (Nat.lt_of_lt_of_le r6.lt p2_0))))), (Fld.other W5 (Fld.other W3 p2_3 (Or.inl (Ne.symm (Nat.ne_of_lt (Nat.lt_of_lt_of_le r6.lt p2_0))))) (Or.inl (Ne.symm (Nat.ne_of_lt (Nat.lt_of_lt_of_le r6.lt p2_0)))))⟩)
theorem d34_0 : decode jdk_44_method_4_code 0 = .ok (.iconst 0, 1) := by decide +kernel
theorem d34_1 : decode jdk_44_method_4_code 1 = .ok (.ireturn, 1) := by decide +kernel
theorem pn_34 : plainName "java/util/ImmutableCollections$List12" = true := by first | (simp [plainName, overriddenIn]; done) | decide +kernel
theorem ef_a34_0 (m : MethodId) (y0 : Addr) : entryFrame m #[(.ref y0)] 1 = mkF m 0 #[.val (.ref y0)] [] := by first | (simp [entryFrame, mkF, argsToLocals, Value.category]; done) | rfl
def Q_a34_0 (Z : State) (dc : Addr) (kdc : ClassId) (el : Addr) (ee : Addr) (kee : ClassId) (ca : Addr) (cc : Cell) (eo : Addr) (mo : Addr) (x0 : Addr) (h0 : Heap) (v : Option Value) (h : Heap) (L : List Loc) : Prop := v = some (.int (0 : Int32)) ∧ Fr Z.heap.size L ∧ h = h0
set_option maxRecDepth 65536 in
set_option maxHeartbeats 40000000 in
theorem rm_a34_0 (l : Launch) (Z : State) (a0 : Array Value) (hw : ∀ d ∈ tables_1, d.before a0 Z = true) (ws : List Jvm.Cond) (dc : Addr) (kdc : ClassId) (el : Addr) (ee : Addr) (kee : ClassId) (ca : Addr) (cc : Cell) (eo : Addr) (mo : Addr) (G_dc : Sta Z Z.heap "java/util/ArrayList" "DEFAULTCAPACITY_EMPTY_ELEMENTDATA" "[Ljava/lang/Object;" (.ref dc)) (G_dce : Exa Z Z.heap dc "[Ljava/lang/Object;") (G_dcv : Arv Z Z.heap dc kdc (.object "java/lang/Object") (0 : Int32) [] .null) (G_el : Sta Z Z.heap "java/util/ImmutableCollections" "EMPTY_LIST" "Ljava/util/ImmutableCollections$ListN;" (.ref el)) (G_ele : Exa Z Z.heap el "java/util/ImmutableCollections$ListN") (G_elf : Fld Z Z.heap el "java/util/ImmutableCollections$ListN" "elements" "[Ljava/lang/Object;" (.ref ee)) (G_eev : Arv Z Z.heap ee kee (.object "java/lang/Object") (0 : Int32) [] .null) (G_hi : Sta Z Z.heap "java/lang/Integer$IntegerCache" "high" "I" (.int (127 : Int32))) (G_ca : Sta Z Z.heap "java/lang/Integer$IntegerCache" "cache" "[Ljava/lang/Integer;" (.ref ca)) (G_bx : Bxs Z ca cc "java/lang/Integer" "I" 256 (fun j => .int (j - 128))) (G_eo : Sta Z Z.heap "java/util/ImmutableCollections" "EMPTY" "Ljava/lang/Object;" (.ref eo)) (G_eoe : Exa Z Z.heap eo "java/lang/Object") (G_mo : MirO Z "[Ljava/lang/Object;" mo) (x0 : Addr) (h0 : Heap) (O0 : Ext Z.heap h0) :
    MetFree l (⟨"java/util/ImmutableCollections$List12", "isEmpty", "()Z"⟩ : MethodName) (head1 (Jvm.Cond.code (⟨"java/util/ImmutableCollections$List12", "isEmpty", "()Z"⟩ : MethodName) jdk_44_method_4_code 1 (some .boolean) :: ws) ({ frames := 0, cells := 0, slots := 0, locals := 0 } : Room)) (fun a U => a = #[(.ref x0)] ∧ Z.Warmed39 U.vm ∧ U.heap = h0) (fun _ _ _ _ _ => True) (fun _ U o U' => ∃ v L, o = .returned v ∧ Q_a34_0 Z dc kdc el ee kee ca cc eo mo x0 h0 v U'.heap L ∧ FrameEnd U o U' L ({ frames := 0, cells := 0, slots := 0, locals := 0 } : Room).cells ({ frames := 0, cells := 0, slots := 0, locals := 0 } : Room).slots) := by
  refine MetFree.of_bodySF (plainFor_of_name pn_34) hisR ?_
  intro p e s m args below meth c s₁ Bd hml0 hP hK
  obtain ⟨rfl, hZ, hh⟩ := hP
  have hx := Bd.exec
  have hby := Bd.bytes
  have hlk := Bd.notSynchronized
  have hml : c.maxLocals = 1 := hml0
  have hown : s.vm.findClass "java/util/ImmutableCollections$List12" = some m.cls := findClass_of_methodNamed Bd.named
  have hnm := (name_of_methodNamed Bd.named Bd.method).1
  have X0 : Stand p l e ({ frames := 0, cells := 0, slots := 0, locals := 0 } : Room) s m #[(.ref x0)] below meth c s₁ [] 0 0 := Stand.of_body Bd
  have e0 : s₁.heap = h0 := by rw [← hh, Bd.state]; rfl
  have N0 := Fr.nil Z.heap.size
  show Go FrameEnd p e below s ({ frames := 0, cells := 0, slots := 0, locals := 0 } : Room).cells ({ frames := 0, cells := 0, slots := 0, locals := 0 } : Room).slots (Q_a34_0 Z dc kdc el ee kee ca cc eo mo x0 h0) s₁ (entryFrame m #[(.ref x0)] 1)
  refine Go.cast (ef_a34_0 m x0) ?_
  show Go _ _ _ _ _ _ _ _ s₁ (mkF m 0 #[.val (.ref x0)] [])
  refine Go.step (fun _ kt_ => XS.iconst X0.here hx rfl (hb hby d34_0)  kt_) ?_
  show Go _ _ _ _ _ _ _ _ s₁ (mkF m 1 #[.val (.ref x0)] [(.int (0 : Int32))])
  exact Go.retN X0 hx (t := .boolean) Bd.returns (by simp) hlk (hb hby d34_1) (by decide) (by decide) (by show _ ∧ _ ∧ _; rw [e0]; exact ⟨rfl, N0, rfl⟩)
theorem d11_16 : decode prog_11_method_2_code 16 = .ok (.aload_n 0, 1) := by decide +kernel
theorem d11_17 : decode prog_11_method_2_code 17 = .ok (.getfield 13, 3) := by decide +kernel
theorem d11_20 : decode prog_11_method_2_code 20 = .ok (.iconst 0, 1) := by decide +kernel
theorem d11_21 : decode prog_11_method_2_code 21 = .ok (.invokeinterface 27 2, 5) := by decide +kernel
theorem d35_0 : decode jdk_44_method_5_code 0 = .ok (.iload_n 1, 1) := by decide +kernel
theorem d35_1 : decode jdk_44_method_5_code 1 = .ok (.ifCond .ne 8, 3) := by decide +kernel
theorem d35_4 : decode jdk_44_method_5_code 4 = .ok (.aload_n 0, 1) := by decide +kernel
theorem d35_5 : decode jdk_44_method_5_code 5 = .ok (.getfield 13, 3) := by decide +kernel
theorem d35_8 : decode jdk_44_method_5_code 8 = .ok (.areturn, 1) := by decide +kernel
theorem pn_35 : plainName "java/util/ImmutableCollections$List12" = true := by first | (simp [plainName, overriddenIn]; done) | decide +kernel
theorem ef_a35_0 (m : MethodId) (y0 : Addr) (y1 : Int32) : entryFrame m #[(.ref y0), (.int y1)] 2 = mkF m 0 #[.val (.ref y0), .val (.int y1)] [] := by first | (simp [entryFrame, mkF, argsToLocals, Value.category]; done) | rfl
def Q_a35_0 (Z : State) (dc : Addr) (kdc : ClassId) (el : Addr) (ee : Addr) (kee : ClassId) (ca : Addr) (cc : Cell) (eo : Addr) (mo : Addr) (x0 : Addr) (x1 : Int32) (w1 : Addr) (h0 : Heap) (v : Option Value) (h : Heap) (L : List Loc) : Prop := v = some (.ref w1) ∧ Fr Z.heap.size L ∧ h = h0
set_option maxRecDepth 65536 in
set_option maxHeartbeats 40000000 in
theorem rm_a35_0 (l : Launch) (Z : State) (a0 : Array Value) (hw : ∀ d ∈ tables_1, d.before a0 Z = true) (ws : List Jvm.Cond) (dc : Addr) (kdc : ClassId) (el : Addr) (ee : Addr) (kee : ClassId) (ca : Addr) (cc : Cell) (eo : Addr) (mo : Addr) (G_dc : Sta Z Z.heap "java/util/ArrayList" "DEFAULTCAPACITY_EMPTY_ELEMENTDATA" "[Ljava/lang/Object;" (.ref dc)) (G_dce : Exa Z Z.heap dc "[Ljava/lang/Object;") (G_dcv : Arv Z Z.heap dc kdc (.object "java/lang/Object") (0 : Int32) [] .null) (G_el : Sta Z Z.heap "java/util/ImmutableCollections" "EMPTY_LIST" "Ljava/util/ImmutableCollections$ListN;" (.ref el)) (G_ele : Exa Z Z.heap el "java/util/ImmutableCollections$ListN") (G_elf : Fld Z Z.heap el "java/util/ImmutableCollections$ListN" "elements" "[Ljava/lang/Object;" (.ref ee)) (G_eev : Arv Z Z.heap ee kee (.object "java/lang/Object") (0 : Int32) [] .null) (G_hi : Sta Z Z.heap "java/lang/Integer$IntegerCache" "high" "I" (.int (127 : Int32))) (G_ca : Sta Z Z.heap "java/lang/Integer$IntegerCache" "cache" "[Ljava/lang/Integer;" (.ref ca)) (G_bx : Bxs Z ca cc "java/lang/Integer" "I" 256 (fun j => .int (j - 128))) (G_eo : Sta Z Z.heap "java/util/ImmutableCollections" "EMPTY" "Ljava/lang/Object;" (.ref eo)) (G_eoe : Exa Z Z.heap eo "java/lang/Object") (G_mo : MirO Z "[Ljava/lang/Object;" mo) (x0 : Addr) (x1 : Int32) (w1 : Addr) (h0 : Heap) (O0 : Ext Z.heap h0) (r0 : x1 = (0 : Int32)) (r1 : Fld Z h0 x0 "java/util/ImmutableCollections$List12" "e0" "Ljava/lang/Object;" (.ref w1)) :
    MetFree l (⟨"java/util/ImmutableCollections$List12", "get", "(I)Ljava/lang/Object;"⟩ : MethodName) (head1 (Jvm.Cond.code (⟨"java/util/ImmutableCollections$List12", "get", "(I)Ljava/lang/Object;"⟩ : MethodName) jdk_44_method_5_code 2 (some (.object "java/lang/Object")) :: ws) ({ frames := 0, cells := 0, slots := 0, locals := 0 } : Room)) (fun a U => a = #[(.ref x0), (.int x1)] ∧ Z.Warmed39 U.vm ∧ U.heap = h0) (fun _ _ _ _ _ => True) (fun _ U o U' => ∃ v L, o = .returned v ∧ Q_a35_0 Z dc kdc el ee kee ca cc eo mo x0 x1 w1 h0 v U'.heap L ∧ FrameEnd U o U' L ({ frames := 0, cells := 0, slots := 0, locals := 0 } : Room).cells ({ frames := 0, cells := 0, slots := 0, locals := 0 } : Room).slots) := by
  refine MetFree.of_bodySF (plainFor_of_name pn_35) hisR ?_
  intro p e s m args below meth c s₁ Bd hml0 hP hK
  obtain ⟨rfl, hZ, hh⟩ := hP
  have hx := Bd.exec
  have hby := Bd.bytes
  have hlk := Bd.notSynchronized
  have hml : c.maxLocals = 2 := hml0
  have hown : s.vm.findClass "java/util/ImmutableCollections$List12" = some m.cls := findClass_of_methodNamed Bd.named
  have hnm := (name_of_methodNamed Bd.named Bd.method).1
  have X0 : Stand p l e ({ frames := 0, cells := 0, slots := 0, locals := 0 } : Room) s m #[(.ref x0), (.int x1)] below meth c s₁ [] 0 0 := Stand.of_body Bd
  have e0 : s₁.heap = h0 := by rw [← hh, Bd.state]; rfl
  have N0 := Fr.nil Z.heap.size
  show Go FrameEnd p e below s ({ frames := 0, cells := 0, slots := 0, locals := 0 } : Room).cells ({ frames := 0, cells := 0, slots := 0, locals := 0 } : Room).slots (Q_a35_0 Z dc kdc el ee kee ca cc eo mo x0 x1 w1 h0) s₁ (entryFrame m #[(.ref x0), (.int x1)] 2)
  refine Go.cast (ef_a35_0 m x0 x1) ?_
  show Go _ _ _ _ _ _ _ _ s₁ (mkF m 0 #[.val (.ref x0), .val (.int x1)] [])
  refine Go.step (fun _ kt_ => XS.iloadN X0.here hx rfl (hb hby d35_0) rfl kt_) ?_
  show Go _ _ _ _ _ _ _ _ s₁ (mkF m 1 #[.val (.ref x0), .val (.int x1)] [(.int x1)])
  refine Go.step (fun _ kt_ => XS.ifNo X0.here hx rfl (hb hby d35_1) rfl ((if0 _ _).trans (teq r0).2) kt_) ?_
  show Go _ _ _ _ _ _ _ _ s₁ (mkF m 4 #[.val (.ref x0), .val (.int x1)] [])
  refine Go.step (fun _ kt_ => XS.aloadN X0.here hx rfl (hb hby d35_4) rfl rfl kt_) ?_
  show Go _ _ _ _ _ _ _ _ s₁ (mkF m 5 #[.val (.ref x0), .val (.int x1)] [(.ref x0)])
  obtain ⟨T1, X1, e1, st1⟩ := getF X0 hx hZ hown (host := "") (Or.inl (hw _ (List.mem_of_getElem? (i := 259) rfl))) Via.refl e0 r1 (g := (mkF m 5 #[.val (.ref x0), .val (.int x1)] [(.ref x0)])) rfl rfl (hb hby d35_5)
  refine Go.step st1 ?_
  show Go _ _ _ _ _ _ _ _ T1 (mkF m 8 #[.val (.ref x0), .val (.int x1)] [(.ref w1)])
  exact Go.retA X1 hx Bd.returns rfl rfl hlk (hb hby d35_8) (by decide) (by decide) (by show _ ∧ _ ∧ _; rw [e1]; exact ⟨rfl, N0, rfl⟩)
theorem pd_LIRLjava_lang_Object_ : parseMethodDescriptor "(I)Ljava/lang/Object;" = some ⟨[.int], some (.object "java/lang/Object")⟩ := by decide +kernel
theorem d11_26 : decode prog_11_method_2_code 26 = .ok (.checkcast 31, 3) := by decide +kernel
theorem d11_29 : decode prog_11_method_2_code 29 = .ok (.invokevirtual 33, 3) := by decide +kernel
theorem d30_0 : decode prog_6_method_11_code 0 = .ok (.aload_n 0, 1) := by decide +kernel
theorem d30_1 : decode prog_6_method_11_code 1 = .ok (.getfield 30, 3) := by decide +kernel
theorem d30_4 : decode prog_6_method_11_code 4 = .ok (.ireturn, 1) := by decide +kernel
theorem pn_30 : plainName "com/example/wary_lock/warylock/Lease" = true := by first | (simp [plainName, overriddenIn]; done) | decide +kernel
theorem ef_a30_0 (m : MethodId) (y0 : Addr) : entryFrame m #[(.ref y0)] 1 = mkF m 0 #[.val (.ref y0)] [] := by first | (simp [entryFrame, mkF, argsToLocals, Value.category]; done) | rfl
def Q_a30_0 (Z : State) (dc : Addr) (kdc : ClassId) (el : Addr) (ee : Addr) (kee : ClassId) (ca : Addr) (cc : Cell) (eo : Addr) (mo : Addr) (x0 : Addr) (w1 : Int32) (h0 : Heap) (v : Option Value) (h : Heap) (L : List Loc) : Prop := v = some (.int w1) ∧ Fr Z.heap.size L ∧ h = h0
set_option maxRecDepth 65536 in
set_option maxHeartbeats 40000000 in
theorem rm_a30_0 (l : Launch) (Z : State) (a0 : Array Value) (hw : ∀ d ∈ tables_1, d.before a0 Z = true) (ws : List Jvm.Cond) (dc : Addr) (kdc : ClassId) (el : Addr) (ee : Addr) (kee : ClassId) (ca : Addr) (cc : Cell) (eo : Addr) (mo : Addr) (G_dc : Sta Z Z.heap "java/util/ArrayList" "DEFAULTCAPACITY_EMPTY_ELEMENTDATA" "[Ljava/lang/Object;" (.ref dc)) (G_dce : Exa Z Z.heap dc "[Ljava/lang/Object;") (G_dcv : Arv Z Z.heap dc kdc (.object "java/lang/Object") (0 : Int32) [] .null) (G_el : Sta Z Z.heap "java/util/ImmutableCollections" "EMPTY_LIST" "Ljava/util/ImmutableCollections$ListN;" (.ref el)) (G_ele : Exa Z Z.heap el "java/util/ImmutableCollections$ListN") (G_elf : Fld Z Z.heap el "java/util/ImmutableCollections$ListN" "elements" "[Ljava/lang/Object;" (.ref ee)) (G_eev : Arv Z Z.heap ee kee (.object "java/lang/Object") (0 : Int32) [] .null) (G_hi : Sta Z Z.heap "java/lang/Integer$IntegerCache" "high" "I" (.int (127 : Int32))) (G_ca : Sta Z Z.heap "java/lang/Integer$IntegerCache" "cache" "[Ljava/lang/Integer;" (.ref ca)) (G_bx : Bxs Z ca cc "java/lang/Integer" "I" 256 (fun j => .int (j - 128))) (G_eo : Sta Z Z.heap "java/util/ImmutableCollections" "EMPTY" "Ljava/lang/Object;" (.ref eo)) (G_eoe : Exa Z Z.heap eo "java/lang/Object") (G_mo : MirO Z "[Ljava/lang/Object;" mo) (x0 : Addr) (w1 : Int32) (h0 : Heap) (O0 : Ext Z.heap h0) (r0 : Fld Z h0 x0 "com/example/wary_lock/warylock/Lease" "limit" "I" (.int w1)) :
    MetFree l (⟨"com/example/wary_lock/warylock/Lease", "limit", "()I"⟩ : MethodName) (head1 (Jvm.Cond.code (⟨"com/example/wary_lock/warylock/Lease", "limit", "()I"⟩ : MethodName) prog_6_method_11_code 1 (some .int) :: ws) ({ frames := 0, cells := 0, slots := 0, locals := 0 } : Room)) (fun a U => a = #[(.ref x0)] ∧ Z.Warmed39 U.vm ∧ U.heap = h0) (fun _ _ _ _ _ => True) (fun _ U o U' => ∃ v L, o = .returned v ∧ Q_a30_0 Z dc kdc el ee kee ca cc eo mo x0 w1 h0 v U'.heap L ∧ FrameEnd U o U' L ({ frames := 0, cells := 0, slots := 0, locals := 0 } : Room).cells ({ frames := 0, cells := 0, slots := 0, locals := 0 } : Room).slots) := by
  refine MetFree.of_bodySF (plainFor_of_name pn_30) hisR ?_
  intro p e s m args below meth c s₁ Bd hml0 hP hK
  obtain ⟨rfl, hZ, hh⟩ := hP
  have hx := Bd.exec
  have hby := Bd.bytes
  have hlk := Bd.notSynchronized
  have hml : c.maxLocals = 1 := hml0
  have hown : s.vm.findClass "com/example/wary_lock/warylock/Lease" = some m.cls := findClass_of_methodNamed Bd.named
  have hnm := (name_of_methodNamed Bd.named Bd.method).1
  have X0 : Stand p l e ({ frames := 0, cells := 0, slots := 0, locals := 0 } : Room) s m #[(.ref x0)] below meth c s₁ [] 0 0 := Stand.of_body Bd
  have e0 : s₁.heap = h0 := by rw [← hh, Bd.state]; rfl
  have N0 := Fr.nil Z.heap.size
  show Go FrameEnd p e below s ({ frames := 0, cells := 0, slots := 0, locals := 0 } : Room).cells ({ frames := 0, cells := 0, slots := 0, locals := 0 } : Room).slots (Q_a30_0 Z dc kdc el ee kee ca cc eo mo x0 w1 h0) s₁ (entryFrame m #[(.ref x0)] 1)
  refine Go.cast (ef_a30_0 m x0) ?_
  show Go _ _ _ _ _ _ _ _ s₁ (mkF m 0 #[.val (.ref x0)] [])
  refine Go.step (fun _ kt_ => XS.aloadN X0.here hx rfl (hb hby d30_0) rfl rfl kt_) ?_
  show Go _ _ _ _ _ _ _ _ s₁ (mkF m 1 #[.val (.ref x0)] [(.ref x0)])
  obtain ⟨T1, X1, e1, st1⟩ := getF X0 hx hZ hown (host := "") (Or.inl (hw _ (List.mem_of_getElem? (i := 121) rfl))) Via.refl e0 r0 (g := (mkF m 1 #[.val (.ref x0)] [(.ref x0)])) rfl rfl (hb hby d30_1)
  refine Go.step st1 ?_
  show Go _ _ _ _ _ _ _ _ T1 (mkF m 4 #[.val (.ref x0)] [(.int w1)])
  exact Go.retI X1 hx Bd.returns hlk (hb hby d30_4) (by decide) (by decide) (by show _ ∧ _ ∧ _; rw [e1]; exact ⟨rfl, N0, rfl⟩)
theorem pd_LRI : parseMethodDescriptor "()I" = some ⟨[], some .int⟩ := by decide +kernel
theorem d11_32 : decode prog_11_method_2_code 32 = .ok (.invokestatic 37, 3) := by decide +kernel
theorem pd_LIRLjava_lang_Integer_ : parseMethodDescriptor "(I)Ljava/lang/Integer;" = some ⟨[.int], some (.object "java/lang/Integer")⟩ := by decide +kernel
theorem ef_a11_1 (m : MethodId) (y0 : Addr) : entryFrame m #[(.ref y0)] 1 = mkF m 0 #[.val (.ref y0)] [] := by first | (simp [entryFrame, mkF, argsToLocals, Value.category]; done) | rfl
def Q_a11_1 (Z : State) (dc : Addr) (kdc : ClassId) (el : Addr) (ee : Addr) (kee : ClassId) (ca : Addr) (cc : Cell) (eo : Addr) (mo : Addr) (x0 : Addr) (w1 : Addr) (w2 : Addr) (w3 : Int32) (h0 : Heap) (v : Option Value) (h : Heap) (L : List Loc) : Prop := ∃ (r7 : Addr), v = some (.ref r7) ∧ Fr Z.heap.size L ∧ Keep h0 h [] ∧ Exa Z h r7 "java/lang/Integer" ∧ Fld Z h r7 "java/lang/Integer" "value" "I" (.int w3)
set_option maxRecDepth 65536 in
set_option maxHeartbeats 40000000 in
theorem rm_a11_1 (l : Launch) (Z : State) (a0 : Array Value) (hw : ∀ d ∈ tables_1, d.before a0 Z = true) (ws : List Jvm.Cond) (dc : Addr) (kdc : ClassId) (el : Addr) (ee : Addr) (kee : ClassId) (ca : Addr) (cc : Cell) (eo : Addr) (mo : Addr) (G_dc : Sta Z Z.heap "java/util/ArrayList" "DEFAULTCAPACITY_EMPTY_ELEMENTDATA" "[Ljava/lang/Object;" (.ref dc)) (G_dce : Exa Z Z.heap dc "[Ljava/lang/Object;") (G_dcv : Arv Z Z.heap dc kdc (.object "java/lang/Object") (0 : Int32) [] .null) (G_el : Sta Z Z.heap "java/util/ImmutableCollections" "EMPTY_LIST" "Ljava/util/ImmutableCollections$ListN;" (.ref el)) (G_ele : Exa Z Z.heap el "java/util/ImmutableCollections$ListN") (G_elf : Fld Z Z.heap el "java/util/ImmutableCollections$ListN" "elements" "[Ljava/lang/Object;" (.ref ee)) (G_eev : Arv Z Z.heap ee kee (.object "java/lang/Object") (0 : Int32) [] .null) (G_hi : Sta Z Z.heap "java/lang/Integer$IntegerCache" "high" "I" (.int (127 : Int32))) (G_ca : Sta Z Z.heap "java/lang/Integer$IntegerCache" "cache" "[Ljava/lang/Integer;" (.ref ca)) (G_bx : Bxs Z ca cc "java/lang/Integer" "I" 256 (fun j => .int (j - 128))) (G_eo : Sta Z Z.heap "java/util/ImmutableCollections" "EMPTY" "Ljava/lang/Object;" (.ref eo)) (G_eoe : Exa Z Z.heap eo "java/lang/Object") (G_mo : MirO Z "[Ljava/lang/Object;" mo) (x0 : Addr) (w1 : Addr) (w2 : Addr) (w3 : Int32) (h0 : Heap) (O0 : Ext Z.heap h0) (r0 : Fld Z h0 x0 "com/example/wary_lock/warylock/LockState" "holders" "Ljava/util/List;" (.ref w1)) (r1 : Exa Z h0 w1 "java/util/ImmutableCollections$List12") (r2 : Fld Z h0 w1 "java/util/ImmutableCollections$List12" "e0" "Ljava/lang/Object;" (.ref w2)) (r3 : Exa Z h0 w2 "com/example/wary_lock/warylock/Lease") (r4 : Fld Z h0 w2 "com/example/wary_lock/warylock/Lease" "limit" "I" (.int w3)) :
    MetFree l (⟨"com/example/wary_lock/warylock/LockState", "limit", "()Ljava/lang/Integer;"⟩ : MethodName) (head1 (Jvm.Cond.code (⟨"com/example/wary_lock/warylock/LockState", "limit", "()Ljava/lang/Integer;"⟩ : MethodName) prog_11_method_2_code 1 (some (.object "java/lang/Integer")) :: ws) ({ frames := 4, cells := 1, slots := 1, locals := 50 } : Room)) (fun a U => a = #[(.ref x0)] ∧ Z.Warmed39 U.vm ∧ U.heap = h0) (fun _ _ _ _ _ => True) (fun _ U o U' => ∃ v L, o = .returned v ∧ Q_a11_1 Z dc kdc el ee kee ca cc eo mo x0 w1 w2 w3 h0 v U'.heap L ∧ FrameEnd U o U' L ({ frames := 4, cells := 1, slots := 1, locals := 50 } : Room).cells ({ frames := 4, cells := 1, slots := 1, locals := 50 } : Room).slots) := by
  refine MetFree.of_bodySF (plainFor_of_name pn_11) hisR ?_
  intro p e s m args below meth c s₁ Bd hml0 hP hK
  obtain ⟨rfl, hZ, hh⟩ := hP
  have hx := Bd.exec
  have hby := Bd.bytes
  have hlk := Bd.notSynchronized
  have hml : c.maxLocals = 1 := hml0
  have hown : s.vm.findClass "com/example/wary_lock/warylock/LockState" = some m.cls := findClass_of_methodNamed Bd.named
  have hnm := (name_of_methodNamed Bd.named Bd.method).1
  have X0 : Stand p l e ({ frames := 4, cells := 1, slots := 1, locals := 50 } : Room) s m #[(.ref x0)] below meth c s₁ [] 0 0 := Stand.of_body Bd
  have e0 : s₁.heap = h0 := by rw [← hh, Bd.state]; rfl
  have N0 := Fr.nil Z.heap.size
  show Go FrameEnd p e below s ({ frames := 4, cells := 1, slots := 1, locals := 50 } : Room).cells ({ frames := 4, cells := 1, slots := 1, locals := 50 } : Room).slots (Q_a11_1 Z dc kdc el ee kee ca cc eo mo x0 w1 w2 w3 h0) s₁ (entryFrame m #[(.ref x0)] 1)
  refine Go.cast (ef_a11_1 m x0) ?_
  show Go _ _ _ _ _ _ _ _ s₁ (mkF m 0 #[.val (.ref x0)] [])
  refine Go.step (fun _ kt_ => XS.aloadN X0.here hx rfl (hb hby d11_0) rfl rfl kt_) ?_
  show Go _ _ _ _ _ _ _ _ s₁ (mkF m 1 #[.val (.ref x0)] [(.ref x0)])
  obtain ⟨T1, X1, e1, st1⟩ := getF X0 hx hZ hown (host := "") (Or.inl (hw _ (List.mem_of_getElem? (i := 72) rfl))) Via.refl e0 r0 (g := (mkF m 1 #[.val (.ref x0)] [(.ref x0)])) rfl rfl (hb hby d11_1)
  refine Go.step st1 ?_
  show Go _ _ _ _ _ _ _ _ T1 (mkF m 4 #[.val (.ref x0)] [(.ref w1)])
  obtain ⟨cq2, kq2, q2a, q2b, q2c⟩ := isOf hZ e1 r1
  obtain ⟨_, _, ⟨T2, L2, k2, n2⟩, -, X2, ⟨Lc2, hQ2, l2, y2, z2⟩, st2⟩ := X1.interfaceBack hx (xi := (⟨"java/util/List", "isEmpty", "()Z"⟩ : MethodName)) (y := (⟨"java/util/ImmutableCollections$List12", "isEmpty", "()Z"⟩ : MethodName)) hown (mvT hZ (hw _ (List.mem_of_getElem? (i := 81) rfl))) (mvT hZ (hw _ (List.mem_of_getElem? (i := 82) rfl))) (mvT hZ (hw _ (List.mem_of_getElem? (i := 83) rfl))) (mvT hZ (hw _ (List.mem_of_getElem? (i := 263) rfl))) (mvT hZ (hw _ (List.mem_of_getElem? (i := 264) rfl))) (mvT hZ (hw _ (List.mem_of_getElem? (i := 265) rfl))) (mvT hZ (hw _ (List.mem_of_getElem? (i := 266) rfl))) (mvT hZ (hw _ (List.mem_of_getElem? (i := 267) rfl))) (by decide) (backOf (W := 0) (rm_a34_0 l Z a0 hw [] dc kdc el ee kee ca cc eo mo G_dc G_dce G_dcv G_el G_ele G_elf G_eev G_hi G_ca G_bx G_eo G_eoe G_mo w1 h0 O0 ) hZ (hw _ (List.mem_of_getElem? (i := 268) rfl)) (hw _ (List.mem_of_getElem? (i := 249) rfl)) (by decide) (by decide)) q2a q2b q2c (g := (mkF m 4 #[.val (.ref x0)] [(.ref w1)])) rfl (by rw [hml]; rfl) (Steps.refl _) (argsL := []) (rest := []) (lenOf pd_LRZ rfl) rfl (by show 2 * 0 + _ ≤ _; exact Nat.le_of_eq rfl) (hb hby d11_4) (fun _ _ => ⟨rfl, e1, (by decide : 0 + 0 ≤ _), (by decide : 0 + 0 ≤ _)⟩)
  dsimp only [Pt.U, Pt.locs, Pt.cells, Pt.slots] at X2 l2 y2 z2 st2 hQ2
  subst l2 y2 z2
  obtain ⟨rfl, Nq2, e2⟩ := hQ2
  have N2_ := Fr.app N0 Nq2
  refine Go.trans st2 ?_
  show Go _ _ _ _ _ _ _ _ T2 (mkF m 9 #[.val (.ref x0)] [(.int (0 : Int32))])
  refine Go.step (fun _ kt_ => XS.ifYes X2.here hx rfl (pc0 := 9) (pc' := 16) rfl (hb hby d11_9) rfl ((if0 _ _).trans (teq (by decide : (0 : Int32) = (0 : Int32))).1) (by decide) (by decide) kt_) ?_
  show Go _ _ _ _ _ _ _ _ T2 (mkF m 16 #[.val (.ref x0)] [])
  refine Go.step (fun _ kt_ => XS.aloadN X2.here hx rfl (hb hby d11_16) rfl rfl kt_) ?_
  show Go _ _ _ _ _ _ _ _ T2 (mkF m 17 #[.val (.ref x0)] [(.ref x0)])
  obtain ⟨T3, X3, e3, st3⟩ := getF X2 hx hZ hown (host := "") (Or.inl (hw _ (List.mem_of_getElem? (i := 72) rfl))) Via.refl e2 r0 (g := (mkF m 17 #[.val (.ref x0)] [(.ref x0)])) rfl rfl (hb hby d11_17)
  refine Go.step st3 ?_
  show Go _ _ _ _ _ _ _ _ T3 (mkF m 20 #[.val (.ref x0)] [(.ref w1)])
  refine Go.step (fun _ kt_ => XS.iconst X3.here hx rfl (hb hby d11_20)  kt_) ?_
  show Go _ _ _ _ _ _ _ _ T3 (mkF m 21 #[.val (.ref x0)] [(.int (0 : Int32)), (.ref w1)])
  obtain ⟨cq4, kq4, q4a, q4b, q4c⟩ := isOf hZ e3 r1
  obtain ⟨_, _, ⟨T4, L4, k4, n4⟩, -, X4, ⟨Lc4, hQ4, l4, y4, z4⟩, st4⟩ := X3.interfaceBack hx (xi := (⟨"java/util/List", "get", "(I)Ljava/lang/Object;"⟩ : MethodName)) (y := (⟨"java/util/ImmutableCollections$List12", "get", "(I)Ljava/lang/Object;"⟩ : MethodName)) hown (mvT hZ (hw _ (List.mem_of_getElem? (i := 218) rfl))) (mvT hZ (hw _ (List.mem_of_getElem? (i := 219) rfl))) (mvT hZ (hw _ (List.mem_of_getElem? (i := 220) rfl))) (mvT hZ (hw _ (List.mem_of_getElem? (i := 269) rfl))) (mvT hZ (hw _ (List.mem_of_getElem? (i := 270) rfl))) (mvT hZ (hw _ (List.mem_of_getElem? (i := 271) rfl))) (mvT hZ (hw _ (List.mem_of_getElem? (i := 272) rfl))) (mvT hZ (hw _ (List.mem_of_getElem? (i := 267) rfl))) (by decide) (backOf (W := 0) (rm_a35_0 l Z a0 hw [] dc kdc el ee kee ca cc eo mo G_dc G_dce G_dcv G_el G_ele G_elf G_eev G_hi G_ca G_bx G_eo G_eoe G_mo w1 (0 : Int32) w2 h0 O0 (by decide) r2) hZ (hw _ (List.mem_of_getElem? (i := 273) rfl)) (hw _ (List.mem_of_getElem? (i := 249) rfl)) (by decide) (by decide)) q4a q4b q4c (g := (mkF m 21 #[.val (.ref x0)] [(.int (0 : Int32)), (.ref w1)])) rfl (by rw [hml]; rfl) (Steps.refl _) (argsL := [(.int (0 : Int32))]) (rest := []) (lenOf pd_LIRLjava_lang_Object_ rfl) rfl (by show 2 * 0 + _ ≤ _; exact Nat.le_of_eq rfl) (hb hby d11_21) (fun _ _ => ⟨rfl, e3, (by decide : 0 + 0 ≤ _), (by decide : 0 + 0 ≤ _)⟩)
  dsimp only [Pt.U, Pt.locs, Pt.cells, Pt.slots] at X4 l4 y4 z4 st4 hQ4
  subst l4 y4 z4
  obtain ⟨rfl, Nq4, e4⟩ := hQ4
  have N4_ := Fr.app N2_ Nq4
  refine Go.trans st4 ?_
  show Go _ _ _ _ _ _ _ _ T4 (mkF m 26 #[.val (.ref x0)] [(.ref w2)])
  obtain ⟨T5, X5, e5, st5⟩ := castY X4 hx hZ hown (hw _ (List.mem_of_getElem? (i := 226) rfl)) e4 (Ins.self r3) (g := (mkF m 26 #[.val (.ref x0)] [(.ref w2)])) rfl rfl (hb hby d11_26)
  refine Go.step st5 ?_
  show Go _ _ _ _ _ _ _ _ T5 (mkF m 29 #[.val (.ref x0)] [(.ref w2)])
  obtain ⟨cq6, kq6, q6a, q6b, q6c⟩ := isOf hZ e5 r3
  obtain ⟨_, _, ⟨T6, L6, k6, n6⟩, -, X6, ⟨Lc6, hQ6, l6, y6, z6⟩, st6⟩ := X5.virtualBack hx (y := (⟨"com/example/wary_lock/warylock/Lease", "limit", "()I"⟩ : MethodName)) (z := (⟨"com/example/wary_lock/warylock/Lease", "limit", "()I"⟩ : MethodName)) hown (mvT hZ (hw _ (List.mem_of_getElem? (i := 228) rfl))) (mvT hZ (hw _ (List.mem_of_getElem? (i := 229) rfl))) (notFace_of_selects (args := #[]) (mvT hZ (hw _ (List.mem_of_getElem? (i := 231) rfl)))) (mvT hZ (hw _ (List.mem_of_getElem? (i := 231) rfl))) (mvT hZ (hw _ (List.mem_of_getElem? (i := 230) rfl))) (by decide) (backOf (W := 0) (rm_a30_0 l Z a0 hw [] dc kdc el ee kee ca cc eo mo G_dc G_dce G_dcv G_el G_ele G_elf G_eev G_hi G_ca G_bx G_eo G_eoe G_mo w2 w3 h0 O0 r4) hZ (hw _ (List.mem_of_getElem? (i := 232) rfl)) (hw _ (List.mem_of_getElem? (i := 95) rfl)) (by decide) (by decide)) q6a q6c (g := (mkF m 29 #[.val (.ref x0)] [(.ref w2)])) rfl (by rw [hml]; rfl) (Steps.refl _) (argsL := []) (rest := []) (lenOf pd_LRI rfl) rfl (by show 2 * 0 + _ ≤ _; exact Nat.le_of_eq rfl) (hb hby d11_29) (fun _ _ => ⟨rfl, e5, (by decide : 0 + 0 ≤ _), (by decide : 0 + 0 ≤ _)⟩)
  dsimp only [Pt.U, Pt.locs, Pt.cells, Pt.slots] at X6 l6 y6 z6 st6 hQ6
  subst l6 y6 z6
  obtain ⟨rfl, Nq6, e6⟩ := hQ6
  have N6_ := Fr.app N4_ Nq6
  refine Go.trans st6 ?_
  show Go _ _ _ _ _ _ _ _ T6 (mkF m 32 #[.val (.ref x0)] [(.int w3)])
  obtain ⟨_, _, ⟨T7, L7, k7, n7⟩, -, X7, ⟨Lc7, hQ7, l7, y7, z7⟩, st7⟩ := Jvm.LawKit.callS X6 hx (y := (⟨"java/lang/Integer", "valueOf", "(I)Ljava/lang/Integer;"⟩ : MethodName)) hown (mvT hZ (hw _ (List.mem_of_getElem? (i := 233) rfl))) (mvT hZ (hw _ (List.mem_of_getElem? (i := 234) rfl))) (mvT hZ (hw _ (List.mem_of_getElem? (i := 235) rfl))) (mvT hZ (hw _ (List.mem_of_getElem? (i := 236) rfl))) (by decide) (backOf (W := 0) (rm_vo l Z a0 hw [] dc kdc el ee kee ca cc eo mo G_dc G_dce G_dcv G_el G_ele G_elf G_eev G_hi G_ca G_bx G_eo G_eoe G_mo w3 h0 O0) hZ (hw _ (List.mem_of_getElem? (i := 236) rfl)) (hw _ (List.mem_of_getElem? (i := 235) rfl)) (by decide) (by decide)) (g := (mkF m 32 #[.val (.ref x0)] [(.int w3)])) rfl (by rw [hml]; rfl) (argsL := [(.int w3)]) (rest := []) (lenOf pd_LIRLjava_lang_Integer_ rfl) rfl (by show 2 * 0 + _ ≤ _; exact Nat.le_of_eq rfl) (hb hby d11_32) (fun _ _ => ⟨rfl, e6, (by decide : 0 + 1 ≤ _), (by decide : 0 + 1 ≤ _)⟩)
  dsimp only [Pt.U, Pt.locs, Pt.cells, Pt.slots] at X7 l7 y7 z7 st7 hQ7
  subst l7 y7 z7
  obtain ⟨r7, rfl, Nq7, Kq7, pE7, pV7⟩ := hQ7
  have O7_ : Ext Z.heap T7.heap := extKeep O0 Kq7 all0
  have K7 := Keep.trans (Keep.refl h0 []) Kq7 all0
  have N7_ := Fr.app N6_ Nq7
  refine Go.step st7 ?_
  show Go _ _ _ _ _ _ _ _ T7 (mkF m 35 #[.val (.ref x0)] [(.ref r7)])
  exact Go.retA X7 hx Bd.returns rfl rfl hlk (hb hby d11_35) (by decide) (by decide) ⟨r7, rfl, N7_, K7, pE7, pV7⟩
theorem d32_0 : decode jdk_33_method_27_code 0 = .ok (.aload_n 0, 1) := by decide +kernel
theorem d32_1 : decode jdk_33_method_27_code 1 = .ok (.getfield 205, 3) := by decide +kernel
theorem d32_4 : decode jdk_33_method_27_code 4 = .ok (.ireturn, 1) := by decide +kernel
theorem pn_32 : plainName "java/lang/Integer" = true := by first | (simp [plainName, overriddenIn]; done) | decide +kernel
theorem ef_a32_0 (m : MethodId) (y0 : Addr) : entryFrame m #[(.ref y0)] 1 = mkF m 0 #[.val (.ref y0)] [] := by first | (simp [entryFrame, mkF, argsToLocals, Value.category]; done) | rfl
def Q_a32_0 (Z : State) (dc : Addr) (kdc : ClassId) (el : Addr) (ee : Addr) (kee : ClassId) (ca : Addr) (cc : Cell) (eo : Addr) (mo : Addr) (x0 : Addr) (w1 : Int32) (h0 : Heap) (v : Option Value) (h : Heap) (L : List Loc) : Prop := v = some (.int w1) ∧ Fr Z.heap.size L ∧ h = h0
set_option maxRecDepth 65536 in
set_option maxHeartbeats 40000000 in
theorem rm_a32_0 (l : Launch) (Z : State) (a0 : Array Value) (hw : ∀ d ∈ tables_1, d.before a0 Z = true) (ws : List Jvm.Cond) (dc : Addr) (kdc : ClassId) (el : Addr) (ee : Addr) (kee : ClassId) (ca : Addr) (cc : Cell) (eo : Addr) (mo : Addr) (G_dc : Sta Z Z.heap "java/util/ArrayList" "DEFAULTCAPACITY_EMPTY_ELEMENTDATA" "[Ljava/lang/Object;" (.ref dc)) (G_dce : Exa Z Z.heap dc "[Ljava/lang/Object;") (G_dcv : Arv Z Z.heap dc kdc (.object "java/lang/Object") (0 : Int32) [] .null) (G_el : Sta Z Z.heap "java/util/ImmutableCollections" "EMPTY_LIST" "Ljava/util/ImmutableCollections$ListN;" (.ref el)) (G_ele : Exa Z Z.heap el "java/util/ImmutableCollections$ListN") (G_elf : Fld Z Z.heap el "java/util/ImmutableCollections$ListN" "elements" "[Ljava/lang/Object;" (.ref ee)) (G_eev : Arv Z Z.heap ee kee (.object "java/lang/Object") (0 : Int32) [] .null) (G_hi : Sta Z Z.heap "java/lang/Integer$IntegerCache" "high" "I" (.int (127 : Int32))) (G_ca : Sta Z Z.heap "java/lang/Integer$IntegerCache" "cache" "[Ljava/lang/Integer;" (.ref ca)) (G_bx : Bxs Z ca cc "java/lang/Integer" "I" 256 (fun j => .int (j - 128))) (G_eo : Sta Z Z.heap "java/util/ImmutableCollections" "EMPTY" "Ljava/lang/Object;" (.ref eo)) (G_eoe : Exa Z Z.heap eo "java/lang/Object") (G_mo : MirO Z "[Ljava/lang/Object;" mo) (x0 : Addr) (w1 : Int32) (h0 : Heap) (O0 : Ext Z.heap h0) (r0 : Fld Z h0 x0 "java/lang/Integer" "value" "I" (.int w1)) :
    MetFree l (⟨"java/lang/Integer", "intValue", "()I"⟩ : MethodName) (head1 (Jvm.Cond.code (⟨"java/lang/Integer", "intValue", "()I"⟩ : MethodName) jdk_33_method_27_code 1 (some .int) :: ws) ({ frames := 0, cells := 0, slots := 0, locals := 0 } : Room)) (fun a U => a = #[(.ref x0)] ∧ Z.Warmed39 U.vm ∧ U.heap = h0) (fun _ _ _ _ _ => True) (fun _ U o U' => ∃ v L, o = .returned v ∧ Q_a32_0 Z dc kdc el ee kee ca cc eo mo x0 w1 h0 v U'.heap L ∧ FrameEnd U o U' L ({ frames := 0, cells := 0, slots := 0, locals := 0 } : Room).cells ({ frames := 0, cells := 0, slots := 0, locals := 0 } : Room).slots) := by
  refine MetFree.of_bodySF (plainFor_of_name pn_32) hisR ?_
  intro p e s m args below meth c s₁ Bd hml0 hP hK
  obtain ⟨rfl, hZ, hh⟩ := hP
  have hx := Bd.exec
  have hby := Bd.bytes
  have hlk := Bd.notSynchronized
  have hml : c.maxLocals = 1 := hml0
  have hown : s.vm.findClass "java/lang/Integer" = some m.cls := findClass_of_methodNamed Bd.named
  have hnm := (name_of_methodNamed Bd.named Bd.method).1
  have X0 : Stand p l e ({ frames := 0, cells := 0, slots := 0, locals := 0 } : Room) s m #[(.ref x0)] below meth c s₁ [] 0 0 := Stand.of_body Bd
  have e0 : s₁.heap = h0 := by rw [← hh, Bd.state]; rfl
  have N0 := Fr.nil Z.heap.size
  show Go FrameEnd p e below s ({ frames := 0, cells := 0, slots := 0, locals := 0 } : Room).cells ({ frames := 0, cells := 0, slots := 0, locals := 0 } : Room).slots (Q_a32_0 Z dc kdc el ee kee ca cc eo mo x0 w1 h0) s₁ (entryFrame m #[(.ref x0)] 1)
  refine Go.cast (ef_a32_0 m x0) ?_
  show Go _ _ _ _ _ _ _ _ s₁ (mkF m 0 #[.val (.ref x0)] [])
  refine Go.step (fun _ kt_ => XS.aloadN X0.here hx rfl (hb hby d32_0) rfl rfl kt_) ?_
  show Go _ _ _ _ _ _ _ _ s₁ (mkF m 1 #[.val (.ref x0)] [(.ref x0)])
  obtain ⟨T1, X1, e1, st1⟩ := getF X0 hx hZ hown (host := "") (Or.inl (hw _ (List.mem_of_getElem? (i := 245) rfl))) Via.refl e0 r0 (g := (mkF m 1 #[.val (.ref x0)] [(.ref x0)])) rfl rfl (hb hby d32_1)
  refine Go.step st1 ?_
  show Go _ _ _ _ _ _ _ _ T1 (mkF m 4 #[.val (.ref x0)] [(.int w1)])
  exact Go.retI X1 hx Bd.returns hlk (hb hby d32_4) (by decide) (by decide) (by show _ ∧ _ ∧ _; rw [e1]; exact ⟨rfl, N0, rfl⟩)
theorem ef_a15_1 (m : MethodId) (y0 : Addr) (y1 : Addr) (y2 : Addr) (y3 : Int32) : entryFrame m #[(.ref y0), (.ref y1), (.ref y2), (.int y3)] 4 = mkF m 0 #[.val (.ref y0), .val (.ref y1), .val (.ref y2), .val (.int y3)] [] := by first | (simp [entryFrame, mkF, argsToLocals, Value.category]; done) | rfl
def Q_a15_1 (Z : State) (dc : Addr) (kdc : ClassId) (el : Addr) (ee : Addr) (kee : ClassId) (ca : Addr) (cc : Cell) (eo : Addr) (mo : Addr) (x0 : Addr) (x1 : Addr) (x2 : Addr) (kk1 : ClassId) (w2 : Addr) (h0 : Heap) (v : Option Value) (h : Heap) (L : List Loc) : Prop := v = none ∧ Fr Z.heap.size L ∧ Keep h0 h [x2, x0] ∧ Arv Z h x2 kk1 (.object "java/lang/Object") (10 : Int32) [(.ref w2), (.ref x1), .null, .null, .null, .null, .null, .null, .null, .null] .null ∧ Fld Z h x0 "java/util/ArrayList" "size" "I" (.int (2 : Int32)) ∧ Fld Z h x0 "java/util/AbstractList" "modCount" "I" (.int (2 : Int32)) ∧ Fld Z h x0 "java/util/ArrayList" "elementData" "[Ljava/lang/Object;" (.ref x2)
set_option maxRecDepth 65536 in
set_option maxHeartbeats 40000000 in
theorem rm_a15_1 (l : Launch) (Z : State) (a0 : Array Value) (hw : ∀ d ∈ tables_1, d.before a0 Z = true) (ws : List Jvm.Cond) (dc : Addr) (kdc : ClassId) (el : Addr) (ee : Addr) (kee : ClassId) (ca : Addr) (cc : Cell) (eo : Addr) (mo : Addr) (G_dc : Sta Z Z.heap "java/util/ArrayList" "DEFAULTCAPACITY_EMPTY_ELEMENTDATA" "[Ljava/lang/Object;" (.ref dc)) (G_dce : Exa Z Z.heap dc "[Ljava/lang/Object;") (G_dcv : Arv Z Z.heap dc kdc (.object "java/lang/Object") (0 : Int32) [] .null) (G_el : Sta Z Z.heap "java/util/ImmutableCollections" "EMPTY_LIST" "Ljava/util/ImmutableCollections$ListN;" (.ref el)) (G_ele : Exa Z Z.heap el "java/util/ImmutableCollections$ListN") (G_elf : Fld Z Z.heap el "java/util/ImmutableCollections$ListN" "elements" "[Ljava/lang/Object;" (.ref ee)) (G_eev : Arv Z Z.heap ee kee (.object "java/lang/Object") (0 : Int32) [] .null) (G_hi : Sta Z Z.heap "java/lang/Integer$IntegerCache" "high" "I" (.int (127 : Int32))) (G_ca : Sta Z Z.heap "java/lang/Integer$IntegerCache" "cache" "[Ljava/lang/Integer;" (.ref ca)) (G_bx : Bxs Z ca cc "java/lang/Integer" "I" 256 (fun j => .int (j - 128))) (G_eo : Sta Z Z.heap "java/util/ImmutableCollections" "EMPTY" "Ljava/lang/Object;" (.ref eo)) (G_eoe : Exa Z Z.heap eo "java/lang/Object") (G_mo : MirO Z "[Ljava/lang/Object;" mo) (x0 : Addr) (x1 : Addr) (x2 : Addr) (kk1 : ClassId) (w2 : Addr) (h0 : Heap) (O0 : Ext Z.heap h0) (r0 : Arv Z h0 x2 kk1 (.object "java/lang/Object") (10 : Int32) [(.ref w2), .null, .null, .null, .null, .null, .null, .null, .null, .null] .null) (r1 : Ovr Z kk1 "java/lang/Object") (r2 : Exa Z h0 x1 "com/example/wary_lock/warylock/Lease") (r3 : Z.heap.size ≤ x2) (r4 : Exa Z h0 x0 "java/util/ArrayList") (r5 : Fld Z h0 x0 "java/util/ArrayList" "size" "I" (.int (1 : Int32))) (r6 : x0 ≠ x2) (r7 : Z.heap.size ≤ x0) (r8 : Fld Z h0 x0 "java/util/AbstractList" "modCount" "I" (.int (2 : Int32))) (r9 : Fld Z h0 x0 "java/util/ArrayList" "elementData" "[Ljava/lang/Object;" (.ref x2)) :
    MetFree l (⟨"java/util/ArrayList", "add", "(Ljava/lang/Object;[Ljava/lang/Object;I)V"⟩ : MethodName) (head1 (Jvm.Cond.code (⟨"java/util/ArrayList", "add", "(Ljava/lang/Object;[Ljava/lang/Object;I)V"⟩ : MethodName) jdk_38_method_24_code 4 none :: ws) ({ frames := 0, cells := 0, slots := 0, locals := 0 } : Room)) (fun a U => a = #[(.ref x0), (.ref x1), (.ref x2), (.int (1 : Int32))] ∧ Z.Warmed39 U.vm ∧ U.heap = h0) (fun _ _ _ _ _ => True) (fun _ U o U' => ∃ v L, o = .returned v ∧ Q_a15_1 Z dc kdc el ee kee ca cc eo mo x0 x1 x2 kk1 w2 h0 v U'.heap L ∧ FrameEnd U o U' L ({ frames := 0, cells := 0, slots := 0, locals := 0 } : Room).cells ({ frames := 0, cells := 0, slots := 0, locals := 0 } : Room).slots) := by
  refine MetFree.of_bodySF (plainFor_of_name pn_15) hisR ?_
  intro p e s m args below meth c s₁ Bd hml0 hP hK
  obtain ⟨rfl, hZ, hh⟩ := hP
  have hx := Bd.exec
  have hby := Bd.bytes
  have hlk := Bd.notSynchronized
  have hml : c.maxLocals = 4 := hml0
  have hown : s.vm.findClass "java/util/ArrayList" = some m.cls := findClass_of_methodNamed Bd.named
  have hnm := (name_of_methodNamed Bd.named Bd.method).1
  have X0 : Stand p l e ({ frames := 0, cells := 0, slots := 0, locals := 0 } : Room) s m #[(.ref x0), (.ref x1), (.ref x2), (.int (1 : Int32))] below meth c s₁ [] 0 0 := Stand.of_body Bd
  have e0 : s₁.heap = h0 := by rw [← hh, Bd.state]; rfl
  have N0 := Fr.nil Z.heap.size
  show Go FrameEnd p e below s ({ frames := 0, cells := 0, slots := 0, locals := 0 } : Room).cells ({ frames := 0, cells := 0, slots := 0, locals := 0 } : Room).slots (Q_a15_1 Z dc kdc el ee kee ca cc eo mo x0 x1 x2 kk1 w2 h0) s₁ (entryFrame m #[(.ref x0), (.ref x1), (.ref x2), (.int (1 : Int32))] 4)
  refine Go.cast (ef_a15_1 m x0 x1 x2 (1 : Int32)) ?_
  show Go _ _ _ _ _ _ _ _ s₁ (mkF m 0 #[.val (.ref x0), .val (.ref x1), .val (.ref x2), .val (.int (1 : Int32))] [])
  refine Go.step (fun _ kt_ => XS.iloadN X0.here hx rfl (hb hby d15_0) rfl kt_) ?_
  show Go _ _ _ _ _ _ _ _ s₁ (mkF m 1 #[.val (.ref x0), .val (.ref x1), .val (.ref x2), .val (.int (1 : Int32))] [(.int (1 : Int32))])
  refine Go.step (fun _ kt_ => XS.aloadN X0.here hx rfl (hb hby d15_1) rfl rfl kt_) ?_
  show Go _ _ _ _ _ _ _ _ s₁ (mkF m 2 #[.val (.ref x0), .val (.ref x1), .val (.ref x2), .val (.int (1 : Int32))] [(.ref x2), (.int (1 : Int32))])
  obtain ⟨cl1, Ar1, -, S1, N1, -, -⟩ := id r0
  refine Go.step (X0.arraylength hx (by rw [e0]; exact Ar1.1) (State.isArrayOf_alike hZ.alike Ar1.2.1) (g := (mkF m 2 #[.val (.ref x0), .val (.ref x1), .val (.ref x2), .val (.int (1 : Int32))] [(.ref x2), (.int (1 : Int32))])) rfl rfl (hb hby d15_2)) ?_
  rw [len_of S1 N1]
  show Go _ _ _ _ _ _ _ _ s₁ (mkF m 3 #[.val (.ref x0), .val (.ref x1), .val (.ref x2), .val (.int (1 : Int32))] [(.int (10 : Int32)), (.int (1 : Int32))])
  refine Go.step (fun _ kt_ => XS.icmpYes X0.here hx rfl (pc0 := 3) (pc' := 11) rfl (hb hby d15_3) rfl (feq (by decide : ¬ ((1 : Int32) = (10 : Int32)))).2 (by decide) (by decide) kt_) ?_
  show Go _ _ _ _ _ _ _ _ s₁ (mkF m 11 #[.val (.ref x0), .val (.ref x1), .val (.ref x2), .val (.int (1 : Int32))] [])
  refine Go.step (fun _ kt_ => XS.aloadN X0.here hx rfl (hb hby d15_11) rfl rfl kt_) ?_
  show Go _ _ _ _ _ _ _ _ s₁ (mkF m 12 #[.val (.ref x0), .val (.ref x1), .val (.ref x2), .val (.int (1 : Int32))] [(.ref x2)])
  refine Go.step (fun _ kt_ => XS.iloadN X0.here hx rfl (hb hby d15_12) rfl kt_) ?_
  show Go _ _ _ _ _ _ _ _ s₁ (mkF m 13 #[.val (.ref x0), .val (.ref x1), .val (.ref x2), .val (.int (1 : Int32))] [(.int (1 : Int32)), (.ref x2)])
  refine Go.step (fun _ kt_ => XS.aloadN X0.here hx rfl (hb hby d15_13) rfl rfl kt_) ?_
  show Go _ _ _ _ _ _ _ _ s₁ (mkF m 14 #[.val (.ref x0), .val (.ref x1), .val (.ref x2), .val (.int (1 : Int32))] [(.ref x1), (.int (1 : Int32)), (.ref x2)])
  obtain ⟨cl2, Ar2, q2, S2, N2, H2, G2⟩ := id r0
  have hin2 : ¬ ((1 : Int32) < 0 ∨ cl2.slots.size ≤ ((1 : Int32)).toNatClampNeg) := inb_of S2 ⟨by decide, by decide⟩
  obtain ⟨T2, h2, X2, e2, W2, st2⟩ := stR X0 hx hZ e0 Ar2 (j := (1 : Int32)) hin2 rfl (Sto.ofV Ar2 q2 r1 (Ins.of_exa r2 (hw _ (List.mem_of_getElem? (i := 153) rfl)))) (g := (mkF m 14 #[.val (.ref x0), .val (.ref x1), .val (.ref x2), .val (.int (1 : Int32))] [(.ref x1), (.int (1 : Int32)), (.ref x2)])) rfl rfl (hb hby d15_14)
  refine Go.step st2 ?_
  have V2 : Arv Z h2 x2 kk1 (.object "java/lang/Object") (10 : Int32) [(.ref w2), (.ref x1), .null, .null, .null, .null, .null, .null, .null, .null] .null := Arv.set Ar2 q2 S2 N2 H2 G2 rfl W2 1 rfl (Nat.le_of_ble_eq_true rfl)
  have N2_ := Fr.snoc X2 N0 r3
  have O2_ : Ext Z.heap h2 := extWr O0 W2 r3
  have K2 := Keep.wr (Keep.refl h0 [x2, x0]) W2 (Or.inl (List.mem_of_getElem? (i := 0) rfl))
  show Go _ _ _ _ _ _ _ _ T2 (mkF m 15 #[.val (.ref x0), .val (.ref x1), .val (.ref x2), .val (.int (1 : Int32))] [])
  refine Go.step (fun _ kt_ => XS.aloadN X2.here hx rfl (hb hby d15_15) rfl rfl kt_) ?_
  show Go _ _ _ _ _ _ _ _ T2 (mkF m 16 #[.val (.ref x0), .val (.ref x1), .val (.ref x2), .val (.int (1 : Int32))] [(.ref x0)])
  refine Go.step (fun _ kt_ => XS.iloadN X2.here hx rfl (hb hby d15_16) rfl kt_) ?_
  show Go _ _ _ _ _ _ _ _ T2 (mkF m 17 #[.val (.ref x0), .val (.ref x1), .val (.ref x2), .val (.int (1 : Int32))] [(.int (1 : Int32)), (.ref x0)])
  refine Go.step (fun _ kt_ => XS.iconst X2.here hx rfl (hb hby d15_17)  kt_) ?_
  show Go _ _ _ _ _ _ _ _ T2 (mkF m 18 #[.val (.ref x0), .val (.ref x1), .val (.ref x2), .val (.int (1 : Int32))] [(.int (1 : Int32)), (.int (1 : Int32)), (.ref x0)])
  refine Go.step (fun _ kt_ => XS.iadd X2.here hx rfl (hb hby d15_18) rfl kt_) ?_
  show Go _ _ _ _ _ _ _ _ T2 (mkF m 19 #[.val (.ref x0), .val (.ref x1), .val (.ref x2), .val (.int (1 : Int32))] [(.int (2 : Int32)), (.ref x0)])
  obtain ⟨T3, h3, X3, e3, W3, st3⟩ := putF X2 hx hZ hown (host := "") (Or.inl (hw _ (List.mem_of_getElem? (i := 66) rfl))) Via.refl e2 (Fld.other W2 r5 (Or.inl r6)) (Exa.wr W2 r4) (Or.inl (hw _ (List.mem_of_getElem? (i := 67) rfl))) (hw _ (List.mem_of_getElem? (i := 6) rfl)) (ty := .int) pf_I rfl rfl (g := (mkF m 19 #[.val (.ref x0), .val (.ref x1), .val (.ref x2), .val (.int (1 : Int32))] [(.int (2 : Int32)), (.ref x0)])) rfl rfl (hb hby d15_19)
  refine Go.step st3 ?_
  have N3_ := Fr.snoc X3 N2_ r7
  have O3_ : Ext Z.heap h3 := extWr O2_ W3 r7
  have K3 := Keep.wr K2 W3 (Or.inl (List.mem_of_getElem? (i := 1) rfl))
  have F3 := Fld.same W3 (Fld.other W2 r5 (Or.inl r6))
  show Go _ _ _ _ _ _ _ _ T3 (mkF m 22 #[.val (.ref x0), .val (.ref x1), .val (.ref x2), .val (.int (1 : Int32))] [])
  exact Go.retV X3 hx Bd.returns hlk (hb hby d15_22) (by decide) (by decide) (by show Q_a15_1 _ _ _ _ _ _ _ _ _ _ _ _ _ _ _ _ _ _ _; rw [e3]; exact ⟨rfl, N3_, K3, (V2.other W3 (Ne.symm r6)), F3, (Fld.other W3 (Fld.other W2 r8 (Or.inl r6)) (Or.inr (Ne.symm (sn_1 hw)))), (Fld.other W3 (Fld.other W2 r9 (Or.inl r6)) (Or.inr (Ne.symm (sn_2 hw))))⟩)
theorem ef_a14_1 (m : MethodId) (y0 : Addr) (y1 : Addr) : entryFrame m #[(.ref y0), (.ref y1)] 2 = mkF m 0 #[.val (.ref y0), .val (.ref y1)] [] := by first | (simp [entryFrame, mkF, argsToLocals, Value.category]; done) | rfl
def Q_a14_1 (Z : State) (dc : Addr) (kdc : ClassId) (el : Addr) (ee : Addr) (kee : ClassId) (ca : Addr) (cc : Cell) (eo : Addr) (mo : Addr) (x0 : Addr) (x1 : Addr) (w1 : Addr) (kk2 : ClassId) (w3 : Addr) (h0 : Heap) (v : Option Value) (h : Heap) (L : List Loc) : Prop := v = some (.int (1 : Int32)) ∧ Fr Z.heap.size L ∧ Keep h0 h [x0, w1] ∧ Fld Z h x0 "java/util/ArrayList" "size" "I" (.int (2 : Int32)) ∧ Fld Z h x0 "java/util/AbstractList" "modCount" "I" (.int (2 : Int32)) ∧ Fld Z h x0 "java/util/ArrayList" "elementData" "[Ljava/lang/Object;" (.ref w1) ∧ Arv Z h w1 kk2 (.object "java/lang/Object") (10 : Int32) [(.ref w3), (.ref x1), .null, .null, .null, .null, .null, .null, .null, .null] .null
set_option maxRecDepth 65536 in
set_option maxHeartbeats 40000000 in
theorem rm_a14_1 (l : Launch) (Z : State) (a0 : Array Value) (hw : ∀ d ∈ tables_1, d.before a0 Z = true) (ws : List Jvm.Cond) (dc : Addr) (kdc : ClassId) (el : Addr) (ee : Addr) (kee : ClassId) (ca : Addr) (cc : Cell) (eo : Addr) (mo : Addr) (G_dc : Sta Z Z.heap "java/util/ArrayList" "DEFAULTCAPACITY_EMPTY_ELEMENTDATA" "[Ljava/lang/Object;" (.ref dc)) (G_dce : Exa Z Z.heap dc "[Ljava/lang/Object;") (G_dcv : Arv Z Z.heap dc kdc (.object "java/lang/Object") (0 : Int32) [] .null) (G_el : Sta Z Z.heap "java/util/ImmutableCollections" "EMPTY_LIST" "Ljava/util/ImmutableCollections$ListN;" (.ref el)) (G_ele : Exa Z Z.heap el "java/util/ImmutableCollections$ListN") (G_elf : Fld Z Z.heap el "java/util/ImmutableCollections$ListN" "elements" "[Ljava/lang/Object;" (.ref ee)) (G_eev : Arv Z Z.heap ee kee (.object "java/lang/Object") (0 : Int32) [] .null) (G_hi : Sta Z Z.heap "java/lang/Integer$IntegerCache" "high" "I" (.int (127 : Int32))) (G_ca : Sta Z Z.heap "java/lang/Integer$IntegerCache" "cache" "[Ljava/lang/Integer;" (.ref ca)) (G_bx : Bxs Z ca cc "java/lang/Integer" "I" 256 (fun j => .int (j - 128))) (G_eo : Sta Z Z.heap "java/util/ImmutableCollections" "EMPTY" "Ljava/lang/Object;" (.ref eo)) (G_eoe : Exa Z Z.heap eo "java/lang/Object") (G_mo : MirO Z "[Ljava/lang/Object;" mo) (x0 : Addr) (x1 : Addr) (w1 : Addr) (kk2 : ClassId) (w3 : Addr) (h0 : Heap) (O0 : Ext Z.heap h0) (r0 : Fld Z h0 x0 "java/util/AbstractList" "modCount" "I" (.int (1 : Int32))) (r1 : Exa Z h0 x0 "java/util/ArrayList") (r2 : Z.heap.size ≤ x0) (r3 : Fld Z h0 x0 "java/util/ArrayList" "elementData" "[Ljava/lang/Object;" (.ref w1)) (r4 : Fld Z h0 x0 "java/util/ArrayList" "size" "I" (.int (1 : Int32))) (r5 : Arv Z h0 w1 kk2 (.object "java/lang/Object") (10 : Int32) [(.ref w3), .null, .null, .null, .null, .null, .null, .null, .null, .null] .null) (r6 : w1 ≠ x0) (r7 : Ovr Z kk2 "java/lang/Object") (r8 : Exa Z h0 x1 "com/example/wary_lock/warylock/Lease") (r9 : Z.heap.size ≤ w1) :
    MetFree l (⟨"java/util/ArrayList", "add", "(Ljava/lang/Object;)Z"⟩ : MethodName) (head1 (Jvm.Cond.code (⟨"java/util/ArrayList", "add", "(Ljava/lang/Object;)Z"⟩ : MethodName) jdk_38_method_25_code 2 (some .boolean) :: ws) ({ frames := 1, cells := 0, slots := 0, locals := 15 } : Room)) (fun a U => a = #[(.ref x0), (.ref x1)] ∧ Z.Warmed39 U.vm ∧ U.heap = h0) (fun _ _ _ _ _ => True) (fun _ U o U' => ∃ v L, o = .returned v ∧ Q_a14_1 Z dc kdc el ee kee ca cc eo mo x0 x1 w1 kk2 w3 h0 v U'.heap L ∧ FrameEnd U o U' L ({ frames := 1, cells := 0, slots := 0, locals := 15 } : Room).cells ({ frames := 1, cells := 0, slots := 0, locals := 15 } : Room).slots) := by
  refine MetFree.of_bodySF (plainFor_of_name pn_14) hisR ?_
  intro p e s m args below meth c s₁ Bd hml0 hP hK
  obtain ⟨rfl, hZ, hh⟩ := hP
  have hx := Bd.exec
  have hby := Bd.bytes
  have hlk := Bd.notSynchronized
  have hml : c.maxLocals = 2 := hml0
  have hown : s.vm.findClass "java/util/ArrayList" = some m.cls := findClass_of_methodNamed Bd.named
  have hnm := (name_of_methodNamed Bd.named Bd.method).1
  have X0 : Stand p l e ({ frames := 1, cells := 0, slots := 0, locals := 15 } : Room) s m #[(.ref x0), (.ref x1)] below meth c s₁ [] 0 0 := Stand.of_body Bd
  have e0 : s₁.heap = h0 := by rw [← hh, Bd.state]; rfl
  have N0 := Fr.nil Z.heap.size
  show Go FrameEnd p e below s ({ frames := 1, cells := 0, slots := 0, locals := 15 } : Room).cells ({ frames := 1, cells := 0, slots := 0, locals := 15 } : Room).slots (Q_a14_1 Z dc kdc el ee kee ca cc eo mo x0 x1 w1 kk2 w3 h0) s₁ (entryFrame m #[(.ref x0), (.ref x1)] 2)
  refine Go.cast (ef_a14_1 m x0 x1) ?_
  show Go _ _ _ _ _ _ _ _ s₁ (mkF m 0 #[.val (.ref x0), .val (.ref x1)] [])
  refine Go.step (fun _ kt_ => XS.aloadN X0.here hx rfl (hb hby d14_0) rfl rfl kt_) ?_
  show Go _ _ _ _ _ _ _ _ s₁ (mkF m 1 #[.val (.ref x0), .val (.ref x1)] [(.ref x0)])
  refine Go.step (fun _ kt_ => XS.dup X0.here hx rfl (hb hby d14_1) rfl rfl kt_) ?_
  show Go _ _ _ _ _ _ _ _ s₁ (mkF m 2 #[.val (.ref x0), .val (.ref x1)] [(.ref x0), (.ref x0)])
  obtain ⟨T1, X1, e1, st1⟩ := getF X0 hx hZ hown (host := "") (Or.inl (hw _ (List.mem_of_getElem? (i := 130) rfl))) (Via.of (hw _ (List.mem_of_getElem? (i := 131) rfl))) e0 r0 (g := (mkF m 2 #[.val (.ref x0), .val (.ref x1)] [(.ref x0), (.ref x0)])) rfl rfl (hb hby d14_2)
  refine Go.step st1 ?_
  show Go _ _ _ _ _ _ _ _ T1 (mkF m 5 #[.val (.ref x0), .val (.ref x1)] [(.int (1 : Int32)), (.ref x0)])
  refine Go.step (fun _ kt_ => XS.iconst X1.here hx rfl (hb hby d14_5)  kt_) ?_
  show Go _ _ _ _ _ _ _ _ T1 (mkF m 6 #[.val (.ref x0), .val (.ref x1)] [(.int (1 : Int32)), (.int (1 : Int32)), (.ref x0)])
  refine Go.step (fun _ kt_ => XS.iadd X1.here hx rfl (hb hby d14_6) rfl kt_) ?_
  show Go _ _ _ _ _ _ _ _ T1 (mkF m 7 #[.val (.ref x0), .val (.ref x1)] [(.int (2 : Int32)), (.ref x0)])
  obtain ⟨T2, h2, X2, e2, W2, st2⟩ := putF X1 hx hZ hown (host := "") (Or.inl (hw _ (List.mem_of_getElem? (i := 130) rfl))) (Via.of (hw _ (List.mem_of_getElem? (i := 131) rfl))) e1 r0 r1 (Or.inl (hw _ (List.mem_of_getElem? (i := 27) rfl))) (hw _ (List.mem_of_getElem? (i := 6) rfl)) (ty := .int) pf_I rfl rfl (g := (mkF m 7 #[.val (.ref x0), .val (.ref x1)] [(.int (2 : Int32)), (.ref x0)])) rfl rfl (hb hby d14_7)
  refine Go.step st2 ?_
  have N2_ := Fr.snoc X2 N0 r2
  have O2_ : Ext Z.heap h2 := extWr O0 W2 r2
  have K2 := Keep.wr (Keep.refl h0 [x0, w1]) W2 (Or.inl (List.mem_of_getElem? (i := 0) rfl))
  have F2 := Fld.same W2 r0
  show Go _ _ _ _ _ _ _ _ T2 (mkF m 10 #[.val (.ref x0), .val (.ref x1)] [])
  refine Go.step (fun _ kt_ => XS.aloadN X2.here hx rfl (hb hby d14_10) rfl rfl kt_) ?_
  show Go _ _ _ _ _ _ _ _ T2 (mkF m 11 #[.val (.ref x0), .val (.ref x1)] [(.ref x0)])
  refine Go.step (fun _ kt_ => XS.aloadN X2.here hx rfl (hb hby d14_11) rfl rfl kt_) ?_
  show Go _ _ _ _ _ _ _ _ T2 (mkF m 12 #[.val (.ref x0), .val (.ref x1)] [(.ref x1), (.ref x0)])
  refine Go.step (fun _ kt_ => XS.aloadN X2.here hx rfl (hb hby d14_12) rfl rfl kt_) ?_
  show Go _ _ _ _ _ _ _ _ T2 (mkF m 13 #[.val (.ref x0), .val (.ref x1)] [(.ref x0), (.ref x1), (.ref x0)])
  obtain ⟨T3, X3, e3, st3⟩ := getF X2 hx hZ hown (host := "") (Or.inl (hw _ (List.mem_of_getElem? (i := 29) rfl))) Via.refl e2 (Fld.other W2 r3 (Or.inr (sn_0 hw))) (g := (mkF m 13 #[.val (.ref x0), .val (.ref x1)] [(.ref x0), (.ref x1), (.ref x0)])) rfl rfl (hb hby d14_13)
  refine Go.step st3 ?_
  show Go _ _ _ _ _ _ _ _ T3 (mkF m 16 #[.val (.ref x0), .val (.ref x1)] [(.ref w1), (.ref x1), (.ref x0)])
  refine Go.step (fun _ kt_ => XS.aloadN X3.here hx rfl (hb hby d14_16) rfl rfl kt_) ?_
  show Go _ _ _ _ _ _ _ _ T3 (mkF m 17 #[.val (.ref x0), .val (.ref x1)] [(.ref x0), (.ref w1), (.ref x1), (.ref x0)])
  obtain ⟨T4, X4, e4, st4⟩ := getF X3 hx hZ hown (host := "") (Or.inl (hw _ (List.mem_of_getElem? (i := 66) rfl))) Via.refl e3 (Fld.other W2 r4 (Or.inr (sn_1 hw))) (g := (mkF m 17 #[.val (.ref x0), .val (.ref x1)] [(.ref x0), (.ref w1), (.ref x1), (.ref x0)])) rfl rfl (hb hby d14_17)
  refine Go.step st4 ?_
  show Go _ _ _ _ _ _ _ _ T4 (mkF m 20 #[.val (.ref x0), .val (.ref x1)] [(.int (1 : Int32)), (.ref w1), (.ref x1), (.ref x0)])
  obtain ⟨cq5, q5, q5'⟩ := (Exa.wr W2 r1).cell
  obtain ⟨_, _, ⟨T5, L5, k5, n5⟩, -, X5, ⟨Lc5, hQ5, l5, y5, z5⟩, st5⟩ := X4.privateBack hx (y := (⟨"java/util/ArrayList", "add", "(Ljava/lang/Object;[Ljava/lang/Object;I)V"⟩ : MethodName)) hown (mvT hZ (hw _ (List.mem_of_getElem? (i := 132) rfl))) (mvT hZ (hw _ (List.mem_of_getElem? (i := 133) rfl))) (mvT hZ (hw _ (List.mem_of_getElem? (i := 135) rfl))) (Cond.privateMethod_at (mvP hZ (hw _ (List.mem_of_getElem? (i := 134) rfl)) (args := #[]))) (mvT hZ (hw _ (List.mem_of_getElem? (i := 136) rfl))) (by decide) (backOf (W := 0) (rm_a15_1 l Z a0 hw [] dc kdc el ee kee ca cc eo mo G_dc G_dce G_dcv G_el G_ele G_elf G_eev G_hi G_ca G_bx G_eo G_eoe G_mo x0 x1 w1 kk2 w3 h2 O2_ (r5.other W2 r6) r7 (Exa.wr W2 r8) r9 (Exa.wr W2 r1) (Fld.other W2 r4 (Or.inr (sn_1 hw))) (Ne.symm r6) r2 F2 (Fld.other W2 r3 (Or.inr (sn_0 hw)))) hZ (hw _ (List.mem_of_getElem? (i := 136) rfl)) (hw _ (List.mem_of_getElem? (i := 7) rfl)) (by decide) (by decide)) (g := (mkF m 20 #[.val (.ref x0), .val (.ref x1)] [(.int (1 : Int32)), (.ref w1), (.ref x1), (.ref x0)])) rfl (by rw [hml]; rfl) (Steps.refl _) (a := x0) (by rw [e4]; exact q5) q5' (argsL := [(.ref x1), (.ref w1), (.int (1 : Int32))]) (rest := []) (lenOf pd_LLjava_lang_Object_ALjava_lang_Object_IRV rfl) rfl (by show 2 * 0 + _ ≤ _; exact Nat.le_of_eq rfl) (hb hby d14_20) (fun _ _ => ⟨rfl, e4, (by decide : 0 + 0 ≤ _), (by decide : 0 + 0 ≤ _)⟩)
  dsimp only [Pt.U, Pt.locs, Pt.cells, Pt.slots] at X5 l5 y5 z5 st5 hQ5
  subst l5 y5 z5
  obtain ⟨rfl, Nq5, Kq5, p5_0, p5_1, p5_2, p5_3⟩ := hQ5
  have O5_ : Ext Z.heap T5.heap := extKeep O2_ Kq5 (allS r9 (allS r2 all0))
  have K5 := Keep.trans K2 Kq5 (allS (Or.inl (List.mem_of_getElem? (i := 1) rfl)) (allS (Or.inl (List.mem_of_getElem? (i := 0) rfl)) all0))
  have N5_ := Fr.app N2_ Nq5
  refine Go.trans st5 ?_
  show Go _ _ _ _ _ _ _ _ T5 (mkF m 23 #[.val (.ref x0), .val (.ref x1)] [])
  refine Go.step (fun _ kt_ => XS.iconst X5.here hx rfl (hb hby d14_23)  kt_) ?_
  show Go _ _ _ _ _ _ _ _ T5 (mkF m 24 #[.val (.ref x0), .val (.ref x1)] [(.int (1 : Int32))])
  exact Go.retN X5 hx (t := .boolean) Bd.returns (by simp) hlk (hb hby d14_24) (by decide) (by decide) ⟨rfl, N5_, K5, p5_1, p5_2, p5_3, p5_0⟩
theorem ef_a21_1 (m : MethodId) (y0 : Addr) (y1 : Int32) (y2 : Addr) : entryFrame m #[(.ref y0), (.int y1), (.ref y2)] 4 = mkF m 0 #[.val (.ref y0), .val (.int y1), .val (.ref y2), .unset] [] := by first | (simp [entryFrame, mkF, argsToLocals, Value.category]; done) | rfl
def Q_a21_1 (Z : State) (dc : Addr) (kdc : ClassId) (el : Addr) (ee : Addr) (kee : ClassId) (ca : Addr) (cc : Cell) (eo : Addr) (mo : Addr) (x0 : Addr) (kk1 : ClassId) (w2 : Addr) (w3 : Addr) (h0 : Heap) (v : Option Value) (h : Heap) (L : List Loc) : Prop := ∃ (b2 : Addr) (k2 : ClassId), v = some (.ref b2) ∧ Fr Z.heap.size L ∧ Keep h0 h [] ∧ h0.size ≤ b2 ∧ Exa Z h b2 "[Ljava/lang/Object;" ∧ Arv Z h b2 k2 (.object "java/lang/Object") (2 : Int32) [(.ref w2), (.ref w3)] .null ∧ Ovr Z k2 "java/lang/Object"
set_option maxRecDepth 65536 in
set_option maxHeartbeats 40000000 in
theorem rm_a21_1 (l : Launch) (Z : State) (a0 : Array Value) (hw : ∀ d ∈ tables_1, d.before a0 Z = true) (ws : List Jvm.Cond) (dc : Addr) (kdc : ClassId) (el : Addr) (ee : Addr) (kee : ClassId) (ca : Addr) (cc : Cell) (eo : Addr) (mo : Addr) (G_dc : Sta Z Z.heap "java/util/ArrayList" "DEFAULTCAPACITY_EMPTY_ELEMENTDATA" "[Ljava/lang/Object;" (.ref dc)) (G_dce : Exa Z Z.heap dc "[Ljava/lang/Object;") (G_dcv : Arv Z Z.heap dc kdc (.object "java/lang/Object") (0 : Int32) [] .null) (G_el : Sta Z Z.heap "java/util/ImmutableCollections" "EMPTY_LIST" "Ljava/util/ImmutableCollections$ListN;" (.ref el)) (G_ele : Exa Z Z.heap el "java/util/ImmutableCollections$ListN") (G_elf : Fld Z Z.heap el "java/util/ImmutableCollections$ListN" "elements" "[Ljava/lang/Object;" (.ref ee)) (G_eev : Arv Z Z.heap ee kee (.object "java/lang/Object") (0 : Int32) [] .null) (G_hi : Sta Z Z.heap "java/lang/Integer$IntegerCache" "high" "I" (.int (127 : Int32))) (G_ca : Sta Z Z.heap "java/lang/Integer$IntegerCache" "cache" "[Ljava/lang/Integer;" (.ref ca)) (G_bx : Bxs Z ca cc "java/lang/Integer" "I" 256 (fun j => .int (j - 128))) (G_eo : Sta Z Z.heap "java/util/ImmutableCollections" "EMPTY" "Ljava/lang/Object;" (.ref eo)) (G_eoe : Exa Z Z.heap eo "java/lang/Object") (G_mo : MirO Z "[Ljava/lang/Object;" mo) (x0 : Addr) (kk1 : ClassId) (w2 : Addr) (w3 : Addr) (h0 : Heap) (O0 : Ext Z.heap h0) (r0 : Arv Z h0 x0 kk1 (.object "java/lang/Object") (10 : Int32) [(.ref w2), (.ref w3), .null, .null, .null, .null, .null, .null, .null, .null] .null) (r1 : Exa Z h0 w3 "com/example/wary_lock/warylock/Lease") (r2 : Exa Z h0 w2 "com/example/wary_lock/warylock/Lease") :
    MetFree l (⟨"java/util/Arrays", "copyOf", "([Ljava/lang/Object;ILjava/lang/Class;)[Ljava/lang/Object;"⟩ : MethodName) (head1 (Jvm.Cond.code (⟨"java/util/Arrays", "copyOf", "([Ljava/lang/Object;ILjava/lang/Class;)[Ljava/lang/Object;"⟩ : MethodName) jdk_65_method_120_code 4 (some (.array (.object "java/lang/Object"))) :: ws) ({ frames := 1, cells := 1, slots := 2, locals := 18 } : Room)) (fun a U => a = #[(.ref x0), (.int (2 : Int32)), (.ref mo)] ∧ Z.Warmed39 U.vm ∧ U.heap = h0) (fun _ _ _ _ _ => True) (fun _ U o U' => ∃ v L, o = .returned v ∧ Q_a21_1 Z dc kdc el ee kee ca cc eo mo x0 kk1 w2 w3 h0 v U'.heap L ∧ FrameEnd U o U' L ({ frames := 1, cells := 1, slots := 2, locals := 18 } : Room).cells ({ frames := 1, cells := 1, slots := 2, locals := 18 } : Room).slots) := by
  refine MetFree.of_bodySF (plainFor_of_name pn_21) hisR ?_
  intro p e s m args below meth c s₁ Bd hml0 hP hK
  obtain ⟨rfl, hZ, hh⟩ := hP
  have hx := Bd.exec
  have hby := Bd.bytes
  have hlk := Bd.notSynchronized
  have hml : c.maxLocals = 4 := hml0
  have hown : s.vm.findClass "java/util/Arrays" = some m.cls := findClass_of_methodNamed Bd.named
  have hnm := (name_of_methodNamed Bd.named Bd.method).1
  have X0 : Stand p l e ({ frames := 1, cells := 1, slots := 2, locals := 18 } : Room) s m #[(.ref x0), (.int (2 : Int32)), (.ref mo)] below meth c s₁ [] 0 0 := Stand.of_body Bd
  have e0 : s₁.heap = h0 := by rw [← hh, Bd.state]; rfl
  have N0 := Fr.nil Z.heap.size
  show Go FrameEnd p e below s ({ frames := 1, cells := 1, slots := 2, locals := 18 } : Room).cells ({ frames := 1, cells := 1, slots := 2, locals := 18 } : Room).slots (Q_a21_1 Z dc kdc el ee kee ca cc eo mo x0 kk1 w2 w3 h0) s₁ (entryFrame m #[(.ref x0), (.int (2 : Int32)), (.ref mo)] 4)
  refine Go.cast (ef_a21_1 m x0 (2 : Int32) mo) ?_
  show Go _ _ _ _ _ _ _ _ s₁ (mkF m 0 #[.val (.ref x0), .val (.int (2 : Int32)), .val (.ref mo), .unset] [])
  refine Go.step (fun _ kt_ => XS.aloadN X0.here hx rfl (hb hby d21_0) rfl rfl kt_) ?_
  show Go _ _ _ _ _ _ _ _ s₁ (mkF m 1 #[.val (.ref x0), .val (.int (2 : Int32)), .val (.ref mo), .unset] [(.ref mo)])
  obtain ⟨T1, X1, e1, st1⟩ := own_ldcMir X0 hx hZ hown (hw _ (List.mem_of_getElem? (i := 177) rfl)) e0 G_mo (g := (mkF m 1 #[.val (.ref x0), .val (.int (2 : Int32)), .val (.ref mo), .unset] [(.ref mo)])) rfl (hb hby d21_1)
  refine Go.step st1 ?_
  show Go _ _ _ _ _ _ _ _ T1 (mkF m 3 #[.val (.ref x0), .val (.int (2 : Int32)), .val (.ref mo), .unset] [(.ref mo), (.ref mo)])
  refine Go.step (fun _ kt_ => Jvm.RoadKit.acmp (g := (mkF m 3 #[.val (.ref x0), .val (.int (2 : Int32)), .val (.ref mo), .unset] [(.ref mo), (.ref mo)])) X1 hx rfl rfl rfl (pc0 := 3) (pc' := 6) (same := true) rfl (hb hby d21_3) rfl (decide_eq_true rfl) (by decide) (by decide) kt_) ?_
  show Go _ _ _ _ _ _ _ _ T1 (mkF m 6 #[.val (.ref x0), .val (.int (2 : Int32)), .val (.ref mo), .unset] [])
  refine Go.step (fun _ kt_ => XS.iloadN X1.here hx rfl (hb hby d21_6) rfl kt_) ?_
  show Go _ _ _ _ _ _ _ _ T1 (mkF m 7 #[.val (.ref x0), .val (.int (2 : Int32)), .val (.ref mo), .unset] [(.int (2 : Int32))])
  obtain ⟨T2, h2, k2, X2, e2, E2, A2, B2, O2, st2⟩ := newRE X1 hx hZ hown (hw _ (List.mem_of_getElem? (i := 178) rfl)) (hw _ (List.mem_of_getElem? (i := 152) rfl)) e1 (g := (mkF m 7 #[.val (.ref x0), .val (.int (2 : Int32)), .val (.ref mo), .unset] [(.int (2 : Int32))])) rfl (hb hby d21_7) rfl (by decide) (cap := 2) (by decide) (by decide) (by decide) (by decide) rfl
  obtain ⟨b2, hb2⟩ : ∃ z, z = h0.size := ⟨_, rfl⟩
  rw [← hb2] at A2 B2 st2
  refine Go.step st2 ?_
  have g_b2 : Z.heap.size ≤ b2 := Nat.le_trans O0.1 (Nat.le_of_eq hb2.symm)
  have O2_ : Ext Z.heap h2 := extTr O0 E2
  have sz_b2 : h0.size ≤ b2 := Nat.le_trans (Keep.refl h0 []).1 (Nat.le_of_eq hb2.symm)
  have K2 := Keep.ext (Keep.refl h0 []) E2
  have V2 : Arv Z h2 b2 k2 (.object "java/lang/Object") (2 : Int32) [.null, .null] .null := (Arv.new A2 (by decide)).pad (pad_rep [] .null 2)
  show Go _ _ _ _ _ _ _ _ T2 (mkF m 10 #[.val (.ref x0), .val (.int (2 : Int32)), .val (.ref mo), .unset] [(.ref b2)])
  refine Go.step (fun _ kt_ => XS.goto X2.here hx rfl (pc0 := 10) (pc' := 24) rfl (hb hby d21_10) (by decide) (by decide) kt_) ?_
  show Go _ _ _ _ _ _ _ _ T2 (mkF m 24 #[.val (.ref x0), .val (.int (2 : Int32)), .val (.ref mo), .unset] [(.ref b2)])
  refine Go.step (fun _ kt_ => XS.astoreN X2.here hx rfl (hb hby d21_24) rfl rfl (l' := #[.val (.ref x0), .val (.int (2 : Int32)), .val (.ref mo), .val (.ref b2)]) rfl kt_) ?_
  show Go _ _ _ _ _ _ _ _ T2 (mkF m 25 #[.val (.ref x0), .val (.int (2 : Int32)), .val (.ref mo), .val (.ref b2)] [])
  refine Go.step (fun _ kt_ => XS.aloadN X2.here hx rfl (hb hby d21_25) rfl rfl kt_) ?_
  show Go _ _ _ _ _ _ _ _ T2 (mkF m 26 #[.val (.ref x0), .val (.int (2 : Int32)), .val (.ref mo), .val (.ref b2)] [(.ref x0)])
  refine Go.step (fun _ kt_ => XS.iconst X2.here hx rfl (hb hby d21_26)  kt_) ?_
  show Go _ _ _ _ _ _ _ _ T2 (mkF m 27 #[.val (.ref x0), .val (.int (2 : Int32)), .val (.ref mo), .val (.ref b2)] [(.int (0 : Int32)), (.ref x0)])
  refine Go.step (fun _ kt_ => XS.aloadN X2.here hx rfl (hb hby d21_27) rfl rfl kt_) ?_
  show Go _ _ _ _ _ _ _ _ T2 (mkF m 28 #[.val (.ref x0), .val (.int (2 : Int32)), .val (.ref mo), .val (.ref b2)] [(.ref b2), (.int (0 : Int32)), (.ref x0)])
  refine Go.step (fun _ kt_ => XS.iconst X2.here hx rfl (hb hby d21_28)  kt_) ?_
  show Go _ _ _ _ _ _ _ _ T2 (mkF m 29 #[.val (.ref x0), .val (.int (2 : Int32)), .val (.ref mo), .val (.ref b2)] [(.int (0 : Int32)), (.ref b2), (.int (0 : Int32)), (.ref x0)])
  refine Go.step (fun _ kt_ => XS.aloadN X2.here hx rfl (hb hby d21_29) rfl rfl kt_) ?_
  show Go _ _ _ _ _ _ _ _ T2 (mkF m 30 #[.val (.ref x0), .val (.int (2 : Int32)), .val (.ref mo), .val (.ref b2)] [(.ref x0), (.int (0 : Int32)), (.ref b2), (.int (0 : Int32)), (.ref x0)])
  obtain ⟨cl3, Ar3, -, S3, N3, -, -⟩ := id (r0.ext E2)
  refine Go.step (X2.arraylength hx (by rw [e2]; exact Ar3.1) (State.isArrayOf_alike hZ.alike Ar3.2.1) (g := (mkF m 30 #[.val (.ref x0), .val (.int (2 : Int32)), .val (.ref mo), .val (.ref b2)] [(.ref x0), (.int (0 : Int32)), (.ref b2), (.int (0 : Int32)), (.ref x0)])) rfl rfl (hb hby d21_30)) ?_
  rw [len_of S3 N3]
  show Go _ _ _ _ _ _ _ _ T2 (mkF m 31 #[.val (.ref x0), .val (.int (2 : Int32)), .val (.ref mo), .val (.ref b2)] [(.int (10 : Int32)), (.int (0 : Int32)), (.ref b2), (.int (0 : Int32)), (.ref x0)])
  refine Go.step (fun _ kt_ => XS.iloadN X2.here hx rfl (hb hby d21_31) rfl kt_) ?_
  show Go _ _ _ _ _ _ _ _ T2 (mkF m 32 #[.val (.ref x0), .val (.int (2 : Int32)), .val (.ref mo), .val (.ref b2)] [(.int (2 : Int32)), (.int (10 : Int32)), (.int (0 : Int32)), (.ref b2), (.int (0 : Int32)), (.ref x0)])
  obtain ⟨_, _, ⟨T4, L4, k4, n4⟩, -, X4, ⟨Lc4, hQ4, l4, y4, z4⟩, st4⟩ := Jvm.LawKit.callS X2 hx (y := (⟨"java/lang/Math", "min", "(II)I"⟩ : MethodName)) hown (mvT hZ (hw _ (List.mem_of_getElem? (i := 179) rfl))) (mvT hZ (hw _ (List.mem_of_getElem? (i := 180) rfl))) (mvT hZ (hw _ (List.mem_of_getElem? (i := 149) rfl))) (mvT hZ (hw _ (List.mem_of_getElem? (i := 181) rfl))) (by decide) (backOf (W := 4) (rm_a22_0 l Z a0 hw [] dc kdc el ee kee ca cc eo mo G_dc G_dce G_dcv G_el G_ele G_elf G_eev G_hi G_ca G_bx G_eo G_eoe G_mo (10 : Int32) (2 : Int32) h2 O2_ (by decide)) hZ (hw _ (List.mem_of_getElem? (i := 181) rfl)) (hw _ (List.mem_of_getElem? (i := 149) rfl)) (by decide) (by decide)) (g := (mkF m 32 #[.val (.ref x0), .val (.int (2 : Int32)), .val (.ref mo), .val (.ref b2)] [(.int (2 : Int32)), (.int (10 : Int32)), (.int (0 : Int32)), (.ref b2), (.int (0 : Int32)), (.ref x0)])) rfl (by rw [hml]; rfl) (argsL := [(.int (10 : Int32)), (.int (2 : Int32))]) (rest := [(.int (0 : Int32)), (.ref b2), (.int (0 : Int32)), (.ref x0)]) (lenOf pd_LIIRI rfl) rfl (by show 2 * 0 + _ ≤ _; exact Nat.le_of_eq rfl) (hb hby d21_32) (fun _ _ => ⟨rfl, e2, (by decide : 1 + 0 ≤ _), (by decide : 2 + 0 ≤ _)⟩)
  dsimp only [Pt.U, Pt.locs, Pt.cells, Pt.slots] at X4 l4 y4 z4 st4 hQ4
  subst l4 y4 z4
  obtain ⟨rfl, Nq4, e4⟩ := hQ4
  have N4_ := Fr.app N0 Nq4
  refine Go.step st4 ?_
  show Go _ _ _ _ _ _ _ _ T4 (mkF m 35 #[.val (.ref x0), .val (.int (2 : Int32)), .val (.ref mo), .val (.ref b2)] [(.int (2 : Int32)), (.int (0 : Int32)), (.ref b2), (.int (0 : Int32)), (.ref x0)])
  obtain ⟨cl5, Ar5, q5, -⟩ := id V2
  obtain ⟨T5, h5, L5, X5, e5, N5_, K5_, V5_, st5⟩ := cpA X4 hx hZ hown (hw _ (List.mem_of_getElem? (i := 182) rfl)) (hw _ (List.mem_of_getElem? (i := 185) rfl)) (hw _ (List.mem_of_getElem? (i := 183) rfl)) (hw _ (List.mem_of_getElem? (i := 184) rfl)) e4 (us := [(.ref w2), (.ref w3)]) (r0.ext E2) V2 (Or.inr ⟨rfl, rfl, ⟨(Sto.ofV Ar5 q5 O2 (Ins.of_exa (Exa.ext E2 r2) (hw _ (List.mem_of_getElem? (i := 153) rfl)))), ⟨(Sto.ofV Ar5 q5 O2 (Ins.of_exa (Exa.ext E2 r1) (hw _ (List.mem_of_getElem? (i := 153) rfl)))), trivial⟩⟩⟩) (by decide) (by decide) (by decide) (by decide) (by decide) rfl (by decide) N4_ g_b2 (g := (mkF m 35 #[.val (.ref x0), .val (.int (2 : Int32)), .val (.ref mo), .val (.ref b2)] [(.int (2 : Int32)), (.int (0 : Int32)), (.ref b2), (.int (0 : Int32)), (.ref x0)])) rfl (by rw [hml]; rfl) rfl (hb hby d21_35) (by decide) (W := 0) (by show 2 * 0 + _ ≤ _; exact Nat.le_of_eq rfl) (by decide)
  refine Go.step st5 ?_
  have V5 : Arv Z h5 b2 k2 (.object "java/lang/Object") (2 : Int32) [(.ref w2), (.ref w3)] .null := V5_
  have O5_ : Ext Z.heap h5 := extKeep O2_ K5_ (allS g_b2 all0)
  have K5 := Keep.trans K2 K5_ (allS (Or.inr sz_b2) all0)
  show Go _ _ _ _ _ _ _ _ T5 (mkF m 38 #[.val (.ref x0), .val (.int (2 : Int32)), .val (.ref mo), .val (.ref b2)] [])
  refine Go.step (fun _ kt_ => XS.aloadN X5.here hx rfl (hb hby d21_38) rfl rfl kt_) ?_
  show Go _ _ _ _ _ _ _ _ T5 (mkF m 39 #[.val (.ref x0), .val (.int (2 : Int32)), .val (.ref mo), .val (.ref b2)] [(.ref b2)])
  exact Go.retA X5 hx Bd.returns rfl rfl hlk (hb hby d21_39) (by decide) (by decide) (by show Q_a21_1 _ _ _ _ _ _ _ _ _ _ _ _ _ _ _ _ _ _; rw [e5]; exact ⟨b2, k2, rfl, N5_, K5, sz_b2, (B2.keep K5_), V5, O2⟩)
theorem ef_a20_1 (m : MethodId) (y0 : Addr) (y1 : Int32) : entryFrame m #[(.ref y0), (.int y1)] 2 = mkF m 0 #[.val (.ref y0), .val (.int y1)] [] := by first | (simp [entryFrame, mkF, argsToLocals, Value.category]; done) | rfl
def Q_a20_1 (Z : State) (dc : Addr) (kdc : ClassId) (el : Addr) (ee : Addr) (kee : ClassId) (ca : Addr) (cc : Cell) (eo : Addr) (mo : Addr) (x0 : Addr) (kk1 : ClassId) (w2 : Addr) (w3 : Addr) (h0 : Heap) (v : Option Value) (h : Heap) (L : List Loc) : Prop := ∃ (b2q2 : Addr) (k2q2 : ClassId), v = some (.ref b2q2) ∧ Fr Z.heap.size L ∧ Keep h0 h [] ∧ h0.size ≤ b2q2 ∧ Exa Z h b2q2 "[Ljava/lang/Object;" ∧ Arv Z h b2q2 k2q2 (.object "java/lang/Object") (2 : Int32) [(.ref w2), (.ref w3)] .null ∧ Ovr Z k2q2 "java/lang/Object"
set_option maxRecDepth 65536 in
set_option maxHeartbeats 40000000 in
theorem rm_a20_1 (l : Launch) (Z : State) (a0 : Array Value) (hw : ∀ d ∈ tables_1, d.before a0 Z = true) (ws : List Jvm.Cond) (dc : Addr) (kdc : ClassId) (el : Addr) (ee : Addr) (kee : ClassId) (ca : Addr) (cc : Cell) (eo : Addr) (mo : Addr) (G_dc : Sta Z Z.heap "java/util/ArrayList" "DEFAULTCAPACITY_EMPTY_ELEMENTDATA" "[Ljava/lang/Object;" (.ref dc)) (G_dce : Exa Z Z.heap dc "[Ljava/lang/Object;") (G_dcv : Arv Z Z.heap dc kdc (.object "java/lang/Object") (0 : Int32) [] .null) (G_el : Sta Z Z.heap "java/util/ImmutableCollections" "EMPTY_LIST" "Ljava/util/ImmutableCollections$ListN;" (.ref el)) (G_ele : Exa Z Z.heap el "java/util/ImmutableCollections$ListN") (G_elf : Fld Z Z.heap el "java/util/ImmutableCollections$ListN" "elements" "[Ljava/lang/Object;" (.ref ee)) (G_eev : Arv Z Z.heap ee kee (.object "java/lang/Object") (0 : Int32) [] .null) (G_hi : Sta Z Z.heap "java/lang/Integer$IntegerCache" "high" "I" (.int (127 : Int32))) (G_ca : Sta Z Z.heap "java/lang/Integer$IntegerCache" "cache" "[Ljava/lang/Integer;" (.ref ca)) (G_bx : Bxs Z ca cc "java/lang/Integer" "I" 256 (fun j => .int (j - 128))) (G_eo : Sta Z Z.heap "java/util/ImmutableCollections" "EMPTY" "Ljava/lang/Object;" (.ref eo)) (G_eoe : Exa Z Z.heap eo "java/lang/Object") (G_mo : MirO Z "[Ljava/lang/Object;" mo) (x0 : Addr) (kk1 : ClassId) (w2 : Addr) (w3 : Addr) (h0 : Heap) (O0 : Ext Z.heap h0) (r0 : Exa Z h0 x0 "[Ljava/lang/Object;") (r1 : Arv Z h0 x0 kk1 (.object "java/lang/Object") (10 : Int32) [(.ref w2), (.ref w3), .null, .null, .null, .null, .null, .null, .null, .null] .null) (r2 : Exa Z h0 w3 "com/example/wary_lock/warylock/Lease") (r3 : Exa Z h0 w2 "com/example/wary_lock/warylock/Lease") :
    MetFree l (⟨"java/util/Arrays", "copyOf", "([Ljava/lang/Object;I)[Ljava/lang/Object;"⟩ : MethodName) (head1 (Jvm.Cond.code (⟨"java/util/Arrays", "copyOf", "([Ljava/lang/Object;I)[Ljava/lang/Object;"⟩ : MethodName) jdk_65_method_119_code 2 (some (.array (.object "java/lang/Object"))) :: ws) ({ frames := 2, cells := 1, slots := 2, locals := 33 } : Room)) (fun a U => a = #[(.ref x0), (.int (2 : Int32))] ∧ Z.Warmed39 U.vm ∧ U.heap = h0) (fun _ _ _ _ _ => True) (fun _ U o U' => ∃ v L, o = .returned v ∧ Q_a20_1 Z dc kdc el ee kee ca cc eo mo x0 kk1 w2 w3 h0 v U'.heap L ∧ FrameEnd U o U' L ({ frames := 2, cells := 1, slots := 2, locals := 33 } : Room).cells ({ frames := 2, cells := 1, slots := 2, locals := 33 } : Room).slots) := by
  refine MetFree.of_bodySF (plainFor_of_name pn_20) hisR ?_
  intro p e s m args below meth c s₁ Bd hml0 hP hK
  obtain ⟨rfl, hZ, hh⟩ := hP
  have hx := Bd.exec
  have hby := Bd.bytes
  have hlk := Bd.notSynchronized
  have hml : c.maxLocals = 2 := hml0
  have hown : s.vm.findClass "java/util/Arrays" = some m.cls := findClass_of_methodNamed Bd.named
  have hnm := (name_of_methodNamed Bd.named Bd.method).1
  have X0 : Stand p l e ({ frames := 2, cells := 1, slots := 2, locals := 33 } : Room) s m #[(.ref x0), (.int (2 : Int32))] below meth c s₁ [] 0 0 := Stand.of_body Bd
  have e0 : s₁.heap = h0 := by rw [← hh, Bd.state]; rfl
  have N0 := Fr.nil Z.heap.size
  show Go FrameEnd p e below s ({ frames := 2, cells := 1, slots := 2, locals := 33 } : Room).cells ({ frames := 2, cells := 1, slots := 2, locals := 33 } : Room).slots (Q_a20_1 Z dc kdc el ee kee ca cc eo mo x0 kk1 w2 w3 h0) s₁ (entryFrame m #[(.ref x0), (.int (2 : Int32))] 2)
  refine Go.cast (ef_a20_1 m x0 (2 : Int32)) ?_
  show Go _ _ _ _ _ _ _ _ s₁ (mkF m 0 #[.val (.ref x0), .val (.int (2 : Int32))] [])
  refine Go.step (fun _ kt_ => XS.aloadN X0.here hx rfl (hb hby d20_0) rfl rfl kt_) ?_
  show Go _ _ _ _ _ _ _ _ s₁ (mkF m 1 #[.val (.ref x0), .val (.int (2 : Int32))] [(.ref x0)])
  refine Go.step (fun _ kt_ => XS.iloadN X0.here hx rfl (hb hby d20_1) rfl kt_) ?_
  show Go _ _ _ _ _ _ _ _ s₁ (mkF m 2 #[.val (.ref x0), .val (.int (2 : Int32))] [(.int (2 : Int32)), (.ref x0)])
  refine Go.step (fun _ kt_ => XS.aloadN X0.here hx rfl (hb hby d20_2) rfl rfl kt_) ?_
  show Go _ _ _ _ _ _ _ _ s₁ (mkF m 3 #[.val (.ref x0), .val (.int (2 : Int32))] [(.ref x0), (.int (2 : Int32)), (.ref x0)])
  obtain ⟨T1, X1, e1, st1⟩ := own_gcls X0 hx hZ hown (hw _ (List.mem_of_getElem? (i := 168) rfl)) (hw _ (List.mem_of_getElem? (i := 169) rfl)) (hw _ (List.mem_of_getElem? (i := 55) rfl)) (hw _ (List.mem_of_getElem? (i := 171) rfl)) (hw _ (List.mem_of_getElem? (i := 170) rfl)) (hw _ (List.mem_of_getElem? (i := 172) rfl)) e0 r0 G_mo (g := (mkF m 3 #[.val (.ref x0), .val (.int (2 : Int32))] [(.ref x0), (.int (2 : Int32)), (.ref x0)])) rfl (by rw [hml]; rfl) rfl (hb hby d20_3) (by decide) (W := 2) (by show 2 * 0 + _ ≤ _; exact Nat.le_of_eq rfl) (by decide)
  refine Go.step st1 ?_
  show Go _ _ _ _ _ _ _ _ T1 (mkF m 6 #[.val (.ref x0), .val (.int (2 : Int32))] [(.ref mo), (.int (2 : Int32)), (.ref x0)])
  obtain ⟨_, _, ⟨T2, L2, k2, n2⟩, -, X2, ⟨Lc2, hQ2, l2, y2, z2⟩, st2⟩ := Jvm.LawKit.callS X1 hx (y := (⟨"java/util/Arrays", "copyOf", "([Ljava/lang/Object;ILjava/lang/Class;)[Ljava/lang/Object;"⟩ : MethodName)) hown (mvT hZ (hw _ (List.mem_of_getElem? (i := 174) rfl))) (mvT hZ (hw _ (List.mem_of_getElem? (i := 175) rfl))) (mvT hZ (hw _ (List.mem_of_getElem? (i := 166) rfl))) (mvT hZ (hw _ (List.mem_of_getElem? (i := 176) rfl))) (by decide) (backOf (W := 0) (rm_a21_1 l Z a0 hw [] dc kdc el ee kee ca cc eo mo G_dc G_dce G_dcv G_el G_ele G_elf G_eev G_hi G_ca G_bx G_eo G_eoe G_mo x0 kk1 w2 w3 h0 O0 r1 r2 r3) hZ (hw _ (List.mem_of_getElem? (i := 176) rfl)) (hw _ (List.mem_of_getElem? (i := 166) rfl)) (by decide) (by decide)) (g := (mkF m 6 #[.val (.ref x0), .val (.int (2 : Int32))] [(.ref mo), (.int (2 : Int32)), (.ref x0)])) rfl (by rw [hml]; rfl) (argsL := [(.ref x0), (.int (2 : Int32)), (.ref mo)]) (rest := []) (lenOf pd_LALjava_lang_Object_ILjava_lang_Class_RALjava_lang_Object_ rfl) rfl (by show 2 * 0 + _ ≤ _; exact Nat.le_of_eq rfl) (hb hby d20_6) (fun _ _ => ⟨rfl, e1, (by decide : 0 + 1 ≤ _), (by decide : 0 + 2 ≤ _)⟩)
  dsimp only [Pt.U, Pt.locs, Pt.cells, Pt.slots] at X2 l2 y2 z2 st2 hQ2
  subst l2 y2 z2
  obtain ⟨b2q2, k2q2, rfl, Nq2, Kq2, p2_0, p2_1, p2_2, p2_3⟩ := hQ2
  have O2_ : Ext Z.heap T2.heap := extKeep O0 Kq2 all0
  have K2 := Keep.trans (Keep.refl h0 []) Kq2 all0
  have N2_ := Fr.app N0 Nq2
  have g_b2q2 : Z.heap.size ≤ b2q2 := Nat.le_trans O0.1 p2_0
  have sz_b2q2 : h0.size ≤ b2q2 := Nat.le_trans (Keep.refl h0 []).1 p2_0
  refine Go.step st2 ?_
  show Go _ _ _ _ _ _ _ _ T2 (mkF m 9 #[.val (.ref x0), .val (.int (2 : Int32))] [(.ref b2q2)])
  exact Go.retA X2 hx Bd.returns rfl rfl hlk (hb hby d20_9) (by decide) (by decide) ⟨b2q2, k2q2, rfl, N2_, K2, sz_b2q2, p2_1, p2_2, p2_3⟩
theorem ef_a19_1 (m : MethodId) (y0 : Addr) : entryFrame m #[(.ref y0)] 1 = mkF m 0 #[.val (.ref y0)] [] := by first | (simp [entryFrame, mkF, argsToLocals, Value.category]; done) | rfl
def Q_a19_1 (Z : State) (dc : Addr) (kdc : ClassId) (el : Addr) (ee : Addr) (kee : ClassId) (ca : Addr) (cc : Cell) (eo : Addr) (mo : Addr) (x0 : Addr) (w1 : Addr) (kk2 : ClassId) (w3 : Addr) (w4 : Addr) (h0 : Heap) (v : Option Value) (h : Heap) (L : List Loc) : Prop := ∃ (b2q2q3 : Addr) (k2q2q3 : ClassId), v = some (.ref b2q2q3) ∧ Fr Z.heap.size L ∧ Keep h0 h [] ∧ h0.size ≤ b2q2q3 ∧ Exa Z h b2q2q3 "[Ljava/lang/Object;" ∧ Arv Z h b2q2q3 k2q2q3 (.object "java/lang/Object") (2 : Int32) [(.ref w3), (.ref w4)] .null ∧ Ovr Z k2q2q3 "java/lang/Object"
set_option maxRecDepth 65536 in
set_option maxHeartbeats 40000000 in
theorem rm_a19_1 (l : Launch) (Z : State) (a0 : Array Value) (hw : ∀ d ∈ tables_1, d.before a0 Z = true) (ws : List Jvm.Cond) (dc : Addr) (kdc : ClassId) (el : Addr) (ee : Addr) (kee : ClassId) (ca : Addr) (cc : Cell) (eo : Addr) (mo : Addr) (G_dc : Sta Z Z.heap "java/util/ArrayList" "DEFAULTCAPACITY_EMPTY_ELEMENTDATA" "[Ljava/lang/Object;" (.ref dc)) (G_dce : Exa Z Z.heap dc "[Ljava/lang/Object;") (G_dcv : Arv Z Z.heap dc kdc (.object "java/lang/Object") (0 : Int32) [] .null) (G_el : Sta Z Z.heap "java/util/ImmutableCollections" "EMPTY_LIST" "Ljava/util/ImmutableCollections$ListN;" (.ref el)) (G_ele : Exa Z Z.heap el "java/util/ImmutableCollections$ListN") (G_elf : Fld Z Z.heap el "java/util/ImmutableCollections$ListN" "elements" "[Ljava/lang/Object;" (.ref ee)) (G_eev : Arv Z Z.heap ee kee (.object "java/lang/Object") (0 : Int32) [] .null) (G_hi : Sta Z Z.heap "java/lang/Integer$IntegerCache" "high" "I" (.int (127 : Int32))) (G_ca : Sta Z Z.heap "java/lang/Integer$IntegerCache" "cache" "[Ljava/lang/Integer;" (.ref ca)) (G_bx : Bxs Z ca cc "java/lang/Integer" "I" 256 (fun j => .int (j - 128))) (G_eo : Sta Z Z.heap "java/util/ImmutableCollections" "EMPTY" "Ljava/lang/Object;" (.ref eo)) (G_eoe : Exa Z Z.heap eo "java/lang/Object") (G_mo : MirO Z "[Ljava/lang/Object;" mo) (x0 : Addr) (w1 : Addr) (kk2 : ClassId) (w3 : Addr) (w4 : Addr) (h0 : Heap) (O0 : Ext Z.heap h0) (r0 : Fld Z h0 x0 "java/util/ArrayList" "elementData" "[Ljava/lang/Object;" (.ref w1)) (r1 : Fld Z h0 x0 "java/util/ArrayList" "size" "I" (.int (2 : Int32))) (r2 : Exa Z h0 w1 "[Ljava/lang/Object;") (r3 : Arv Z h0 w1 kk2 (.object "java/lang/Object") (10 : Int32) [(.ref w3), (.ref w4), .null, .null, .null, .null, .null, .null, .null, .null] .null) (r4 : Exa Z h0 w4 "com/example/wary_lock/warylock/Lease") (r5 : Exa Z h0 w3 "com/example/wary_lock/warylock/Lease") :
    MetFree l (⟨"java/util/ArrayList", "toArray", "()[Ljava/lang/Object;"⟩ : MethodName) (head1 (Jvm.Cond.code (⟨"java/util/ArrayList", "toArray", "()[Ljava/lang/Object;"⟩ : MethodName) jdk_38_method_16_code 1 (some (.array (.object "java/lang/Object"))) :: ws) ({ frames := 3, cells := 1, slots := 2, locals := 46 } : Room)) (fun a U => a = #[(.ref x0)] ∧ Z.Warmed39 U.vm ∧ U.heap = h0) (fun _ _ _ _ _ => True) (fun _ U o U' => ∃ v L, o = .returned v ∧ Q_a19_1 Z dc kdc el ee kee ca cc eo mo x0 w1 kk2 w3 w4 h0 v U'.heap L ∧ FrameEnd U o U' L ({ frames := 3, cells := 1, slots := 2, locals := 46 } : Room).cells ({ frames := 3, cells := 1, slots := 2, locals := 46 } : Room).slots) := by
  refine MetFree.of_bodySF (plainFor_of_name pn_19) hisR ?_
  intro p e s m args below meth c s₁ Bd hml0 hP hK
  obtain ⟨rfl, hZ, hh⟩ := hP
  have hx := Bd.exec
  have hby := Bd.bytes
  have hlk := Bd.notSynchronized
  have hml : c.maxLocals = 1 := hml0
  have hown : s.vm.findClass "java/util/ArrayList" = some m.cls := findClass_of_methodNamed Bd.named
  have hnm := (name_of_methodNamed Bd.named Bd.method).1
  have X0 : Stand p l e ({ frames := 3, cells := 1, slots := 2, locals := 46 } : Room) s m #[(.ref x0)] below meth c s₁ [] 0 0 := Stand.of_body Bd
  have e0 : s₁.heap = h0 := by rw [← hh, Bd.state]; rfl
  have N0 := Fr.nil Z.heap.size
  show Go FrameEnd p e below s ({ frames := 3, cells := 1, slots := 2, locals := 46 } : Room).cells ({ frames := 3, cells := 1, slots := 2, locals := 46 } : Room).slots (Q_a19_1 Z dc kdc el ee kee ca cc eo mo x0 w1 kk2 w3 w4 h0) s₁ (entryFrame m #[(.ref x0)] 1)
  refine Go.cast (ef_a19_1 m x0) ?_
  show Go _ _ _ _ _ _ _ _ s₁ (mkF m 0 #[.val (.ref x0)] [])
  refine Go.step (fun _ kt_ => XS.aloadN X0.here hx rfl (hb hby d19_0) rfl rfl kt_) ?_
  show Go _ _ _ _ _ _ _ _ s₁ (mkF m 1 #[.val (.ref x0)] [(.ref x0)])
  obtain ⟨T1, X1, e1, st1⟩ := getF X0 hx hZ hown (host := "") (Or.inl (hw _ (List.mem_of_getElem? (i := 29) rfl))) Via.refl e0 r0 (g := (mkF m 1 #[.val (.ref x0)] [(.ref x0)])) rfl rfl (hb hby d19_1)
  refine Go.step st1 ?_
  show Go _ _ _ _ _ _ _ _ T1 (mkF m 4 #[.val (.ref x0)] [(.ref w1)])
  refine Go.step (fun _ kt_ => XS.aloadN X1.here hx rfl (hb hby d19_4) rfl rfl kt_) ?_
  show Go _ _ _ _ _ _ _ _ T1 (mkF m 5 #[.val (.ref x0)] [(.ref x0), (.ref w1)])
  obtain ⟨T2, X2, e2, st2⟩ := getF X1 hx hZ hown (host := "") (Or.inl (hw _ (List.mem_of_getElem? (i := 66) rfl))) Via.refl e1 r1 (g := (mkF m 5 #[.val (.ref x0)] [(.ref x0), (.ref w1)])) rfl rfl (hb hby d19_5)
  refine Go.step st2 ?_
  show Go _ _ _ _ _ _ _ _ T2 (mkF m 8 #[.val (.ref x0)] [(.int (2 : Int32)), (.ref w1)])
  obtain ⟨_, _, ⟨T3, L3, k3, n3⟩, -, X3, ⟨Lc3, hQ3, l3, y3, z3⟩, st3⟩ := Jvm.LawKit.callS X2 hx (y := (⟨"java/util/Arrays", "copyOf", "([Ljava/lang/Object;I)[Ljava/lang/Object;"⟩ : MethodName)) hown (mvT hZ (hw _ (List.mem_of_getElem? (i := 164) rfl))) (mvT hZ (hw _ (List.mem_of_getElem? (i := 165) rfl))) (mvT hZ (hw _ (List.mem_of_getElem? (i := 166) rfl))) (mvT hZ (hw _ (List.mem_of_getElem? (i := 167) rfl))) (by decide) (backOf (W := 0) (rm_a20_1 l Z a0 hw [] dc kdc el ee kee ca cc eo mo G_dc G_dce G_dcv G_el G_ele G_elf G_eev G_hi G_ca G_bx G_eo G_eoe G_mo w1 kk2 w3 w4 h0 O0 r2 r3 r4 r5) hZ (hw _ (List.mem_of_getElem? (i := 167) rfl)) (hw _ (List.mem_of_getElem? (i := 166) rfl)) (by decide) (by decide)) (g := (mkF m 8 #[.val (.ref x0)] [(.int (2 : Int32)), (.ref w1)])) rfl (by rw [hml]; rfl) (argsL := [(.ref w1), (.int (2 : Int32))]) (rest := []) (lenOf pd_LALjava_lang_Object_IRALjava_lang_Object_ rfl) rfl (by show 2 * 0 + _ ≤ _; exact Nat.le_of_eq rfl) (hb hby d19_8) (fun _ _ => ⟨rfl, e2, (by decide : 0 + 1 ≤ _), (by decide : 0 + 2 ≤ _)⟩)
  dsimp only [Pt.U, Pt.locs, Pt.cells, Pt.slots] at X3 l3 y3 z3 st3 hQ3
  subst l3 y3 z3
  obtain ⟨b2q2q3, k2q2q3, rfl, Nq3, Kq3, p3_0, p3_1, p3_2, p3_3⟩ := hQ3
  have O3_ : Ext Z.heap T3.heap := extKeep O0 Kq3 all0
  have K3 := Keep.trans (Keep.refl h0 []) Kq3 all0
  have N3_ := Fr.app N0 Nq3
  have g_b2q2q3 : Z.heap.size ≤ b2q2q3 := Nat.le_trans O0.1 p3_0
  have sz_b2q2q3 : h0.size ≤ b2q2q3 := Nat.le_trans (Keep.refl h0 []).1 p3_0
  refine Go.step st3 ?_
  show Go _ _ _ _ _ _ _ _ T3 (mkF m 11 #[.val (.ref x0)] [(.ref b2q2q3)])
  exact Go.retA X3 hx Bd.returns rfl rfl hlk (hb hby d19_11) (by decide) (by decide) ⟨b2q2q3, k2q2q3, rfl, N3_, K3, sz_b2q2q3, p3_1, p3_2, p3_3⟩
theorem d23_45 : decode jdk_40_method_47_code 45 = .ok (.new 96, 3) := by decide +kernel
theorem d23_48 : decode jdk_40_method_47_code 48 = .ok (.dup, 1) := by decide +kernel
theorem d23_49 : decode jdk_40_method_47_code 49 = .ok (.aload_n 0, 1) := by decide +kernel
theorem d23_50 : decode jdk_40_method_47_code 50 = .ok (.iconst 0, 1) := by decide +kernel
theorem d23_51 : decode jdk_40_method_47_code 51 = .ok (.aaload, 1) := by decide +kernel
theorem d23_52 : decode jdk_40_method_47_code 52 = .ok (.aload_n 0, 1) := by decide +kernel
theorem d23_53 : decode jdk_40_method_47_code 53 = .ok (.iconst 1, 1) := by decide +kernel
theorem d23_54 : decode jdk_40_method_47_code 54 = .ok (.aaload, 1) := by decide +kernel
theorem d23_55 : decode jdk_40_method_47_code 55 = .ok (.invokespecial 100, 3) := by decide +kernel
theorem d33_0 : decode jdk_44_method_2_code 0 = .ok (.aload_n 0, 1) := by decide +kernel
theorem d33_1 : decode jdk_44_method_2_code 1 = .ok (.invokespecial 1, 3) := by decide +kernel
theorem d33_4 : decode jdk_44_method_2_code 4 = .ok (.aload_n 0, 1) := by decide +kernel
theorem d33_5 : decode jdk_44_method_2_code 5 = .ok (.aload_n 1, 1) := by decide +kernel
theorem d33_6 : decode jdk_44_method_2_code 6 = .ok (.invokestatic 7, 3) := by decide +kernel
theorem d33_9 : decode jdk_44_method_2_code 9 = .ok (.putfield 13, 3) := by decide +kernel
theorem d33_12 : decode jdk_44_method_2_code 12 = .ok (.aload_n 0, 1) := by decide +kernel
theorem d33_13 : decode jdk_44_method_2_code 13 = .ok (.aload_n 2, 1) := by decide +kernel
theorem d33_14 : decode jdk_44_method_2_code 14 = .ok (.invokestatic 7, 3) := by decide +kernel
theorem d33_17 : decode jdk_44_method_2_code 17 = .ok (.putfield 24, 3) := by decide +kernel
theorem d33_20 : decode jdk_44_method_2_code 20 = .ok (.return_, 1) := by decide +kernel
theorem pn_33 : plainName "java/util/ImmutableCollections$List12" = true := by first | (simp [plainName, overriddenIn]; done) | decide +kernel
theorem ef_a33_0 (m : MethodId) (y0 : Addr) (y1 : Addr) (y2 : Addr) : entryFrame m #[(.ref y0), (.ref y1), (.ref y2)] 3 = mkF m 0 #[.val (.ref y0), .val (.ref y1), .val (.ref y2)] [] := by first | (simp [entryFrame, mkF, argsToLocals, Value.category]; done) | rfl
def Q_a33_0 (Z : State) (dc : Addr) (kdc : ClassId) (el : Addr) (ee : Addr) (kee : ClassId) (ca : Addr) (cc : Cell) (eo : Addr) (mo : Addr) (x0 : Addr) (x1 : Addr) (x2 : Addr) (h0 : Heap) (v : Option Value) (h : Heap) (L : List Loc) : Prop := v = none ∧ Fr Z.heap.size L ∧ Keep h0 h [x0] ∧ Fld Z h x0 "java/util/ImmutableCollections$List12" "e0" "Ljava/lang/Object;" (.ref x1) ∧ Fld Z h x0 "java/util/ImmutableCollections$List12" "e1" "Ljava/lang/Object;" (.ref x2)
set_option maxRecDepth 65536 in
set_option maxHeartbeats 40000000 in
theorem rm_a33_0 (l : Launch) (Z : State) (a0 : Array Value) (hw : ∀ d ∈ tables_1, d.before a0 Z = true) (ws : List Jvm.Cond) (dc : Addr) (kdc : ClassId) (el : Addr) (ee : Addr) (kee : ClassId) (ca : Addr) (cc : Cell) (eo : Addr) (mo : Addr) (G_dc : Sta Z Z.heap "java/util/ArrayList" "DEFAULTCAPACITY_EMPTY_ELEMENTDATA" "[Ljava/lang/Object;" (.ref dc)) (G_dce : Exa Z Z.heap dc "[Ljava/lang/Object;") (G_dcv : Arv Z Z.heap dc kdc (.object "java/lang/Object") (0 : Int32) [] .null) (G_el : Sta Z Z.heap "java/util/ImmutableCollections" "EMPTY_LIST" "Ljava/util/ImmutableCollections$ListN;" (.ref el)) (G_ele : Exa Z Z.heap el "java/util/ImmutableCollections$ListN") (G_elf : Fld Z Z.heap el "java/util/ImmutableCollections$ListN" "elements" "[Ljava/lang/Object;" (.ref ee)) (G_eev : Arv Z Z.heap ee kee (.object "java/lang/Object") (0 : Int32) [] .null) (G_hi : Sta Z Z.heap "java/lang/Integer$IntegerCache" "high" "I" (.int (127 : Int32))) (G_ca : Sta Z Z.heap "java/lang/Integer$IntegerCache" "cache" "[Ljava/lang/Integer;" (.ref ca)) (G_bx : Bxs Z ca cc "java/lang/Integer" "I" 256 (fun j => .int (j - 128))) (G_eo : Sta Z Z.heap "java/util/ImmutableCollections" "EMPTY" "Ljava/lang/Object;" (.ref eo)) (G_eoe : Exa Z Z.heap eo "java/lang/Object") (G_mo : MirO Z "[Ljava/lang/Object;" mo) (x0 : Addr) (x1 : Addr) (x2 : Addr) (h0 : Heap) (O0 : Ext Z.heap h0) (r0 : Exa Z h0 x0 "java/util/ImmutableCollections$List12") (r1 : Fld Z h0 x0 "java/util/ImmutableCollections$List12" "e0" "Ljava/lang/Object;" .null) (r2 : Z.heap.size ≤ x0) (r3 : Fld Z h0 x0 "java/util/ImmutableCollections$List12" "e1" "Ljava/lang/Object;" .null) :
    MetFree l (⟨"java/util/ImmutableCollections$List12", "<init>", "(Ljava/lang/Object;Ljava/lang/Object;)V"⟩ : MethodName) (head1 (Jvm.Cond.code (⟨"java/util/ImmutableCollections$List12", "<init>", "(Ljava/lang/Object;Ljava/lang/Object;)V"⟩ : MethodName) jdk_44_method_2_code 3 none :: ws) ({ frames := 4, cells := 0, slots := 0, locals := 48 } : Room)) (fun a U => a = #[(.ref x0), (.ref x1), (.ref x2)] ∧ Z.Warmed39 U.vm ∧ U.heap = h0) (fun _ _ _ _ _ => True) (fun _ U o U' => ∃ v L, o = .returned v ∧ Q_a33_0 Z dc kdc el ee kee ca cc eo mo x0 x1 x2 h0 v U'.heap L ∧ FrameEnd U o U' L ({ frames := 4, cells := 0, slots := 0, locals := 48 } : Room).cells ({ frames := 4, cells := 0, slots := 0, locals := 48 } : Room).slots) := by
  refine MetFree.of_bodySF (plainFor_of_name pn_33) hisR ?_
  intro p e s m args below meth c s₁ Bd hml0 hP hK
  obtain ⟨rfl, hZ, hh⟩ := hP
  have hx := Bd.exec
  have hby := Bd.bytes
  have hlk := Bd.notSynchronized
  have hml : c.maxLocals = 3 := hml0
  have hown : s.vm.findClass "java/util/ImmutableCollections$List12" = some m.cls := findClass_of_methodNamed Bd.named
  have hnm := (name_of_methodNamed Bd.named Bd.method).1
  have X0 : Stand p l e ({ frames := 4, cells := 0, slots := 0, locals := 48 } : Room) s m #[(.ref x0), (.ref x1), (.ref x2)] below meth c s₁ [] 0 0 := Stand.of_body Bd
  have e0 : s₁.heap = h0 := by rw [← hh, Bd.state]; rfl
  have N0 := Fr.nil Z.heap.size
  show Go FrameEnd p e below s ({ frames := 4, cells := 0, slots := 0, locals := 48 } : Room).cells ({ frames := 4, cells := 0, slots := 0, locals := 48 } : Room).slots (Q_a33_0 Z dc kdc el ee kee ca cc eo mo x0 x1 x2 h0) s₁ (entryFrame m #[(.ref x0), (.ref x1), (.ref x2)] 3)
  refine Go.cast (ef_a33_0 m x0 x1 x2) ?_
  show Go _ _ _ _ _ _ _ _ s₁ (mkF m 0 #[.val (.ref x0), .val (.ref x1), .val (.ref x2)] [])
  refine Go.step (fun _ kt_ => XS.aloadN X0.here hx rfl (hb hby d33_0) rfl rfl kt_) ?_
  show Go _ _ _ _ _ _ _ _ s₁ (mkF m 1 #[.val (.ref x0), .val (.ref x1), .val (.ref x2)] [(.ref x0)])
  obtain ⟨_, _, ⟨T1, L1, k1, n1⟩, -, X1, ⟨Lc1, hQ1, l1, y1, z1⟩, st1⟩ := X0.specialBack hx (y := (⟨"java/util/ImmutableCollections$AbstractImmutableList", "<init>", "()V"⟩ : MethodName)) rfl hown (mvT hZ (hw _ (List.mem_of_getElem? (i := 254) rfl))) (mvT hZ (hw _ (List.mem_of_getElem? (i := 203) rfl))) (mvT hZ (hw _ (List.mem_of_getElem? (i := 207) rfl))) (by decide) (backOf (W := 0) (rm_a27_0 l Z a0 hw [] dc kdc el ee kee ca cc eo mo G_dc G_dce G_dcv G_el G_ele G_elf G_eev G_hi G_ca G_bx G_eo G_eoe G_mo x0 h0 O0 ) hZ (hw _ (List.mem_of_getElem? (i := 207) rfl)) (hw _ (List.mem_of_getElem? (i := 206) rfl)) (by decide) (by decide)) (g := (mkF m 1 #[.val (.ref x0), .val (.ref x1), .val (.ref x2)] [(.ref x0)])) rfl (by rw [hml]; rfl) (Steps.refl _) (a := x0) (argsL := []) (rest := []) (lenOf pd_LRV rfl) rfl (by show 2 * 0 + _ ≤ _; exact Nat.le_of_eq rfl) (hb hby d33_1) (fun _ _ => ⟨rfl, e0, (by decide : 0 + 0 ≤ _), (by decide : 0 + 0 ≤ _)⟩)
  dsimp only [Pt.U, Pt.locs, Pt.cells, Pt.slots] at X1 l1 y1 z1 st1 hQ1
  subst l1 y1 z1
  obtain ⟨rfl, Nq1, e1⟩ := hQ1
  have N1_ := Fr.app N0 Nq1
  refine Go.trans st1 ?_
  show Go _ _ _ _ _ _ _ _ T1 (mkF m 4 #[.val (.ref x0), .val (.ref x1), .val (.ref x2)] [])
  refine Go.step (fun _ kt_ => XS.aloadN X1.here hx rfl (hb hby d33_4) rfl rfl kt_) ?_
  show Go _ _ _ _ _ _ _ _ T1 (mkF m 5 #[.val (.ref x0), .val (.ref x1), .val (.ref x2)] [(.ref x0)])
  refine Go.step (fun _ kt_ => XS.aloadN X1.here hx rfl (hb hby d33_5) rfl rfl kt_) ?_
  show Go _ _ _ _ _ _ _ _ T1 (mkF m 6 #[.val (.ref x0), .val (.ref x1), .val (.ref x2)] [(.ref x1), (.ref x0)])
  obtain ⟨_, _, ⟨T2, L2, k2, n2⟩, -, X2, ⟨Lc2, hQ2, l2, y2, z2⟩, st2⟩ := Jvm.LawKit.callS X1 hx (y := (⟨"java/util/Objects", "requireNonNull", "(Ljava/lang/Object;)Ljava/lang/Object;"⟩ : MethodName)) hown (mvT hZ (hw _ (List.mem_of_getElem? (i := 258) rfl))) (mvT hZ (hw _ (List.mem_of_getElem? (i := 194) rfl))) (mvT hZ (hw _ (List.mem_of_getElem? (i := 195) rfl))) (mvT hZ (hw _ (List.mem_of_getElem? (i := 196) rfl))) (by decide) (backOf (W := 1) (rm_a25_0 l Z a0 hw [] dc kdc el ee kee ca cc eo mo G_dc G_dce G_dcv G_el G_ele G_elf G_eev G_hi G_ca G_bx G_eo G_eoe G_mo x1 h0 O0 ) hZ (hw _ (List.mem_of_getElem? (i := 196) rfl)) (hw _ (List.mem_of_getElem? (i := 195) rfl)) (by decide) (by decide)) (g := (mkF m 6 #[.val (.ref x0), .val (.ref x1), .val (.ref x2)] [(.ref x1), (.ref x0)])) rfl (by rw [hml]; rfl) (argsL := [(.ref x1)]) (rest := [(.ref x0)]) (lenOf pd_LLjava_lang_Object_RLjava_lang_Object_ rfl) rfl (by show 2 * 0 + _ ≤ _; exact Nat.le_of_eq rfl) (hb hby d33_6) (fun _ _ => ⟨rfl, e1, (by decide : 0 + 0 ≤ _), (by decide : 0 + 0 ≤ _)⟩)
  dsimp only [Pt.U, Pt.locs, Pt.cells, Pt.slots] at X2 l2 y2 z2 st2 hQ2
  subst l2 y2 z2
  obtain ⟨rfl, Nq2, e2⟩ := hQ2
  have N2_ := Fr.app N1_ Nq2
  refine Go.step st2 ?_
  show Go _ _ _ _ _ _ _ _ T2 (mkF m 9 #[.val (.ref x0), .val (.ref x1), .val (.ref x2)] [(.ref x1), (.ref x0)])
  obtain ⟨T3, h3, X3, e3, W3, st3⟩ := putF X2 hx hZ hown (host := "") (Or.inl (hw _ (List.mem_of_getElem? (i := 259) rfl))) Via.refl e2 r1 r0 (Or.inr ⟨(hw _ (List.mem_of_getElem? (i := 260) rfl)), rfl, hnm⟩) (hw _ (List.mem_of_getElem? (i := 248) rfl)) (ty := (.object "java/lang/Object")) pf_Ljava_lang_Object_ rfl rfl (g := (mkF m 9 #[.val (.ref x0), .val (.ref x1), .val (.ref x2)] [(.ref x1), (.ref x0)])) rfl rfl (hb hby d33_9)
  refine Go.step st3 ?_
  have N3_ := Fr.snoc X3 N2_ r2
  have O3_ : Ext Z.heap h3 := extWr O0 W3 r2
  have K3 := Keep.wr (Keep.refl h0 [x0]) W3 (Or.inl (List.mem_of_getElem? (i := 0) rfl))
  have F3 := Fld.same W3 r1
  show Go _ _ _ _ _ _ _ _ T3 (mkF m 12 #[.val (.ref x0), .val (.ref x1), .val (.ref x2)] [])
  refine Go.step (fun _ kt_ => XS.aloadN X3.here hx rfl (hb hby d33_12) rfl rfl kt_) ?_
  show Go _ _ _ _ _ _ _ _ T3 (mkF m 13 #[.val (.ref x0), .val (.ref x1), .val (.ref x2)] [(.ref x0)])
  refine Go.step (fun _ kt_ => XS.aloadN X3.here hx rfl (hb hby d33_13) rfl rfl kt_) ?_
  show Go _ _ _ _ _ _ _ _ T3 (mkF m 14 #[.val (.ref x0), .val (.ref x1), .val (.ref x2)] [(.ref x2), (.ref x0)])
  obtain ⟨_, _, ⟨T4, L4, k4, n4⟩, -, X4, ⟨Lc4, hQ4, l4, y4, z4⟩, st4⟩ := Jvm.LawKit.callS X3 hx (y := (⟨"java/util/Objects", "requireNonNull", "(Ljava/lang/Object;)Ljava/lang/Object;"⟩ : MethodName)) hown (mvT hZ (hw _ (List.mem_of_getElem? (i := 258) rfl))) (mvT hZ (hw _ (List.mem_of_getElem? (i := 194) rfl))) (mvT hZ (hw _ (List.mem_of_getElem? (i := 195) rfl))) (mvT hZ (hw _ (List.mem_of_getElem? (i := 196) rfl))) (by decide) (backOf (W := 1) (rm_a25_0 l Z a0 hw [] dc kdc el ee kee ca cc eo mo G_dc G_dce G_dcv G_el G_ele G_elf G_eev G_hi G_ca G_bx G_eo G_eoe G_mo x2 h3 O3_ ) hZ (hw _ (List.mem_of_getElem? (i := 196) rfl)) (hw _ (List.mem_of_getElem? (i := 195) rfl)) (by decide) (by decide)) (g := (mkF m 14 #[.val (.ref x0), .val (.ref x1), .val (.ref x2)] [(.ref x2), (.ref x0)])) rfl (by rw [hml]; rfl) (argsL := [(.ref x2)]) (rest := [(.ref x0)]) (lenOf pd_LLjava_lang_Object_RLjava_lang_Object_ rfl) rfl (by show 2 * 0 + _ ≤ _; exact Nat.le_of_eq rfl) (hb hby d33_14) (fun _ _ => ⟨rfl, e3, (by decide : 0 + 0 ≤ _), (by decide : 0 + 0 ≤ _)⟩)
  dsimp only [Pt.U, Pt.locs, Pt.cells, Pt.slots] at X4 l4 y4 z4 st4 hQ4
  subst l4 y4 z4
  obtain ⟨rfl, Nq4, e4⟩ := hQ4
  have N4_ := Fr.app N3_ Nq4
  refine Go.step st4 ?_
  show Go _ _ _ _ _ _ _ _ T4 (mkF m 17 #[.val (.ref x0), .val (.ref x1), .val (.ref x2)] [(.ref x2), (.ref x0)])
  obtain ⟨T5, h5, X5, e5, W5, st5⟩ := putF X4 hx hZ hown (host := "") (Or.inl (hw _ (List.mem_of_getElem? (i := 261) rfl))) Via.refl e4 (Fld.other W3 r3 (Or.inr (sn_32 hw))) (Exa.wr W3 r0) (Or.inr ⟨(hw _ (List.mem_of_getElem? (i := 262) rfl)), rfl, hnm⟩) (hw _ (List.mem_of_getElem? (i := 248) rfl)) (ty := (.object "java/lang/Object")) pf_Ljava_lang_Object_ rfl rfl (g := (mkF m 17 #[.val (.ref x0), .val (.ref x1), .val (.ref x2)] [(.ref x2), (.ref x0)])) rfl rfl (hb hby d33_17)
  refine Go.step st5 ?_
  have N5_ := Fr.snoc X5 N4_ r2
  have O5_ : Ext Z.heap h5 := extWr O3_ W5 r2
  have K5 := Keep.wr K3 W5 (Or.inl (List.mem_of_getElem? (i := 0) rfl))
  have F5 := Fld.same W5 (Fld.other W3 r3 (Or.inr (sn_32 hw)))
  show Go _ _ _ _ _ _ _ _ T5 (mkF m 20 #[.val (.ref x0), .val (.ref x1), .val (.ref x2)] [])
  exact Go.retV X5 hx Bd.returns hlk (hb hby d33_20) (by decide) (by decide) (by show Q_a33_0 _ _ _ _ _ _ _ _ _ _ _ _ _ _ _ _ _; rw [e5]; exact ⟨rfl, N5_, K5, (Fld.other W5 F3 (Or.inr (Ne.symm (sn_32 hw)))), F5⟩)
theorem pd_LLjava_lang_Object_Ljava_lang_Object_RV : parseMethodDescriptor "(Ljava/lang/Object;Ljava/lang/Object;)V" = some ⟨[(.object "java/lang/Object"), (.object "java/lang/Object")], none⟩ := by decide +kernel
theorem d23_58 : decode jdk_40_method_47_code 58 = .ok (.areturn, 1) := by decide +kernel
theorem ef_a23_1 (m : MethodId) (y0 : Addr) : entryFrame m #[(.ref y0)] 2 = mkF m 0 #[.val (.ref y0), .unset] [] := by first | (simp [entryFrame, mkF, argsToLocals, Value.category]; done) | rfl
def Q_a23_1 (Z : State) (dc : Addr) (kdc : ClassId) (el : Addr) (ee : Addr) (kee : ClassId) (ca : Addr) (cc : Cell) (eo : Addr) (mo : Addr) (x0 : Addr) (kk1 : ClassId) (w2 : Addr) (w3 : Addr) (h0 : Heap) (v : Option Value) (h : Heap) (L : List Loc) : Prop := ∃ (b2 : Addr), v = some (.ref b2) ∧ Fr Z.heap.size L ∧ Keep h0 h [] ∧ h0.size ≤ b2 ∧ Exa Z h b2 "java/util/ImmutableCollections$List12" ∧ Fld Z h b2 "java/util/ImmutableCollections$List12" "e0" "Ljava/lang/Object;" (.ref w2) ∧ Fld Z h b2 "java/util/ImmutableCollections$List12" "e1" "Ljava/lang/Object;" (.ref w3)
set_option maxRecDepth 65536 in
set_option maxHeartbeats 40000000 in
theorem rm_a23_1 (l : Launch) (Z : State) (a0 : Array Value) (hw : ∀ d ∈ tables_1, d.before a0 Z = true) (ws : List Jvm.Cond) (dc : Addr) (kdc : ClassId) (el : Addr) (ee : Addr) (kee : ClassId) (ca : Addr) (cc : Cell) (eo : Addr) (mo : Addr) (G_dc : Sta Z Z.heap "java/util/ArrayList" "DEFAULTCAPACITY_EMPTY_ELEMENTDATA" "[Ljava/lang/Object;" (.ref dc)) (G_dce : Exa Z Z.heap dc "[Ljava/lang/Object;") (G_dcv : Arv Z Z.heap dc kdc (.object "java/lang/Object") (0 : Int32) [] .null) (G_el : Sta Z Z.heap "java/util/ImmutableCollections" "EMPTY_LIST" "Ljava/util/ImmutableCollections$ListN;" (.ref el)) (G_ele : Exa Z Z.heap el "java/util/ImmutableCollections$ListN") (G_elf : Fld Z Z.heap el "java/util/ImmutableCollections$ListN" "elements" "[Ljava/lang/Object;" (.ref ee)) (G_eev : Arv Z Z.heap ee kee (.object "java/lang/Object") (0 : Int32) [] .null) (G_hi : Sta Z Z.heap "java/lang/Integer$IntegerCache" "high" "I" (.int (127 : Int32))) (G_ca : Sta Z Z.heap "java/lang/Integer$IntegerCache" "cache" "[Ljava/lang/Integer;" (.ref ca)) (G_bx : Bxs Z ca cc "java/lang/Integer" "I" 256 (fun j => .int (j - 128))) (G_eo : Sta Z Z.heap "java/util/ImmutableCollections" "EMPTY" "Ljava/lang/Object;" (.ref eo)) (G_eoe : Exa Z Z.heap eo "java/lang/Object") (G_mo : MirO Z "[Ljava/lang/Object;" mo) (x0 : Addr) (kk1 : ClassId) (w2 : Addr) (w3 : Addr) (h0 : Heap) (O0 : Ext Z.heap h0) (r0 : Arv Z h0 x0 kk1 (.object "java/lang/Object") (2 : Int32) [(.ref w2), (.ref w3)] .null) :
    MetFree l (⟨"java/util/List", "of", "([Ljava/lang/Object;)Ljava/util/List;"⟩ : MethodName) (head1 (Jvm.Cond.code (⟨"java/util/List", "of", "([Ljava/lang/Object;)Ljava/util/List;"⟩ : MethodName) jdk_40_method_47_code 2 (some (.object "java/util/List")) :: ws) ({ frames := 5, cells := 1, slots := 2, locals := 63 } : Room)) (fun a U => a = #[(.ref x0)] ∧ Z.Warmed39 U.vm ∧ U.heap = h0) (fun _ _ _ _ _ => True) (fun _ U o U' => ∃ v L, o = .returned v ∧ Q_a23_1 Z dc kdc el ee kee ca cc eo mo x0 kk1 w2 w3 h0 v U'.heap L ∧ FrameEnd U o U' L ({ frames := 5, cells := 1, slots := 2, locals := 63 } : Room).cells ({ frames := 5, cells := 1, slots := 2, locals := 63 } : Room).slots) := by
  refine MetFree.of_bodySF (plainFor_of_name pn_23) hisR ?_
  intro p e s m args below meth c s₁ Bd hml0 hP hK
  obtain ⟨rfl, hZ, hh⟩ := hP
  have hx := Bd.exec
  have hby := Bd.bytes
  have hlk := Bd.notSynchronized
  have hml : c.maxLocals = 2 := hml0
  have hown : s.vm.findClass "java/util/List" = some m.cls := findClass_of_methodNamed Bd.named
  have hnm := (name_of_methodNamed Bd.named Bd.method).1
  have X0 : Stand p l e ({ frames := 5, cells := 1, slots := 2, locals := 63 } : Room) s m #[(.ref x0)] below meth c s₁ [] 0 0 := Stand.of_body Bd
  have e0 : s₁.heap = h0 := by rw [← hh, Bd.state]; rfl
  have N0 := Fr.nil Z.heap.size
  show Go FrameEnd p e below s ({ frames := 5, cells := 1, slots := 2, locals := 63 } : Room).cells ({ frames := 5, cells := 1, slots := 2, locals := 63 } : Room).slots (Q_a23_1 Z dc kdc el ee kee ca cc eo mo x0 kk1 w2 w3 h0) s₁ (entryFrame m #[(.ref x0)] 2)
  refine Go.cast (ef_a23_1 m x0) ?_
  show Go _ _ _ _ _ _ _ _ s₁ (mkF m 0 #[.val (.ref x0), .unset] [])
  refine Go.step (fun _ kt_ => XS.aloadN X0.here hx rfl (hb hby d23_0) rfl rfl kt_) ?_
  show Go _ _ _ _ _ _ _ _ s₁ (mkF m 1 #[.val (.ref x0), .unset] [(.ref x0)])
  obtain ⟨cl1, Ar1, -, S1, N1, -, -⟩ := id r0
  refine Go.step (X0.arraylength hx (by rw [e0]; exact Ar1.1) (State.isArrayOf_alike hZ.alike Ar1.2.1) (g := (mkF m 1 #[.val (.ref x0), .unset] [(.ref x0)])) rfl rfl (hb hby d23_1)) ?_
  rw [len_of S1 N1]
  show Go _ _ _ _ _ _ _ _ s₁ (mkF m 2 #[.val (.ref x0), .unset] [(.int (2 : Int32))])
  refine Go.step (fun _ kt_ => XS.tswIn X0.here hx rfl (pc0 := 2) (pc' := 45) (o := 43) rfl (hb hby d23_2) rfl (by decide) rfl (by decide) (by decide) kt_) ?_
  show Go _ _ _ _ _ _ _ _ s₁ (mkF m 45 #[.val (.ref x0), .unset] [])
  obtain ⟨T2, h2, X2, e2, E2, A2, D2, U2, st2⟩ := newO X0 hx hZ hown (hw _ (List.mem_of_getElem? (i := 247) rfl)) (hw _ (List.mem_of_getElem? (i := 248) rfl)) (hw _ (List.mem_of_getElem? (i := 249) rfl)) e0 (g := (mkF m 45 #[.val (.ref x0), .unset] [])) rfl (hb hby d23_45) (by decide) (by decide)
  obtain ⟨b2, hb2⟩ : ∃ z, z = h0.size := ⟨_, rfl⟩
  rw [← hb2] at A2 D2 U2 st2
  refine Go.step st2 ?_
  have g_b2 : Z.heap.size ≤ b2 := Nat.le_trans O0.1 (Nat.le_of_eq hb2.symm)
  have O2_ : Ext Z.heap h2 := extTr O0 E2
  have sz_b2 : h0.size ≤ b2 := Nat.le_trans (Keep.refl h0 []).1 (Nat.le_of_eq hb2.symm)
  have K2 := Keep.ext (Keep.refl h0 []) E2
  have F2_e0 : Fld Z h2 b2 "java/util/ImmutableCollections$List12" "e0" "Ljava/lang/Object;" .null := D2 (Or.inr (hw _ (List.mem_of_getElem? (i := 260) rfl))) (ty := (.object "java/lang/Object")) pf_Ljava_lang_Object_
  have F2_e1 : Fld Z h2 b2 "java/util/ImmutableCollections$List12" "e1" "Ljava/lang/Object;" .null := D2 (Or.inr (hw _ (List.mem_of_getElem? (i := 262) rfl))) (ty := (.object "java/lang/Object")) pf_Ljava_lang_Object_
  show Go _ _ _ _ _ _ _ _ T2 (mkF m 48 #[.val (.ref x0), .unset] [(.ref b2)])
  refine Go.step (fun _ kt_ => XS.dup X2.here hx rfl (hb hby d23_48) rfl rfl kt_) ?_
  show Go _ _ _ _ _ _ _ _ T2 (mkF m 49 #[.val (.ref x0), .unset] [(.ref b2), (.ref b2)])
  refine Go.step (fun _ kt_ => XS.aloadN X2.here hx rfl (hb hby d23_49) rfl rfl kt_) ?_
  show Go _ _ _ _ _ _ _ _ T2 (mkF m 50 #[.val (.ref x0), .unset] [(.ref x0), (.ref b2), (.ref b2)])
  refine Go.step (fun _ kt_ => XS.iconst X2.here hx rfl (hb hby d23_50)  kt_) ?_
  show Go _ _ _ _ _ _ _ _ T2 (mkF m 51 #[.val (.ref x0), .unset] [(.int (0 : Int32)), (.ref x0), (.ref b2), (.ref b2)])
  obtain ⟨cl3, Ar3, q3, S3, N3, H3, G3⟩ := id (r0.ext E2)
  have hin3 : ¬ ((0 : Int32) < 0 ∨ cl3.slots.size ≤ ((0 : Int32)).toNatClampNeg) := inb_of S3 ⟨by decide, by decide⟩
  refine Go.step (X2.aaload hx (j := (0 : Int32)) (v := (.ref w2)) (by rw [e2]; exact Ar3.1) (State.isArrayOf_alike hZ.alike Ar3.2.1) rfl Ar3.2.2 hin3 (Has.at H3 hin3 rfl) (g := (mkF m 51 #[.val (.ref x0), .unset] [(.int (0 : Int32)), (.ref x0), (.ref b2), (.ref b2)])) rfl rfl (hb hby d23_51)) ?_
  show Go _ _ _ _ _ _ _ _ T2 (mkF m 52 #[.val (.ref x0), .unset] [(.ref w2), (.ref b2), (.ref b2)])
  refine Go.step (fun _ kt_ => XS.aloadN X2.here hx rfl (hb hby d23_52) rfl rfl kt_) ?_
  show Go _ _ _ _ _ _ _ _ T2 (mkF m 53 #[.val (.ref x0), .unset] [(.ref x0), (.ref w2), (.ref b2), (.ref b2)])
  refine Go.step (fun _ kt_ => XS.iconst X2.here hx rfl (hb hby d23_53)  kt_) ?_
  show Go _ _ _ _ _ _ _ _ T2 (mkF m 54 #[.val (.ref x0), .unset] [(.int (1 : Int32)), (.ref x0), (.ref w2), (.ref b2), (.ref b2)])
  obtain ⟨cl4, Ar4, q4, S4, N4, H4, G4⟩ := id (r0.ext E2)
  have hin4 : ¬ ((1 : Int32) < 0 ∨ cl4.slots.size ≤ ((1 : Int32)).toNatClampNeg) := inb_of S4 ⟨by decide, by decide⟩
  refine Go.step (X2.aaload hx (j := (1 : Int32)) (v := (.ref w3)) (by rw [e2]; exact Ar4.1) (State.isArrayOf_alike hZ.alike Ar4.2.1) rfl Ar4.2.2 hin4 (Has.at H4 hin4 rfl) (g := (mkF m 54 #[.val (.ref x0), .unset] [(.int (1 : Int32)), (.ref x0), (.ref w2), (.ref b2), (.ref b2)])) rfl rfl (hb hby d23_54)) ?_
  show Go _ _ _ _ _ _ _ _ T2 (mkF m 55 #[.val (.ref x0), .unset] [(.ref w3), (.ref w2), (.ref b2), (.ref b2)])
  obtain ⟨_, _, ⟨T5, L5, k5, n5⟩, -, X5, ⟨Lc5, hQ5, l5, y5, z5⟩, st5⟩ := X2.specialBack hx (y := (⟨"java/util/ImmutableCollections$List12", "<init>", "(Ljava/lang/Object;Ljava/lang/Object;)V"⟩ : MethodName)) rfl hown (mvT hZ (hw _ (List.mem_of_getElem? (i := 250) rfl))) (mvT hZ (hw _ (List.mem_of_getElem? (i := 251) rfl))) (mvT hZ (hw _ (List.mem_of_getElem? (i := 253) rfl))) (by decide) (backOf (W := 1) (rm_a33_0 l Z a0 hw [] dc kdc el ee kee ca cc eo mo G_dc G_dce G_dcv G_el G_ele G_elf G_eev G_hi G_ca G_bx G_eo G_eoe G_mo b2 w2 w3 h2 O2_ A2 F2_e0 g_b2 F2_e1) hZ (hw _ (List.mem_of_getElem? (i := 253) rfl)) (hw _ (List.mem_of_getElem? (i := 249) rfl)) (by decide) (by decide)) (g := (mkF m 55 #[.val (.ref x0), .unset] [(.ref w3), (.ref w2), (.ref b2), (.ref b2)])) rfl (by rw [hml]; rfl) (Steps.refl _) (a := b2) (argsL := [(.ref w2), (.ref w3)]) (rest := [(.ref b2)]) (lenOf pd_LLjava_lang_Object_Ljava_lang_Object_RV rfl) rfl (by show 2 * 0 + _ ≤ _; exact Nat.le_of_eq rfl) (hb hby d23_55) (fun _ _ => ⟨rfl, e2, (by decide : 1 + 0 ≤ _), (by decide : 2 + 0 ≤ _)⟩)
  dsimp only [Pt.U, Pt.locs, Pt.cells, Pt.slots] at X5 l5 y5 z5 st5 hQ5
  subst l5 y5 z5
  obtain ⟨rfl, Nq5, Kq5, p5_0, p5_1⟩ := hQ5
  have O5_ : Ext Z.heap T5.heap := extKeep O2_ Kq5 (allS g_b2 all0)
  have K5 := Keep.trans K2 Kq5 (allS (Or.inr sz_b2) all0)
  have N5_ := Fr.app N0 Nq5
  refine Go.trans st5 ?_
  show Go _ _ _ _ _ _ _ _ T5 (mkF m 58 #[.val (.ref x0), .unset] [(.ref b2)])
  exact Go.retA X5 hx Bd.returns rfl rfl hlk (hb hby d23_58) (by decide) (by decide) ⟨b2, rfl, N5_, K5, sz_b2, (A2.keep Kq5), p5_0, p5_1⟩
theorem ef_a8_2 (m : MethodId) (y0 : Addr) : entryFrame m #[(.ref y0)] 2 = mkF m 0 #[.val (.ref y0), .unset] [] := by first | (simp [entryFrame, mkF, argsToLocals, Value.category]; done) | rfl
def Q_a8_2 (Z : State) (dc : Addr) (kdc : ClassId) (el : Addr) (ee : Addr) (kee : ClassId) (ca : Addr) (cc : Cell) (eo : Addr) (mo : Addr) (x0 : Addr) (w1 : Addr) (kk2 : ClassId) (w3 : Addr) (w4 : Addr) (h0 : Heap) (v : Option Value) (h : Heap) (L : List Loc) : Prop := ∃ (b2q5 : Addr), v = some (.ref b2q5) ∧ Fr Z.heap.size L ∧ Keep h0 h [] ∧ h0.size ≤ b2q5 ∧ Exa Z h b2q5 "java/util/ImmutableCollections$List12" ∧ Fld Z h b2q5 "java/util/ImmutableCollections$List12" "e0" "Ljava/lang/Object;" (.ref w3) ∧ Fld Z h b2q5 "java/util/ImmutableCollections$List12" "e1" "Ljava/lang/Object;" (.ref w4)
set_option maxRecDepth 65536 in
set_option maxHeartbeats 40000000 in
theorem rm_a8_2 (l : Launch) (Z : State) (a0 : Array Value) (hw : ∀ d ∈ tables_1, d.before a0 Z = true) (ws : List Jvm.Cond) (dc : Addr) (kdc : ClassId) (el : Addr) (ee : Addr) (kee : ClassId) (ca : Addr) (cc : Cell) (eo : Addr) (mo : Addr) (G_dc : Sta Z Z.heap "java/util/ArrayList" "DEFAULTCAPACITY_EMPTY_ELEMENTDATA" "[Ljava/lang/Object;" (.ref dc)) (G_dce : Exa Z Z.heap dc "[Ljava/lang/Object;") (G_dcv : Arv Z Z.heap dc kdc (.object "java/lang/Object") (0 : Int32) [] .null) (G_el : Sta Z Z.heap "java/util/ImmutableCollections" "EMPTY_LIST" "Ljava/util/ImmutableCollections$ListN;" (.ref el)) (G_ele : Exa Z Z.heap el "java/util/ImmutableCollections$ListN") (G_elf : Fld Z Z.heap el "java/util/ImmutableCollections$ListN" "elements" "[Ljava/lang/Object;" (.ref ee)) (G_eev : Arv Z Z.heap ee kee (.object "java/lang/Object") (0 : Int32) [] .null) (G_hi : Sta Z Z.heap "java/lang/Integer$IntegerCache" "high" "I" (.int (127 : Int32))) (G_ca : Sta Z Z.heap "java/lang/Integer$IntegerCache" "cache" "[Ljava/lang/Integer;" (.ref ca)) (G_bx : Bxs Z ca cc "java/lang/Integer" "I" 256 (fun j => .int (j - 128))) (G_eo : Sta Z Z.heap "java/util/ImmutableCollections" "EMPTY" "Ljava/lang/Object;" (.ref eo)) (G_eoe : Exa Z Z.heap eo "java/lang/Object") (G_mo : MirO Z "[Ljava/lang/Object;" mo) (x0 : Addr) (w1 : Addr) (kk2 : ClassId) (w3 : Addr) (w4 : Addr) (h0 : Heap) (O0 : Ext Z.heap h0) (r0 : Exa Z h0 x0 "java/util/ArrayList") (r1 : Fld Z h0 x0 "java/util/ArrayList" "size" "I" (.int (2 : Int32))) (r2 : Fld Z h0 x0 "java/util/ArrayList" "elementData" "[Ljava/lang/Object;" (.ref w1)) (r3 : Exa Z h0 w1 "[Ljava/lang/Object;") (r4 : Arv Z h0 w1 kk2 (.object "java/lang/Object") (10 : Int32) [(.ref w3), (.ref w4), .null, .null, .null, .null, .null, .null, .null, .null] .null) (r5 : Exa Z h0 w4 "com/example/wary_lock/warylock/Lease") (r6 : Exa Z h0 w3 "com/example/wary_lock/warylock/Lease") :
    MetFree l (⟨"java/util/ImmutableCollections", "listCopy", "(Ljava/util/Collection;)Ljava/util/List;"⟩ : MethodName) (head1 (Jvm.Cond.code (⟨"java/util/ImmutableCollections", "listCopy", "(Ljava/util/Collection;)Ljava/util/List;"⟩ : MethodName) jdk_56_method_3_code 2 (some (.object "java/util/List")) :: ws) ({ frames := 6, cells := 2, slots := 4, locals := 76 } : Room)) (fun a U => a = #[(.ref x0)] ∧ Z.Warmed39 U.vm ∧ U.heap = h0) (fun _ _ _ _ _ => True) (fun _ U o U' => ∃ v L, o = .returned v ∧ Q_a8_2 Z dc kdc el ee kee ca cc eo mo x0 w1 kk2 w3 w4 h0 v U'.heap L ∧ FrameEnd U o U' L ({ frames := 6, cells := 2, slots := 4, locals := 76 } : Room).cells ({ frames := 6, cells := 2, slots := 4, locals := 76 } : Room).slots) := by
  refine MetFree.of_bodySF (plainFor_of_name pn_8) hisR ?_
  intro p e s m args below meth c s₁ Bd hml0 hP hK
  obtain ⟨rfl, hZ, hh⟩ := hP
  have hx := Bd.exec
  have hby := Bd.bytes
  have hlk := Bd.notSynchronized
  have hml : c.maxLocals = 2 := hml0
  have hown : s.vm.findClass "java/util/ImmutableCollections" = some m.cls := findClass_of_methodNamed Bd.named
  have hnm := (name_of_methodNamed Bd.named Bd.method).1
  have X0 : Stand p l e ({ frames := 6, cells := 2, slots := 4, locals := 76 } : Room) s m #[(.ref x0)] below meth c s₁ [] 0 0 := Stand.of_body Bd
  have e0 : s₁.heap = h0 := by rw [← hh, Bd.state]; rfl
  have N0 := Fr.nil Z.heap.size
  show Go FrameEnd p e below s ({ frames := 6, cells := 2, slots := 4, locals := 76 } : Room).cells ({ frames := 6, cells := 2, slots := 4, locals := 76 } : Room).slots (Q_a8_2 Z dc kdc el ee kee ca cc eo mo x0 w1 kk2 w3 w4 h0) s₁ (entryFrame m #[(.ref x0)] 2)
  refine Go.cast (ef_a8_2 m x0) ?_
  show Go _ _ _ _ _ _ _ _ s₁ (mkF m 0 #[.val (.ref x0), .unset] [])
  refine Go.step (fun _ kt_ => XS.aloadN X0.here hx rfl (hb hby d8_0) rfl rfl kt_) ?_
  show Go _ _ _ _ _ _ _ _ s₁ (mkF m 1 #[.val (.ref x0), .unset] [(.ref x0)])
  obtain ⟨T1, X1, e1, st1⟩ := instNo X0 hx hZ hown (hw _ (List.mem_of_getElem? (i := 51) rfl)) e0 r0 (own_nsNo (hw _ (List.mem_of_getElem? (i := 52) rfl)) (hw _ (List.mem_of_getElem? (i := 248) rfl)) (NS.step (hw _ (List.mem_of_getElem? (i := 52) rfl)) (NS.step (hw _ (List.mem_of_getElem? (i := 53) rfl)) (NS.step (hw _ (List.mem_of_getElem? (i := 54) rfl)) (own_nsRoot (hw _ (List.mem_of_getElem? (i := 55) rfl)) (hw _ (List.mem_of_getElem? (i := 248) rfl)) (by decide)) (by decide)) (by decide)) (by decide)) (by decide)) (g := (mkF m 1 #[.val (.ref x0), .unset] [(.ref x0)])) rfl rfl (hb hby d8_1)
  refine Go.step st1 ?_
  show Go _ _ _ _ _ _ _ _ T1 (mkF m 4 #[.val (.ref x0), .unset] [(.int (0 : Int32))])
  refine Go.step (fun _ kt_ => XS.ifNo X1.here hx rfl (hb hby d8_4) rfl ((if0 _ _).trans (teq (by decide : (0 : Int32) = (0 : Int32))).2) kt_) ?_
  show Go _ _ _ _ _ _ _ _ T1 (mkF m 7 #[.val (.ref x0), .unset] [])
  refine Go.step (fun _ kt_ => XS.aloadN X1.here hx rfl (hb hby d8_7) rfl rfl kt_) ?_
  show Go _ _ _ _ _ _ _ _ T1 (mkF m 8 #[.val (.ref x0), .unset] [(.ref x0)])
  obtain ⟨T2, X2, e2, st2⟩ := instNo X1 hx hZ hown (hw _ (List.mem_of_getElem? (i := 56) rfl)) e1 r0 (own_nsNo (hw _ (List.mem_of_getElem? (i := 52) rfl)) (hw _ (List.mem_of_getElem? (i := 197) rfl)) (NS.step (hw _ (List.mem_of_getElem? (i := 52) rfl)) (NS.step (hw _ (List.mem_of_getElem? (i := 53) rfl)) (NS.step (hw _ (List.mem_of_getElem? (i := 54) rfl)) (own_nsRoot (hw _ (List.mem_of_getElem? (i := 55) rfl)) (hw _ (List.mem_of_getElem? (i := 197) rfl)) (by decide)) (by decide)) (by decide)) (by decide)) (by decide)) (g := (mkF m 8 #[.val (.ref x0), .unset] [(.ref x0)])) rfl rfl (hb hby d8_8)
  refine Go.step st2 ?_
  show Go _ _ _ _ _ _ _ _ T2 (mkF m 11 #[.val (.ref x0), .unset] [(.int (0 : Int32))])
  refine Go.step (fun _ kt_ => XS.ifYes X2.here hx rfl (pc0 := 11) (pc' := 31) rfl (hb hby d8_11) rfl ((if0 _ _).trans (teq (by decide : (0 : Int32) = (0 : Int32))).1) (by decide) (by decide) kt_) ?_
  show Go _ _ _ _ _ _ _ _ T2 (mkF m 31 #[.val (.ref x0), .unset] [])
  refine Go.step (fun _ kt_ => XS.aloadN X2.here hx rfl (hb hby d8_31) rfl rfl kt_) ?_
  show Go _ _ _ _ _ _ _ _ T2 (mkF m 32 #[.val (.ref x0), .unset] [(.ref x0)])
  obtain ⟨cq3, kq3, q3a, q3b, q3c⟩ := isOf hZ e2 r0
  obtain ⟨_, _, ⟨T3, L3, k3, n3⟩, -, X3, ⟨Lc3, hQ3, l3, y3, z3⟩, st3⟩ := X2.interfaceBack hx (xi := (⟨"java/util/Collection", "isEmpty", "()Z"⟩ : MethodName)) (y := (⟨"java/util/ArrayList", "isEmpty", "()Z"⟩ : MethodName)) hown (mvT hZ (hw _ (List.mem_of_getElem? (i := 57) rfl))) (mvT hZ (hw _ (List.mem_of_getElem? (i := 58) rfl))) (mvT hZ (hw _ (List.mem_of_getElem? (i := 59) rfl))) (mvT hZ (hw _ (List.mem_of_getElem? (i := 60) rfl))) (mvT hZ (hw _ (List.mem_of_getElem? (i := 61) rfl))) (mvT hZ (hw _ (List.mem_of_getElem? (i := 62) rfl))) (mvT hZ (hw _ (List.mem_of_getElem? (i := 63) rfl))) (mvT hZ (hw _ (List.mem_of_getElem? (i := 64) rfl))) (by decide) (backOf (W := 0) (rm_a9_1 l Z a0 hw [] dc kdc el ee kee ca cc eo mo G_dc G_dce G_dcv G_el G_ele G_elf G_eev G_hi G_ca G_bx G_eo G_eoe G_mo x0 (2 : Int32) h0 O0 r1 (by decide)) hZ (hw _ (List.mem_of_getElem? (i := 65) rfl)) (hw _ (List.mem_of_getElem? (i := 7) rfl)) (by decide) (by decide)) q3a q3b q3c (g := (mkF m 32 #[.val (.ref x0), .unset] [(.ref x0)])) rfl (by rw [hml]; rfl) (Steps.refl _) (argsL := []) (rest := []) (lenOf pd_LRZ rfl) rfl (by show 2 * 0 + _ ≤ _; exact Nat.le_of_eq rfl) (hb hby d8_32) (fun _ _ => ⟨rfl, e2, (by decide : 0 + 0 ≤ _), (by decide : 0 + 0 ≤ _)⟩)
  dsimp only [Pt.U, Pt.locs, Pt.cells, Pt.slots] at X3 l3 y3 z3 st3 hQ3
  subst l3 y3 z3
  obtain ⟨rfl, Nq3, e3⟩ := hQ3
  have N3_ := Fr.app N0 Nq3
  refine Go.trans st3 ?_
  show Go _ _ _ _ _ _ _ _ T3 (mkF m 37 #[.val (.ref x0), .unset] [(.int (0 : Int32))])
  refine Go.step (fun _ kt_ => XS.ifYes X3.here hx rfl (pc0 := 37) (pc' := 44) rfl (hb hby d8_37) rfl ((if0 _ _).trans (teq (by decide : (0 : Int32) = (0 : Int32))).1) (by decide) (by decide) kt_) ?_
  show Go _ _ _ _ _ _ _ _ T3 (mkF m 44 #[.val (.ref x0), .unset] [])
  refine Go.step (fun _ kt_ => XS.aloadN X3.here hx rfl (hb hby d8_44) rfl rfl kt_) ?_
  show Go _ _ _ _ _ _ _ _ T3 (mkF m 45 #[.val (.ref x0), .unset] [(.ref x0)])
  obtain ⟨cq4, kq4, q4a, q4b, q4c⟩ := isOf hZ e3 r0
  obtain ⟨_, _, ⟨T4, L4, k4, n4⟩, -, X4, ⟨Lc4, hQ4, l4, y4, z4⟩, st4⟩ := X3.interfaceBack hx (xi := (⟨"java/util/Collection", "toArray", "()[Ljava/lang/Object;"⟩ : MethodName)) (y := (⟨"java/util/ArrayList", "toArray", "()[Ljava/lang/Object;"⟩ : MethodName)) hown (mvT hZ (hw _ (List.mem_of_getElem? (i := 156) rfl))) (mvT hZ (hw _ (List.mem_of_getElem? (i := 157) rfl))) (mvT hZ (hw _ (List.mem_of_getElem? (i := 158) rfl))) (mvT hZ (hw _ (List.mem_of_getElem? (i := 159) rfl))) (mvT hZ (hw _ (List.mem_of_getElem? (i := 160) rfl))) (mvT hZ (hw _ (List.mem_of_getElem? (i := 161) rfl))) (mvT hZ (hw _ (List.mem_of_getElem? (i := 162) rfl))) (mvT hZ (hw _ (List.mem_of_getElem? (i := 64) rfl))) (by decide) (backOf (W := 0) (rm_a19_1 l Z a0 hw [] dc kdc el ee kee ca cc eo mo G_dc G_dce G_dcv G_el G_ele G_elf G_eev G_hi G_ca G_bx G_eo G_eoe G_mo x0 w1 kk2 w3 w4 h0 O0 r2 r1 r3 r4 r5 r6) hZ (hw _ (List.mem_of_getElem? (i := 163) rfl)) (hw _ (List.mem_of_getElem? (i := 7) rfl)) (by decide) (by decide)) q4a q4b q4c (g := (mkF m 45 #[.val (.ref x0), .unset] [(.ref x0)])) rfl (by rw [hml]; rfl) (Steps.refl _) (argsL := []) (rest := []) (lenOf pd_LRALjava_lang_Object_ rfl) rfl (by show 2 * 0 + _ ≤ _; exact Nat.le_of_eq rfl) (hb hby d8_45) (fun _ _ => ⟨rfl, e3, (by decide : 0 + 1 ≤ _), (by decide : 0 + 2 ≤ _)⟩)
  dsimp only [Pt.U, Pt.locs, Pt.cells, Pt.slots] at X4 l4 y4 z4 st4 hQ4
  subst l4 y4 z4
  obtain ⟨b2q2q3q4, k2q2q3q4, rfl, Nq4, Kq4, p4_0, p4_1, p4_2, p4_3⟩ := hQ4
  have O4_ : Ext Z.heap T4.heap := extKeep O0 Kq4 all0
  have K4 := Keep.trans (Keep.refl h0 []) Kq4 all0
  have N4_ := Fr.app N3_ Nq4
  have g_b2q2q3q4 : Z.heap.size ≤ b2q2q3q4 := Nat.le_trans O0.1 p4_0
  have sz_b2q2q3q4 : h0.size ≤ b2q2q3q4 := Nat.le_trans (Keep.refl h0 []).1 p4_0
  refine Go.trans st4 ?_
  show Go _ _ _ _ _ _ _ _ T4 (mkF m 50 #[.val (.ref x0), .unset] [(.ref b2q2q3q4)])
  obtain ⟨_, _, ⟨T5, L5, k5, n5⟩, -, X5, ⟨Lc5, hQ5, l5, y5, z5⟩, st5⟩ := Jvm.LawKit.callS X4 hx (y := (⟨"java/util/List", "of", "([Ljava/lang/Object;)Ljava/util/List;"⟩ : MethodName)) hown (mvT hZ (hw _ (List.mem_of_getElem? (i := 186) rfl))) (mvT hZ (hw _ (List.mem_of_getElem? (i := 187) rfl))) (mvT hZ (hw _ (List.mem_of_getElem? (i := 45) rfl))) (mvT hZ (hw _ (List.mem_of_getElem? (i := 188) rfl))) (by decide) (backOf (W := 0) (rm_a23_1 l Z a0 hw [] dc kdc el ee kee ca cc eo mo G_dc G_dce G_dcv G_el G_ele G_elf G_eev G_hi G_ca G_bx G_eo G_eoe G_mo b2q2q3q4 k2q2q3q4 w3 w4 T4.heap O4_ p4_2) hZ (hw _ (List.mem_of_getElem? (i := 188) rfl)) (hw _ (List.mem_of_getElem? (i := 45) rfl)) (by decide) (by decide)) (g := (mkF m 50 #[.val (.ref x0), .unset] [(.ref b2q2q3q4)])) rfl (by rw [hml]; rfl) (argsL := [(.ref b2q2q3q4)]) (rest := []) (lenOf pd_LALjava_lang_Object_RLjava_util_List_ rfl) rfl (by show 2 * 0 + _ ≤ _; exact Nat.le_of_eq rfl) (hb hby d8_50) (fun _ _ => ⟨rfl, rfl, (by decide : 1 + 1 ≤ _), (by decide : 2 + 2 ≤ _)⟩)
  dsimp only [Pt.U, Pt.locs, Pt.cells, Pt.slots] at X5 l5 y5 z5 st5 hQ5
  subst l5 y5 z5
  obtain ⟨b2q5, rfl, Nq5, Kq5, p5_0, p5_1, p5_2, p5_3⟩ := hQ5
  have O5_ : Ext Z.heap T5.heap := extKeep O4_ Kq5 all0
  have K5 := Keep.trans K4 Kq5 all0
  have N5_ := Fr.app N4_ Nq5
  have g_b2q5 : Z.heap.size ≤ b2q5 := Nat.le_trans O4_.1 p5_0
  have sz_b2q5 : h0.size ≤ b2q5 := Nat.le_trans K4.1 p5_0
  refine Go.step st5 ?_
  show Go _ _ _ _ _ _ _ _ T5 (mkF m 53 #[.val (.ref x0), .unset] [(.ref b2q5)])
  exact Go.retA X5 hx Bd.returns rfl rfl hlk (hb hby d8_53) (by decide) (by decide) ⟨b2q5, rfl, N5_, K5, sz_b2q5, p5_1, p5_2, p5_3⟩
theorem ef_a7_2 (m : MethodId) (y0 : Addr) : entryFrame m #[(.ref y0)] 1 = mkF m 0 #[.val (.ref y0)] [] := by first | (simp [entryFrame, mkF, argsToLocals, Value.category]; done) | rfl
def Q_a7_2 (Z : State) (dc : Addr) (kdc : ClassId) (el : Addr) (ee : Addr) (kee : ClassId) (ca : Addr) (cc : Cell) (eo : Addr) (mo : Addr) (x0 : Addr) (w1 : Addr) (kk2 : ClassId) (w3 : Addr) (w4 : Addr) (h0 : Heap) (v : Option Value) (h : Heap) (L : List Loc) : Prop := ∃ (b2q5q1 : Addr), v = some (.ref b2q5q1) ∧ Fr Z.heap.size L ∧ Keep h0 h [] ∧ h0.size ≤ b2q5q1 ∧ Exa Z h b2q5q1 "java/util/ImmutableCollections$List12" ∧ Fld Z h b2q5q1 "java/util/ImmutableCollections$List12" "e0" "Ljava/lang/Object;" (.ref w3) ∧ Fld Z h b2q5q1 "java/util/ImmutableCollections$List12" "e1" "Ljava/lang/Object;" (.ref w4)
set_option maxRecDepth 65536 in
set_option maxHeartbeats 40000000 in
theorem rm_a7_2 (l : Launch) (Z : State) (a0 : Array Value) (hw : ∀ d ∈ tables_1, d.before a0 Z = true) (ws : List Jvm.Cond) (dc : Addr) (kdc : ClassId) (el : Addr) (ee : Addr) (kee : ClassId) (ca : Addr) (cc : Cell) (eo : Addr) (mo : Addr) (G_dc : Sta Z Z.heap "java/util/ArrayList" "DEFAULTCAPACITY_EMPTY_ELEMENTDATA" "[Ljava/lang/Object;" (.ref dc)) (G_dce : Exa Z Z.heap dc "[Ljava/lang/Object;") (G_dcv : Arv Z Z.heap dc kdc (.object "java/lang/Object") (0 : Int32) [] .null) (G_el : Sta Z Z.heap "java/util/ImmutableCollections" "EMPTY_LIST" "Ljava/util/ImmutableCollections$ListN;" (.ref el)) (G_ele : Exa Z Z.heap el "java/util/ImmutableCollections$ListN") (G_elf : Fld Z Z.heap el "java/util/ImmutableCollections$ListN" "elements" "[Ljava/lang/Object;" (.ref ee)) (G_eev : Arv Z Z.heap ee kee (.object "java/lang/Object") (0 : Int32) [] .null) (G_hi : Sta Z Z.heap "java/lang/Integer$IntegerCache" "high" "I" (.int (127 : Int32))) (G_ca : Sta Z Z.heap "java/lang/Integer$IntegerCache" "cache" "[Ljava/lang/Integer;" (.ref ca)) (G_bx : Bxs Z ca cc "java/lang/Integer" "I" 256 (fun j => .int (j - 128))) (G_eo : Sta Z Z.heap "java/util/ImmutableCollections" "EMPTY" "Ljava/lang/Object;" (.ref eo)) (G_eoe : Exa Z Z.heap eo "java/lang/Object") (G_mo : MirO Z "[Ljava/lang/Object;" mo) (x0 : Addr) (w1 : Addr) (kk2 : ClassId) (w3 : Addr) (w4 : Addr) (h0 : Heap) (O0 : Ext Z.heap h0) (r0 : Exa Z h0 x0 "java/util/ArrayList") (r1 : Fld Z h0 x0 "java/util/ArrayList" "size" "I" (.int (2 : Int32))) (r2 : Fld Z h0 x0 "java/util/ArrayList" "elementData" "[Ljava/lang/Object;" (.ref w1)) (r3 : Exa Z h0 w1 "[Ljava/lang/Object;") (r4 : Arv Z h0 w1 kk2 (.object "java/lang/Object") (10 : Int32) [(.ref w3), (.ref w4), .null, .null, .null, .null, .null, .null, .null, .null] .null) (r5 : Exa Z h0 w4 "com/example/wary_lock/warylock/Lease") (r6 : Exa Z h0 w3 "com/example/wary_lock/warylock/Lease") :
    MetFree l (⟨"java/util/List", "copyOf", "(Ljava/util/Collection;)Ljava/util/List;"⟩ : MethodName) (head1 (Jvm.Cond.code (⟨"java/util/List", "copyOf", "(Ljava/util/Collection;)Ljava/util/List;"⟩ : MethodName) jdk_40_method_48_code 1 (some (.object "java/util/List")) :: ws) ({ frames := 7, cells := 2, slots := 4, locals := 89 } : Room)) (fun a U => a = #[(.ref x0)] ∧ Z.Warmed39 U.vm ∧ U.heap = h0) (fun _ _ _ _ _ => True) (fun _ U o U' => ∃ v L, o = .returned v ∧ Q_a7_2 Z dc kdc el ee kee ca cc eo mo x0 w1 kk2 w3 w4 h0 v U'.heap L ∧ FrameEnd U o U' L ({ frames := 7, cells := 2, slots := 4, locals := 89 } : Room).cells ({ frames := 7, cells := 2, slots := 4, locals := 89 } : Room).slots) := by
  refine MetFree.of_bodySF (plainFor_of_name pn_7) hisR ?_
  intro p e s m args below meth c s₁ Bd hml0 hP hK
  obtain ⟨rfl, hZ, hh⟩ := hP
  have hx := Bd.exec
  have hby := Bd.bytes
  have hlk := Bd.notSynchronized
  have hml : c.maxLocals = 1 := hml0
  have hown : s.vm.findClass "java/util/List" = some m.cls := findClass_of_methodNamed Bd.named
  have hnm := (name_of_methodNamed Bd.named Bd.method).1
  have X0 : Stand p l e ({ frames := 7, cells := 2, slots := 4, locals := 89 } : Room) s m #[(.ref x0)] below meth c s₁ [] 0 0 := Stand.of_body Bd
  have e0 : s₁.heap = h0 := by rw [← hh, Bd.state]; rfl
  have N0 := Fr.nil Z.heap.size
  show Go FrameEnd p e below s ({ frames := 7, cells := 2, slots := 4, locals := 89 } : Room).cells ({ frames := 7, cells := 2, slots := 4, locals := 89 } : Room).slots (Q_a7_2 Z dc kdc el ee kee ca cc eo mo x0 w1 kk2 w3 w4 h0) s₁ (entryFrame m #[(.ref x0)] 1)
  refine Go.cast (ef_a7_2 m x0) ?_
  show Go _ _ _ _ _ _ _ _ s₁ (mkF m 0 #[.val (.ref x0)] [])
  refine Go.step (fun _ kt_ => XS.aloadN X0.here hx rfl (hb hby d7_0) rfl rfl kt_) ?_
  show Go _ _ _ _ _ _ _ _ s₁ (mkF m 1 #[.val (.ref x0)] [(.ref x0)])
  obtain ⟨_, _, ⟨T1, L1, k1, n1⟩, -, X1, ⟨Lc1, hQ1, l1, y1, z1⟩, st1⟩ := Jvm.LawKit.callS X0 hx (y := (⟨"java/util/ImmutableCollections", "listCopy", "(Ljava/util/Collection;)Ljava/util/List;"⟩ : MethodName)) hown (mvT hZ (hw _ (List.mem_of_getElem? (i := 47) rfl))) (mvT hZ (hw _ (List.mem_of_getElem? (i := 48) rfl))) (mvT hZ (hw _ (List.mem_of_getElem? (i := 49) rfl))) (mvT hZ (hw _ (List.mem_of_getElem? (i := 50) rfl))) (by decide) (backOf (W := 0) (rm_a8_2 l Z a0 hw [] dc kdc el ee kee ca cc eo mo G_dc G_dce G_dcv G_el G_ele G_elf G_eev G_hi G_ca G_bx G_eo G_eoe G_mo x0 w1 kk2 w3 w4 h0 O0 r0 r1 r2 r3 r4 r5 r6) hZ (hw _ (List.mem_of_getElem? (i := 50) rfl)) (hw _ (List.mem_of_getElem? (i := 49) rfl)) (by decide) (by decide)) (g := (mkF m 1 #[.val (.ref x0)] [(.ref x0)])) rfl (by rw [hml]; rfl) (argsL := [(.ref x0)]) (rest := []) (lenOf pd_LLjava_util_Collection_RLjava_util_List_ rfl) rfl (by show 2 * 0 + _ ≤ _; exact Nat.le_of_eq rfl) (hb hby d7_1) (fun _ _ => ⟨rfl, e0, (by decide : 0 + 2 ≤ _), (by decide : 0 + 4 ≤ _)⟩)
  dsimp only [Pt.U, Pt.locs, Pt.cells, Pt.slots] at X1 l1 y1 z1 st1 hQ1
  subst l1 y1 z1
  obtain ⟨b2q5q1, rfl, Nq1, Kq1, p1_0, p1_1, p1_2, p1_3⟩ := hQ1
  have O1_ : Ext Z.heap T1.heap := extKeep O0 Kq1 all0
  have K1 := Keep.trans (Keep.refl h0 []) Kq1 all0
  have N1_ := Fr.app N0 Nq1
  have g_b2q5q1 : Z.heap.size ≤ b2q5q1 := Nat.le_trans O0.1 p1_0
  have sz_b2q5q1 : h0.size ≤ b2q5q1 := Nat.le_trans (Keep.refl h0 []).1 p1_0
  refine Go.step st1 ?_
  show Go _ _ _ _ _ _ _ _ T1 (mkF m 4 #[.val (.ref x0)] [(.ref b2q5q1)])
  exact Go.retA X1 hx Bd.returns rfl rfl hlk (hb hby d7_4) (by decide) (by decide) ⟨b2q5q1, rfl, N1_, K1, sz_b2q5q1, p1_1, p1_2, p1_3⟩
theorem ef_a5_2 (m : MethodId) (y0 : Addr) (y1 : Addr) (y2 : Int32) : entryFrame m #[(.ref y0), (.ref y1), (.int y2)] 3 = mkF m 0 #[.val (.ref y0), .val (.ref y1), .val (.int y2)] [] := by first | (simp [entryFrame, mkF, argsToLocals, Value.category]; done) | rfl
def Q_a5_2 (Z : State) (dc : Addr) (kdc : ClassId) (el : Addr) (ee : Addr) (kee : ClassId) (ca : Addr) (cc : Cell) (eo : Addr) (mo : Addr) (x0 : Addr) (x1 : Addr) (x2 : Int32) (w1 : Addr) (kk2 : ClassId) (w3 : Addr) (w4 : Addr) (h0 : Heap) (v : Option Value) (h : Heap) (L : List Loc) : Prop := ∃ (b2q5q1q2 : Addr), v = none ∧ Fr Z.heap.size L ∧ Keep h0 h [x0] ∧ Fld Z h x0 "com/example/wary_lock/warylock/LockState" "holders" "Ljava/util/List;" (.ref b2q5q1q2) ∧ Fld Z h x0 "com/example/wary_lock/warylock/LockState" "waiting" "I" (.int x2) ∧ h0.size ≤ b2q5q1q2 ∧ Exa Z h b2q5q1q2 "java/util/ImmutableCollections$List12" ∧ Fld Z h b2q5q1q2 "java/util/ImmutableCollections$List12" "e0" "Ljava/lang/Object;" (.ref w3) ∧ Fld Z h b2q5q1q2 "java/util/ImmutableCollections$List12" "e1" "Ljava/lang/Object;" (.ref w4)
set_option maxRecDepth 65536 in
set_option maxHeartbeats 40000000 in
theorem rm_a5_2 (l : Launch) (Z : State) (a0 : Array Value) (hw : ∀ d ∈ tables_1, d.before a0 Z = true) (ws : List Jvm.Cond) (dc : Addr) (kdc : ClassId) (el : Addr) (ee : Addr) (kee : ClassId) (ca : Addr) (cc : Cell) (eo : Addr) (mo : Addr) (G_dc : Sta Z Z.heap "java/util/ArrayList" "DEFAULTCAPACITY_EMPTY_ELEMENTDATA" "[Ljava/lang/Object;" (.ref dc)) (G_dce : Exa Z Z.heap dc "[Ljava/lang/Object;") (G_dcv : Arv Z Z.heap dc kdc (.object "java/lang/Object") (0 : Int32) [] .null) (G_el : Sta Z Z.heap "java/util/ImmutableCollections" "EMPTY_LIST" "Ljava/util/ImmutableCollections$ListN;" (.ref el)) (G_ele : Exa Z Z.heap el "java/util/ImmutableCollections$ListN") (G_elf : Fld Z Z.heap el "java/util/ImmutableCollections$ListN" "elements" "[Ljava/lang/Object;" (.ref ee)) (G_eev : Arv Z Z.heap ee kee (.object "java/lang/Object") (0 : Int32) [] .null) (G_hi : Sta Z Z.heap "java/lang/Integer$IntegerCache" "high" "I" (.int (127 : Int32))) (G_ca : Sta Z Z.heap "java/lang/Integer$IntegerCache" "cache" "[Ljava/lang/Integer;" (.ref ca)) (G_bx : Bxs Z ca cc "java/lang/Integer" "I" 256 (fun j => .int (j - 128))) (G_eo : Sta Z Z.heap "java/util/ImmutableCollections" "EMPTY" "Ljava/lang/Object;" (.ref eo)) (G_eoe : Exa Z Z.heap eo "java/lang/Object") (G_mo : MirO Z "[Ljava/lang/Object;" mo) (x0 : Addr) (x1 : Addr) (x2 : Int32) (w1 : Addr) (kk2 : ClassId) (w3 : Addr) (w4 : Addr) (h0 : Heap) (O0 : Ext Z.heap h0) (r0 : Exa Z h0 x1 "java/util/ArrayList") (r1 : Fld Z h0 x1 "java/util/ArrayList" "size" "I" (.int (2 : Int32))) (r2 : Fld Z h0 x1 "java/util/ArrayList" "elementData" "[Ljava/lang/Object;" (.ref w1)) (r3 : Exa Z h0 w1 "[Ljava/lang/Object;") (r4 : Arv Z h0 w1 kk2 (.object "java/lang/Object") (10 : Int32) [(.ref w3), (.ref w4), .null, .null, .null, .null, .null, .null, .null, .null] .null) (r5 : Exa Z h0 w4 "com/example/wary_lock/warylock/Lease") (r6 : Exa Z h0 w3 "com/example/wary_lock/warylock/Lease") (r7 : Exa Z h0 x0 "com/example/wary_lock/warylock/LockState") (r8 : Fld Z h0 x0 "com/example/wary_lock/warylock/LockState" "holders" "Ljava/util/List;" .null) (r9 : Z.heap.size ≤ x0) (r10 : Fld Z h0 x0 "com/example/wary_lock/warylock/LockState" "waiting" "I" (.int (0 : Int32))) :
    MetFree l (⟨"com/example/wary_lock/warylock/LockState", "<init>", "(Ljava/util/List;I)V"⟩ : MethodName) (head1 (Jvm.Cond.code (⟨"com/example/wary_lock/warylock/LockState", "<init>", "(Ljava/util/List;I)V"⟩ : MethodName) prog_11_method_1_code 3 none :: ws) ({ frames := 8, cells := 2, slots := 4, locals := 101 } : Room)) (fun a U => a = #[(.ref x0), (.ref x1), (.int x2)] ∧ Z.Warmed39 U.vm ∧ U.heap = h0) (fun _ _ _ _ _ => True) (fun _ U o U' => ∃ v L, o = .returned v ∧ Q_a5_2 Z dc kdc el ee kee ca cc eo mo x0 x1 x2 w1 kk2 w3 w4 h0 v U'.heap L ∧ FrameEnd U o U' L ({ frames := 8, cells := 2, slots := 4, locals := 101 } : Room).cells ({ frames := 8, cells := 2, slots := 4, locals := 101 } : Room).slots) := by
  refine MetFree.of_bodySF (plainFor_of_name pn_5) hisR ?_
  intro p e s m args below meth c s₁ Bd hml0 hP hK
  obtain ⟨rfl, hZ, hh⟩ := hP
  have hx := Bd.exec
  have hby := Bd.bytes
  have hlk := Bd.notSynchronized
  have hml : c.maxLocals = 3 := hml0
  have hown : s.vm.findClass "com/example/wary_lock/warylock/LockState" = some m.cls := findClass_of_methodNamed Bd.named
  have hnm := (name_of_methodNamed Bd.named Bd.method).1
  have X0 : Stand p l e ({ frames := 8, cells := 2, slots := 4, locals := 101 } : Room) s m #[(.ref x0), (.ref x1), (.int x2)] below meth c s₁ [] 0 0 := Stand.of_body Bd
  have e0 : s₁.heap = h0 := by rw [← hh, Bd.state]; rfl
  have N0 := Fr.nil Z.heap.size
  show Go FrameEnd p e below s ({ frames := 8, cells := 2, slots := 4, locals := 101 } : Room).cells ({ frames := 8, cells := 2, slots := 4, locals := 101 } : Room).slots (Q_a5_2 Z dc kdc el ee kee ca cc eo mo x0 x1 x2 w1 kk2 w3 w4 h0) s₁ (entryFrame m #[(.ref x0), (.ref x1), (.int x2)] 3)
  refine Go.cast (ef_a5_2 m x0 x1 x2) ?_
  show Go _ _ _ _ _ _ _ _ s₁ (mkF m 0 #[.val (.ref x0), .val (.ref x1), .val (.int x2)] [])
  refine Go.step (fun _ kt_ => XS.aloadN X0.here hx rfl (hb hby d5_0) rfl rfl kt_) ?_
  show Go _ _ _ _ _ _ _ _ s₁ (mkF m 1 #[.val (.ref x0), .val (.ref x1), .val (.int x2)] [(.ref x0)])
  obtain ⟨_, _, ⟨T1, L1, k1, n1⟩, -, X1, ⟨Lc1, hQ1, l1, y1, z1⟩, st1⟩ := X0.specialBack hx (y := (⟨"java/lang/Record", "<init>", "()V"⟩ : MethodName)) rfl hown (mvT hZ (hw _ (List.mem_of_getElem? (i := 37) rfl))) (mvT hZ (hw _ (List.mem_of_getElem? (i := 38) rfl))) (mvT hZ (hw _ (List.mem_of_getElem? (i := 41) rfl))) (by decide) (backOf (W := 0) (rm_a6_0 l Z a0 hw [] dc kdc el ee kee ca cc eo mo G_dc G_dce G_dcv G_el G_ele G_elf G_eev G_hi G_ca G_bx G_eo G_eoe G_mo x0 h0 O0 ) hZ (hw _ (List.mem_of_getElem? (i := 41) rfl)) (hw _ (List.mem_of_getElem? (i := 40) rfl)) (by decide) (by decide)) (g := (mkF m 1 #[.val (.ref x0), .val (.ref x1), .val (.int x2)] [(.ref x0)])) rfl (by rw [hml]; rfl) (Steps.refl _) (a := x0) (argsL := []) (rest := []) (lenOf pd_LRV rfl) rfl (by show 2 * 0 + _ ≤ _; exact Nat.le_of_eq rfl) (hb hby d5_1) (fun _ _ => ⟨rfl, e0, (by decide : 0 + 0 ≤ _), (by decide : 0 + 0 ≤ _)⟩)
  dsimp only [Pt.U, Pt.locs, Pt.cells, Pt.slots] at X1 l1 y1 z1 st1 hQ1
  subst l1 y1 z1
  obtain ⟨rfl, Nq1, e1⟩ := hQ1
  have N1_ := Fr.app N0 Nq1
  refine Go.trans st1 ?_
  show Go _ _ _ _ _ _ _ _ T1 (mkF m 4 #[.val (.ref x0), .val (.ref x1), .val (.int x2)] [])
  refine Go.step (fun _ kt_ => XS.aloadN X1.here hx rfl (hb hby d5_4) rfl rfl kt_) ?_
  show Go _ _ _ _ _ _ _ _ T1 (mkF m 5 #[.val (.ref x0), .val (.ref x1), .val (.int x2)] [(.ref x1)])
  obtain ⟨_, _, ⟨T2, L2, k2, n2⟩, -, X2, ⟨Lc2, hQ2, l2, y2, z2⟩, st2⟩ := Jvm.LawKit.callS X1 hx (y := (⟨"java/util/List", "copyOf", "(Ljava/util/Collection;)Ljava/util/List;"⟩ : MethodName)) hown (mvT hZ (hw _ (List.mem_of_getElem? (i := 43) rfl))) (mvT hZ (hw _ (List.mem_of_getElem? (i := 44) rfl))) (mvT hZ (hw _ (List.mem_of_getElem? (i := 45) rfl))) (mvT hZ (hw _ (List.mem_of_getElem? (i := 46) rfl))) (by decide) (backOf (W := 0) (rm_a7_2 l Z a0 hw [] dc kdc el ee kee ca cc eo mo G_dc G_dce G_dcv G_el G_ele G_elf G_eev G_hi G_ca G_bx G_eo G_eoe G_mo x1 w1 kk2 w3 w4 h0 O0 r0 r1 r2 r3 r4 r5 r6) hZ (hw _ (List.mem_of_getElem? (i := 46) rfl)) (hw _ (List.mem_of_getElem? (i := 45) rfl)) (by decide) (by decide)) (g := (mkF m 5 #[.val (.ref x0), .val (.ref x1), .val (.int x2)] [(.ref x1)])) rfl (by rw [hml]; rfl) (argsL := [(.ref x1)]) (rest := []) (lenOf pd_LLjava_util_Collection_RLjava_util_List_ rfl) rfl (by show 2 * 0 + _ ≤ _; exact Nat.le_of_eq rfl) (hb hby d5_5) (fun _ _ => ⟨rfl, e1, (by decide : 0 + 2 ≤ _), (by decide : 0 + 4 ≤ _)⟩)
  dsimp only [Pt.U, Pt.locs, Pt.cells, Pt.slots] at X2 l2 y2 z2 st2 hQ2
  subst l2 y2 z2
  obtain ⟨b2q5q1q2, rfl, Nq2, Kq2, p2_0, p2_1, p2_2, p2_3⟩ := hQ2
  have O2_ : Ext Z.heap T2.heap := extKeep O0 Kq2 all0
  have K2 := Keep.trans (Keep.refl h0 [x0]) Kq2 all0
  have N2_ := Fr.app N1_ Nq2
  have g_b2q5q1q2 : Z.heap.size ≤ b2q5q1q2 := Nat.le_trans O0.1 p2_0
  have sz_b2q5q1q2 : h0.size ≤ b2q5q1q2 := Nat.le_trans (Keep.refl h0 [x0]).1 p2_0
  refine Go.step st2 ?_
  show Go _ _ _ _ _ _ _ _ T2 (mkF m 8 #[.val (.ref x0), .val (.ref x1), .val (.int x2)] [(.ref b2q5q1q2)])
  refine Go.step (fun _ kt_ => XS.astoreN X2.here hx rfl (hb hby d5_8) rfl rfl (l' := #[.val (.ref x0), .val (.ref b2q5q1q2), .val (.int x2)]) rfl kt_) ?_
  show Go _ _ _ _ _ _ _ _ T2 (mkF m 9 #[.val (.ref x0), .val (.ref b2q5q1q2), .val (.int x2)] [])
  refine Go.step (fun _ kt_ => XS.aloadN X2.here hx rfl (hb hby d5_9) rfl rfl kt_) ?_
  show Go _ _ _ _ _ _ _ _ T2 (mkF m 10 #[.val (.ref x0), .val (.ref b2q5q1q2), .val (.int x2)] [(.ref x0)])
  refine Go.step (fun _ kt_ => XS.aloadN X2.here hx rfl (hb hby d5_10) rfl rfl kt_) ?_
  show Go _ _ _ _ _ _ _ _ T2 (mkF m 11 #[.val (.ref x0), .val (.ref b2q5q1q2), .val (.int x2)] [(.ref b2q5q1q2), (.ref x0)])
  obtain ⟨T3, h3, X3, e3, W3, st3⟩ := putF X2 hx hZ hown (host := "") (Or.inl (hw _ (List.mem_of_getElem? (i := 72) rfl))) Via.refl rfl (r8.keep Kq2 nin0) (r7.keep Kq2) (Or.inr ⟨(hw _ (List.mem_of_getElem? (i := 73) rfl)), rfl, hnm⟩) (hw _ (List.mem_of_getElem? (i := 32) rfl)) (ty := (.object "java/util/List")) pf_Ljava_util_List_ rfl rfl (g := (mkF m 11 #[.val (.ref x0), .val (.ref b2q5q1q2), .val (.int x2)] [(.ref b2q5q1q2), (.ref x0)])) rfl rfl (hb hby d5_11)
  refine Go.step st3 ?_
  have N3_ := Fr.snoc X3 N2_ r9
  have O3_ : Ext Z.heap h3 := extWr O2_ W3 r9
  have K3 := Keep.wr K2 W3 (Or.inl (List.mem_of_getElem? (i := 0) rfl))
  have F3 := Fld.same W3 (r8.keep Kq2 nin0)
  show Go _ _ _ _ _ _ _ _ T3 (mkF m 14 #[.val (.ref x0), .val (.ref b2q5q1q2), .val (.int x2)] [])
  refine Go.step (fun _ kt_ => XS.aloadN X3.here hx rfl (hb hby d5_14) rfl rfl kt_) ?_
  show Go _ _ _ _ _ _ _ _ T3 (mkF m 15 #[.val (.ref x0), .val (.ref b2q5q1q2), .val (.int x2)] [(.ref x0)])
  refine Go.step (fun _ kt_ => XS.iloadN X3.here hx rfl (hb hby d5_15) rfl kt_) ?_
  show Go _ _ _ _ _ _ _ _ T3 (mkF m 16 #[.val (.ref x0), .val (.ref b2q5q1q2), .val (.int x2)] [(.int x2), (.ref x0)])
  have f4 := (Fld.other W3 (r10.keep Kq2 nin0) (Or.inr (sn_3 hw)))
  obtain ⟨T5, h5, X5, e5, W5, st5⟩ := putF X3 hx hZ hown (host := "") (Or.inl (hw _ (List.mem_of_getElem? (i := 74) rfl))) Via.refl e3 f4 (Exa.wr W3 (r7.keep Kq2)) (Or.inr ⟨(hw _ (List.mem_of_getElem? (i := 75) rfl)), rfl, hnm⟩) (hw _ (List.mem_of_getElem? (i := 32) rfl)) (ty := .int) pf_I rfl rfl (g := (mkF m 16 #[.val (.ref x0), .val (.ref b2q5q1q2), .val (.int x2)] [(.int x2), (.ref x0)])) rfl rfl (hb hby d5_16)
  refine Go.step st5 ?_
  have N5_ := Fr.snoc X5 N3_ r9
  have O5_ : Ext Z.heap h5 := extWr O3_ W5 r9
  have K5 := Keep.wr K3 W5 (Or.inl (List.mem_of_getElem? (i := 0) rfl))
  have F5 := Fld.same W5 f4
  show Go _ _ _ _ _ _ _ _ T5 (mkF m 19 #[.val (.ref x0), .val (.ref b2q5q1q2), .val (.int x2)] [])
  exact Go.retV X5 hx Bd.returns hlk (hb hby d5_19) (by decide) (by decide) (by show Q_a5_2 _ _ _ _ _ _ _ _ _ _ _ _ _ _ _ _ _ _ _ _ _; rw [e5]; exact ⟨b2q5q1q2, rfl, N5_, K5, (Fld.other W5 F3 (Or.inr (Ne.symm (sn_3 hw)))), F5, sz_b2q5q1q2, (Exa.wr W5 (Exa.wr W3 p2_1)), (Fld.other W5 (Fld.other W3 p2_2 (Or.inl (Ne.symm (Nat.ne_of_lt (Nat.lt_of_lt_of_le r7.lt p2_0))))) (Or.inl (Ne.symm (Nat.ne_of_lt (Nat.lt_of_lt_of_le r7.lt p2_0))))), (Fld.other W5 (Fld.other W3 p2_3 (Or.inl (Ne.symm (Nat.ne_of_lt (Nat.lt_of_lt_of_le r7.lt p2_0))))) (Or.inl (Ne.symm (Nat.ne_of_lt (Nat.lt_of_lt_of_le r7.lt p2_0)))))⟩)
theorem ef_a15_2 (m : MethodId) (y0 : Addr) (y1 : Addr) (y2 : Addr) (y3 : Int32) : entryFrame m #[(.ref y0), (.ref y1), (.ref y2), (.int y3)] 4 = mkF m 0 #[.val (.ref y0), .val (.ref y1), .val (.ref y2), .val (.int y3)] [] := by first | (simp [entryFrame, mkF, argsToLocals, Value.category]; done) | rfl
def Q_a15_2 (Z : State) (dc : Addr) (kdc : ClassId) (el : Addr) (ee : Addr) (kee : ClassId) (ca : Addr) (cc : Cell) (eo : Addr) (mo : Addr) (x0 : Addr) (x1 : Addr) (x2 : Addr) (kk1 : ClassId) (w2 : Addr) (w3 : Addr) (h0 : Heap) (v : Option Value) (h : Heap) (L : List Loc) : Prop := v = none ∧ Fr Z.heap.size L ∧ Keep h0 h [x2, x0] ∧ Arv Z h x2 kk1 (.object "java/lang/Object") (10 : Int32) [(.ref w2), (.ref w3), (.ref x1), .null, .null, .null, .null, .null, .null, .null] .null ∧ Fld Z h x0 "java/util/ArrayList" "size" "I" (.int (3 : Int32)) ∧ Fld Z h x0 "java/util/AbstractList" "modCount" "I" (.int (3 : Int32)) ∧ Fld Z h x0 "java/util/ArrayList" "elementData" "[Ljava/lang/Object;" (.ref x2)
set_option maxRecDepth 65536 in
set_option maxHeartbeats 40000000 in
theorem rm_a15_2 (l : Launch) (Z : State) (a0 : Array Value) (hw : ∀ d ∈ tables_1, d.before a0 Z = true) (ws : List Jvm.Cond) (dc : Addr) (kdc : ClassId) (el : Addr) (ee : Addr) (kee : ClassId) (ca : Addr) (cc : Cell) (eo : Addr) (mo : Addr) (G_dc : Sta Z Z.heap "java/util/ArrayList" "DEFAULTCAPACITY_EMPTY_ELEMENTDATA" "[Ljava/lang/Object;" (.ref dc)) (G_dce : Exa Z Z.heap dc "[Ljava/lang/Object;") (G_dcv : Arv Z Z.heap dc kdc (.object "java/lang/Object") (0 : Int32) [] .null) (G_el : Sta Z Z.heap "java/util/ImmutableCollections" "EMPTY_LIST" "Ljava/util/ImmutableCollections$ListN;" (.ref el)) (G_ele : Exa Z Z.heap el "java/util/ImmutableCollections$ListN") (G_elf : Fld Z Z.heap el "java/util/ImmutableCollections$ListN" "elements" "[Ljava/lang/Object;" (.ref ee)) (G_eev : Arv Z Z.heap ee kee (.object "java/lang/Object") (0 : Int32) [] .null) (G_hi : Sta Z Z.heap "java/lang/Integer$IntegerCache" "high" "I" (.int (127 : Int32))) (G_ca : Sta Z Z.heap "java/lang/Integer$IntegerCache" "cache" "[Ljava/lang/Integer;" (.ref ca)) (G_bx : Bxs Z ca cc "java/lang/Integer" "I" 256 (fun j => .int (j - 128))) (G_eo : Sta Z Z.heap "java/util/ImmutableCollections" "EMPTY" "Ljava/lang/Object;" (.ref eo)) (G_eoe : Exa Z Z.heap eo "java/lang/Object") (G_mo : MirO Z "[Ljava/lang/Object;" mo) (x0 : Addr) (x1 : Addr) (x2 : Addr) (kk1 : ClassId) (w2 : Addr) (w3 : Addr) (h0 : Heap) (O0 : Ext Z.heap h0) (r0 : Arv Z h0 x2 kk1 (.object "java/lang/Object") (10 : Int32) [(.ref w2), (.ref w3), .null, .null, .null, .null, .null, .null, .null, .null] .null) (r1 : Ovr Z kk1 "java/lang/Object") (r2 : Exa Z h0 x1 "com/example/wary_lock/warylock/Lease") (r3 : Z.heap.size ≤ x2) (r4 : Exa Z h0 x0 "java/util/ArrayList") (r5 : Fld Z h0 x0 "java/util/ArrayList" "size" "I" (.int (2 : Int32))) (r6 : x0 ≠ x2) (r7 : Z.heap.size ≤ x0) (r8 : Fld Z h0 x0 "java/util/AbstractList" "modCount" "I" (.int (3 : Int32))) (r9 : Fld Z h0 x0 "java/util/ArrayList" "elementData" "[Ljava/lang/Object;" (.ref x2)) :
    MetFree l (⟨"java/util/ArrayList", "add", "(Ljava/lang/Object;[Ljava/lang/Object;I)V"⟩ : MethodName) (head1 (Jvm.Cond.code (⟨"java/util/ArrayList", "add", "(Ljava/lang/Object;[Ljava/lang/Object;I)V"⟩ : MethodName) jdk_38_method_24_code 4 none :: ws) ({ frames := 0, cells := 0, slots := 0, locals := 0 } : Room)) (fun a U => a = #[(.ref x0), (.ref x1), (.ref x2), (.int (2 : Int32))] ∧ Z.Warmed39 U.vm ∧ U.heap = h0) (fun _ _ _ _ _ => True) (fun _ U o U' => ∃ v L, o = .returned v ∧ Q_a15_2 Z dc kdc el ee kee ca cc eo mo x0 x1 x2 kk1 w2 w3 h0 v U'.heap L ∧ FrameEnd U o U' L ({ frames := 0, cells := 0, slots := 0, locals := 0 } : Room).cells ({ frames := 0, cells := 0, slots := 0, locals := 0 } : Room).slots) := by
  refine MetFree.of_bodySF (plainFor_of_name pn_15) hisR ?_
  intro p e s m args below meth c s₁ Bd hml0 hP hK
  obtain ⟨rfl, hZ, hh⟩ := hP
  have hx := Bd.exec
  have hby := Bd.bytes
  have hlk := Bd.notSynchronized
  have hml : c.maxLocals = 4 := hml0
  have hown : s.vm.findClass "java/util/ArrayList" = some m.cls := findClass_of_methodNamed Bd.named
  have hnm := (name_of_methodNamed Bd.named Bd.method).1
  have X0 : Stand p l e ({ frames := 0, cells := 0, slots := 0, locals := 0 } : Room) s m #[(.ref x0), (.ref x1), (.ref x2), (.int (2 : Int32))] below meth c s₁ [] 0 0 := Stand.of_body Bd
  have e0 : s₁.heap = h0 := by rw [← hh, Bd.state]; rfl
  have N0 := Fr.nil Z.heap.size
  show Go FrameEnd p e below s ({ frames := 0, cells := 0, slots := 0, locals := 0 } : Room).cells ({ frames := 0, cells := 0, slots := 0, locals := 0 } : Room).slots (Q_a15_2 Z dc kdc el ee kee ca cc eo mo x0 x1 x2 kk1 w2 w3 h0) s₁ (entryFrame m #[(.ref x0), (.ref x1), (.ref x2), (.int (2 : Int32))] 4)
  refine Go.cast (ef_a15_2 m x0 x1 x2 (2 : Int32)) ?_
  show Go _ _ _ _ _ _ _ _ s₁ (mkF m 0 #[.val (.ref x0), .val (.ref x1), .val (.ref x2), .val (.int (2 : Int32))] [])
  refine Go.step (fun _ kt_ => XS.iloadN X0.here hx rfl (hb hby d15_0) rfl kt_) ?_
  show Go _ _ _ _ _ _ _ _ s₁ (mkF m 1 #[.val (.ref x0), .val (.ref x1), .val (.ref x2), .val (.int (2 : Int32))] [(.int (2 : Int32))])
  refine Go.step (fun _ kt_ => XS.aloadN X0.here hx rfl (hb hby d15_1) rfl rfl kt_) ?_
  show Go _ _ _ _ _ _ _ _ s₁ (mkF m 2 #[.val (.ref x0), .val (.ref x1), .val (.ref x2), .val (.int (2 : Int32))] [(.ref x2), (.int (2 : Int32))])
  obtain ⟨cl1, Ar1, -, S1, N1, -, -⟩ := id r0
  refine Go.step (X0.arraylength hx (by rw [e0]; exact Ar1.1) (State.isArrayOf_alike hZ.alike Ar1.2.1) (g := (mkF m 2 #[.val (.ref x0), .val (.ref x1), .val (.ref x2), .val (.int (2 : Int32))] [(.ref x2), (.int (2 : Int32))])) rfl rfl (hb hby d15_2)) ?_
  rw [len_of S1 N1]
  show Go _ _ _ _ _ _ _ _ s₁ (mkF m 3 #[.val (.ref x0), .val (.ref x1), .val (.ref x2), .val (.int (2 : Int32))] [(.int (10 : Int32)), (.int (2 : Int32))])
  refine Go.step (fun _ kt_ => XS.icmpYes X0.here hx rfl (pc0 := 3) (pc' := 11) rfl (hb hby d15_3) rfl (feq (by decide : ¬ ((2 : Int32) = (10 : Int32)))).2 (by decide) (by decide) kt_) ?_
  show Go _ _ _ _ _ _ _ _ s₁ (mkF m 11 #[.val (.ref x0), .val (.ref x1), .val (.ref x2), .val (.int (2 : Int32))] [])
  refine Go.step (fun _ kt_ => XS.aloadN X0.here hx rfl (hb hby d15_11) rfl rfl kt_) ?_
  show Go _ _ _ _ _ _ _ _ s₁ (mkF m 12 #[.val (.ref x0), .val (.ref x1), .val (.ref x2), .val (.int (2 : Int32))] [(.ref x2)])
  refine Go.step (fun _ kt_ => XS.iloadN X0.here hx rfl (hb hby d15_12) rfl kt_) ?_
  show Go _ _ _ _ _ _ _ _ s₁ (mkF m 13 #[.val (.ref x0), .val (.ref x1), .val (.ref x2), .val (.int (2 : Int32))] [(.int (2 : Int32)), (.ref x2)])
  refine Go.step (fun _ kt_ => XS.aloadN X0.here hx rfl (hb hby d15_13) rfl rfl kt_) ?_
  show Go _ _ _ _ _ _ _ _ s₁ (mkF m 14 #[.val (.ref x0), .val (.ref x1), .val (.ref x2), .val (.int (2 : Int32))] [(.ref x1), (.int (2 : Int32)), (.ref x2)])
  obtain ⟨cl2, Ar2, q2, S2, N2, H2, G2⟩ := id r0
  have hin2 : ¬ ((2 : Int32) < 0 ∨ cl2.slots.size ≤ ((2 : Int32)).toNatClampNeg) := inb_of S2 ⟨by decide, by decide⟩
  obtain ⟨T2, h2, X2, e2, W2, st2⟩ := stR X0 hx hZ e0 Ar2 (j := (2 : Int32)) hin2 rfl (Sto.ofV Ar2 q2 r1 (Ins.of_exa r2 (hw _ (List.mem_of_getElem? (i := 153) rfl)))) (g := (mkF m 14 #[.val (.ref x0), .val (.ref x1), .val (.ref x2), .val (.int (2 : Int32))] [(.ref x1), (.int (2 : Int32)), (.ref x2)])) rfl rfl (hb hby d15_14)
  refine Go.step st2 ?_
  have V2 : Arv Z h2 x2 kk1 (.object "java/lang/Object") (10 : Int32) [(.ref w2), (.ref w3), (.ref x1), .null, .null, .null, .null, .null, .null, .null] .null := Arv.set Ar2 q2 S2 N2 H2 G2 rfl W2 2 rfl (Nat.le_of_ble_eq_true rfl)
  have N2_ := Fr.snoc X2 N0 r3
  have O2_ : Ext Z.heap h2 := extWr O0 W2 r3
  have K2 := Keep.wr (Keep.refl h0 [x2, x0]) W2 (Or.inl (List.mem_of_getElem? (i := 0) rfl))
  show Go _ _ _ _ _ _ _ _ T2 (mkF m 15 #[.val (.ref x0), .val (.ref x1), .val (.ref x2), .val (.int (2 : Int32))] [])
  refine Go.step (fun _ kt_ => XS.aloadN X2.here hx rfl (hb hby d15_15) rfl rfl kt_) ?_
  show Go _ _ _ _ _ _ _ _ T2 (mkF m 16 #[.val (.ref x0), .val (.ref x1), .val (.ref x2), .val (.int (2 : Int32))] [(.ref x0)])
  refine Go.step (fun _ kt_ => XS.iloadN X2.here hx rfl (hb hby d15_16) rfl kt_) ?_
  show Go _ _ _ _ _ _ _ _ T2 (mkF m 17 #[.val (.ref x0), .val (.ref x1), .val (.ref x2), .val (.int (2 : Int32))] [(.int (2 : Int32)), (.ref x0)])
  refine Go.step (fun _ kt_ => XS.iconst X2.here hx rfl (hb hby d15_17)  kt_) ?_
  show Go _ _ _ _ _ _ _ _ T2 (mkF m 18 #[.val (.ref x0), .val (.ref x1), .val (.ref x2), .val (.int (2 : Int32))] [(.int (1 : Int32)), (.int (2 : Int32)), (.ref x0)])
  refine Go.step (fun _ kt_ => XS.iadd X2.here hx rfl (hb hby d15_18) rfl kt_) ?_
  show Go _ _ _ _ _ _ _ _ T2 (mkF m 19 #[.val (.ref x0), .val (.ref x1), .val (.ref x2), .val (.int (2 : Int32))] [(.int (3 : Int32)), (.ref x0)])
  obtain ⟨T3, h3, X3, e3, W3, st3⟩ := putF X2 hx hZ hown (host := "") (Or.inl (hw _ (List.mem_of_getElem? (i := 66) rfl))) Via.refl e2 (Fld.other W2 r5 (Or.inl r6)) (Exa.wr W2 r4) (Or.inl (hw _ (List.mem_of_getElem? (i := 67) rfl))) (hw _ (List.mem_of_getElem? (i := 6) rfl)) (ty := .int) pf_I rfl rfl (g := (mkF m 19 #[.val (.ref x0), .val (.ref x1), .val (.ref x2), .val (.int (2 : Int32))] [(.int (3 : Int32)), (.ref x0)])) rfl rfl (hb hby d15_19)
  refine Go.step st3 ?_
  have N3_ := Fr.snoc X3 N2_ r7
  have O3_ : Ext Z.heap h3 := extWr O2_ W3 r7
  have K3 := Keep.wr K2 W3 (Or.inl (List.mem_of_getElem? (i := 1) rfl))
  have F3 := Fld.same W3 (Fld.other W2 r5 (Or.inl r6))
  show Go _ _ _ _ _ _ _ _ T3 (mkF m 22 #[.val (.ref x0), .val (.ref x1), .val (.ref x2), .val (.int (2 : Int32))] [])
  exact Go.retV X3 hx Bd.returns hlk (hb hby d15_22) (by decide) (by decide) (by show Q_a15_2 _ _ _ _ _ _ _ _ _ _ _ _ _ _ _ _ _ _ _ _; rw [e3]; exact ⟨rfl, N3_, K3, (V2.other W3 (Ne.symm r6)), F3, (Fld.other W3 (Fld.other W2 r8 (Or.inl r6)) (Or.inr (Ne.symm (sn_1 hw)))), (Fld.other W3 (Fld.other W2 r9 (Or.inl r6)) (Or.inr (Ne.symm (sn_2 hw))))⟩)
theorem ef_a14_2 (m : MethodId) (y0 : Addr) (y1 : Addr) : entryFrame m #[(.ref y0), (.ref y1)] 2 = mkF m 0 #[.val (.ref y0), .val (.ref y1)] [] := by first | (simp [entryFrame, mkF, argsToLocals, Value.category]; done) | rfl
def Q_a14_2 (Z : State) (dc : Addr) (kdc : ClassId) (el : Addr) (ee : Addr) (kee : ClassId) (ca : Addr) (cc : Cell) (eo : Addr) (mo : Addr) (x0 : Addr) (x1 : Addr) (w1 : Addr) (kk2 : ClassId) (w3 : Addr) (w4 : Addr) (h0 : Heap) (v : Option Value) (h : Heap) (L : List Loc) : Prop := v = some (.int (1 : Int32)) ∧ Fr Z.heap.size L ∧ Keep h0 h [x0, w1] ∧ Fld Z h x0 "java/util/ArrayList" "size" "I" (.int (3 : Int32)) ∧ Fld Z h x0 "java/util/AbstractList" "modCount" "I" (.int (3 : Int32)) ∧ Fld Z h x0 "java/util/ArrayList" "elementData" "[Ljava/lang/Object;" (.ref w1) ∧ Arv Z h w1 kk2 (.object "java/lang/Object") (10 : Int32) [(.ref w3), (.ref w4), (.ref x1), .null, .null, .null, .null, .null, .null, .null] .null
set_option maxRecDepth 65536 in
set_option maxHeartbeats 40000000 in
theorem rm_a14_2 (l : Launch) (Z : State) (a0 : Array Value) (hw : ∀ d ∈ tables_1, d.before a0 Z = true) (ws : List Jvm.Cond) (dc : Addr) (kdc : ClassId) (el : Addr) (ee : Addr) (kee : ClassId) (ca : Addr) (cc : Cell) (eo : Addr) (mo : Addr) (G_dc : Sta Z Z.heap "java/util/ArrayList" "DEFAULTCAPACITY_EMPTY_ELEMENTDATA" "[Ljava/lang/Object;" (.ref dc)) (G_dce : Exa Z Z.heap dc "[Ljava/lang/Object;") (G_dcv : Arv Z Z.heap dc kdc (.object "java/lang/Object") (0 : Int32) [] .null) (G_el : Sta Z Z.heap "java/util/ImmutableCollections" "EMPTY_LIST" "Ljava/util/ImmutableCollections$ListN;" (.ref el)) (G_ele : Exa Z Z.heap el "java/util/ImmutableCollections$ListN") (G_elf : Fld Z Z.heap el "java/util/ImmutableCollections$ListN" "elements" "[Ljava/lang/Object;" (.ref ee)) (G_eev : Arv Z Z.heap ee kee (.object "java/lang/Object") (0 : Int32) [] .null) (G_hi : Sta Z Z.heap "java/lang/Integer$IntegerCache" "high" "I" (.int (127 : Int32))) (G_ca : Sta Z Z.heap "java/lang/Integer$IntegerCache" "cache" "[Ljava/lang/Integer;" (.ref ca)) (G_bx : Bxs Z ca cc "java/lang/Integer" "I" 256 (fun j => .int (j - 128))) (G_eo : Sta Z Z.heap "java/util/ImmutableCollections" "EMPTY" "Ljava/lang/Object;" (.ref eo)) (G_eoe : Exa Z Z.heap eo "java/lang/Object") (G_mo : MirO Z "[Ljava/lang/Object;" mo) (x0 : Addr) (x1 : Addr) (w1 : Addr) (kk2 : ClassId) (w3 : Addr) (w4 : Addr) (h0 : Heap) (O0 : Ext Z.heap h0) (r0 : Fld Z h0 x0 "java/util/AbstractList" "modCount" "I" (.int (2 : Int32))) (r1 : Exa Z h0 x0 "java/util/ArrayList") (r2 : Z.heap.size ≤ x0) (r3 : Fld Z h0 x0 "java/util/ArrayList" "elementData" "[Ljava/lang/Object;" (.ref w1)) (r4 : Fld Z h0 x0 "java/util/ArrayList" "size" "I" (.int (2 : Int32))) (r5 : Arv Z h0 w1 kk2 (.object "java/lang/Object") (10 : Int32) [(.ref w3), (.ref w4), .null, .null, .null, .null, .null, .null, .null, .null] .null) (r6 : w1 ≠ x0) (r7 : Ovr Z kk2 "java/lang/Object") (r8 : Exa Z h0 x1 "com/example/wary_lock/warylock/Lease") (r9 : Z.heap.size ≤ w1) :
    MetFree l (⟨"java/util/ArrayList", "add", "(Ljava/lang/Object;)Z"⟩ : MethodName) (head1 (Jvm.Cond.code (⟨"java/util/ArrayList", "add", "(Ljava/lang/Object;)Z"⟩ : MethodName) jdk_38_method_25_code 2 (some .boolean) :: ws) ({ frames := 1, cells := 0, slots := 0, locals := 15 } : Room)) (fun a U => a = #[(.ref x0), (.ref x1)] ∧ Z.Warmed39 U.vm ∧ U.heap = h0) (fun _ _ _ _ _ => True) (fun _ U o U' => ∃ v L, o = .returned v ∧ Q_a14_2 Z dc kdc el ee kee ca cc eo mo x0 x1 w1 kk2 w3 w4 h0 v U'.heap L ∧ FrameEnd U o U' L ({ frames := 1, cells := 0, slots := 0, locals := 15 } : Room).cells ({ frames := 1, cells := 0, slots := 0, locals := 15 } : Room).slots) := by
  refine MetFree.of_bodySF (plainFor_of_name pn_14) hisR ?_
  intro p e s m args below meth c s₁ Bd hml0 hP hK
  obtain ⟨rfl, hZ, hh⟩ := hP
  have hx := Bd.exec
  have hby := Bd.bytes
  have hlk := Bd.notSynchronized
  have hml : c.maxLocals = 2 := hml0
  have hown : s.vm.findClass "java/util/ArrayList" = some m.cls := findClass_of_methodNamed Bd.named
  have hnm := (name_of_methodNamed Bd.named Bd.method).1
  have X0 : Stand p l e ({ frames := 1, cells := 0, slots := 0, locals := 15 } : Room) s m #[(.ref x0), (.ref x1)] below meth c s₁ [] 0 0 := Stand.of_body Bd
  have e0 : s₁.heap = h0 := by rw [← hh, Bd.state]; rfl
  have N0 := Fr.nil Z.heap.size
  show Go FrameEnd p e below s ({ frames := 1, cells := 0, slots := 0, locals := 15 } : Room).cells ({ frames := 1, cells := 0, slots := 0, locals := 15 } : Room).slots (Q_a14_2 Z dc kdc el ee kee ca cc eo mo x0 x1 w1 kk2 w3 w4 h0) s₁ (entryFrame m #[(.ref x0), (.ref x1)] 2)
  refine Go.cast (ef_a14_2 m x0 x1) ?_
  show Go _ _ _ _ _ _ _ _ s₁ (mkF m 0 #[.val (.ref x0), .val (.ref x1)] [])
  refine Go.step (fun _ kt_ => XS.aloadN X0.here hx rfl (hb hby d14_0) rfl rfl kt_) ?_
  show Go _ _ _ _ _ _ _ _ s₁ (mkF m 1 #[.val (.ref x0), .val (.ref x1)] [(.ref x0)])
  refine Go.step (fun _ kt_ => XS.dup X0.here hx rfl (hb hby d14_1) rfl rfl kt_) ?_
  show Go _ _ _ _ _ _ _ _ s₁ (mkF m 2 #[.val (.ref x0), .val (.ref x1)] [(.ref x0), (.ref x0)])
  obtain ⟨T1, X1, e1, st1⟩ := getF X0 hx hZ hown (host := "") (Or.inl (hw _ (List.mem_of_getElem? (i := 130) rfl))) (Via.of (hw _ (List.mem_of_getElem? (i := 131) rfl))) e0 r0 (g := (mkF m 2 #[.val (.ref x0), .val (.ref x1)] [(.ref x0), (.ref x0)])) rfl rfl (hb hby d14_2)
  refine Go.step st1 ?_
  show Go _ _ _ _ _ _ _ _ T1 (mkF m 5 #[.val (.ref x0), .val (.ref x1)] [(.int (2 : Int32)), (.ref x0)])
  refine Go.step (fun _ kt_ => XS.iconst X1.here hx rfl (hb hby d14_5)  kt_) ?_
  show Go _ _ _ _ _ _ _ _ T1 (mkF m 6 #[.val (.ref x0), .val (.ref x1)] [(.int (1 : Int32)), (.int (2 : Int32)), (.ref x0)])
  refine Go.step (fun _ kt_ => XS.iadd X1.here hx rfl (hb hby d14_6) rfl kt_) ?_
  show Go _ _ _ _ _ _ _ _ T1 (mkF m 7 #[.val (.ref x0), .val (.ref x1)] [(.int (3 : Int32)), (.ref x0)])
  obtain ⟨T2, h2, X2, e2, W2, st2⟩ := putF X1 hx hZ hown (host := "") (Or.inl (hw _ (List.mem_of_getElem? (i := 130) rfl))) (Via.of (hw _ (List.mem_of_getElem? (i := 131) rfl))) e1 r0 r1 (Or.inl (hw _ (List.mem_of_getElem? (i := 27) rfl))) (hw _ (List.mem_of_getElem? (i := 6) rfl)) (ty := .int) pf_I rfl rfl (g := (mkF m 7 #[.val (.ref x0), .val (.ref x1)] [(.int (3 : Int32)), (.ref x0)])) rfl rfl (hb hby d14_7)
  refine Go.step st2 ?_
  have N2_ := Fr.snoc X2 N0 r2
  have O2_ : Ext Z.heap h2 := extWr O0 W2 r2
  have K2 := Keep.wr (Keep.refl h0 [x0, w1]) W2 (Or.inl (List.mem_of_getElem? (i := 0) rfl))
  have F2 := Fld.same W2 r0
  show Go _ _ _ _ _ _ _ _ T2 (mkF m 10 #[.val (.ref x0), .val (.ref x1)] [])
  refine Go.step (fun _ kt_ => XS.aloadN X2.here hx rfl (hb hby d14_10) rfl rfl kt_) ?_
  show Go _ _ _ _ _ _ _ _ T2 (mkF m 11 #[.val (.ref x0), .val (.ref x1)] [(.ref x0)])
  refine Go.step (fun _ kt_ => XS.aloadN X2.here hx rfl (hb hby d14_11) rfl rfl kt_) ?_
  show Go _ _ _ _ _ _ _ _ T2 (mkF m 12 #[.val (.ref x0), .val (.ref x1)] [(.ref x1), (.ref x0)])
  refine Go.step (fun _ kt_ => XS.aloadN X2.here hx rfl (hb hby d14_12) rfl rfl kt_) ?_
  show Go _ _ _ _ _ _ _ _ T2 (mkF m 13 #[.val (.ref x0), .val (.ref x1)] [(.ref x0), (.ref x1), (.ref x0)])
  obtain ⟨T3, X3, e3, st3⟩ := getF X2 hx hZ hown (host := "") (Or.inl (hw _ (List.mem_of_getElem? (i := 29) rfl))) Via.refl e2 (Fld.other W2 r3 (Or.inr (sn_0 hw))) (g := (mkF m 13 #[.val (.ref x0), .val (.ref x1)] [(.ref x0), (.ref x1), (.ref x0)])) rfl rfl (hb hby d14_13)
  refine Go.step st3 ?_
  show Go _ _ _ _ _ _ _ _ T3 (mkF m 16 #[.val (.ref x0), .val (.ref x1)] [(.ref w1), (.ref x1), (.ref x0)])
  refine Go.step (fun _ kt_ => XS.aloadN X3.here hx rfl (hb hby d14_16) rfl rfl kt_) ?_
  show Go _ _ _ _ _ _ _ _ T3 (mkF m 17 #[.val (.ref x0), .val (.ref x1)] [(.ref x0), (.ref w1), (.ref x1), (.ref x0)])
  obtain ⟨T4, X4, e4, st4⟩ := getF X3 hx hZ hown (host := "") (Or.inl (hw _ (List.mem_of_getElem? (i := 66) rfl))) Via.refl e3 (Fld.other W2 r4 (Or.inr (sn_1 hw))) (g := (mkF m 17 #[.val (.ref x0), .val (.ref x1)] [(.ref x0), (.ref w1), (.ref x1), (.ref x0)])) rfl rfl (hb hby d14_17)
  refine Go.step st4 ?_
  show Go _ _ _ _ _ _ _ _ T4 (mkF m 20 #[.val (.ref x0), .val (.ref x1)] [(.int (2 : Int32)), (.ref w1), (.ref x1), (.ref x0)])
  obtain ⟨cq5, q5, q5'⟩ := (Exa.wr W2 r1).cell
  obtain ⟨_, _, ⟨T5, L5, k5, n5⟩, -, X5, ⟨Lc5, hQ5, l5, y5, z5⟩, st5⟩ := X4.privateBack hx (y := (⟨"java/util/ArrayList", "add", "(Ljava/lang/Object;[Ljava/lang/Object;I)V"⟩ : MethodName)) hown (mvT hZ (hw _ (List.mem_of_getElem? (i := 132) rfl))) (mvT hZ (hw _ (List.mem_of_getElem? (i := 133) rfl))) (mvT hZ (hw _ (List.mem_of_getElem? (i := 135) rfl))) (Cond.privateMethod_at (mvP hZ (hw _ (List.mem_of_getElem? (i := 134) rfl)) (args := #[]))) (mvT hZ (hw _ (List.mem_of_getElem? (i := 136) rfl))) (by decide) (backOf (W := 0) (rm_a15_2 l Z a0 hw [] dc kdc el ee kee ca cc eo mo G_dc G_dce G_dcv G_el G_ele G_elf G_eev G_hi G_ca G_bx G_eo G_eoe G_mo x0 x1 w1 kk2 w3 w4 h2 O2_ (r5.other W2 r6) r7 (Exa.wr W2 r8) r9 (Exa.wr W2 r1) (Fld.other W2 r4 (Or.inr (sn_1 hw))) (Ne.symm r6) r2 F2 (Fld.other W2 r3 (Or.inr (sn_0 hw)))) hZ (hw _ (List.mem_of_getElem? (i := 136) rfl)) (hw _ (List.mem_of_getElem? (i := 7) rfl)) (by decide) (by decide)) (g := (mkF m 20 #[.val (.ref x0), .val (.ref x1)] [(.int (2 : Int32)), (.ref w1), (.ref x1), (.ref x0)])) rfl (by rw [hml]; rfl) (Steps.refl _) (a := x0) (by rw [e4]; exact q5) q5' (argsL := [(.ref x1), (.ref w1), (.int (2 : Int32))]) (rest := []) (lenOf pd_LLjava_lang_Object_ALjava_lang_Object_IRV rfl) rfl (by show 2 * 0 + _ ≤ _; exact Nat.le_of_eq rfl) (hb hby d14_20) (fun _ _ => ⟨rfl, e4, (by decide : 0 + 0 ≤ _), (by decide : 0 + 0 ≤ _)⟩)
  dsimp only [Pt.U, Pt.locs, Pt.cells, Pt.slots] at X5 l5 y5 z5 st5 hQ5
  subst l5 y5 z5
  obtain ⟨rfl, Nq5, Kq5, p5_0, p5_1, p5_2, p5_3⟩ := hQ5
  have O5_ : Ext Z.heap T5.heap := extKeep O2_ Kq5 (allS r9 (allS r2 all0))
  have K5 := Keep.trans K2 Kq5 (allS (Or.inl (List.mem_of_getElem? (i := 1) rfl)) (allS (Or.inl (List.mem_of_getElem? (i := 0) rfl)) all0))
  have N5_ := Fr.app N2_ Nq5
  refine Go.trans st5 ?_
  show Go _ _ _ _ _ _ _ _ T5 (mkF m 23 #[.val (.ref x0), .val (.ref x1)] [])
  refine Go.step (fun _ kt_ => XS.iconst X5.here hx rfl (hb hby d14_23)  kt_) ?_
  show Go _ _ _ _ _ _ _ _ T5 (mkF m 24 #[.val (.ref x0), .val (.ref x1)] [(.int (1 : Int32))])
  exact Go.retN X5 hx (t := .boolean) Bd.returns (by simp) hlk (hb hby d14_24) (by decide) (by decide) ⟨rfl, N5_, K5, p5_1, p5_2, p5_3, p5_0⟩
theorem ef_a21_2 (m : MethodId) (y0 : Addr) (y1 : Int32) (y2 : Addr) : entryFrame m #[(.ref y0), (.int y1), (.ref y2)] 4 = mkF m 0 #[.val (.ref y0), .val (.int y1), .val (.ref y2), .unset] [] := by first | (simp [entryFrame, mkF, argsToLocals, Value.category]; done) | rfl
def Q_a21_2 (Z : State) (dc : Addr) (kdc : ClassId) (el : Addr) (ee : Addr) (kee : ClassId) (ca : Addr) (cc : Cell) (eo : Addr) (mo : Addr) (x0 : Addr) (kk1 : ClassId) (w2 : Addr) (w3 : Addr) (w4 : Addr) (h0 : Heap) (v : Option Value) (h : Heap) (L : List Loc) : Prop := ∃ (b2 : Addr) (k2 : ClassId), v = some (.ref b2) ∧ Fr Z.heap.size L ∧ Keep h0 h [] ∧ h0.size ≤ b2 ∧ Exa Z h b2 "[Ljava/lang/Object;" ∧ Arv Z h b2 k2 (.object "java/lang/Object") (3 : Int32) [(.ref w2), (.ref w3), (.ref w4)] .null ∧ Ovr Z k2 "java/lang/Object"
set_option maxRecDepth 65536 in
set_option maxHeartbeats 40000000 in
theorem rm_a21_2 (l : Launch) (Z : State) (a0 : Array Value) (hw : ∀ d ∈ tables_1, d.before a0 Z = true) (ws : List Jvm.Cond) (dc : Addr) (kdc : ClassId) (el : Addr) (ee : Addr) (kee : ClassId) (ca : Addr) (cc : Cell) (eo : Addr) (mo : Addr) (G_dc : Sta Z Z.heap "java/util/ArrayList" "DEFAULTCAPACITY_EMPTY_ELEMENTDATA" "[Ljava/lang/Object;" (.ref dc)) (G_dce : Exa Z Z.heap dc "[Ljava/lang/Object;") (G_dcv : Arv Z Z.heap dc kdc (.object "java/lang/Object") (0 : Int32) [] .null) (G_el : Sta Z Z.heap "java/util/ImmutableCollections" "EMPTY_LIST" "Ljava/util/ImmutableCollections$ListN;" (.ref el)) (G_ele : Exa Z Z.heap el "java/util/ImmutableCollections$ListN") (G_elf : Fld Z Z.heap el "java/util/ImmutableCollections$ListN" "elements" "[Ljava/lang/Object;" (.ref ee)) (G_eev : Arv Z Z.heap ee kee (.object "java/lang/Object") (0 : Int32) [] .null) (G_hi : Sta Z Z.heap "java/lang/Integer$IntegerCache" "high" "I" (.int (127 : Int32))) (G_ca : Sta Z Z.heap "java/lang/Integer$IntegerCache" "cache" "[Ljava/lang/Integer;" (.ref ca)) (G_bx : Bxs Z ca cc "java/lang/Integer" "I" 256 (fun j => .int (j - 128))) (G_eo : Sta Z Z.heap "java/util/ImmutableCollections" "EMPTY" "Ljava/lang/Object;" (.ref eo)) (G_eoe : Exa Z Z.heap eo "java/lang/Object") (G_mo : MirO Z "[Ljava/lang/Object;" mo) (x0 : Addr) (kk1 : ClassId) (w2 : Addr) (w3 : Addr) (w4 : Addr) (h0 : Heap) (O0 : Ext Z.heap h0) (r0 : Arv Z h0 x0 kk1 (.object "java/lang/Object") (10 : Int32) [(.ref w2), (.ref w3), (.ref w4), .null, .null, .null, .null, .null, .null, .null] .null) (r1 : Exa Z h0 w4 "com/example/wary_lock/warylock/Lease") (r2 : Exa Z h0 w3 "com/example/wary_lock/warylock/Lease") (r3 : Exa Z h0 w2 "com/example/wary_lock/warylock/Lease") :
    MetFree l (⟨"java/util/Arrays", "copyOf", "([Ljava/lang/Object;ILjava/lang/Class;)[Ljava/lang/Object;"⟩ : MethodName) (head1 (Jvm.Cond.code (⟨"java/util/Arrays", "copyOf", "([Ljava/lang/Object;ILjava/lang/Class;)[Ljava/lang/Object;"⟩ : MethodName) jdk_65_method_120_code 4 (some (.array (.object "java/lang/Object"))) :: ws) ({ frames := 1, cells := 1, slots := 3, locals := 18 } : Room)) (fun a U => a = #[(.ref x0), (.int (3 : Int32)), (.ref mo)] ∧ Z.Warmed39 U.vm ∧ U.heap = h0) (fun _ _ _ _ _ => True) (fun _ U o U' => ∃ v L, o = .returned v ∧ Q_a21_2 Z dc kdc el ee kee ca cc eo mo x0 kk1 w2 w3 w4 h0 v U'.heap L ∧ FrameEnd U o U' L ({ frames := 1, cells := 1, slots := 3, locals := 18 } : Room).cells ({ frames := 1, cells := 1, slots := 3, locals := 18 } : Room).slots) := by
  refine MetFree.of_bodySF (plainFor_of_name pn_21) hisR ?_
  intro p e s m args below meth c s₁ Bd hml0 hP hK
  obtain ⟨rfl, hZ, hh⟩ := hP
  have hx := Bd.exec
  have hby := Bd.bytes
  have hlk := Bd.notSynchronized
  have hml : c.maxLocals = 4 := hml0
  have hown : s.vm.findClass "java/util/Arrays" = some m.cls := findClass_of_methodNamed Bd.named
  have hnm := (name_of_methodNamed Bd.named Bd.method).1
  have X0 : Stand p l e ({ frames := 1, cells := 1, slots := 3, locals := 18 } : Room) s m #[(.ref x0), (.int (3 : Int32)), (.ref mo)] below meth c s₁ [] 0 0 := Stand.of_body Bd
  have e0 : s₁.heap = h0 := by rw [← hh, Bd.state]; rfl
  have N0 := Fr.nil Z.heap.size
  show Go FrameEnd p e below s ({ frames := 1, cells := 1, slots := 3, locals := 18 } : Room).cells ({ frames := 1, cells := 1, slots := 3, locals := 18 } : Room).slots (Q_a21_2 Z dc kdc el ee kee ca cc eo mo x0 kk1 w2 w3 w4 h0) s₁ (entryFrame m #[(.ref x0), (.int (3 : Int32)), (.ref mo)] 4)
  refine Go.cast (ef_a21_2 m x0 (3 : Int32) mo) ?_
  show Go _ _ _ _ _ _ _ _ s₁ (mkF m 0 #[.val (.ref x0), .val (.int (3 : Int32)), .val (.ref mo), .unset] [])
  refine Go.step (fun _ kt_ => XS.aloadN X0.here hx rfl (hb hby d21_0) rfl rfl kt_) ?_
  show Go _ _ _ _ _ _ _ _ s₁ (mkF m 1 #[.val (.ref x0), .val (.int (3 : Int32)), .val (.ref mo), .unset] [(.ref mo)])
  obtain ⟨T1, X1, e1, st1⟩ := own_ldcMir X0 hx hZ hown (hw _ (List.mem_of_getElem? (i := 177) rfl)) e0 G_mo (g := (mkF m 1 #[.val (.ref x0), .val (.int (3 : Int32)), .val (.ref mo), .unset] [(.ref mo)])) rfl (hb hby d21_1)
  refine Go.step st1 ?_
  show Go _ _ _ _ _ _ _ _ T1 (mkF m 3 #[.val (.ref x0), .val (.int (3 : Int32)), .val (.ref mo), .unset] [(.ref mo), (.ref mo)])
  refine Go.step (fun _ kt_ => Jvm.RoadKit.acmp (g := (mkF m 3 #[.val (.ref x0), .val (.int (3 : Int32)), .val (.ref mo), .unset] [(.ref mo), (.ref mo)])) X1 hx rfl rfl rfl (pc0 := 3) (pc' := 6) (same := true) rfl (hb hby d21_3) rfl (decide_eq_true rfl) (by decide) (by decide) kt_) ?_
  show Go _ _ _ _ _ _ _ _ T1 (mkF m 6 #[.val (.ref x0), .val (.int (3 : Int32)), .val (.ref mo), .unset] [])
  refine Go.step (fun _ kt_ => XS.iloadN X1.here hx rfl (hb hby d21_6) rfl kt_) ?_
  show Go _ _ _ _ _ _ _ _ T1 (mkF m 7 #[.val (.ref x0), .val (.int (3 : Int32)), .val (.ref mo), .unset] [(.int (3 : Int32))])
  obtain ⟨T2, h2, k2, X2, e2, E2, A2, B2, O2, st2⟩ := newRE X1 hx hZ hown (hw _ (List.mem_of_getElem? (i := 178) rfl)) (hw _ (List.mem_of_getElem? (i := 152) rfl)) e1 (g := (mkF m 7 #[.val (.ref x0), .val (.int (3 : Int32)), .val (.ref mo), .unset] [(.int (3 : Int32))])) rfl (hb hby d21_7) rfl (by decide) (cap := 3) (by decide) (by decide) (by decide) (by decide) rfl
  obtain ⟨b2, hb2⟩ : ∃ z, z = h0.size := ⟨_, rfl⟩
  rw [← hb2] at A2 B2 st2
  refine Go.step st2 ?_
  have g_b2 : Z.heap.size ≤ b2 := Nat.le_trans O0.1 (Nat.le_of_eq hb2.symm)
  have O2_ : Ext Z.heap h2 := extTr O0 E2
  have sz_b2 : h0.size ≤ b2 := Nat.le_trans (Keep.refl h0 []).1 (Nat.le_of_eq hb2.symm)
  have K2 := Keep.ext (Keep.refl h0 []) E2
  have V2 : Arv Z h2 b2 k2 (.object "java/lang/Object") (3 : Int32) [.null, .null, .null] .null := (Arv.new A2 (by decide)).pad (pad_rep [] .null 3)
  show Go _ _ _ _ _ _ _ _ T2 (mkF m 10 #[.val (.ref x0), .val (.int (3 : Int32)), .val (.ref mo), .unset] [(.ref b2)])
  refine Go.step (fun _ kt_ => XS.goto X2.here hx rfl (pc0 := 10) (pc' := 24) rfl (hb hby d21_10) (by decide) (by decide) kt_) ?_
  show Go _ _ _ _ _ _ _ _ T2 (mkF m 24 #[.val (.ref x0), .val (.int (3 : Int32)), .val (.ref mo), .unset] [(.ref b2)])
  refine Go.step (fun _ kt_ => XS.astoreN X2.here hx rfl (hb hby d21_24) rfl rfl (l' := #[.val (.ref x0), .val (.int (3 : Int32)), .val (.ref mo), .val (.ref b2)]) rfl kt_) ?_
  show Go _ _ _ _ _ _ _ _ T2 (mkF m 25 #[.val (.ref x0), .val (.int (3 : Int32)), .val (.ref mo), .val (.ref b2)] [])
  refine Go.step (fun _ kt_ => XS.aloadN X2.here hx rfl (hb hby d21_25) rfl rfl kt_) ?_
  show Go _ _ _ _ _ _ _ _ T2 (mkF m 26 #[.val (.ref x0), .val (.int (3 : Int32)), .val (.ref mo), .val (.ref b2)] [(.ref x0)])
  refine Go.step (fun _ kt_ => XS.iconst X2.here hx rfl (hb hby d21_26)  kt_) ?_
  show Go _ _ _ _ _ _ _ _ T2 (mkF m 27 #[.val (.ref x0), .val (.int (3 : Int32)), .val (.ref mo), .val (.ref b2)] [(.int (0 : Int32)), (.ref x0)])
  refine Go.step (fun _ kt_ => XS.aloadN X2.here hx rfl (hb hby d21_27) rfl rfl kt_) ?_
  show Go _ _ _ _ _ _ _ _ T2 (mkF m 28 #[.val (.ref x0), .val (.int (3 : Int32)), .val (.ref mo), .val (.ref b2)] [(.ref b2), (.int (0 : Int32)), (.ref x0)])
  refine Go.step (fun _ kt_ => XS.iconst X2.here hx rfl (hb hby d21_28)  kt_) ?_
  show Go _ _ _ _ _ _ _ _ T2 (mkF m 29 #[.val (.ref x0), .val (.int (3 : Int32)), .val (.ref mo), .val (.ref b2)] [(.int (0 : Int32)), (.ref b2), (.int (0 : Int32)), (.ref x0)])
  refine Go.step (fun _ kt_ => XS.aloadN X2.here hx rfl (hb hby d21_29) rfl rfl kt_) ?_
  show Go _ _ _ _ _ _ _ _ T2 (mkF m 30 #[.val (.ref x0), .val (.int (3 : Int32)), .val (.ref mo), .val (.ref b2)] [(.ref x0), (.int (0 : Int32)), (.ref b2), (.int (0 : Int32)), (.ref x0)])
  obtain ⟨cl3, Ar3, -, S3, N3, -, -⟩ := id (r0.ext E2)
  refine Go.step (X2.arraylength hx (by rw [e2]; exact Ar3.1) (State.isArrayOf_alike hZ.alike Ar3.2.1) (g := (mkF m 30 #[.val (.ref x0), .val (.int (3 : Int32)), .val (.ref mo), .val (.ref b2)] [(.ref x0), (.int (0 : Int32)), (.ref b2), (.int (0 : Int32)), (.ref x0)])) rfl rfl (hb hby d21_30)) ?_
  rw [len_of S3 N3]
  show Go _ _ _ _ _ _ _ _ T2 (mkF m 31 #[.val (.ref x0), .val (.int (3 : Int32)), .val (.ref mo), .val (.ref b2)] [(.int (10 : Int32)), (.int (0 : Int32)), (.ref b2), (.int (0 : Int32)), (.ref x0)])
  refine Go.step (fun _ kt_ => XS.iloadN X2.here hx rfl (hb hby d21_31) rfl kt_) ?_
  show Go _ _ _ _ _ _ _ _ T2 (mkF m 32 #[.val (.ref x0), .val (.int (3 : Int32)), .val (.ref mo), .val (.ref b2)] [(.int (3 : Int32)), (.int (10 : Int32)), (.int (0 : Int32)), (.ref b2), (.int (0 : Int32)), (.ref x0)])
  obtain ⟨_, _, ⟨T4, L4, k4, n4⟩, -, X4, ⟨Lc4, hQ4, l4, y4, z4⟩, st4⟩ := Jvm.LawKit.callS X2 hx (y := (⟨"java/lang/Math", "min", "(II)I"⟩ : MethodName)) hown (mvT hZ (hw _ (List.mem_of_getElem? (i := 179) rfl))) (mvT hZ (hw _ (List.mem_of_getElem? (i := 180) rfl))) (mvT hZ (hw _ (List.mem_of_getElem? (i := 149) rfl))) (mvT hZ (hw _ (List.mem_of_getElem? (i := 181) rfl))) (by decide) (backOf (W := 4) (rm_a22_0 l Z a0 hw [] dc kdc el ee kee ca cc eo mo G_dc G_dce G_dcv G_el G_ele G_elf G_eev G_hi G_ca G_bx G_eo G_eoe G_mo (10 : Int32) (3 : Int32) h2 O2_ (by decide)) hZ (hw _ (List.mem_of_getElem? (i := 181) rfl)) (hw _ (List.mem_of_getElem? (i := 149) rfl)) (by decide) (by decide)) (g := (mkF m 32 #[.val (.ref x0), .val (.int (3 : Int32)), .val (.ref mo), .val (.ref b2)] [(.int (3 : Int32)), (.int (10 : Int32)), (.int (0 : Int32)), (.ref b2), (.int (0 : Int32)), (.ref x0)])) rfl (by rw [hml]; rfl) (argsL := [(.int (10 : Int32)), (.int (3 : Int32))]) (rest := [(.int (0 : Int32)), (.ref b2), (.int (0 : Int32)), (.ref x0)]) (lenOf pd_LIIRI rfl) rfl (by show 2 * 0 + _ ≤ _; exact Nat.le_of_eq rfl) (hb hby d21_32) (fun _ _ => ⟨rfl, e2, (by decide : 1 + 0 ≤ _), (by decide : 3 + 0 ≤ _)⟩)
  dsimp only [Pt.U, Pt.locs, Pt.cells, Pt.slots] at X4 l4 y4 z4 st4 hQ4
  subst l4 y4 z4
  obtain ⟨rfl, Nq4, e4⟩ := hQ4
  have N4_ := Fr.app N0 Nq4
  refine Go.step st4 ?_
  show Go _ _ _ _ _ _ _ _ T4 (mkF m 35 #[.val (.ref x0), .val (.int (3 : Int32)), .val (.ref mo), .val (.ref b2)] [(.int (3 : Int32)), (.int (0 : Int32)), (.ref b2), (.int (0 : Int32)), (.ref x0)])
  obtain ⟨cl5, Ar5, q5, -⟩ := id V2
  obtain ⟨T5, h5, L5, X5, e5, N5_, K5_, V5_, st5⟩ := cpA X4 hx hZ hown (hw _ (List.mem_of_getElem? (i := 182) rfl)) (hw _ (List.mem_of_getElem? (i := 185) rfl)) (hw _ (List.mem_of_getElem? (i := 183) rfl)) (hw _ (List.mem_of_getElem? (i := 184) rfl)) e4 (us := [(.ref w2), (.ref w3), (.ref w4)]) (r0.ext E2) V2 (Or.inr ⟨rfl, rfl, ⟨(Sto.ofV Ar5 q5 O2 (Ins.of_exa (Exa.ext E2 r3) (hw _ (List.mem_of_getElem? (i := 153) rfl)))), ⟨(Sto.ofV Ar5 q5 O2 (Ins.of_exa (Exa.ext E2 r2) (hw _ (List.mem_of_getElem? (i := 153) rfl)))), ⟨(Sto.ofV Ar5 q5 O2 (Ins.of_exa (Exa.ext E2 r1) (hw _ (List.mem_of_getElem? (i := 153) rfl)))), trivial⟩⟩⟩⟩) (by decide) (by decide) (by decide) (by decide) (by decide) rfl (by decide) N4_ g_b2 (g := (mkF m 35 #[.val (.ref x0), .val (.int (3 : Int32)), .val (.ref mo), .val (.ref b2)] [(.int (3 : Int32)), (.int (0 : Int32)), (.ref b2), (.int (0 : Int32)), (.ref x0)])) rfl (by rw [hml]; rfl) rfl (hb hby d21_35) (by decide) (W := 0) (by show 2 * 0 + _ ≤ _; exact Nat.le_of_eq rfl) (by decide)
  refine Go.step st5 ?_
  have V5 : Arv Z h5 b2 k2 (.object "java/lang/Object") (3 : Int32) [(.ref w2), (.ref w3), (.ref w4)] .null := V5_
  have O5_ : Ext Z.heap h5 := extKeep O2_ K5_ (allS g_b2 all0)
  have K5 := Keep.trans K2 K5_ (allS (Or.inr sz_b2) all0)
  show Go _ _ _ _ _ _ _ _ T5 (mkF m 38 #[.val (.ref x0), .val (.int (3 : Int32)), .val (.ref mo), .val (.ref b2)] [])
  refine Go.step (fun _ kt_ => XS.aloadN X5.here hx rfl (hb hby d21_38) rfl rfl kt_) ?_
  show Go _ _ _ _ _ _ _ _ T5 (mkF m 39 #[.val (.ref x0), .val (.int (3 : Int32)), .val (.ref mo), .val (.ref b2)] [(.ref b2)])
  exact Go.retA X5 hx Bd.returns rfl rfl hlk (hb hby d21_39) (by decide) (by decide) (by show Q_a21_2 _ _ _ _ _ _ _ _ _ _ _ _ _ _ _ _ _ _ _; rw [e5]; exact ⟨b2, k2, rfl, N5_, K5, sz_b2, (B2.keep K5_), V5, O2⟩)
theorem ef_a20_2 (m : MethodId) (y0 : Addr) (y1 : Int32) : entryFrame m #[(.ref y0), (.int y1)] 2 = mkF m 0 #[.val (.ref y0), .val (.int y1)] [] := by first | (simp [entryFrame, mkF, argsToLocals, Value.category]; done) | rfl
def Q_a20_2 (Z : State) (dc : Addr) (kdc : ClassId) (el : Addr) (ee : Addr) (kee : ClassId) (ca : Addr) (cc : Cell) (eo : Addr) (mo : Addr) (x0 : Addr) (kk1 : ClassId) (w2 : Addr) (w3 : Addr) (w4 : Addr) (h0 : Heap) (v : Option Value) (h : Heap) (L : List Loc) : Prop := ∃ (b2q2 : Addr) (k2q2 : ClassId), v = some (.ref b2q2) ∧ Fr Z.heap.size L ∧ Keep h0 h [] ∧ h0.size ≤ b2q2 ∧ Exa Z h b2q2 "[Ljava/lang/Object;" ∧ Arv Z h b2q2 k2q2 (.object "java/lang/Object") (3 : Int32) [(.ref w2), (.ref w3), (.ref w4)] .null ∧ Ovr Z k2q2 "java/lang/Object"
set_option maxRecDepth 65536 in
set_option maxHeartbeats 40000000 in
theorem rm_a20_2 (l : Launch) (Z : State) (a0 : Array Value) (hw : ∀ d ∈ tables_1, d.before a0 Z = true) (ws : List Jvm.Cond) (dc : Addr) (kdc : ClassId) (el : Addr) (ee : Addr) (kee : ClassId) (ca : Addr) (cc : Cell) (eo : Addr) (mo : Addr) (G_dc : Sta Z Z.heap "java/util/ArrayList" "DEFAULTCAPACITY_EMPTY_ELEMENTDATA" "[Ljava/lang/Object;" (.ref dc)) (G_dce : Exa Z Z.heap dc "[Ljava/lang/Object;") (G_dcv : Arv Z Z.heap dc kdc (.object "java/lang/Object") (0 : Int32) [] .null) (G_el : Sta Z Z.heap "java/util/ImmutableCollections" "EMPTY_LIST" "Ljava/util/ImmutableCollections$ListN;" (.ref el)) (G_ele : Exa Z Z.heap el "java/util/ImmutableCollections$ListN") (G_elf : Fld Z Z.heap el "java/util/ImmutableCollections$ListN" "elements" "[Ljava/lang/Object;" (.ref ee)) (G_eev : Arv Z Z.heap ee kee (.object "java/lang/Object") (0 : Int32) [] .null) (G_hi : Sta Z Z.heap "java/lang/Integer$IntegerCache" "high" "I" (.int (127 : Int32))) (G_ca : Sta Z Z.heap "java/lang/Integer$IntegerCache" "cache" "[Ljava/lang/Integer;" (.ref ca)) (G_bx : Bxs Z ca cc "java/lang/Integer" "I" 256 (fun j => .int (j - 128))) (G_eo : Sta Z Z.heap "java/util/ImmutableCollections" "EMPTY" "Ljava/lang/Object;" (.ref eo)) (G_eoe : Exa Z Z.heap eo "java/lang/Object") (G_mo : MirO Z "[Ljava/lang/Object;" mo) (x0 : Addr) (kk1 : ClassId) (w2 : Addr) (w3 : Addr) (w4 : Addr) (h0 : Heap) (O0 : Ext Z.heap h0) (r0 : Exa Z h0 x0 "[Ljava/lang/Object;") (r1 : Arv Z h0 x0 kk1 (.object "java/lang/Object") (10 : Int32) [(.ref w2), (.ref w3), (.ref w4), .null, .null, .null, .null, .null, .null, .null] .null) (r2 : Exa Z h0 w4 "com/example/wary_lock/warylock/Lease") (r3 : Exa Z h0 w3 "com/example/wary_lock/warylock/Lease") (r4 : Exa Z h0 w2 "com/example/wary_lock/warylock/Lease") :
    MetFree l (⟨"java/util/Arrays", "copyOf", "([Ljava/lang/Object;I)[Ljava/lang/Object;"⟩ : MethodName) (head1 (Jvm.Cond.code (⟨"java/util/Arrays", "copyOf", "([Ljava/lang/Object;I)[Ljava/lang/Object;"⟩ : MethodName) jdk_65_method_119_code 2 (some (.array (.object "java/lang/Object"))) :: ws) ({ frames := 2, cells := 1, slots := 3, locals := 33 } : Room)) (fun a U => a = #[(.ref x0), (.int (3 : Int32))] ∧ Z.Warmed39 U.vm ∧ U.heap = h0) (fun _ _ _ _ _ => True) (fun _ U o U' => ∃ v L, o = .returned v ∧ Q_a20_2 Z dc kdc el ee kee ca cc eo mo x0 kk1 w2 w3 w4 h0 v U'.heap L ∧ FrameEnd U o U' L ({ frames := 2, cells := 1, slots := 3, locals := 33 } : Room).cells ({ frames := 2, cells := 1, slots := 3, locals := 33 } : Room).slots) := by
  refine MetFree.of_bodySF (plainFor_of_name pn_20) hisR ?_
  intro p e s m args below meth c s₁ Bd hml0 hP hK
  obtain ⟨rfl, hZ, hh⟩ := hP
  have hx := Bd.exec
  have hby := Bd.bytes
  have hlk := Bd.notSynchronized
  have hml : c.maxLocals = 2 := hml0
  have hown : s.vm.findClass "java/util/Arrays" = some m.cls := findClass_of_methodNamed Bd.named
  have hnm := (name_of_methodNamed Bd.named Bd.method).1
  have X0 : Stand p l e ({ frames := 2, cells := 1, slots := 3, locals := 33 } : Room) s m #[(.ref x0), (.int (3 : Int32))] below meth c s₁ [] 0 0 := Stand.of_body Bd
  have e0 : s₁.heap = h0 := by rw [← hh, Bd.state]; rfl
  have N0 := Fr.nil Z.heap.size
  show Go FrameEnd p e below s ({ frames := 2, cells := 1, slots := 3, locals := 33 } : Room).cells ({ frames := 2, cells := 1, slots := 3, locals := 33 } : Room).slots (Q_a20_2 Z dc kdc el ee kee ca cc eo mo x0 kk1 w2 w3 w4 h0) s₁ (entryFrame m #[(.ref x0), (.int (3 : Int32))] 2)
  refine Go.cast (ef_a20_2 m x0 (3 : Int32)) ?_
  show Go _ _ _ _ _ _ _ _ s₁ (mkF m 0 #[.val (.ref x0), .val (.int (3 : Int32))] [])
  refine Go.step (fun _ kt_ => XS.aloadN X0.here hx rfl (hb hby d20_0) rfl rfl kt_) ?_
  show Go _ _ _ _ _ _ _ _ s₁ (mkF m 1 #[.val (.ref x0), .val (.int (3 : Int32))] [(.ref x0)])
  refine Go.step (fun _ kt_ => XS.iloadN X0.here hx rfl (hb hby d20_1) rfl kt_) ?_
  show Go _ _ _ _ _ _ _ _ s₁ (mkF m 2 #[.val (.ref x0), .val (.int (3 : Int32))] [(.int (3 : Int32)), (.ref x0)])
  refine Go.step (fun _ kt_ => XS.aloadN X0.here hx rfl (hb hby d20_2) rfl rfl kt_) ?_
  show Go _ _ _ _ _ _ _ _ s₁ (mkF m 3 #[.val (.ref x0), .val (.int (3 : Int32))] [(.ref x0), (.int (3 : Int32)), (.ref x0)])
  obtain ⟨T1, X1, e1, st1⟩ := own_gcls X0 hx hZ hown (hw _ (List.mem_of_getElem? (i := 168) rfl)) (hw _ (List.mem_of_getElem? (i := 169) rfl)) (hw _ (List.mem_of_getElem? (i := 55) rfl)) (hw _ (List.mem_of_getElem? (i := 171) rfl)) (hw _ (List.mem_of_getElem? (i := 170) rfl)) (hw _ (List.mem_of_getElem? (i := 172) rfl)) e0 r0 G_mo (g := (mkF m 3 #[.val (.ref x0), .val (.int (3 : Int32))] [(.ref x0), (.int (3 : Int32)), (.ref x0)])) rfl (by rw [hml]; rfl) rfl (hb hby d20_3) (by decide) (W := 2) (by show 2 * 0 + _ ≤ _; exact Nat.le_of_eq rfl) (by decide)
  refine Go.step st1 ?_
  show Go _ _ _ _ _ _ _ _ T1 (mkF m 6 #[.val (.ref x0), .val (.int (3 : Int32))] [(.ref mo), (.int (3 : Int32)), (.ref x0)])
  obtain ⟨_, _, ⟨T2, L2, k2, n2⟩, -, X2, ⟨Lc2, hQ2, l2, y2, z2⟩, st2⟩ := Jvm.LawKit.callS X1 hx (y := (⟨"java/util/Arrays", "copyOf", "([Ljava/lang/Object;ILjava/lang/Class;)[Ljava/lang/Object;"⟩ : MethodName)) hown (mvT hZ (hw _ (List.mem_of_getElem? (i := 174) rfl))) (mvT hZ (hw _ (List.mem_of_getElem? (i := 175) rfl))) (mvT hZ (hw _ (List.mem_of_getElem? (i := 166) rfl))) (mvT hZ (hw _ (List.mem_of_getElem? (i := 176) rfl))) (by decide) (backOf (W := 0) (rm_a21_2 l Z a0 hw [] dc kdc el ee kee ca cc eo mo G_dc G_dce G_dcv G_el G_ele G_elf G_eev G_hi G_ca G_bx G_eo G_eoe G_mo x0 kk1 w2 w3 w4 h0 O0 r1 r2 r3 r4) hZ (hw _ (List.mem_of_getElem? (i := 176) rfl)) (hw _ (List.mem_of_getElem? (i := 166) rfl)) (by decide) (by decide)) (g := (mkF m 6 #[.val (.ref x0), .val (.int (3 : Int32))] [(.ref mo), (.int (3 : Int32)), (.ref x0)])) rfl (by rw [hml]; rfl) (argsL := [(.ref x0), (.int (3 : Int32)), (.ref mo)]) (rest := []) (lenOf pd_LALjava_lang_Object_ILjava_lang_Class_RALjava_lang_Object_ rfl) rfl (by show 2 * 0 + _ ≤ _; exact Nat.le_of_eq rfl) (hb hby d20_6) (fun _ _ => ⟨rfl, e1, (by decide : 0 + 1 ≤ _), (by decide : 0 + 3 ≤ _)⟩)
  dsimp only [Pt.U, Pt.locs, Pt.cells, Pt.slots] at X2 l2 y2 z2 st2 hQ2
  subst l2 y2 z2
  obtain ⟨b2q2, k2q2, rfl, Nq2, Kq2, p2_0, p2_1, p2_2, p2_3⟩ := hQ2
  have O2_ : Ext Z.heap T2.heap := extKeep O0 Kq2 all0
  have K2 := Keep.trans (Keep.refl h0 []) Kq2 all0
  have N2_ := Fr.app N0 Nq2
  have g_b2q2 : Z.heap.size ≤ b2q2 := Nat.le_trans O0.1 p2_0
  have sz_b2q2 : h0.size ≤ b2q2 := Nat.le_trans (Keep.refl h0 []).1 p2_0
  refine Go.step st2 ?_
  show Go _ _ _ _ _ _ _ _ T2 (mkF m 9 #[.val (.ref x0), .val (.int (3 : Int32))] [(.ref b2q2)])
  exact Go.retA X2 hx Bd.returns rfl rfl hlk (hb hby d20_9) (by decide) (by decide) ⟨b2q2, k2q2, rfl, N2_, K2, sz_b2q2, p2_1, p2_2, p2_3⟩
theorem ef_a19_2 (m : MethodId) (y0 : Addr) : entryFrame m #[(.ref y0)] 1 = mkF m 0 #[.val (.ref y0)] [] := by first | (simp [entryFrame, mkF, argsToLocals, Value.category]; done) | rfl
def Q_a19_2 (Z : State) (dc : Addr) (kdc : ClassId) (el : Addr) (ee : Addr) (kee : ClassId) (ca : Addr) (cc : Cell) (eo : Addr) (mo : Addr) (x0 : Addr) (w1 : Addr) (kk2 : ClassId) (w3 : Addr) (w4 : Addr) (w5 : Addr) (h0 : Heap) (v : Option Value) (h : Heap) (L : List Loc) : Prop := ∃ (b2q2q3 : Addr) (k2q2q3 : ClassId), v = some (.ref b2q2q3) ∧ Fr Z.heap.size L ∧ Keep h0 h [] ∧ h0.size ≤ b2q2q3 ∧ Exa Z h b2q2q3 "[Ljava/lang/Object;" ∧ Arv Z h b2q2q3 k2q2q3 (.object "java/lang/Object") (3 : Int32) [(.ref w3), (.ref w4), (.ref w5)] .null ∧ Ovr Z k2q2q3 "java/lang/Object"
set_option maxRecDepth 65536 in
set_option maxHeartbeats 40000000 in
theorem rm_a19_2 (l : Launch) (Z : State) (a0 : Array Value) (hw : ∀ d ∈ tables_1, d.before a0 Z = true) (ws : List Jvm.Cond) (dc : Addr) (kdc : ClassId) (el : Addr) (ee : Addr) (kee : ClassId) (ca : Addr) (cc : Cell) (eo : Addr) (mo : Addr) (G_dc : Sta Z Z.heap "java/util/ArrayList" "DEFAULTCAPACITY_EMPTY_ELEMENTDATA" "[Ljava/lang/Object;" (.ref dc)) (G_dce : Exa Z Z.heap dc "[Ljava/lang/Object;") (G_dcv : Arv Z Z.heap dc kdc (.object "java/lang/Object") (0 : Int32) [] .null) (G_el : Sta Z Z.heap "java/util/ImmutableCollections" "EMPTY_LIST" "Ljava/util/ImmutableCollections$ListN;" (.ref el)) (G_ele : Exa Z Z.heap el "java/util/ImmutableCollections$ListN") (G_elf : Fld Z Z.heap el "java/util/ImmutableCollections$ListN" "elements" "[Ljava/lang/Object;" (.ref ee)) (G_eev : Arv Z Z.heap ee kee (.object "java/lang/Object") (0 : Int32) [] .null) (G_hi : Sta Z Z.heap "java/lang/Integer$IntegerCache" "high" "I" (.int (127 : Int32))) (G_ca : Sta Z Z.heap "java/lang/Integer$IntegerCache" "cache" "[Ljava/lang/Integer;" (.ref ca)) (G_bx : Bxs Z ca cc "java/lang/Integer" "I" 256 (fun j => .int (j - 128))) (G_eo : Sta Z Z.heap "java/util/ImmutableCollections" "EMPTY" "Ljava/lang/Object;" (.ref eo)) (G_eoe : Exa Z Z.heap eo "java/lang/Object") (G_mo : MirO Z "[Ljava/lang/Object;" mo) (x0 : Addr) (w1 : Addr) (kk2 : ClassId) (w3 : Addr) (w4 : Addr) (w5 : Addr) (h0 : Heap) (O0 : Ext Z.heap h0) (r0 : Fld Z h0 x0 "java/util/ArrayList" "elementData" "[Ljava/lang/Object;" (.ref w1)) (r1 : Fld Z h0 x0 "java/util/ArrayList" "size" "I" (.int (3 : Int32))) (r2 : Exa Z h0 w1 "[Ljava/lang/Object;") (r3 : Arv Z h0 w1 kk2 (.object "java/lang/Object") (10 : Int32) [(.ref w3), (.ref w4), (.ref w5), .null, .null, .null, .null, .null, .null, .null] .null) (r4 : Exa Z h0 w5 "com/example/wary_lock/warylock/Lease") (r5 : Exa Z h0 w4 "com/example/wary_lock/warylock/Lease") (r6 : Exa Z h0 w3 "com/example/wary_lock/warylock/Lease") :
    MetFree l (⟨"java/util/ArrayList", "toArray", "()[Ljava/lang/Object;"⟩ : MethodName) (head1 (Jvm.Cond.code (⟨"java/util/ArrayList", "toArray", "()[Ljava/lang/Object;"⟩ : MethodName) jdk_38_method_16_code 1 (some (.array (.object "java/lang/Object"))) :: ws) ({ frames := 3, cells := 1, slots := 3, locals := 46 } : Room)) (fun a U => a = #[(.ref x0)] ∧ Z.Warmed39 U.vm ∧ U.heap = h0) (fun _ _ _ _ _ => True) (fun _ U o U' => ∃ v L, o = .returned v ∧ Q_a19_2 Z dc kdc el ee kee ca cc eo mo x0 w1 kk2 w3 w4 w5 h0 v U'.heap L ∧ FrameEnd U o U' L ({ frames := 3, cells := 1, slots := 3, locals := 46 } : Room).cells ({ frames := 3, cells := 1, slots := 3, locals := 46 } : Room).slots) := by
  refine MetFree.of_bodySF (plainFor_of_name pn_19) hisR ?_
  intro p e s m args below meth c s₁ Bd hml0 hP hK
  obtain ⟨rfl, hZ, hh⟩ := hP
  have hx := Bd.exec
  have hby := Bd.bytes
  have hlk := Bd.notSynchronized
  have hml : c.maxLocals = 1 := hml0
  have hown : s.vm.findClass "java/util/ArrayList" = some m.cls := findClass_of_methodNamed Bd.named
  have hnm := (name_of_methodNamed Bd.named Bd.method).1
  have X0 : Stand p l e ({ frames := 3, cells := 1, slots := 3, locals := 46 } : Room) s m #[(.ref x0)] below meth c s₁ [] 0 0 := Stand.of_body Bd
  have e0 : s₁.heap = h0 := by rw [← hh, Bd.state]; rfl
  have N0 := Fr.nil Z.heap.size
  show Go FrameEnd p e below s ({ frames := 3, cells := 1, slots := 3, locals := 46 } : Room).cells ({ frames := 3, cells := 1, slots := 3, locals := 46 } : Room).slots (Q_a19_2 Z dc kdc el ee kee ca cc eo mo x0 w1 kk2 w3 w4 w5 h0) s₁ (entryFrame m #[(.ref x0)] 1)
  refine Go.cast (ef_a19_2 m x0) ?_
  show Go _ _ _ _ _ _ _ _ s₁ (mkF m 0 #[.val (.ref x0)] [])
  refine Go.step (fun _ kt_ => XS.aloadN X0.here hx rfl (hb hby d19_0) rfl rfl kt_) ?_
  show Go _ _ _ _ _ _ _ _ s₁ (mkF m 1 #[.val (.ref x0)] [(.ref x0)])
  obtain ⟨T1, X1, e1, st1⟩ := getF X0 hx hZ hown (host := "") (Or.inl (hw _ (List.mem_of_getElem? (i := 29) rfl))) Via.refl e0 r0 (g := (mkF m 1 #[.val (.ref x0)] [(.ref x0)])) rfl rfl (hb hby d19_1)
  refine Go.step st1 ?_
  show Go _ _ _ _ _ _ _ _ T1 (mkF m 4 #[.val (.ref x0)] [(.ref w1)])
  refine Go.step (fun _ kt_ => XS.aloadN X1.here hx rfl (hb hby d19_4) rfl rfl kt_) ?_
  show Go _ _ _ _ _ _ _ _ T1 (mkF m 5 #[.val (.ref x0)] [(.ref x0), (.ref w1)])
  obtain ⟨T2, X2, e2, st2⟩ := getF X1 hx hZ hown (host := "") (Or.inl (hw _ (List.mem_of_getElem? (i := 66) rfl))) Via.refl e1 r1 (g := (mkF m 5 #[.val (.ref x0)] [(.ref x0), (.ref w1)])) rfl rfl (hb hby d19_5)
  refine Go.step st2 ?_
  show Go _ _ _ _ _ _ _ _ T2 (mkF m 8 #[.val (.ref x0)] [(.int (3 : Int32)), (.ref w1)])
  obtain ⟨_, _, ⟨T3, L3, k3, n3⟩, -, X3, ⟨Lc3, hQ3, l3, y3, z3⟩, st3⟩ := Jvm.LawKit.callS X2 hx (y := (⟨"java/util/Arrays", "copyOf", "([Ljava/lang/Object;I)[Ljava/lang/Object;"⟩ : MethodName)) hown (mvT hZ (hw _ (List.mem_of_getElem? (i := 164) rfl))) (mvT hZ (hw _ (List.mem_of_getElem? (i := 165) rfl))) (mvT hZ (hw _ (List.mem_of_getElem? (i := 166) rfl))) (mvT hZ (hw _ (List.mem_of_getElem? (i := 167) rfl))) (by decide) (backOf (W := 0) (rm_a20_2 l Z a0 hw [] dc kdc el ee kee ca cc eo mo G_dc G_dce G_dcv G_el G_ele G_elf G_eev G_hi G_ca G_bx G_eo G_eoe G_mo w1 kk2 w3 w4 w5 h0 O0 r2 r3 r4 r5 r6) hZ (hw _ (List.mem_of_getElem? (i := 167) rfl)) (hw _ (List.mem_of_getElem? (i := 166) rfl)) (by decide) (by decide)) (g := (mkF m 8 #[.val (.ref x0)] [(.int (3 : Int32)), (.ref w1)])) rfl (by rw [hml]; rfl) (argsL := [(.ref w1), (.int (3 : Int32))]) (rest := []) (lenOf pd_LALjava_lang_Object_IRALjava_lang_Object_ rfl) rfl (by show 2 * 0 + _ ≤ _; exact Nat.le_of_eq rfl) (hb hby d19_8) (fun _ _ => ⟨rfl, e2, (by decide : 0 + 1 ≤ _), (by decide : 0 + 3 ≤ _)⟩)
  dsimp only [Pt.U, Pt.locs, Pt.cells, Pt.slots] at X3 l3 y3 z3 st3 hQ3
  subst l3 y3 z3
  obtain ⟨b2q2q3, k2q2q3, rfl, Nq3, Kq3, p3_0, p3_1, p3_2, p3_3⟩ := hQ3
  have O3_ : Ext Z.heap T3.heap := extKeep O0 Kq3 all0
  have K3 := Keep.trans (Keep.refl h0 []) Kq3 all0
  have N3_ := Fr.app N0 Nq3
  have g_b2q2q3 : Z.heap.size ≤ b2q2q3 := Nat.le_trans O0.1 p3_0
  have sz_b2q2q3 : h0.size ≤ b2q2q3 := Nat.le_trans (Keep.refl h0 []).1 p3_0
  refine Go.step st3 ?_
  show Go _ _ _ _ _ _ _ _ T3 (mkF m 11 #[.val (.ref x0)] [(.ref b2q2q3)])
  exact Go.retA X3 hx Bd.returns rfl rfl hlk (hb hby d19_11) (by decide) (by decide) ⟨b2q2q3, k2q2q3, rfl, N3_, K3, sz_b2q2q3, p3_1, p3_2, p3_3⟩
theorem d23_59 : decode jdk_40_method_47_code 59 = .ok (.aload_n 0, 1) := by decide +kernel
theorem d23_60 : decode jdk_40_method_47_code 60 = .ok (.invokestatic 109, 3) := by decide +kernel
theorem d24_0 : decode jdk_56_method_4_code 0 = .ok (.aload_n 0, 1) := by decide +kernel
theorem d24_1 : decode jdk_56_method_4_code 1 = .ok (.arraylength, 1) := by decide +kernel
theorem d24_2 : decode jdk_56_method_4_code 2 = .ok (.anewarray 2, 3) := by decide +kernel
theorem d24_5 : decode jdk_56_method_4_code 5 = .ok (.astore_n 1, 1) := by decide +kernel
theorem d24_6 : decode jdk_56_method_4_code 6 = .ok (.iconst 0, 1) := by decide +kernel
theorem d24_7 : decode jdk_56_method_4_code 7 = .ok (.istore_n 2, 1) := by decide +kernel
theorem d24_8 : decode jdk_56_method_4_code 8 = .ok (.iload_n 2, 1) := by decide +kernel
theorem d24_9 : decode jdk_56_method_4_code 9 = .ok (.aload_n 0, 1) := by decide +kernel
theorem d24_10 : decode jdk_56_method_4_code 10 = .ok (.arraylength, 1) := by decide +kernel
theorem d24_11 : decode jdk_56_method_4_code 11 = .ok (.if_icmp .ge 18, 3) := by decide +kernel
theorem d24_14 : decode jdk_56_method_4_code 14 = .ok (.aload_n 1, 1) := by decide +kernel
theorem d24_15 : decode jdk_56_method_4_code 15 = .ok (.iload_n 2, 1) := by decide +kernel
theorem d24_16 : decode jdk_56_method_4_code 16 = .ok (.aload_n 0, 1) := by decide +kernel
theorem d24_17 : decode jdk_56_method_4_code 17 = .ok (.iload_n 2, 1) := by decide +kernel
theorem d24_18 : decode jdk_56_method_4_code 18 = .ok (.aaload, 1) := by decide +kernel
theorem d24_19 : decode jdk_56_method_4_code 19 = .ok (.invokestatic 37, 3) := by decide +kernel
theorem d24_22 : decode jdk_56_method_4_code 22 = .ok (.aastore, 1) := by decide +kernel
theorem d24_23 : decode jdk_56_method_4_code 23 = .ok (.iinc 2 1, 3) := by decide +kernel
theorem d24_26 : decode jdk_56_method_4_code 26 = .ok (.goto (-18), 3) := by decide +kernel
theorem d24_29 : decode jdk_56_method_4_code 29 = .ok (.new 12, 3) := by decide +kernel
theorem pf_Z : parseFieldDescriptor "Z" = some .boolean := by decide
theorem d24_32 : decode jdk_56_method_4_code 32 = .ok (.dup, 1) := by decide +kernel
theorem d24_33 : decode jdk_56_method_4_code 33 = .ok (.aload_n 1, 1) := by decide +kernel
theorem d24_34 : decode jdk_56_method_4_code 34 = .ok (.iconst 0, 1) := by decide +kernel
theorem d24_35 : decode jdk_56_method_4_code 35 = .ok (.invokespecial 43, 3) := by decide +kernel
theorem d26_0 : decode jdk_45_method_1_code 0 = .ok (.aload_n 0, 1) := by decide +kernel
theorem d26_1 : decode jdk_45_method_1_code 1 = .ok (.invokespecial 1, 3) := by decide +kernel
theorem d26_4 : decode jdk_45_method_1_code 4 = .ok (.aload_n 0, 1) := by decide +kernel
theorem d26_5 : decode jdk_45_method_1_code 5 = .ok (.aload_n 1, 1) := by decide +kernel
theorem d26_6 : decode jdk_45_method_1_code 6 = .ok (.putfield 7, 3) := by decide +kernel
theorem d26_9 : decode jdk_45_method_1_code 9 = .ok (.aload_n 0, 1) := by decide +kernel
theorem d26_10 : decode jdk_45_method_1_code 10 = .ok (.iload_n 2, 1) := by decide +kernel
theorem d26_11 : decode jdk_45_method_1_code 11 = .ok (.putfield 13, 3) := by decide +kernel
theorem sn_33 {Z : State} {a0 : Array Value} (hw : ∀ d ∈ tables_1, d.before a0 Z = true) : Jvm.RoadKit.slotOf Z "java/util/ImmutableCollections$ListN" "allowNulls" "Z" ≠ Jvm.RoadKit.slotOf Z "java/util/ImmutableCollections$ListN" "elements" "[Ljava/lang/Object;" := slot_ne (Or.inr (hw _ (List.mem_of_getElem? (i := 217) rfl))) (Or.inr (hw _ (List.mem_of_getElem? (i := 92) rfl))) (by decide) pf_Z pf_ALjava_lang_Object_
theorem d26_14 : decode jdk_45_method_1_code 14 = .ok (.return_, 1) := by decide +kernel
theorem pn_26 : plainName "java/util/ImmutableCollections$ListN" = true := by first | (simp [plainName, overriddenIn]; done) | decide +kernel
theorem ef_a26_0 (m : MethodId) (y0 : Addr) (y1 : Addr) (y2 : Int32) : entryFrame m #[(.ref y0), (.ref y1), (.int y2)] 3 = mkF m 0 #[.val (.ref y0), .val (.ref y1), .val (.int y2)] [] := by first | (simp [entryFrame, mkF, argsToLocals, Value.category]; done) | rfl
def Q_a26_0 (Z : State) (dc : Addr) (kdc : ClassId) (el : Addr) (ee : Addr) (kee : ClassId) (ca : Addr) (cc : Cell) (eo : Addr) (mo : Addr) (x0 : Addr) (x1 : Addr) (x2 : Int32) (w1 : Int32) (h0 : Heap) (v : Option Value) (h : Heap) (L : List Loc) : Prop := v = none ∧ Fr Z.heap.size L ∧ Keep h0 h [x0] ∧ Fld Z h x0 "java/util/ImmutableCollections$ListN" "elements" "[Ljava/lang/Object;" (.ref x1) ∧ Fld Z h x0 "java/util/ImmutableCollections$ListN" "allowNulls" "Z" (.int ((x2 &&& 1)))
set_option maxRecDepth 65536 in
set_option maxHeartbeats 40000000 in
theorem rm_a26_0 (l : Launch) (Z : State) (a0 : Array Value) (hw : ∀ d ∈ tables_1, d.before a0 Z = true) (ws : List Jvm.Cond) (dc : Addr) (kdc : ClassId) (el : Addr) (ee : Addr) (kee : ClassId) (ca : Addr) (cc : Cell) (eo : Addr) (mo : Addr) (G_dc : Sta Z Z.heap "java/util/ArrayList" "DEFAULTCAPACITY_EMPTY_ELEMENTDATA" "[Ljava/lang/Object;" (.ref dc)) (G_dce : Exa Z Z.heap dc "[Ljava/lang/Object;") (G_dcv : Arv Z Z.heap dc kdc (.object "java/lang/Object") (0 : Int32) [] .null) (G_el : Sta Z Z.heap "java/util/ImmutableCollections" "EMPTY_LIST" "Ljava/util/ImmutableCollections$ListN;" (.ref el)) (G_ele : Exa Z Z.heap el "java/util/ImmutableCollections$ListN") (G_elf : Fld Z Z.heap el "java/util/ImmutableCollections$ListN" "elements" "[Ljava/lang/Object;" (.ref ee)) (G_eev : Arv Z Z.heap ee kee (.object "java/lang/Object") (0 : Int32) [] .null) (G_hi : Sta Z Z.heap "java/lang/Integer$IntegerCache" "high" "I" (.int (127 : Int32))) (G_ca : Sta Z Z.heap "java/lang/Integer$IntegerCache" "cache" "[Ljava/lang/Integer;" (.ref ca)) (G_bx : Bxs Z ca cc "java/lang/Integer" "I" 256 (fun j => .int (j - 128))) (G_eo : Sta Z Z.heap "java/util/ImmutableCollections" "EMPTY" "Ljava/lang/Object;" (.ref eo)) (G_eoe : Exa Z Z.heap eo "java/lang/Object") (G_mo : MirO Z "[Ljava/lang/Object;" mo) (x0 : Addr) (x1 : Addr) (x2 : Int32) (w1 : Int32) (h0 : Heap) (O0 : Ext Z.heap h0) (r0 : Exa Z h0 x0 "java/util/ImmutableCollections$ListN") (r1 : Fld Z h0 x0 "java/util/ImmutableCollections$ListN" "elements" "[Ljava/lang/Object;" .null) (r2 : Z.heap.size ≤ x0) (r3 : Fld Z h0 x0 "java/util/ImmutableCollections$ListN" "allowNulls" "Z" (.int w1)) :
    MetFree l (⟨"java/util/ImmutableCollections$ListN", "<init>", "([Ljava/lang/Object;Z)V"⟩ : MethodName) (head1 (Jvm.Cond.code (⟨"java/util/ImmutableCollections$ListN", "<init>", "([Ljava/lang/Object;Z)V"⟩ : MethodName) jdk_45_method_1_code 3 none :: ws) ({ frames := 4, cells := 0, slots := 0, locals := 48 } : Room)) (fun a U => a = #[(.ref x0), (.ref x1), (.int x2)] ∧ Z.Warmed39 U.vm ∧ U.heap = h0) (fun _ _ _ _ _ => True) (fun _ U o U' => ∃ v L, o = .returned v ∧ Q_a26_0 Z dc kdc el ee kee ca cc eo mo x0 x1 x2 w1 h0 v U'.heap L ∧ FrameEnd U o U' L ({ frames := 4, cells := 0, slots := 0, locals := 48 } : Room).cells ({ frames := 4, cells := 0, slots := 0, locals := 48 } : Room).slots) := by
  refine MetFree.of_bodySF (plainFor_of_name pn_26) hisR ?_
  intro p e s m args below meth c s₁ Bd hml0 hP hK
  obtain ⟨rfl, hZ, hh⟩ := hP
  have hx := Bd.exec
  have hby := Bd.bytes
  have hlk := Bd.notSynchronized
  have hml : c.maxLocals = 3 := hml0
  have hown : s.vm.findClass "java/util/ImmutableCollections$ListN" = some m.cls := findClass_of_methodNamed Bd.named
  have hnm := (name_of_methodNamed Bd.named Bd.method).1
  have X0 : Stand p l e ({ frames := 4, cells := 0, slots := 0, locals := 48 } : Room) s m #[(.ref x0), (.ref x1), (.int x2)] below meth c s₁ [] 0 0 := Stand.of_body Bd
  have e0 : s₁.heap = h0 := by rw [← hh, Bd.state]; rfl
  have N0 := Fr.nil Z.heap.size
  show Go FrameEnd p e below s ({ frames := 4, cells := 0, slots := 0, locals := 48 } : Room).cells ({ frames := 4, cells := 0, slots := 0, locals := 48 } : Room).slots (Q_a26_0 Z dc kdc el ee kee ca cc eo mo x0 x1 x2 w1 h0) s₁ (entryFrame m #[(.ref x0), (.ref x1), (.int x2)] 3)
  refine Go.cast (ef_a26_0 m x0 x1 x2) ?_
  show Go _ _ _ _ _ _ _ _ s₁ (mkF m 0 #[.val (.ref x0), .val (.ref x1), .val (.int x2)] [])
  refine Go.step (fun _ kt_ => XS.aloadN X0.here hx rfl (hb hby d26_0) rfl rfl kt_) ?_
  show Go _ _ _ _ _ _ _ _ s₁ (mkF m 1 #[.val (.ref x0), .val (.ref x1), .val (.int x2)] [(.ref x0)])
  obtain ⟨_, _, ⟨T1, L1, k1, n1⟩, -, X1, ⟨Lc1, hQ1, l1, y1, z1⟩, st1⟩ := X0.specialBack hx (y := (⟨"java/util/ImmutableCollections$AbstractImmutableList", "<init>", "()V"⟩ : MethodName)) rfl hown (mvT hZ (hw _ (List.mem_of_getElem? (i := 202) rfl))) (mvT hZ (hw _ (List.mem_of_getElem? (i := 203) rfl))) (mvT hZ (hw _ (List.mem_of_getElem? (i := 207) rfl))) (by decide) (backOf (W := 0) (rm_a27_0 l Z a0 hw [] dc kdc el ee kee ca cc eo mo G_dc G_dce G_dcv G_el G_ele G_elf G_eev G_hi G_ca G_bx G_eo G_eoe G_mo x0 h0 O0 ) hZ (hw _ (List.mem_of_getElem? (i := 207) rfl)) (hw _ (List.mem_of_getElem? (i := 206) rfl)) (by decide) (by decide)) (g := (mkF m 1 #[.val (.ref x0), .val (.ref x1), .val (.int x2)] [(.ref x0)])) rfl (by rw [hml]; rfl) (Steps.refl _) (a := x0) (argsL := []) (rest := []) (lenOf pd_LRV rfl) rfl (by show 2 * 0 + _ ≤ _; exact Nat.le_of_eq rfl) (hb hby d26_1) (fun _ _ => ⟨rfl, e0, (by decide : 0 + 0 ≤ _), (by decide : 0 + 0 ≤ _)⟩)
  dsimp only [Pt.U, Pt.locs, Pt.cells, Pt.slots] at X1 l1 y1 z1 st1 hQ1
  subst l1 y1 z1
  obtain ⟨rfl, Nq1, e1⟩ := hQ1
  have N1_ := Fr.app N0 Nq1
  refine Go.trans st1 ?_
  show Go _ _ _ _ _ _ _ _ T1 (mkF m 4 #[.val (.ref x0), .val (.ref x1), .val (.int x2)] [])
  refine Go.step (fun _ kt_ => XS.aloadN X1.here hx rfl (hb hby d26_4) rfl rfl kt_) ?_
  show Go _ _ _ _ _ _ _ _ T1 (mkF m 5 #[.val (.ref x0), .val (.ref x1), .val (.int x2)] [(.ref x0)])
  refine Go.step (fun _ kt_ => XS.aloadN X1.here hx rfl (hb hby d26_5) rfl rfl kt_) ?_
  show Go _ _ _ _ _ _ _ _ T1 (mkF m 6 #[.val (.ref x0), .val (.ref x1), .val (.int x2)] [(.ref x1), (.ref x0)])
  obtain ⟨T2, h2, X2, e2, W2, st2⟩ := putF X1 hx hZ hown (host := "") (Or.inl (hw _ (List.mem_of_getElem? (i := 91) rfl))) Via.refl e1 r1 r0 (Or.inr ⟨(hw _ (List.mem_of_getElem? (i := 92) rfl)), rfl, hnm⟩) (hw _ (List.mem_of_getElem? (i := 197) rfl)) (ty := (.array (.object "java/lang/Object"))) pf_ALjava_lang_Object_ rfl rfl (g := (mkF m 6 #[.val (.ref x0), .val (.ref x1), .val (.int x2)] [(.ref x1), (.ref x0)])) rfl rfl (hb hby d26_6)
  refine Go.step st2 ?_
  have N2_ := Fr.snoc X2 N1_ r2
  have O2_ : Ext Z.heap h2 := extWr O0 W2 r2
  have K2 := Keep.wr (Keep.refl h0 [x0]) W2 (Or.inl (List.mem_of_getElem? (i := 0) rfl))
  have F2 := Fld.same W2 r1
  show Go _ _ _ _ _ _ _ _ T2 (mkF m 9 #[.val (.ref x0), .val (.ref x1), .val (.int x2)] [])
  refine Go.step (fun _ kt_ => XS.aloadN X2.here hx rfl (hb hby d26_9) rfl rfl kt_) ?_
  show Go _ _ _ _ _ _ _ _ T2 (mkF m 10 #[.val (.ref x0), .val (.ref x1), .val (.int x2)] [(.ref x0)])
  refine Go.step (fun _ kt_ => XS.iloadN X2.here hx rfl (hb hby d26_10) rfl kt_) ?_
  show Go _ _ _ _ _ _ _ _ T2 (mkF m 11 #[.val (.ref x0), .val (.ref x1), .val (.int x2)] [(.int x2), (.ref x0)])
  obtain ⟨T3, h3, X3, e3, W3, st3⟩ := putFN X2 hx hZ hown (hw _ (List.mem_of_getElem? (i := 216) rfl)) Via.refl e2 (Fld.other W2 r3 (Or.inr (sn_33 hw))) (Exa.wr W2 r0) (Or.inr ⟨(hw _ (List.mem_of_getElem? (i := 217) rfl)), rfl, hnm⟩) (hw _ (List.mem_of_getElem? (i := 197) rfl)) (ty := .boolean) (v' := (.int ((x2 &&& 1)))) pf_Z rfl (fits_nar_bool _) (g := (mkF m 11 #[.val (.ref x0), .val (.ref x1), .val (.int x2)] [(.int x2), (.ref x0)])) rfl rfl (hb hby d26_11)
  refine Go.step st3 ?_
  have N3_ := Fr.snoc X3 N2_ r2
  have O3_ : Ext Z.heap h3 := extWr O2_ W3 r2
  have K3 := Keep.wr K2 W3 (Or.inl (List.mem_of_getElem? (i := 0) rfl))
  have F3 := Fld.same W3 (Fld.other W2 r3 (Or.inr (sn_33 hw)))
  show Go _ _ _ _ _ _ _ _ T3 (mkF m 14 #[.val (.ref x0), .val (.ref x1), .val (.int x2)] [])
  exact Go.retV X3 hx Bd.returns hlk (hb hby d26_14) (by decide) (by decide) (by show Q_a26_0 _ _ _ _ _ _ _ _ _ _ _ _ _ _ _ _ _ _; rw [e3]; exact ⟨rfl, N3_, K3, (Fld.other W3 F2 (Or.inr (Ne.symm (sn_33 hw)))), F3⟩)
theorem pd_LALjava_lang_Object_ZRV : parseMethodDescriptor "([Ljava/lang/Object;Z)V" = some ⟨[(.array (.object "java/lang/Object")), .boolean], none⟩ := by decide +kernel
theorem d24_38 : decode jdk_56_method_4_code 38 = .ok (.areturn, 1) := by decide +kernel
theorem pn_24 : plainName "java/util/ImmutableCollections" = true := by first | (simp [plainName, overriddenIn]; done) | decide +kernel
theorem ef_a24_0 (m : MethodId) (y0 : Addr) : entryFrame m #[(.ref y0)] 3 = mkF m 0 #[.val (.ref y0), .unset, .unset] [] := by first | (simp [entryFrame, mkF, argsToLocals, Value.category]; done) | rfl
def Q_a24_0 (Z : State) (dc : Addr) (kdc : ClassId) (el : Addr) (ee : Addr) (kee : ClassId) (ca : Addr) (cc : Cell) (eo : Addr) (mo : Addr) (x0 : Addr) (kk1 : ClassId) (w2 : Addr) (w3 : Addr) (w4 : Addr) (h0 : Heap) (v : Option Value) (h : Heap) (L : List Loc) : Prop := ∃ (b19 : Addr) (b2 : Addr) (k2 : ClassId), v = some (.ref b19) ∧ Fr Z.heap.size L ∧ Keep h0 h [] ∧ h0.size ≤ b19 ∧ Exa Z h b19 "java/util/ImmutableCollections$ListN" ∧ Fld Z h b19 "java/util/ImmutableCollections$ListN" "elements" "[Ljava/lang/Object;" (.ref b2) ∧ Fld Z h b19 "java/util/ImmutableCollections$ListN" "allowNulls" "Z" (.int (0 : Int32)) ∧ h0.size ≤ b2 ∧ Exa Z h b2 "[Ljava/lang/Object;" ∧ Arv Z h b2 k2 (.object "java/lang/Object") (3 : Int32) [(.ref w2), (.ref w3), (.ref w4)] .null ∧ Ovr Z k2 "java/lang/Object" ∧ b19 ≠ b2
set_option maxRecDepth 65536 in
set_option maxHeartbeats 40000000 in
theorem rm_a24_0 (l : Launch) (Z : State) (a0 : Array Value) (hw : ∀ d ∈ tables_1, d.before a0 Z = true) (ws : List Jvm.Cond) (dc : Addr) (kdc : ClassId) (el : Addr) (ee : Addr) (kee : ClassId) (ca : Addr) (cc : Cell) (eo : Addr) (mo : Addr) (G_dc : Sta Z Z.heap "java/util/ArrayList" "DEFAULTCAPACITY_EMPTY_ELEMENTDATA" "[Ljava/lang/Object;" (.ref dc)) (G_dce : Exa Z Z.heap dc "[Ljava/lang/Object;") (G_dcv : Arv Z Z.heap dc kdc (.object "java/lang/Object") (0 : Int32) [] .null) (G_el : Sta Z Z.heap "java/util/ImmutableCollections" "EMPTY_LIST" "Ljava/util/ImmutableCollections$ListN;" (.ref el)) (G_ele : Exa Z Z.heap el "java/util/ImmutableCollections$ListN") (G_elf : Fld Z Z.heap el "java/util/ImmutableCollections$ListN" "elements" "[Ljava/lang/Object;" (.ref ee)) (G_eev : Arv Z Z.heap ee kee (.object "java/lang/Object") (0 : Int32) [] .null) (G_hi : Sta Z Z.heap "java/lang/Integer$IntegerCache" "high" "I" (.int (127 : Int32))) (G_ca : Sta Z Z.heap "java/lang/Integer$IntegerCache" "cache" "[Ljava/lang/Integer;" (.ref ca)) (G_bx : Bxs Z ca cc "java/lang/Integer" "I" 256 (fun j => .int (j - 128))) (G_eo : Sta Z Z.heap "java/util/ImmutableCollections" "EMPTY" "Ljava/lang/Object;" (.ref eo)) (G_eoe : Exa Z Z.heap eo "java/lang/Object") (G_mo : MirO Z "[Ljava/lang/Object;" mo) (x0 : Addr) (kk1 : ClassId) (w2 : Addr) (w3 : Addr) (w4 : Addr) (h0 : Heap) (O0 : Ext Z.heap h0) (r0 : Arv Z h0 x0 kk1 (.object "java/lang/Object") (3 : Int32) [(.ref w2), (.ref w3), (.ref w4)] .null) (r1 : Exa Z h0 w2 "com/example/wary_lock/warylock/Lease") (r2 : Exa Z h0 w3 "com/example/wary_lock/warylock/Lease") (r3 : Exa Z h0 w4 "com/example/wary_lock/warylock/Lease") :
    MetFree l (⟨"java/util/ImmutableCollections", "listFromArray", "([Ljava/lang/Object;)Ljava/util/List;"⟩ : MethodName) (head1 (Jvm.Cond.code (⟨"java/util/ImmutableCollections", "listFromArray", "([Ljava/lang/Object;)Ljava/util/List;"⟩ : MethodName) jdk_56_method_4_code 3 (some (.object "java/util/List")) :: ws) ({ frames := 5, cells := 2, slots := 5, locals := 63 } : Room)) (fun a U => a = #[(.ref x0)] ∧ Z.Warmed39 U.vm ∧ U.heap = h0) (fun _ _ _ _ _ => True) (fun _ U o U' => ∃ v L, o = .returned v ∧ Q_a24_0 Z dc kdc el ee kee ca cc eo mo x0 kk1 w2 w3 w4 h0 v U'.heap L ∧ FrameEnd U o U' L ({ frames := 5, cells := 2, slots := 5, locals := 63 } : Room).cells ({ frames := 5, cells := 2, slots := 5, locals := 63 } : Room).slots) := by
  refine MetFree.of_bodySF (plainFor_of_name pn_24) hisR ?_
  intro p e s m args below meth c s₁ Bd hml0 hP hK
  obtain ⟨rfl, hZ, hh⟩ := hP
  have hx := Bd.exec
  have hby := Bd.bytes
  have hlk := Bd.notSynchronized
  have hml : c.maxLocals = 3 := hml0
  have hown : s.vm.findClass "java/util/ImmutableCollections" = some m.cls := findClass_of_methodNamed Bd.named
  have hnm := (name_of_methodNamed Bd.named Bd.method).1
  have X0 : Stand p l e ({ frames := 5, cells := 2, slots := 5, locals := 63 } : Room) s m #[(.ref x0)] below meth c s₁ [] 0 0 := Stand.of_body Bd
  have e0 : s₁.heap = h0 := by rw [← hh, Bd.state]; rfl
  have N0 := Fr.nil Z.heap.size
  show Go FrameEnd p e below s ({ frames := 5, cells := 2, slots := 5, locals := 63 } : Room).cells ({ frames := 5, cells := 2, slots := 5, locals := 63 } : Room).slots (Q_a24_0 Z dc kdc el ee kee ca cc eo mo x0 kk1 w2 w3 w4 h0) s₁ (entryFrame m #[(.ref x0)] 3)
  refine Go.cast (ef_a24_0 m x0) ?_
  show Go _ _ _ _ _ _ _ _ s₁ (mkF m 0 #[.val (.ref x0), .unset, .unset] [])
  refine Go.step (fun _ kt_ => XS.aloadN X0.here hx rfl (hb hby d24_0) rfl rfl kt_) ?_
  show Go _ _ _ _ _ _ _ _ s₁ (mkF m 1 #[.val (.ref x0), .unset, .unset] [(.ref x0)])
  obtain ⟨cl1, Ar1, -, S1, N1, -, -⟩ := id r0
  refine Go.step (X0.arraylength hx (by rw [e0]; exact Ar1.1) (State.isArrayOf_alike hZ.alike Ar1.2.1) (g := (mkF m 1 #[.val (.ref x0), .unset, .unset] [(.ref x0)])) rfl rfl (hb hby d24_1)) ?_
  rw [len_of S1 N1]
  show Go _ _ _ _ _ _ _ _ s₁ (mkF m 2 #[.val (.ref x0), .unset, .unset] [(.int (3 : Int32))])
  obtain ⟨T2, h2, k2, X2, e2, E2, A2, B2, O2, st2⟩ := newRE X0 hx hZ hown (hw _ (List.mem_of_getElem? (i := 192) rfl)) (hw _ (List.mem_of_getElem? (i := 152) rfl)) e0 (g := (mkF m 2 #[.val (.ref x0), .unset, .unset] [(.int (3 : Int32))])) rfl (hb hby d24_2) rfl (by decide) (cap := 3) (by decide) (by decide) (by decide) (by decide) rfl
  obtain ⟨b2, hb2⟩ : ∃ z, z = h0.size := ⟨_, rfl⟩
  rw [← hb2] at A2 B2 st2
  refine Go.step st2 ?_
  have g_b2 : Z.heap.size ≤ b2 := Nat.le_trans O0.1 (Nat.le_of_eq hb2.symm)
  have O2_ : Ext Z.heap h2 := extTr O0 E2
  have sz_b2 : h0.size ≤ b2 := Nat.le_trans (Keep.refl h0 []).1 (Nat.le_of_eq hb2.symm)
  have K2 := Keep.ext (Keep.refl h0 []) E2
  have V2 : Arv Z h2 b2 k2 (.object "java/lang/Object") (3 : Int32) [.null, .null, .null] .null := (Arv.new A2 (by decide)).pad (pad_rep [] .null 3)
  show Go _ _ _ _ _ _ _ _ T2 (mkF m 5 #[.val (.ref x0), .unset, .unset] [(.ref b2)])
  refine Go.step (fun _ kt_ => XS.astoreN X2.here hx rfl (hb hby d24_5) rfl rfl (l' := #[.val (.ref x0), .val (.ref b2), .unset]) rfl kt_) ?_
  show Go _ _ _ _ _ _ _ _ T2 (mkF m 6 #[.val (.ref x0), .val (.ref b2), .unset] [])
  refine Go.step (fun _ kt_ => XS.iconst X2.here hx rfl (hb hby d24_6)  kt_) ?_
  show Go _ _ _ _ _ _ _ _ T2 (mkF m 7 #[.val (.ref x0), .val (.ref b2), .unset] [(.int (0 : Int32))])
  refine Go.step (fun _ kt_ => XS.istoreN X2.here hx rfl (hb hby d24_7) rfl (l' := #[.val (.ref x0), .val (.ref b2), .val (.int (0 : Int32))]) rfl kt_) ?_
  show Go _ _ _ _ _ _ _ _ T2 (mkF m 8 #[.val (.ref x0), .val (.ref b2), .val (.int (0 : Int32))] [])
  refine Go.step (fun _ kt_ => XS.iloadN X2.here hx rfl (hb hby d24_8) rfl kt_) ?_
  show Go _ _ _ _ _ _ _ _ T2 (mkF m 9 #[.val (.ref x0), .val (.ref b2), .val (.int (0 : Int32))] [(.int (0 : Int32))])
  refine Go.step (fun _ kt_ => XS.aloadN X2.here hx rfl (hb hby d24_9) rfl rfl kt_) ?_
  show Go _ _ _ _ _ _ _ _ T2 (mkF m 10 #[.val (.ref x0), .val (.ref b2), .val (.int (0 : Int32))] [(.ref x0), (.int (0 : Int32))])
  obtain ⟨cl3, Ar3, -, S3, N3, -, -⟩ := id (r0.ext E2)
  refine Go.step (X2.arraylength hx (by rw [e2]; exact Ar3.1) (State.isArrayOf_alike hZ.alike Ar3.2.1) (g := (mkF m 10 #[.val (.ref x0), .val (.ref b2), .val (.int (0 : Int32))] [(.ref x0), (.int (0 : Int32))])) rfl rfl (hb hby d24_10)) ?_
  rw [len_of S3 N3]
  show Go _ _ _ _ _ _ _ _ T2 (mkF m 11 #[.val (.ref x0), .val (.ref b2), .val (.int (0 : Int32))] [(.int (3 : Int32)), (.int (0 : Int32))])
  refine Go.step (fun _ kt_ => XS.icmpNo X2.here hx rfl (hb hby d24_11) rfl (tlt (by decide : (0 : Int32) < (3 : Int32))).2.1 kt_) ?_
  show Go _ _ _ _ _ _ _ _ T2 (mkF m 14 #[.val (.ref x0), .val (.ref b2), .val (.int (0 : Int32))] [])
  refine Go.step (fun _ kt_ => XS.aloadN X2.here hx rfl (hb hby d24_14) rfl rfl kt_) ?_
  show Go _ _ _ _ _ _ _ _ T2 (mkF m 15 #[.val (.ref x0), .val (.ref b2), .val (.int (0 : Int32))] [(.ref b2)])
  refine Go.step (fun _ kt_ => XS.iloadN X2.here hx rfl (hb hby d24_15) rfl kt_) ?_
  show Go _ _ _ _ _ _ _ _ T2 (mkF m 16 #[.val (.ref x0), .val (.ref b2), .val (.int (0 : Int32))] [(.int (0 : Int32)), (.ref b2)])
  refine Go.step (fun _ kt_ => XS.aloadN X2.here hx rfl (hb hby d24_16) rfl rfl kt_) ?_
  show Go _ _ _ _ _ _ _ _ T2 (mkF m 17 #[.val (.ref x0), .val (.ref b2), .val (.int (0 : Int32))] [(.ref x0), (.int (0 : Int32)), (.ref b2)])
  refine Go.step (fun _ kt_ => XS.iloadN X2.here hx rfl (hb hby d24_17) rfl kt_) ?_
  show Go _ _ _ _ _ _ _ _ T2 (mkF m 18 #[.val (.ref x0), .val (.ref b2), .val (.int (0 : Int32))] [(.int (0 : Int32)), (.ref x0), (.int (0 : Int32)), (.ref b2)])
  obtain ⟨cl4, Ar4, q4, S4, N4, H4, G4⟩ := id (r0.ext E2)
  have hin4 : ¬ ((0 : Int32) < 0 ∨ cl4.slots.size ≤ ((0 : Int32)).toNatClampNeg) := inb_of S4 ⟨by decide, by decide⟩
  refine Go.step (X2.aaload hx (j := (0 : Int32)) (v := (.ref w2)) (by rw [e2]; exact Ar4.1) (State.isArrayOf_alike hZ.alike Ar4.2.1) rfl Ar4.2.2 hin4 (Has.at H4 hin4 rfl) (g := (mkF m 18 #[.val (.ref x0), .val (.ref b2), .val (.int (0 : Int32))] [(.int (0 : Int32)), (.ref x0), (.int (0 : Int32)), (.ref b2)])) rfl rfl (hb hby d24_18)) ?_
  show Go _ _ _ _ _ _ _ _ T2 (mkF m 19 #[.val (.ref x0), .val (.ref b2), .val (.int (0 : Int32))] [(.ref w2), (.int (0 : Int32)), (.ref b2)])
  obtain ⟨_, _, ⟨T5, L5, k5, n5⟩, -, X5, ⟨Lc5, hQ5, l5, y5, z5⟩, st5⟩ := Jvm.LawKit.callS X2 hx (y := (⟨"java/util/Objects", "requireNonNull", "(Ljava/lang/Object;)Ljava/lang/Object;"⟩ : MethodName)) hown (mvT hZ (hw _ (List.mem_of_getElem? (i := 193) rfl))) (mvT hZ (hw _ (List.mem_of_getElem? (i := 194) rfl))) (mvT hZ (hw _ (List.mem_of_getElem? (i := 195) rfl))) (mvT hZ (hw _ (List.mem_of_getElem? (i := 196) rfl))) (by decide) (backOf (W := 2) (rm_a25_0 l Z a0 hw [] dc kdc el ee kee ca cc eo mo G_dc G_dce G_dcv G_el G_ele G_elf G_eev G_hi G_ca G_bx G_eo G_eoe G_mo w2 h2 O2_ ) hZ (hw _ (List.mem_of_getElem? (i := 196) rfl)) (hw _ (List.mem_of_getElem? (i := 195) rfl)) (by decide) (by decide)) (g := (mkF m 19 #[.val (.ref x0), .val (.ref b2), .val (.int (0 : Int32))] [(.ref w2), (.int (0 : Int32)), (.ref b2)])) rfl (by rw [hml]; rfl) (argsL := [(.ref w2)]) (rest := [(.int (0 : Int32)), (.ref b2)]) (lenOf pd_LLjava_lang_Object_RLjava_lang_Object_ rfl) rfl (by show 2 * 0 + _ ≤ _; exact Nat.le_of_eq rfl) (hb hby d24_19) (fun _ _ => ⟨rfl, e2, (by decide : 1 + 0 ≤ _), (by decide : 3 + 0 ≤ _)⟩)
  dsimp only [Pt.U, Pt.locs, Pt.cells, Pt.slots] at X5 l5 y5 z5 st5 hQ5
  subst l5 y5 z5
  obtain ⟨rfl, Nq5, e5⟩ := hQ5
  have N5_ := Fr.app N0 Nq5
  refine Go.step st5 ?_
  show Go _ _ _ _ _ _ _ _ T5 (mkF m 22 #[.val (.ref x0), .val (.ref b2), .val (.int (0 : Int32))] [(.ref w2), (.int (0 : Int32)), (.ref b2)])
  obtain ⟨cl6, Ar6, q6, S6, N6, H6, G6⟩ := id V2
  have hin6 : ¬ ((0 : Int32) < 0 ∨ cl6.slots.size ≤ ((0 : Int32)).toNatClampNeg) := inb_of S6 ⟨by decide, by decide⟩
  obtain ⟨T6, h6, X6, e6, W6, st6⟩ := stR X5 hx hZ e5 Ar6 (j := (0 : Int32)) hin6 rfl (Sto.ofV Ar6 q6 O2 (Ins.of_exa (Exa.ext E2 r1) (hw _ (List.mem_of_getElem? (i := 153) rfl)))) (g := (mkF m 22 #[.val (.ref x0), .val (.ref b2), .val (.int (0 : Int32))] [(.ref w2), (.int (0 : Int32)), (.ref b2)])) rfl rfl (hb hby d24_22)
  refine Go.step st6 ?_
  have V6 : Arv Z h6 b2 k2 (.object "java/lang/Object") (3 : Int32) [(.ref w2), .null, .null] .null := Arv.set Ar6 q6 S6 N6 H6 G6 rfl W6 0 rfl (Nat.le_of_ble_eq_true rfl)
  have N6_ := Fr.snoc X6 N5_ g_b2
  have O6_ : Ext Z.heap h6 := extWr O2_ W6 g_b2
  have K6 := Keep.wr K2 W6 (Or.inr sz_b2)
  show Go _ _ _ _ _ _ _ _ T6 (mkF m 23 #[.val (.ref x0), .val (.ref b2), .val (.int (0 : Int32))] [])
  refine Go.step (fun _ kt_ => XS.iinc X6.here hx rfl (hb hby d24_23) rfl (l' := #[.val (.ref x0), .val (.ref b2), .val (.int (1 : Int32))]) rfl kt_) ?_
  show Go _ _ _ _ _ _ _ _ T6 (mkF m 26 #[.val (.ref x0), .val (.ref b2), .val (.int (1 : Int32))] [])
  refine Go.step (fun _ kt_ => XS.goto X6.here hx rfl (pc0 := 26) (pc' := 8) rfl (hb hby d24_26) (by decide) (by decide) kt_) ?_
  show Go _ _ _ _ _ _ _ _ T6 (mkF m 8 #[.val (.ref x0), .val (.ref b2), .val (.int (1 : Int32))] [])
  refine Go.step (fun _ kt_ => XS.iloadN X6.here hx rfl (hb hby d24_8) rfl kt_) ?_
  show Go _ _ _ _ _ _ _ _ T6 (mkF m 9 #[.val (.ref x0), .val (.ref b2), .val (.int (1 : Int32))] [(.int (1 : Int32))])
  refine Go.step (fun _ kt_ => XS.aloadN X6.here hx rfl (hb hby d24_9) rfl rfl kt_) ?_
  show Go _ _ _ _ _ _ _ _ T6 (mkF m 10 #[.val (.ref x0), .val (.ref b2), .val (.int (1 : Int32))] [(.ref x0), (.int (1 : Int32))])
  have f8 := ((r0.ext E2).other W6 (Nat.ne_of_lt (Nat.lt_of_lt_of_le r0.lt (Nat.le_of_eq hb2.symm))))
  obtain ⟨cl7, Ar7, -, S7, N7, -, -⟩ := id f8
  refine Go.step (X6.arraylength hx (by rw [e6]; exact Ar7.1) (State.isArrayOf_alike hZ.alike Ar7.2.1) (g := (mkF m 10 #[.val (.ref x0), .val (.ref b2), .val (.int (1 : Int32))] [(.ref x0), (.int (1 : Int32))])) rfl rfl (hb hby d24_10)) ?_
  rw [len_of S7 N7]
  show Go _ _ _ _ _ _ _ _ T6 (mkF m 11 #[.val (.ref x0), .val (.ref b2), .val (.int (1 : Int32))] [(.int (3 : Int32)), (.int (1 : Int32))])
  refine Go.step (fun _ kt_ => XS.icmpNo X6.here hx rfl (hb hby d24_11) rfl (tlt (by decide : (1 : Int32) < (3 : Int32))).2.1 kt_) ?_
  show Go _ _ _ _ _ _ _ _ T6 (mkF m 14 #[.val (.ref x0), .val (.ref b2), .val (.int (1 : Int32))] [])
  refine Go.step (fun _ kt_ => XS.aloadN X6.here hx rfl (hb hby d24_14) rfl rfl kt_) ?_
  show Go _ _ _ _ _ _ _ _ T6 (mkF m 15 #[.val (.ref x0), .val (.ref b2), .val (.int (1 : Int32))] [(.ref b2)])
  refine Go.step (fun _ kt_ => XS.iloadN X6.here hx rfl (hb hby d24_15) rfl kt_) ?_
  show Go _ _ _ _ _ _ _ _ T6 (mkF m 16 #[.val (.ref x0), .val (.ref b2), .val (.int (1 : Int32))] [(.int (1 : Int32)), (.ref b2)])
  refine Go.step (fun _ kt_ => XS.aloadN X6.here hx rfl (hb hby d24_16) rfl rfl kt_) ?_
  show Go _ _ _ _ _ _ _ _ T6 (mkF m 17 #[.val (.ref x0), .val (.ref b2), .val (.int (1 : Int32))] [(.ref x0), (.int (1 : Int32)), (.ref b2)])
  refine Go.step (fun _ kt_ => XS.iloadN X6.here hx rfl (hb hby d24_17) rfl kt_) ?_
  show Go _ _ _ _ _ _ _ _ T6 (mkF m 18 #[.val (.ref x0), .val (.ref b2), .val (.int (1 : Int32))] [(.int (1 : Int32)), (.ref x0), (.int (1 : Int32)), (.ref b2)])
  obtain ⟨cl9, Ar9, q9, S9, N9, H9, G9⟩ := id f8
  have hin9 : ¬ ((1 : Int32) < 0 ∨ cl9.slots.size ≤ ((1 : Int32)).toNatClampNeg) := inb_of S9 ⟨by decide, by decide⟩
  refine Go.step (X6.aaload hx (j := (1 : Int32)) (v := (.ref w3)) (by rw [e6]; exact Ar9.1) (State.isArrayOf_alike hZ.alike Ar9.2.1) rfl Ar9.2.2 hin9 (Has.at H9 hin9 rfl) (g := (mkF m 18 #[.val (.ref x0), .val (.ref b2), .val (.int (1 : Int32))] [(.int (1 : Int32)), (.ref x0), (.int (1 : Int32)), (.ref b2)])) rfl rfl (hb hby d24_18)) ?_
  show Go _ _ _ _ _ _ _ _ T6 (mkF m 19 #[.val (.ref x0), .val (.ref b2), .val (.int (1 : Int32))] [(.ref w3), (.int (1 : Int32)), (.ref b2)])
  obtain ⟨_, _, ⟨T10, L10, k10, n10⟩, -, X10, ⟨Lc10, hQ10, l10, y10, z10⟩, st10⟩ := Jvm.LawKit.callS X6 hx (y := (⟨"java/util/Objects", "requireNonNull", "(Ljava/lang/Object;)Ljava/lang/Object;"⟩ : MethodName)) hown (mvT hZ (hw _ (List.mem_of_getElem? (i := 193) rfl))) (mvT hZ (hw _ (List.mem_of_getElem? (i := 194) rfl))) (mvT hZ (hw _ (List.mem_of_getElem? (i := 195) rfl))) (mvT hZ (hw _ (List.mem_of_getElem? (i := 196) rfl))) (by decide) (backOf (W := 2) (rm_a25_0 l Z a0 hw [] dc kdc el ee kee ca cc eo mo G_dc G_dce G_dcv G_el G_ele G_elf G_eev G_hi G_ca G_bx G_eo G_eoe G_mo w3 h6 O6_ ) hZ (hw _ (List.mem_of_getElem? (i := 196) rfl)) (hw _ (List.mem_of_getElem? (i := 195) rfl)) (by decide) (by decide)) (g := (mkF m 19 #[.val (.ref x0), .val (.ref b2), .val (.int (1 : Int32))] [(.ref w3), (.int (1 : Int32)), (.ref b2)])) rfl (by rw [hml]; rfl) (argsL := [(.ref w3)]) (rest := [(.int (1 : Int32)), (.ref b2)]) (lenOf pd_LLjava_lang_Object_RLjava_lang_Object_ rfl) rfl (by show 2 * 0 + _ ≤ _; exact Nat.le_of_eq rfl) (hb hby d24_19) (fun _ _ => ⟨rfl, e6, (by decide : 1 + 0 ≤ _), (by decide : 3 + 0 ≤ _)⟩)
  dsimp only [Pt.U, Pt.locs, Pt.cells, Pt.slots] at X10 l10 y10 z10 st10 hQ10
  subst l10 y10 z10
  obtain ⟨rfl, Nq10, e10⟩ := hQ10
  have N10_ := Fr.app N6_ Nq10
  refine Go.step st10 ?_
  show Go _ _ _ _ _ _ _ _ T10 (mkF m 22 #[.val (.ref x0), .val (.ref b2), .val (.int (1 : Int32))] [(.ref w3), (.int (1 : Int32)), (.ref b2)])
  obtain ⟨cl11, Ar11, q11, S11, N11, H11, G11⟩ := id V6
  have hin11 : ¬ ((1 : Int32) < 0 ∨ cl11.slots.size ≤ ((1 : Int32)).toNatClampNeg) := inb_of S11 ⟨by decide, by decide⟩
  obtain ⟨T11, h11, X11, e11, W11, st11⟩ := stR X10 hx hZ e10 Ar11 (j := (1 : Int32)) hin11 rfl (Sto.ofV Ar11 q11 O2 (Ins.of_exa (Exa.wr W6 (Exa.ext E2 r2)) (hw _ (List.mem_of_getElem? (i := 153) rfl)))) (g := (mkF m 22 #[.val (.ref x0), .val (.ref b2), .val (.int (1 : Int32))] [(.ref w3), (.int (1 : Int32)), (.ref b2)])) rfl rfl (hb hby d24_22)
  refine Go.step st11 ?_
  have V11 : Arv Z h11 b2 k2 (.object "java/lang/Object") (3 : Int32) [(.ref w2), (.ref w3), .null] .null := Arv.set Ar11 q11 S11 N11 H11 G11 rfl W11 1 rfl (Nat.le_of_ble_eq_true rfl)
  have N11_ := Fr.snoc X11 N10_ g_b2
  have O11_ : Ext Z.heap h11 := extWr O6_ W11 g_b2
  have K11 := Keep.wr K6 W11 (Or.inr sz_b2)
  show Go _ _ _ _ _ _ _ _ T11 (mkF m 23 #[.val (.ref x0), .val (.ref b2), .val (.int (1 : Int32))] [])
  refine Go.step (fun _ kt_ => XS.iinc X11.here hx rfl (hb hby d24_23) rfl (l' := #[.val (.ref x0), .val (.ref b2), .val (.int (2 : Int32))]) rfl kt_) ?_
  show Go _ _ _ _ _ _ _ _ T11 (mkF m 26 #[.val (.ref x0), .val (.ref b2), .val (.int (2 : Int32))] [])
  refine Go.step (fun _ kt_ => XS.goto X11.here hx rfl (pc0 := 26) (pc' := 8) rfl (hb hby d24_26) (by decide) (by decide) kt_) ?_
  show Go _ _ _ _ _ _ _ _ T11 (mkF m 8 #[.val (.ref x0), .val (.ref b2), .val (.int (2 : Int32))] [])
  refine Go.step (fun _ kt_ => XS.iloadN X11.here hx rfl (hb hby d24_8) rfl kt_) ?_
  show Go _ _ _ _ _ _ _ _ T11 (mkF m 9 #[.val (.ref x0), .val (.ref b2), .val (.int (2 : Int32))] [(.int (2 : Int32))])
  refine Go.step (fun _ kt_ => XS.aloadN X11.here hx rfl (hb hby d24_9) rfl rfl kt_) ?_
  show Go _ _ _ _ _ _ _ _ T11 (mkF m 10 #[.val (.ref x0), .val (.ref b2), .val (.int (2 : Int32))] [(.ref x0), (.int (2 : Int32))])
  have f13 := (f8.other W11 (Nat.ne_of_lt (Nat.lt_of_lt_of_le r0.lt (Nat.le_of_eq hb2.symm))))
  obtain ⟨cl12, Ar12, -, S12, N12, -, -⟩ := id f13
  refine Go.step (X11.arraylength hx (by rw [e11]; exact Ar12.1) (State.isArrayOf_alike hZ.alike Ar12.2.1) (g := (mkF m 10 #[.val (.ref x0), .val (.ref b2), .val (.int (2 : Int32))] [(.ref x0), (.int (2 : Int32))])) rfl rfl (hb hby d24_10)) ?_
  rw [len_of S12 N12]
  show Go _ _ _ _ _ _ _ _ T11 (mkF m 11 #[.val (.ref x0), .val (.ref b2), .val (.int (2 : Int32))] [(.int (3 : Int32)), (.int (2 : Int32))])
  refine Go.step (fun _ kt_ => XS.icmpNo X11.here hx rfl (hb hby d24_11) rfl (tlt (by decide : (2 : Int32) < (3 : Int32))).2.1 kt_) ?_
  show Go _ _ _ _ _ _ _ _ T11 (mkF m 14 #[.val (.ref x0), .val (.ref b2), .val (.int (2 : Int32))] [])
  refine Go.step (fun _ kt_ => XS.aloadN X11.here hx rfl (hb hby d24_14) rfl rfl kt_) ?_
  show Go _ _ _ _ _ _ _ _ T11 (mkF m 15 #[.val (.ref x0), .val (.ref b2), .val (.int (2 : Int32))] [(.ref b2)])
  refine Go.step (fun _ kt_ => XS.iloadN X11.here hx rfl (hb hby d24_15) rfl kt_) ?_
  show Go _ _ _ _ _ _ _ _ T11 (mkF m 16 #[.val (.ref x0), .val (.ref b2), .val (.int (2 : Int32))] [(.int (2 : Int32)), (.ref b2)])
  refine Go.step (fun _ kt_ => XS.aloadN X11.here hx rfl (hb hby d24_16) rfl rfl kt_) ?_
  show Go _ _ _ _ _ _ _ _ T11 (mkF m 17 #[.val (.ref x0), .val (.ref b2), .val (.int (2 : Int32))] [(.ref x0), (.int (2 : Int32)), (.ref b2)])
  refine Go.step (fun _ kt_ => XS.iloadN X11.here hx rfl (hb hby d24_17) rfl kt_) ?_
  show Go _ _ _ _ _ _ _ _ T11 (mkF m 18 #[.val (.ref x0), .val (.ref b2), .val (.int (2 : Int32))] [(.int (2 : Int32)), (.ref x0), (.int (2 : Int32)), (.ref b2)])
  obtain ⟨cl14, Ar14, q14, S14, N14, H14, G14⟩ := id f13
  have hin14 : ¬ ((2 : Int32) < 0 ∨ cl14.slots.size ≤ ((2 : Int32)).toNatClampNeg) := inb_of S14 ⟨by decide, by decide⟩
  refine Go.step (X11.aaload hx (j := (2 : Int32)) (v := (.ref w4)) (by rw [e11]; exact Ar14.1) (State.isArrayOf_alike hZ.alike Ar14.2.1) rfl Ar14.2.2 hin14 (Has.at H14 hin14 rfl) (g := (mkF m 18 #[.val (.ref x0), .val (.ref b2), .val (.int (2 : Int32))] [(.int (2 : Int32)), (.ref x0), (.int (2 : Int32)), (.ref b2)])) rfl rfl (hb hby d24_18)) ?_
  show Go _ _ _ _ _ _ _ _ T11 (mkF m 19 #[.val (.ref x0), .val (.ref b2), .val (.int (2 : Int32))] [(.ref w4), (.int (2 : Int32)), (.ref b2)])
  obtain ⟨_, _, ⟨T15, L15, k15, n15⟩, -, X15, ⟨Lc15, hQ15, l15, y15, z15⟩, st15⟩ := Jvm.LawKit.callS X11 hx (y := (⟨"java/util/Objects", "requireNonNull", "(Ljava/lang/Object;)Ljava/lang/Object;"⟩ : MethodName)) hown (mvT hZ (hw _ (List.mem_of_getElem? (i := 193) rfl))) (mvT hZ (hw _ (List.mem_of_getElem? (i := 194) rfl))) (mvT hZ (hw _ (List.mem_of_getElem? (i := 195) rfl))) (mvT hZ (hw _ (List.mem_of_getElem? (i := 196) rfl))) (by decide) (backOf (W := 2) (rm_a25_0 l Z a0 hw [] dc kdc el ee kee ca cc eo mo G_dc G_dce G_dcv G_el G_ele G_elf G_eev G_hi G_ca G_bx G_eo G_eoe G_mo w4 h11 O11_ ) hZ (hw _ (List.mem_of_getElem? (i := 196) rfl)) (hw _ (List.mem_of_getElem? (i := 195) rfl)) (by decide) (by decide)) (g := (mkF m 19 #[.val (.ref x0), .val (.ref b2), .val (.int (2 : Int32))] [(.ref w4), (.int (2 : Int32)), (.ref b2)])) rfl (by rw [hml]; rfl) (argsL := [(.ref w4)]) (rest := [(.int (2 : Int32)), (.ref b2)]) (lenOf pd_LLjava_lang_Object_RLjava_lang_Object_ rfl) rfl (by show 2 * 0 + _ ≤ _; exact Nat.le_of_eq rfl) (hb hby d24_19) (fun _ _ => ⟨rfl, e11, (by decide : 1 + 0 ≤ _), (by decide : 3 + 0 ≤ _)⟩)
  dsimp only [Pt.U, Pt.locs, Pt.cells, Pt.slots] at X15 l15 y15 z15 st15 hQ15
  subst l15 y15 z15
  obtain ⟨rfl, Nq15, e15⟩ := hQ15
  have N15_ := Fr.app N11_ Nq15
  refine Go.step st15 ?_
  show Go _ _ _ _ _ _ _ _ T15 (mkF m 22 #[.val (.ref x0), .val (.ref b2), .val (.int (2 : Int32))] [(.ref w4), (.int (2 : Int32)), (.ref b2)])
  obtain ⟨cl16, Ar16, q16, S16, N16, H16, G16⟩ := id V11
  have hin16 : ¬ ((2 : Int32) < 0 ∨ cl16.slots.size ≤ ((2 : Int32)).toNatClampNeg) := inb_of S16 ⟨by decide, by decide⟩
  obtain ⟨T16, h16, X16, e16, W16, st16⟩ := stR X15 hx hZ e15 Ar16 (j := (2 : Int32)) hin16 rfl (Sto.ofV Ar16 q16 O2 (Ins.of_exa (Exa.wr W11 (Exa.wr W6 (Exa.ext E2 r3))) (hw _ (List.mem_of_getElem? (i := 153) rfl)))) (g := (mkF m 22 #[.val (.ref x0), .val (.ref b2), .val (.int (2 : Int32))] [(.ref w4), (.int (2 : Int32)), (.ref b2)])) rfl rfl (hb hby d24_22)
  refine Go.step st16 ?_
  have V16 : Arv Z h16 b2 k2 (.object "java/lang/Object") (3 : Int32) [(.ref w2), (.ref w3), (.ref w4)] .null := Arv.set Ar16 q16 S16 N16 H16 G16 rfl W16 2 rfl (Nat.le_of_ble_eq_true rfl)
  have N16_ := Fr.snoc X16 N15_ g_b2
  have O16_ : Ext Z.heap h16 := extWr O11_ W16 g_b2
  have K16 := Keep.wr K11 W16 (Or.inr sz_b2)
  show Go _ _ _ _ _ _ _ _ T16 (mkF m 23 #[.val (.ref x0), .val (.ref b2), .val (.int (2 : Int32))] [])
  refine Go.step (fun _ kt_ => XS.iinc X16.here hx rfl (hb hby d24_23) rfl (l' := #[.val (.ref x0), .val (.ref b2), .val (.int (3 : Int32))]) rfl kt_) ?_
  show Go _ _ _ _ _ _ _ _ T16 (mkF m 26 #[.val (.ref x0), .val (.ref b2), .val (.int (3 : Int32))] [])
  refine Go.step (fun _ kt_ => XS.goto X16.here hx rfl (pc0 := 26) (pc' := 8) rfl (hb hby d24_26) (by decide) (by decide) kt_) ?_
  show Go _ _ _ _ _ _ _ _ T16 (mkF m 8 #[.val (.ref x0), .val (.ref b2), .val (.int (3 : Int32))] [])
  refine Go.step (fun _ kt_ => XS.iloadN X16.here hx rfl (hb hby d24_8) rfl kt_) ?_
  show Go _ _ _ _ _ _ _ _ T16 (mkF m 9 #[.val (.ref x0), .val (.ref b2), .val (.int (3 : Int32))] [(.int (3 : Int32))])
  refine Go.step (fun _ kt_ => XS.aloadN X16.here hx rfl (hb hby d24_9) rfl rfl kt_) ?_
  show Go _ _ _ _ _ _ _ _ T16 (mkF m 10 #[.val (.ref x0), .val (.ref b2), .val (.int (3 : Int32))] [(.ref x0), (.int (3 : Int32))])
  have f18 := (f13.other W16 (Nat.ne_of_lt (Nat.lt_of_lt_of_le r0.lt (Nat.le_of_eq hb2.symm))))
  obtain ⟨cl17, Ar17, -, S17, N17, -, -⟩ := id f18
  refine Go.step (X16.arraylength hx (by rw [e16]; exact Ar17.1) (State.isArrayOf_alike hZ.alike Ar17.2.1) (g := (mkF m 10 #[.val (.ref x0), .val (.ref b2), .val (.int (3 : Int32))] [(.ref x0), (.int (3 : Int32))])) rfl rfl (hb hby d24_10)) ?_
  rw [len_of S17 N17]
  show Go _ _ _ _ _ _ _ _ T16 (mkF m 11 #[.val (.ref x0), .val (.ref b2), .val (.int (3 : Int32))] [(.int (3 : Int32)), (.int (3 : Int32))])
  refine Go.step (fun _ kt_ => XS.icmpYes X16.here hx rfl (pc0 := 11) (pc' := 29) rfl (hb hby d24_11) rfl (flt (by decide : ¬ ((3 : Int32) < (3 : Int32)))).2.1 (by decide) (by decide) kt_) ?_
  show Go _ _ _ _ _ _ _ _ T16 (mkF m 29 #[.val (.ref x0), .val (.ref b2), .val (.int (3 : Int32))] [])
  obtain ⟨T19, h19, X19, e19, E19, A19, D19, U19, st19⟩ := newO X16 hx hZ hown (hw _ (List.mem_of_getElem? (i := 56) rfl)) (hw _ (List.mem_of_getElem? (i := 197) rfl)) (hw _ (List.mem_of_getElem? (i := 89) rfl)) e16 (g := (mkF m 29 #[.val (.ref x0), .val (.ref b2), .val (.int (3 : Int32))] [])) rfl (hb hby d24_29) (by decide) (by decide)
  obtain ⟨b19, hb19⟩ : ∃ z, z = h16.size := ⟨_, rfl⟩
  rw [← hb19] at A19 D19 U19 st19
  refine Go.step st19 ?_
  have g_b19 : Z.heap.size ≤ b19 := Nat.le_trans O16_.1 (Nat.le_of_eq hb19.symm)
  have O19_ : Ext Z.heap h19 := extTr O16_ E19
  have sz_b19 : h0.size ≤ b19 := Nat.le_trans K16.1 (Nat.le_of_eq hb19.symm)
  have K19 := Keep.ext K16 E19
  have F19_elements : Fld Z h19 b19 "java/util/ImmutableCollections$ListN" "elements" "[Ljava/lang/Object;" .null := D19 (Or.inr (hw _ (List.mem_of_getElem? (i := 92) rfl))) (ty := (.array (.object "java/lang/Object"))) pf_ALjava_lang_Object_
  have F19_allowNulls : Fld Z h19 b19 "java/util/ImmutableCollections$ListN" "allowNulls" "Z" (.int (0 : Int32)) := D19 (Or.inr (hw _ (List.mem_of_getElem? (i := 217) rfl))) (ty := .boolean) pf_Z
  show Go _ _ _ _ _ _ _ _ T19 (mkF m 32 #[.val (.ref x0), .val (.ref b2), .val (.int (3 : Int32))] [(.ref b19)])
  refine Go.step (fun _ kt_ => XS.dup X19.here hx rfl (hb hby d24_32) rfl rfl kt_) ?_
  show Go _ _ _ _ _ _ _ _ T19 (mkF m 33 #[.val (.ref x0), .val (.ref b2), .val (.int (3 : Int32))] [(.ref b19), (.ref b19)])
  refine Go.step (fun _ kt_ => XS.aloadN X19.here hx rfl (hb hby d24_33) rfl rfl kt_) ?_
  show Go _ _ _ _ _ _ _ _ T19 (mkF m 34 #[.val (.ref x0), .val (.ref b2), .val (.int (3 : Int32))] [(.ref b2), (.ref b19), (.ref b19)])
  refine Go.step (fun _ kt_ => XS.iconst X19.here hx rfl (hb hby d24_34)  kt_) ?_
  show Go _ _ _ _ _ _ _ _ T19 (mkF m 35 #[.val (.ref x0), .val (.ref b2), .val (.int (3 : Int32))] [(.int (0 : Int32)), (.ref b2), (.ref b19), (.ref b19)])
  obtain ⟨_, _, ⟨T20, L20, k20, n20⟩, -, X20, ⟨Lc20, hQ20, l20, y20, z20⟩, st20⟩ := X19.specialBackNest hx (y := (⟨"java/util/ImmutableCollections$ListN", "<init>", "([Ljava/lang/Object;Z)V"⟩ : MethodName)) rfl hown (mvMN hZ (hw _ (List.mem_of_getElem? (i := 198) rfl))) (mvT hZ (hw _ (List.mem_of_getElem? (i := 199) rfl))) (mvT hZ (hw _ (List.mem_of_getElem? (i := 201) rfl))) (by decide) (backOf (W := 1) (rm_a26_0 l Z a0 hw [] dc kdc el ee kee ca cc eo mo G_dc G_dce G_dcv G_el G_ele G_elf G_eev G_hi G_ca G_bx G_eo G_eoe G_mo b19 b2 (0 : Int32) (0 : Int32) h19 O19_ A19 F19_elements g_b19 F19_allowNulls) hZ (hw _ (List.mem_of_getElem? (i := 201) rfl)) (hw _ (List.mem_of_getElem? (i := 89) rfl)) (by decide) (by decide)) (g := (mkF m 35 #[.val (.ref x0), .val (.ref b2), .val (.int (3 : Int32))] [(.int (0 : Int32)), (.ref b2), (.ref b19), (.ref b19)])) rfl (by rw [hml]; rfl) (Steps.refl _) (a := b19) (argsL := [(.ref b2), (.int (0 : Int32))]) (rest := [(.ref b19)]) (lenOf pd_LALjava_lang_Object_ZRV rfl) rfl (by show 2 * 0 + _ ≤ _; exact Nat.le_of_eq rfl) (hb hby d24_35) (fun _ _ => ⟨rfl, e19, (by decide : 2 + 0 ≤ _), (by decide : 5 + 0 ≤ _)⟩)
  dsimp only [Pt.U, Pt.locs, Pt.cells, Pt.slots] at X20 l20 y20 z20 st20 hQ20
  subst l20 y20 z20
  obtain ⟨rfl, Nq20, Kq20, p20_0, p20_1⟩ := hQ20
  have O20_ : Ext Z.heap T20.heap := extKeep O19_ Kq20 (allS g_b19 all0)
  have K20 := Keep.trans K19 Kq20 (allS (Or.inr sz_b19) all0)
  have N20_ := Fr.app N16_ Nq20
  refine Go.trans st20 ?_
  show Go _ _ _ _ _ _ _ _ T20 (mkF m 38 #[.val (.ref x0), .val (.ref b2), .val (.int (3 : Int32))] [(.ref b19)])
  exact Go.retA X20 hx Bd.returns rfl rfl hlk (hb hby d24_38) (by decide) (by decide) ⟨b19, b2, k2, rfl, N20_, K20, sz_b19, (A19.keep Kq20), p20_0, p20_1, sz_b2, ((Exa.ext E19 (Exa.wr W16 (Exa.wr W11 (Exa.wr W6 B2)))).keep Kq20), ((V16.ext E19).keep Kq20 (ninS (Nat.ne_of_lt (Nat.lt_of_lt_of_le (Exa.wr W16 (Exa.wr W11 (Exa.wr W6 B2))).lt (Nat.le_of_eq hb19.symm))) nin0)), O2, (Ne.symm (Nat.ne_of_lt (Nat.lt_of_lt_of_le (Exa.wr W16 (Exa.wr W11 (Exa.wr W6 B2))).lt (Nat.le_of_eq hb19.symm))))⟩
theorem d23_63 : decode jdk_40_method_47_code 63 = .ok (.areturn, 1) := by decide +kernel
theorem ef_a23_2 (m : MethodId) (y0 : Addr) : entryFrame m #[(.ref y0)] 2 = mkF m 0 #[.val (.ref y0), .unset] [] := by first | (simp [entryFrame, mkF, argsToLocals, Value.category]; done) | rfl
def Q_a23_2 (Z : State) (dc : Addr) (kdc : ClassId) (el : Addr) (ee : Addr) (kee : ClassId) (ca : Addr) (cc : Cell) (eo : Addr) (mo : Addr) (x0 : Addr) (kk1 : ClassId) (w2 : Addr) (w3 : Addr) (w4 : Addr) (h0 : Heap) (v : Option Value) (h : Heap) (L : List Loc) : Prop := ∃ (b19q2 : Addr) (b2q2 : Addr) (k2q2 : ClassId), v = some (.ref b19q2) ∧ Fr Z.heap.size L ∧ Keep h0 h [] ∧ h0.size ≤ b19q2 ∧ Exa Z h b19q2 "java/util/ImmutableCollections$ListN" ∧ Fld Z h b19q2 "java/util/ImmutableCollections$ListN" "elements" "[Ljava/lang/Object;" (.ref b2q2) ∧ Fld Z h b19q2 "java/util/ImmutableCollections$ListN" "allowNulls" "Z" (.int (0 : Int32)) ∧ h0.size ≤ b2q2 ∧ Exa Z h b2q2 "[Ljava/lang/Object;" ∧ Arv Z h b2q2 k2q2 (.object "java/lang/Object") (3 : Int32) [(.ref w2), (.ref w3), (.ref w4)] .null ∧ Ovr Z k2q2 "java/lang/Object" ∧ b19q2 ≠ b2q2
set_option maxRecDepth 65536 in
set_option maxHeartbeats 40000000 in
theorem rm_a23_2 (l : Launch) (Z : State) (a0 : Array Value) (hw : ∀ d ∈ tables_1, d.before a0 Z = true) (ws : List Jvm.Cond) (dc : Addr) (kdc : ClassId) (el : Addr) (ee : Addr) (kee : ClassId) (ca : Addr) (cc : Cell) (eo : Addr) (mo : Addr) (G_dc : Sta Z Z.heap "java/util/ArrayList" "DEFAULTCAPACITY_EMPTY_ELEMENTDATA" "[Ljava/lang/Object;" (.ref dc)) (G_dce : Exa Z Z.heap dc "[Ljava/lang/Object;") (G_dcv : Arv Z Z.heap dc kdc (.object "java/lang/Object") (0 : Int32) [] .null) (G_el : Sta Z Z.heap "java/util/ImmutableCollections" "EMPTY_LIST" "Ljava/util/ImmutableCollections$ListN;" (.ref el)) (G_ele : Exa Z Z.heap el "java/util/ImmutableCollections$ListN") (G_elf : Fld Z Z.heap el "java/util/ImmutableCollections$ListN" "elements" "[Ljava/lang/Object;" (.ref ee)) (G_eev : Arv Z Z.heap ee kee (.object "java/lang/Object") (0 : Int32) [] .null) (G_hi : Sta Z Z.heap "java/lang/Integer$IntegerCache" "high" "I" (.int (127 : Int32))) (G_ca : Sta Z Z.heap "java/lang/Integer$IntegerCache" "cache" "[Ljava/lang/Integer;" (.ref ca)) (G_bx : Bxs Z ca cc "java/lang/Integer" "I" 256 (fun j => .int (j - 128))) (G_eo : Sta Z Z.heap "java/util/ImmutableCollections" "EMPTY" "Ljava/lang/Object;" (.ref eo)) (G_eoe : Exa Z Z.heap eo "java/lang/Object") (G_mo : MirO Z "[Ljava/lang/Object;" mo) (x0 : Addr) (kk1 : ClassId) (w2 : Addr) (w3 : Addr) (w4 : Addr) (h0 : Heap) (O0 : Ext Z.heap h0) (r0 : Arv Z h0 x0 kk1 (.object "java/lang/Object") (3 : Int32) [(.ref w2), (.ref w3), (.ref w4)] .null) (r1 : Exa Z h0 w2 "com/example/wary_lock/warylock/Lease") (r2 : Exa Z h0 w3 "com/example/wary_lock/warylock/Lease") (r3 : Exa Z h0 w4 "com/example/wary_lock/warylock/Lease") :
    MetFree l (⟨"java/util/List", "of", "([Ljava/lang/Object;)Ljava/util/List;"⟩ : MethodName) (head1 (Jvm.Cond.code (⟨"java/util/List", "of", "([Ljava/lang/Object;)Ljava/util/List;"⟩ : MethodName) jdk_40_method_47_code 2 (some (.object "java/util/List")) :: ws) ({ frames := 6, cells := 2, slots := 5, locals := 77 } : Room)) (fun a U => a = #[(.ref x0)] ∧ Z.Warmed39 U.vm ∧ U.heap = h0) (fun _ _ _ _ _ => True) (fun _ U o U' => ∃ v L, o = .returned v ∧ Q_a23_2 Z dc kdc el ee kee ca cc eo mo x0 kk1 w2 w3 w4 h0 v U'.heap L ∧ FrameEnd U o U' L ({ frames := 6, cells := 2, slots := 5, locals := 77 } : Room).cells ({ frames := 6, cells := 2, slots := 5, locals := 77 } : Room).slots) := by
  refine MetFree.of_bodySF (plainFor_of_name pn_23) hisR ?_
  intro p e s m args below meth c s₁ Bd hml0 hP hK
  obtain ⟨rfl, hZ, hh⟩ := hP
  have hx := Bd.exec
  have hby := Bd.bytes
  have hlk := Bd.notSynchronized
  have hml : c.maxLocals = 2 := hml0
  have hown : s.vm.findClass "java/util/List" = some m.cls := findClass_of_methodNamed Bd.named
  have hnm := (name_of_methodNamed Bd.named Bd.method).1
  have X0 : Stand p l e ({ frames := 6, cells := 2, slots := 5, locals := 77 } : Room) s m #[(.ref x0)] below meth c s₁ [] 0 0 := Stand.of_body Bd
  have e0 : s₁.heap = h0 := by rw [← hh, Bd.state]; rfl
  have N0 := Fr.nil Z.heap.size
  show Go FrameEnd p e below s ({ frames := 6, cells := 2, slots := 5, locals := 77 } : Room).cells ({ frames := 6, cells := 2, slots := 5, locals := 77 } : Room).slots (Q_a23_2 Z dc kdc el ee kee ca cc eo mo x0 kk1 w2 w3 w4 h0) s₁ (entryFrame m #[(.ref x0)] 2)
  refine Go.cast (ef_a23_2 m x0) ?_
  show Go _ _ _ _ _ _ _ _ s₁ (mkF m 0 #[.val (.ref x0), .unset] [])
  refine Go.step (fun _ kt_ => XS.aloadN X0.here hx rfl (hb hby d23_0) rfl rfl kt_) ?_
  show Go _ _ _ _ _ _ _ _ s₁ (mkF m 1 #[.val (.ref x0), .unset] [(.ref x0)])
  obtain ⟨cl1, Ar1, -, S1, N1, -, -⟩ := id r0
  refine Go.step (X0.arraylength hx (by rw [e0]; exact Ar1.1) (State.isArrayOf_alike hZ.alike Ar1.2.1) (g := (mkF m 1 #[.val (.ref x0), .unset] [(.ref x0)])) rfl rfl (hb hby d23_1)) ?_
  rw [len_of S1 N1]
  show Go _ _ _ _ _ _ _ _ s₁ (mkF m 2 #[.val (.ref x0), .unset] [(.int (3 : Int32))])
  refine Go.step (fun _ kt_ => XS.tswOut X0.here hx rfl (pc0 := 2) (pc' := 59) rfl (hb hby d23_2) rfl (by decide) (by decide) (by decide) kt_) ?_
  show Go _ _ _ _ _ _ _ _ s₁ (mkF m 59 #[.val (.ref x0), .unset] [])
  refine Go.step (fun _ kt_ => XS.aloadN X0.here hx rfl (hb hby d23_59) rfl rfl kt_) ?_
  show Go _ _ _ _ _ _ _ _ s₁ (mkF m 60 #[.val (.ref x0), .unset] [(.ref x0)])
  obtain ⟨_, _, ⟨T2, L2, k2, n2⟩, -, X2, ⟨Lc2, hQ2, l2, y2, z2⟩, st2⟩ := Jvm.LawKit.callS X0 hx (y := (⟨"java/util/ImmutableCollections", "listFromArray", "([Ljava/lang/Object;)Ljava/util/List;"⟩ : MethodName)) hown (mvT hZ (hw _ (List.mem_of_getElem? (i := 189) rfl))) (mvT hZ (hw _ (List.mem_of_getElem? (i := 190) rfl))) (mvT hZ (hw _ (List.mem_of_getElem? (i := 49) rfl))) (mvT hZ (hw _ (List.mem_of_getElem? (i := 191) rfl))) (by decide) (backOf (W := 0) (rm_a24_0 l Z a0 hw [] dc kdc el ee kee ca cc eo mo G_dc G_dce G_dcv G_el G_ele G_elf G_eev G_hi G_ca G_bx G_eo G_eoe G_mo x0 kk1 w2 w3 w4 h0 O0 r0 r1 r2 r3) hZ (hw _ (List.mem_of_getElem? (i := 191) rfl)) (hw _ (List.mem_of_getElem? (i := 49) rfl)) (by decide) (by decide)) (g := (mkF m 60 #[.val (.ref x0), .unset] [(.ref x0)])) rfl (by rw [hml]; rfl) (argsL := [(.ref x0)]) (rest := []) (lenOf pd_LALjava_lang_Object_RLjava_util_List_ rfl) rfl (by show 2 * 0 + _ ≤ _; exact Nat.le_of_eq rfl) (hb hby d23_60) (fun _ _ => ⟨rfl, e0, (by decide : 0 + 2 ≤ _), (by decide : 0 + 5 ≤ _)⟩)
  dsimp only [Pt.U, Pt.locs, Pt.cells, Pt.slots] at X2 l2 y2 z2 st2 hQ2
  subst l2 y2 z2
  obtain ⟨b19q2, b2q2, k2q2, rfl, Nq2, Kq2, p2_0, p2_1, p2_2, p2_3, p2_4, p2_5, p2_6, p2_7, p2_8⟩ := hQ2
  have O2_ : Ext Z.heap T2.heap := extKeep O0 Kq2 all0
  have K2 := Keep.trans (Keep.refl h0 []) Kq2 all0
  have N2_ := Fr.app N0 Nq2
  have g_b19q2 : Z.heap.size ≤ b19q2 := Nat.le_trans O0.1 p2_0
  have sz_b19q2 : h0.size ≤ b19q2 := Nat.le_trans (Keep.refl h0 []).1 p2_0
  have g_b2q2 : Z.heap.size ≤ b2q2 := Nat.le_trans O0.1 p2_4
  have sz_b2q2 : h0.size ≤ b2q2 := Nat.le_trans (Keep.refl h0 []).1 p2_4
  refine Go.step st2 ?_
  show Go _ _ _ _ _ _ _ _ T2 (mkF m 63 #[.val (.ref x0), .unset] [(.ref b19q2)])
  exact Go.retA X2 hx Bd.returns rfl rfl hlk (hb hby d23_63) (by decide) (by decide) ⟨b19q2, b2q2, k2q2, rfl, N2_, K2, sz_b19q2, p2_1, p2_2, p2_3, sz_b2q2, p2_5, p2_6, p2_7, p2_8⟩
theorem ef_a8_3 (m : MethodId) (y0 : Addr) : entryFrame m #[(.ref y0)] 2 = mkF m 0 #[.val (.ref y0), .unset] [] := by first | (simp [entryFrame, mkF, argsToLocals, Value.category]; done) | rfl
def Q_a8_3 (Z : State) (dc : Addr) (kdc : ClassId) (el : Addr) (ee : Addr) (kee : ClassId) (ca : Addr) (cc : Cell) (eo : Addr) (mo : Addr) (x0 : Addr) (w1 : Addr) (kk2 : ClassId) (w3 : Addr) (w4 : Addr) (w5 : Addr) (h0 : Heap) (v : Option Value) (h : Heap) (L : List Loc) : Prop := ∃ (b19q2q5 : Addr) (b2q2q5 : Addr) (k2q2q5 : ClassId), v = some (.ref b19q2q5) ∧ Fr Z.heap.size L ∧ Keep h0 h [] ∧ h0.size ≤ b19q2q5 ∧ Exa Z h b19q2q5 "java/util/ImmutableCollections$ListN" ∧ Fld Z h b19q2q5 "java/util/ImmutableCollections$ListN" "elements" "[Ljava/lang/Object;" (.ref b2q2q5) ∧ Fld Z h b19q2q5 "java/util/ImmutableCollections$ListN" "allowNulls" "Z" (.int (0 : Int32)) ∧ h0.size ≤ b2q2q5 ∧ Exa Z h b2q2q5 "[Ljava/lang/Object;" ∧ Arv Z h b2q2q5 k2q2q5 (.object "java/lang/Object") (3 : Int32) [(.ref w3), (.ref w4), (.ref w5)] .null ∧ Ovr Z k2q2q5 "java/lang/Object" ∧ b19q2q5 ≠ b2q2q5
set_option maxRecDepth 65536 in
set_option maxHeartbeats 40000000 in
theorem rm_a8_3 (l : Launch) (Z : State) (a0 : Array Value) (hw : ∀ d ∈ tables_1, d.before a0 Z = true) (ws : List Jvm.Cond) (dc : Addr) (kdc : ClassId) (el : Addr) (ee : Addr) (kee : ClassId) (ca : Addr) (cc : Cell) (eo : Addr) (mo : Addr) (G_dc : Sta Z Z.heap "java/util/ArrayList" "DEFAULTCAPACITY_EMPTY_ELEMENTDATA" "[Ljava/lang/Object;" (.ref dc)) (G_dce : Exa Z Z.heap dc "[Ljava/lang/Object;") (G_dcv : Arv Z Z.heap dc kdc (.object "java/lang/Object") (0 : Int32) [] .null) (G_el : Sta Z Z.heap "java/util/ImmutableCollections" "EMPTY_LIST" "Ljava/util/ImmutableCollections$ListN;" (.ref el)) (G_ele : Exa Z Z.heap el "java/util/ImmutableCollections$ListN") (G_elf : Fld Z Z.heap el "java/util/ImmutableCollections$ListN" "elements" "[Ljava/lang/Object;" (.ref ee)) (G_eev : Arv Z Z.heap ee kee (.object "java/lang/Object") (0 : Int32) [] .null) (G_hi : Sta Z Z.heap "java/lang/Integer$IntegerCache" "high" "I" (.int (127 : Int32))) (G_ca : Sta Z Z.heap "java/lang/Integer$IntegerCache" "cache" "[Ljava/lang/Integer;" (.ref ca)) (G_bx : Bxs Z ca cc "java/lang/Integer" "I" 256 (fun j => .int (j - 128))) (G_eo : Sta Z Z.heap "java/util/ImmutableCollections" "EMPTY" "Ljava/lang/Object;" (.ref eo)) (G_eoe : Exa Z Z.heap eo "java/lang/Object") (G_mo : MirO Z "[Ljava/lang/Object;" mo) (x0 : Addr) (w1 : Addr) (kk2 : ClassId) (w3 : Addr) (w4 : Addr) (w5 : Addr) (h0 : Heap) (O0 : Ext Z.heap h0) (r0 : Exa Z h0 x0 "java/util/ArrayList") (r1 : Fld Z h0 x0 "java/util/ArrayList" "size" "I" (.int (3 : Int32))) (r2 : Fld Z h0 x0 "java/util/ArrayList" "elementData" "[Ljava/lang/Object;" (.ref w1)) (r3 : Exa Z h0 w1 "[Ljava/lang/Object;") (r4 : Arv Z h0 w1 kk2 (.object "java/lang/Object") (10 : Int32) [(.ref w3), (.ref w4), (.ref w5), .null, .null, .null, .null, .null, .null, .null] .null) (r5 : Exa Z h0 w5 "com/example/wary_lock/warylock/Lease") (r6 : Exa Z h0 w4 "com/example/wary_lock/warylock/Lease") (r7 : Exa Z h0 w3 "com/example/wary_lock/warylock/Lease") :
    MetFree l (⟨"java/util/ImmutableCollections", "listCopy", "(Ljava/util/Collection;)Ljava/util/List;"⟩ : MethodName) (head1 (Jvm.Cond.code (⟨"java/util/ImmutableCollections", "listCopy", "(Ljava/util/Collection;)Ljava/util/List;"⟩ : MethodName) jdk_56_method_3_code 2 (some (.object "java/util/List")) :: ws) ({ frames := 7, cells := 3, slots := 8, locals := 90 } : Room)) (fun a U => a = #[(.ref x0)] ∧ Z.Warmed39 U.vm ∧ U.heap = h0) (fun _ _ _ _ _ => True) (fun _ U o U' => ∃ v L, o = .returned v ∧ Q_a8_3 Z dc kdc el ee kee ca cc eo mo x0 w1 kk2 w3 w4 w5 h0 v U'.heap L ∧ FrameEnd U o U' L ({ frames := 7, cells := 3, slots := 8, locals := 90 } : Room).cells ({ frames := 7, cells := 3, slots := 8, locals := 90 } : Room).slots) := by
  refine MetFree.of_bodySF (plainFor_of_name pn_8) hisR ?_
  intro p e s m args below meth c s₁ Bd hml0 hP hK
  obtain ⟨rfl, hZ, hh⟩ := hP
  have hx := Bd.exec
  have hby := Bd.bytes
  have hlk := Bd.notSynchronized
  have hml : c.maxLocals = 2 := hml0
  have hown : s.vm.findClass "java/util/ImmutableCollections" = some m.cls := findClass_of_methodNamed Bd.named
  have hnm := (name_of_methodNamed Bd.named Bd.method).1
  have X0 : Stand p l e ({ frames := 7, cells := 3, slots := 8, locals := 90 } : Room) s m #[(.ref x0)] below meth c s₁ [] 0 0 := Stand.of_body Bd
  have e0 : s₁.heap = h0 := by rw [← hh, Bd.state]; rfl
  have N0 := Fr.nil Z.heap.size
  show Go FrameEnd p e below s ({ frames := 7, cells := 3, slots := 8, locals := 90 } : Room).cells ({ frames := 7, cells := 3, slots := 8, locals := 90 } : Room).slots (Q_a8_3 Z dc kdc el ee kee ca cc eo mo x0 w1 kk2 w3 w4 w5 h0) s₁ (entryFrame m #[(.ref x0)] 2)
  refine Go.cast (ef_a8_3 m x0) ?_
  show Go _ _ _ _ _ _ _ _ s₁ (mkF m 0 #[.val (.ref x0), .unset] [])
  refine Go.step (fun _ kt_ => XS.aloadN X0.here hx rfl (hb hby d8_0) rfl rfl kt_) ?_
  show Go _ _ _ _ _ _ _ _ s₁ (mkF m 1 #[.val (.ref x0), .unset] [(.ref x0)])
  obtain ⟨T1, X1, e1, st1⟩ := instNo X0 hx hZ hown (hw _ (List.mem_of_getElem? (i := 51) rfl)) e0 r0 (own_nsNo (hw _ (List.mem_of_getElem? (i := 52) rfl)) (hw _ (List.mem_of_getElem? (i := 248) rfl)) (NS.step (hw _ (List.mem_of_getElem? (i := 52) rfl)) (NS.step (hw _ (List.mem_of_getElem? (i := 53) rfl)) (NS.step (hw _ (List.mem_of_getElem? (i := 54) rfl)) (own_nsRoot (hw _ (List.mem_of_getElem? (i := 55) rfl)) (hw _ (List.mem_of_getElem? (i := 248) rfl)) (by decide)) (by decide)) (by decide)) (by decide)) (by decide)) (g := (mkF m 1 #[.val (.ref x0), .unset] [(.ref x0)])) rfl rfl (hb hby d8_1)
  refine Go.step st1 ?_
  show Go _ _ _ _ _ _ _ _ T1 (mkF m 4 #[.val (.ref x0), .unset] [(.int (0 : Int32))])
  refine Go.step (fun _ kt_ => XS.ifNo X1.here hx rfl (hb hby d8_4) rfl ((if0 _ _).trans (teq (by decide : (0 : Int32) = (0 : Int32))).2) kt_) ?_
  show Go _ _ _ _ _ _ _ _ T1 (mkF m 7 #[.val (.ref x0), .unset] [])
  refine Go.step (fun _ kt_ => XS.aloadN X1.here hx rfl (hb hby d8_7) rfl rfl kt_) ?_
  show Go _ _ _ _ _ _ _ _ T1 (mkF m 8 #[.val (.ref x0), .unset] [(.ref x0)])
  obtain ⟨T2, X2, e2, st2⟩ := instNo X1 hx hZ hown (hw _ (List.mem_of_getElem? (i := 56) rfl)) e1 r0 (own_nsNo (hw _ (List.mem_of_getElem? (i := 52) rfl)) (hw _ (List.mem_of_getElem? (i := 197) rfl)) (NS.step (hw _ (List.mem_of_getElem? (i := 52) rfl)) (NS.step (hw _ (List.mem_of_getElem? (i := 53) rfl)) (NS.step (hw _ (List.mem_of_getElem? (i := 54) rfl)) (own_nsRoot (hw _ (List.mem_of_getElem? (i := 55) rfl)) (hw _ (List.mem_of_getElem? (i := 197) rfl)) (by decide)) (by decide)) (by decide)) (by decide)) (by decide)) (g := (mkF m 8 #[.val (.ref x0), .unset] [(.ref x0)])) rfl rfl (hb hby d8_8)
  refine Go.step st2 ?_
  show Go _ _ _ _ _ _ _ _ T2 (mkF m 11 #[.val (.ref x0), .unset] [(.int (0 : Int32))])
  refine Go.step (fun _ kt_ => XS.ifYes X2.here hx rfl (pc0 := 11) (pc' := 31) rfl (hb hby d8_11) rfl ((if0 _ _).trans (teq (by decide : (0 : Int32) = (0 : Int32))).1) (by decide) (by decide) kt_) ?_
  show Go _ _ _ _ _ _ _ _ T2 (mkF m 31 #[.val (.ref x0), .unset] [])
  refine Go.step (fun _ kt_ => XS.aloadN X2.here hx rfl (hb hby d8_31) rfl rfl kt_) ?_
  show Go _ _ _ _ _ _ _ _ T2 (mkF m 32 #[.val (.ref x0), .unset] [(.ref x0)])
  obtain ⟨cq3, kq3, q3a, q3b, q3c⟩ := isOf hZ e2 r0
  obtain ⟨_, _, ⟨T3, L3, k3, n3⟩, -, X3, ⟨Lc3, hQ3, l3, y3, z3⟩, st3⟩ := X2.interfaceBack hx (xi := (⟨"java/util/Collection", "isEmpty", "()Z"⟩ : MethodName)) (y := (⟨"java/util/ArrayList", "isEmpty", "()Z"⟩ : MethodName)) hown (mvT hZ (hw _ (List.mem_of_getElem? (i := 57) rfl))) (mvT hZ (hw _ (List.mem_of_getElem? (i := 58) rfl))) (mvT hZ (hw _ (List.mem_of_getElem? (i := 59) rfl))) (mvT hZ (hw _ (List.mem_of_getElem? (i := 60) rfl))) (mvT hZ (hw _ (List.mem_of_getElem? (i := 61) rfl))) (mvT hZ (hw _ (List.mem_of_getElem? (i := 62) rfl))) (mvT hZ (hw _ (List.mem_of_getElem? (i := 63) rfl))) (mvT hZ (hw _ (List.mem_of_getElem? (i := 64) rfl))) (by decide) (backOf (W := 0) (rm_a9_1 l Z a0 hw [] dc kdc el ee kee ca cc eo mo G_dc G_dce G_dcv G_el G_ele G_elf G_eev G_hi G_ca G_bx G_eo G_eoe G_mo x0 (3 : Int32) h0 O0 r1 (by decide)) hZ (hw _ (List.mem_of_getElem? (i := 65) rfl)) (hw _ (List.mem_of_getElem? (i := 7) rfl)) (by decide) (by decide)) q3a q3b q3c (g := (mkF m 32 #[.val (.ref x0), .unset] [(.ref x0)])) rfl (by rw [hml]; rfl) (Steps.refl _) (argsL := []) (rest := []) (lenOf pd_LRZ rfl) rfl (by show 2 * 0 + _ ≤ _; exact Nat.le_of_eq rfl) (hb hby d8_32) (fun _ _ => ⟨rfl, e2, (by decide : 0 + 0 ≤ _), (by decide : 0 + 0 ≤ _)⟩)
  dsimp only [Pt.U, Pt.locs, Pt.cells, Pt.slots] at X3 l3 y3 z3 st3 hQ3
  subst l3 y3 z3
  obtain ⟨rfl, Nq3, e3⟩ := hQ3
  have N3_ := Fr.app N0 Nq3
  refine Go.trans st3 ?_
  show Go _ _ _ _ _ _ _ _ T3 (mkF m 37 #[.val (.ref x0), .unset] [(.int (0 : Int32))])
  refine Go.step (fun _ kt_ => XS.ifYes X3.here hx rfl (pc0 := 37) (pc' := 44) rfl (hb hby d8_37) rfl ((if0 _ _).trans (teq (by decide : (0 : Int32) = (0 : Int32))).1) (by decide) (by decide) kt_) ?_
  show Go _ _ _ _ _ _ _ _ T3 (mkF m 44 #[.val (.ref x0), .unset] [])
  refine Go.step (fun _ kt_ => XS.aloadN X3.here hx rfl (hb hby d8_44) rfl rfl kt_) ?_
  show Go _ _ _ _ _ _ _ _ T3 (mkF m 45 #[.val (.ref x0), .unset] [(.ref x0)])
  obtain ⟨cq4, kq4, q4a, q4b, q4c⟩ := isOf hZ e3 r0
  obtain ⟨_, _, ⟨T4, L4, k4, n4⟩, -, X4, ⟨Lc4, hQ4, l4, y4, z4⟩, st4⟩ := X3.interfaceBack hx (xi := (⟨"java/util/Collection", "toArray", "()[Ljava/lang/Object;"⟩ : MethodName)) (y := (⟨"java/util/ArrayList", "toArray", "()[Ljava/lang/Object;"⟩ : MethodName)) hown (mvT hZ (hw _ (List.mem_of_getElem? (i := 156) rfl))) (mvT hZ (hw _ (List.mem_of_getElem? (i := 157) rfl))) (mvT hZ (hw _ (List.mem_of_getElem? (i := 158) rfl))) (mvT hZ (hw _ (List.mem_of_getElem? (i := 159) rfl))) (mvT hZ (hw _ (List.mem_of_getElem? (i := 160) rfl))) (mvT hZ (hw _ (List.mem_of_getElem? (i := 161) rfl))) (mvT hZ (hw _ (List.mem_of_getElem? (i := 162) rfl))) (mvT hZ (hw _ (List.mem_of_getElem? (i := 64) rfl))) (by decide) (backOf (W := 0) (rm_a19_2 l Z a0 hw [] dc kdc el ee kee ca cc eo mo G_dc G_dce G_dcv G_el G_ele G_elf G_eev G_hi G_ca G_bx G_eo G_eoe G_mo x0 w1 kk2 w3 w4 w5 h0 O0 r2 r1 r3 r4 r5 r6 r7) hZ (hw _ (List.mem_of_getElem? (i := 163) rfl)) (hw _ (List.mem_of_getElem? (i := 7) rfl)) (by decide) (by decide)) q4a q4b q4c (g := (mkF m 45 #[.val (.ref x0), .unset] [(.ref x0)])) rfl (by rw [hml]; rfl) (Steps.refl _) (argsL := []) (rest := []) (lenOf pd_LRALjava_lang_Object_ rfl) rfl (by show 2 * 0 + _ ≤ _; exact Nat.le_of_eq rfl) (hb hby d8_45) (fun _ _ => ⟨rfl, e3, (by decide : 0 + 1 ≤ _), (by decide : 0 + 3 ≤ _)⟩)
  dsimp only [Pt.U, Pt.locs, Pt.cells, Pt.slots] at X4 l4 y4 z4 st4 hQ4
  subst l4 y4 z4
  obtain ⟨b2q2q3q4, k2q2q3q4, rfl, Nq4, Kq4, p4_0, p4_1, p4_2, p4_3⟩ := hQ4
  have O4_ : Ext Z.heap T4.heap := extKeep O0 Kq4 all0
  have K4 := Keep.trans (Keep.refl h0 []) Kq4 all0
  have N4_ := Fr.app N3_ Nq4
  have g_b2q2q3q4 : Z.heap.size ≤ b2q2q3q4 := Nat.le_trans O0.1 p4_0
  have sz_b2q2q3q4 : h0.size ≤ b2q2q3q4 := Nat.le_trans (Keep.refl h0 []).1 p4_0
  refine Go.trans st4 ?_
  show Go _ _ _ _ _ _ _ _ T4 (mkF m 50 #[.val (.ref x0), .unset] [(.ref b2q2q3q4)])
  obtain ⟨_, _, ⟨T5, L5, k5, n5⟩, -, X5, ⟨Lc5, hQ5, l5, y5, z5⟩, st5⟩ := Jvm.LawKit.callS X4 hx (y := (⟨"java/util/List", "of", "([Ljava/lang/Object;)Ljava/util/List;"⟩ : MethodName)) hown (mvT hZ (hw _ (List.mem_of_getElem? (i := 186) rfl))) (mvT hZ (hw _ (List.mem_of_getElem? (i := 187) rfl))) (mvT hZ (hw _ (List.mem_of_getElem? (i := 45) rfl))) (mvT hZ (hw _ (List.mem_of_getElem? (i := 188) rfl))) (by decide) (backOf (W := 0) (rm_a23_2 l Z a0 hw [] dc kdc el ee kee ca cc eo mo G_dc G_dce G_dcv G_el G_ele G_elf G_eev G_hi G_ca G_bx G_eo G_eoe G_mo b2q2q3q4 k2q2q3q4 w3 w4 w5 T4.heap O4_ p4_2 (r7.keep Kq4) (r6.keep Kq4) (r5.keep Kq4)) hZ (hw _ (List.mem_of_getElem? (i := 188) rfl)) (hw _ (List.mem_of_getElem? (i := 45) rfl)) (by decide) (by decide)) (g := (mkF m 50 #[.val (.ref x0), .unset] [(.ref b2q2q3q4)])) rfl (by rw [hml]; rfl) (argsL := [(.ref b2q2q3q4)]) (rest := []) (lenOf pd_LALjava_lang_Object_RLjava_util_List_ rfl) rfl (by show 2 * 0 + _ ≤ _; exact Nat.le_of_eq rfl) (hb hby d8_50) (fun _ _ => ⟨rfl, rfl, (by decide : 1 + 2 ≤ _), (by decide : 3 + 5 ≤ _)⟩)
  dsimp only [Pt.U, Pt.locs, Pt.cells, Pt.slots] at X5 l5 y5 z5 st5 hQ5
  subst l5 y5 z5
  obtain ⟨b19q2q5, b2q2q5, k2q2q5, rfl, Nq5, Kq5, p5_0, p5_1, p5_2, p5_3, p5_4, p5_5, p5_6, p5_7, p5_8⟩ := hQ5
  have O5_ : Ext Z.heap T5.heap := extKeep O4_ Kq5 all0
  have K5 := Keep.trans K4 Kq5 all0
  have N5_ := Fr.app N4_ Nq5
  have g_b19q2q5 : Z.heap.size ≤ b19q2q5 := Nat.le_trans O4_.1 p5_0
  have sz_b19q2q5 : h0.size ≤ b19q2q5 := Nat.le_trans K4.1 p5_0
  have g_b2q2q5 : Z.heap.size ≤ b2q2q5 := Nat.le_trans O4_.1 p5_4
  have sz_b2q2q5 : h0.size ≤ b2q2q5 := Nat.le_trans K4.1 p5_4
  refine Go.step st5 ?_
  show Go _ _ _ _ _ _ _ _ T5 (mkF m 53 #[.val (.ref x0), .unset] [(.ref b19q2q5)])
  exact Go.retA X5 hx Bd.returns rfl rfl hlk (hb hby d8_53) (by decide) (by decide) ⟨b19q2q5, b2q2q5, k2q2q5, rfl, N5_, K5, sz_b19q2q5, p5_1, p5_2, p5_3, sz_b2q2q5, p5_5, p5_6, p5_7, p5_8⟩
theorem ef_a7_3 (m : MethodId) (y0 : Addr) : entryFrame m #[(.ref y0)] 1 = mkF m 0 #[.val (.ref y0)] [] := by first | (simp [entryFrame, mkF, argsToLocals, Value.category]; done) | rfl
def Q_a7_3 (Z : State) (dc : Addr) (kdc : ClassId) (el : Addr) (ee : Addr) (kee : ClassId) (ca : Addr) (cc : Cell) (eo : Addr) (mo : Addr) (x0 : Addr) (w1 : Addr) (kk2 : ClassId) (w3 : Addr) (w4 : Addr) (w5 : Addr) (h0 : Heap) (v : Option Value) (h : Heap) (L : List Loc) : Prop := ∃ (b19q2q5q1 : Addr) (b2q2q5q1 : Addr) (k2q2q5q1 : ClassId), v = some (.ref b19q2q5q1) ∧ Fr Z.heap.size L ∧ Keep h0 h [] ∧ h0.size ≤ b19q2q5q1 ∧ Exa Z h b19q2q5q1 "java/util/ImmutableCollections$ListN" ∧ Fld Z h b19q2q5q1 "java/util/ImmutableCollections$ListN" "elements" "[Ljava/lang/Object;" (.ref b2q2q5q1) ∧ Fld Z h b19q2q5q1 "java/util/ImmutableCollections$ListN" "allowNulls" "Z" (.int (0 : Int32)) ∧ h0.size ≤ b2q2q5q1 ∧ Exa Z h b2q2q5q1 "[Ljava/lang/Object;" ∧ Arv Z h b2q2q5q1 k2q2q5q1 (.object "java/lang/Object") (3 : Int32) [(.ref w3), (.ref w4), (.ref w5)] .null ∧ Ovr Z k2q2q5q1 "java/lang/Object" ∧ b19q2q5q1 ≠ b2q2q5q1
set_option maxRecDepth 65536 in
set_option maxHeartbeats 40000000 in
theorem rm_a7_3 (l : Launch) (Z : State) (a0 : Array Value) (hw : ∀ d ∈ tables_1, d.before a0 Z = true) (ws : List Jvm.Cond) (dc : Addr) (kdc : ClassId) (el : Addr) (ee : Addr) (kee : ClassId) (ca : Addr) (cc : Cell) (eo : Addr) (mo : Addr) (G_dc : Sta Z Z.heap "java/util/ArrayList" "DEFAULTCAPACITY_EMPTY_ELEMENTDATA" "[Ljava/lang/Object;" (.ref dc)) (G_dce : Exa Z Z.heap dc "[Ljava/lang/Object;") (G_dcv : Arv Z Z.heap dc kdc (.object "java/lang/Object") (0 : Int32) [] .null) (G_el : Sta Z Z.heap "java/util/ImmutableCollections" "EMPTY_LIST" "Ljava/util/ImmutableCollections$ListN;" (.ref el)) (G_ele : Exa Z Z.heap el "java/util/ImmutableCollections$ListN") (G_elf : Fld Z Z.heap el "java/util/ImmutableCollections$ListN" "elements" "[Ljava/lang/Object;" (.ref ee)) (G_eev : Arv Z Z.heap ee kee (.object "java/lang/Object") (0 : Int32) [] .null) (G_hi : Sta Z Z.heap "java/lang/Integer$IntegerCache" "high" "I" (.int (127 : Int32))) (G_ca : Sta Z Z.heap "java/lang/Integer$IntegerCache" "cache" "[Ljava/lang/Integer;" (.ref ca)) (G_bx : Bxs Z ca cc "java/lang/Integer" "I" 256 (fun j => .int (j - 128))) (G_eo : Sta Z Z.heap "java/util/ImmutableCollections" "EMPTY" "Ljava/lang/Object;" (.ref eo)) (G_eoe : Exa Z Z.heap eo "java/lang/Object") (G_mo : MirO Z "[Ljava/lang/Object;" mo) (x0 : Addr) (w1 : Addr) (kk2 : ClassId) (w3 : Addr) (w4 : Addr) (w5 : Addr) (h0 : Heap) (O0 : Ext Z.heap h0) (r0 : Exa Z h0 x0 "java/util/ArrayList") (r1 : Fld Z h0 x0 "java/util/ArrayList" "size" "I" (.int (3 : Int32))) (r2 : Fld Z h0 x0 "java/util/ArrayList" "elementData" "[Ljava/lang/Object;" (.ref w1)) (r3 : Exa Z h0 w1 "[Ljava/lang/Object;") (r4 : Arv Z h0 w1 kk2 (.object "java/lang/Object") (10 : Int32) [(.ref w3), (.ref w4), (.ref w5), .null, .null, .null, .null, .null, .null, .null] .null) (r5 : Exa Z h0 w5 "com/example/wary_lock/warylock/Lease") (r6 : Exa Z h0 w4 "com/example/wary_lock/warylock/Lease") (r7 : Exa Z h0 w3 "com/example/wary_lock/warylock/Lease") :
    MetFree l (⟨"java/util/List", "copyOf", "(Ljava/util/Collection;)Ljava/util/List;"⟩ : MethodName) (head1 (Jvm.Cond.code (⟨"java/util/List", "copyOf", "(Ljava/util/Collection;)Ljava/util/List;"⟩ : MethodName) jdk_40_method_48_code 1 (some (.object "java/util/List")) :: ws) ({ frames := 8, cells := 3, slots := 8, locals := 103 } : Room)) (fun a U => a = #[(.ref x0)] ∧ Z.Warmed39 U.vm ∧ U.heap = h0) (fun _ _ _ _ _ => True) (fun _ U o U' => ∃ v L, o = .returned v ∧ Q_a7_3 Z dc kdc el ee kee ca cc eo mo x0 w1 kk2 w3 w4 w5 h0 v U'.heap L ∧ FrameEnd U o U' L ({ frames := 8, cells := 3, slots := 8, locals := 103 } : Room).cells ({ frames := 8, cells := 3, slots := 8, locals := 103 } : Room).slots) := by
  refine MetFree.of_bodySF (plainFor_of_name pn_7) hisR ?_
  intro p e s m args below meth c s₁ Bd hml0 hP hK
  obtain ⟨rfl, hZ, hh⟩ := hP
  have hx := Bd.exec
  have hby := Bd.bytes
  have hlk := Bd.notSynchronized
  have hml : c.maxLocals = 1 := hml0
  have hown : s.vm.findClass "java/util/List" = some m.cls := findClass_of_methodNamed Bd.named
  have hnm := (name_of_methodNamed Bd.named Bd.method).1
  have X0 : Stand p l e ({ frames := 8, cells := 3, slots := 8, locals := 103 } : Room) s m #[(.ref x0)] below meth c s₁ [] 0 0 := Stand.of_body Bd
  have e0 : s₁.heap = h0 := by rw [← hh, Bd.state]; rfl
  have N0 := Fr.nil Z.heap.size
  show Go FrameEnd p e below s ({ frames := 8, cells := 3, slots := 8, locals := 103 } : Room).cells ({ frames := 8, cells := 3, slots := 8, locals := 103 } : Room).slots (Q_a7_3 Z dc kdc el ee kee ca cc eo mo x0 w1 kk2 w3 w4 w5 h0) s₁ (entryFrame m #[(.ref x0)] 1)
  refine Go.cast (ef_a7_3 m x0) ?_
  show Go _ _ _ _ _ _ _ _ s₁ (mkF m 0 #[.val (.ref x0)] [])
  refine Go.step (fun _ kt_ => XS.aloadN X0.here hx rfl (hb hby d7_0) rfl rfl kt_) ?_
  show Go _ _ _ _ _ _ _ _ s₁ (mkF m 1 #[.val (.ref x0)] [(.ref x0)])
  obtain ⟨_, _, ⟨T1, L1, k1, n1⟩, -, X1, ⟨Lc1, hQ1, l1, y1, z1⟩, st1⟩ := Jvm.LawKit.callS X0 hx (y := (⟨"java/util/ImmutableCollections", "listCopy", "(Ljava/util/Collection;)Ljava/util/List;"⟩ : MethodName)) hown (mvT hZ (hw _ (List.mem_of_getElem? (i := 47) rfl))) (mvT hZ (hw _ (List.mem_of_getElem? (i := 48) rfl))) (mvT hZ (hw _ (List.mem_of_getElem? (i := 49) rfl))) (mvT hZ (hw _ (List.mem_of_getElem? (i := 50) rfl))) (by decide) (backOf (W := 0) (rm_a8_3 l Z a0 hw [] dc kdc el ee kee ca cc eo mo G_dc G_dce G_dcv G_el G_ele G_elf G_eev G_hi G_ca G_bx G_eo G_eoe G_mo x0 w1 kk2 w3 w4 w5 h0 O0 r0 r1 r2 r3 r4 r5 r6 r7) hZ (hw _ (List.mem_of_getElem? (i := 50) rfl)) (hw _ (List.mem_of_getElem? (i := 49) rfl)) (by decide) (by decide)) (g := (mkF m 1 #[.val (.ref x0)] [(.ref x0)])) rfl (by rw [hml]; rfl) (argsL := [(.ref x0)]) (rest := []) (lenOf pd_LLjava_util_Collection_RLjava_util_List_ rfl) rfl (by show 2 * 0 + _ ≤ _; exact Nat.le_of_eq rfl) (hb hby d7_1) (fun _ _ => ⟨rfl, e0, (by decide : 0 + 3 ≤ _), (by decide : 0 + 8 ≤ _)⟩)
  dsimp only [Pt.U, Pt.locs, Pt.cells, Pt.slots] at X1 l1 y1 z1 st1 hQ1
  subst l1 y1 z1
  obtain ⟨b19q2q5q1, b2q2q5q1, k2q2q5q1, rfl, Nq1, Kq1, p1_0, p1_1, p1_2, p1_3, p1_4, p1_5, p1_6, p1_7, p1_8⟩ := hQ1
  have O1_ : Ext Z.heap T1.heap := extKeep O0 Kq1 all0
  have K1 := Keep.trans (Keep.refl h0 []) Kq1 all0
  have N1_ := Fr.app N0 Nq1
  have g_b19q2q5q1 : Z.heap.size ≤ b19q2q5q1 := Nat.le_trans O0.1 p1_0
  have sz_b19q2q5q1 : h0.size ≤ b19q2q5q1 := Nat.le_trans (Keep.refl h0 []).1 p1_0
  have g_b2q2q5q1 : Z.heap.size ≤ b2q2q5q1 := Nat.le_trans O0.1 p1_4
  have sz_b2q2q5q1 : h0.size ≤ b2q2q5q1 := Nat.le_trans (Keep.refl h0 []).1 p1_4
  refine Go.step st1 ?_
  show Go _ _ _ _ _ _ _ _ T1 (mkF m 4 #[.val (.ref x0)] [(.ref b19q2q5q1)])
  exact Go.retA X1 hx Bd.returns rfl rfl hlk (hb hby d7_4) (by decide) (by decide) ⟨b19q2q5q1, b2q2q5q1, k2q2q5q1, rfl, N1_, K1, sz_b19q2q5q1, p1_1, p1_2, p1_3, sz_b2q2q5q1, p1_5, p1_6, p1_7, p1_8⟩
theorem ef_a5_3 (m : MethodId) (y0 : Addr) (y1 : Addr) (y2 : Int32) : entryFrame m #[(.ref y0), (.ref y1), (.int y2)] 3 = mkF m 0 #[.val (.ref y0), .val (.ref y1), .val (.int y2)] [] := by first | (simp [entryFrame, mkF, argsToLocals, Value.category]; done) | rfl
def Q_a5_3 (Z : State) (dc : Addr) (kdc : ClassId) (el : Addr) (ee : Addr) (kee : ClassId) (ca : Addr) (cc : Cell) (eo : Addr) (mo : Addr) (x0 : Addr) (x1 : Addr) (x2 : Int32) (w1 : Addr) (kk2 : ClassId) (w3 : Addr) (w4 : Addr) (w5 : Addr) (h0 : Heap) (v : Option Value) (h : Heap) (L : List Loc) : Prop := ∃ (b19q2q5q1q2 : Addr) (b2q2q5q1q2 : Addr) (k2q2q5q1q2 : ClassId), v = none ∧ Fr Z.heap.size L ∧ Keep h0 h [x0] ∧ Fld Z h x0 "com/example/wary_lock/warylock/LockState" "holders" "Ljava/util/List;" (.ref b19q2q5q1q2) ∧ Fld Z h x0 "com/example/wary_lock/warylock/LockState" "waiting" "I" (.int x2) ∧ h0.size ≤ b19q2q5q1q2 ∧ Exa Z h b19q2q5q1q2 "java/util/ImmutableCollections$ListN" ∧ Fld Z h b19q2q5q1q2 "java/util/ImmutableCollections$ListN" "elements" "[Ljava/lang/Object;" (.ref b2q2q5q1q2) ∧ Fld Z h b19q2q5q1q2 "java/util/ImmutableCollections$ListN" "allowNulls" "Z" (.int (0 : Int32)) ∧ h0.size ≤ b2q2q5q1q2 ∧ Exa Z h b2q2q5q1q2 "[Ljava/lang/Object;" ∧ Arv Z h b2q2q5q1q2 k2q2q5q1q2 (.object "java/lang/Object") (3 : Int32) [(.ref w3), (.ref w4), (.ref w5)] .null ∧ Ovr Z k2q2q5q1q2 "java/lang/Object" ∧ b19q2q5q1q2 ≠ b2q2q5q1q2
set_option maxRecDepth 65536 in
set_option maxHeartbeats 40000000 in
theorem rm_a5_3 (l : Launch) (Z : State) (a0 : Array Value) (hw : ∀ d ∈ tables_1, d.before a0 Z = true) (ws : List Jvm.Cond) (dc : Addr) (kdc : ClassId) (el : Addr) (ee : Addr) (kee : ClassId) (ca : Addr) (cc : Cell) (eo : Addr) (mo : Addr) (G_dc : Sta Z Z.heap "java/util/ArrayList" "DEFAULTCAPACITY_EMPTY_ELEMENTDATA" "[Ljava/lang/Object;" (.ref dc)) (G_dce : Exa Z Z.heap dc "[Ljava/lang/Object;") (G_dcv : Arv Z Z.heap dc kdc (.object "java/lang/Object") (0 : Int32) [] .null) (G_el : Sta Z Z.heap "java/util/ImmutableCollections" "EMPTY_LIST" "Ljava/util/ImmutableCollections$ListN;" (.ref el)) (G_ele : Exa Z Z.heap el "java/util/ImmutableCollections$ListN") (G_elf : Fld Z Z.heap el "java/util/ImmutableCollections$ListN" "elements" "[Ljava/lang/Object;" (.ref ee)) (G_eev : Arv Z Z.heap ee kee (.object "java/lang/Object") (0 : Int32) [] .null) (G_hi : Sta Z Z.heap "java/lang/Integer$IntegerCache" "high" "I" (.int (127 : Int32))) (G_ca : Sta Z Z.heap "java/lang/Integer$IntegerCache" "cache" "[Ljava/lang/Integer;" (.ref ca)) (G_bx : Bxs Z ca cc "java/lang/Integer" "I" 256 (fun j => .int (j - 128))) (G_eo : Sta Z Z.heap "java/util/ImmutableCollections" "EMPTY" "Ljava/lang/Object;" (.ref eo)) (G_eoe : Exa Z Z.heap eo "java/lang/Object") (G_mo : MirO Z "[Ljava/lang/Object;" mo) (x0 : Addr) (x1 : Addr) (x2 : Int32) (w1 : Addr) (kk2 : ClassId) (w3 : Addr) (w4 : Addr) (w5 : Addr) (h0 : Heap) (O0 : Ext Z.heap h0) (r0 : Exa Z h0 x1 "java/util/ArrayList") (r1 : Fld Z h0 x1 "java/util/ArrayList" "size" "I" (.int (3 : Int32))) (r2 : Fld Z h0 x1 "java/util/ArrayList" "elementData" "[Ljava/lang/Object;" (.ref w1)) (r3 : Exa Z h0 w1 "[Ljava/lang/Object;") (r4 : Arv Z h0 w1 kk2 (.object "java/lang/Object") (10 : Int32) [(.ref w3), (.ref w4), (.ref w5), .null, .null, .null, .null, .null, .null, .null] .null) (r5 : Exa Z h0 w5 "com/example/wary_lock/warylock/Lease") (r6 : Exa Z h0 w4 "com/example/wary_lock/warylock/Lease") (r7 : Exa Z h0 w3 "com/example/wary_lock/warylock/Lease") (r8 : Exa Z h0 x0 "com/example/wary_lock/warylock/LockState") (r9 : Fld Z h0 x0 "com/example/wary_lock/warylock/LockState" "holders" "Ljava/util/List;" .null) (r10 : Z.heap.size ≤ x0) (r11 : Fld Z h0 x0 "com/example/wary_lock/warylock/LockState" "waiting" "I" (.int (0 : Int32))) :
    MetFree l (⟨"com/example/wary_lock/warylock/LockState", "<init>", "(Ljava/util/List;I)V"⟩ : MethodName) (head1 (Jvm.Cond.code (⟨"com/example/wary_lock/warylock/LockState", "<init>", "(Ljava/util/List;I)V"⟩ : MethodName) prog_11_method_1_code 3 none :: ws) ({ frames := 9, cells := 3, slots := 8, locals := 115 } : Room)) (fun a U => a = #[(.ref x0), (.ref x1), (.int x2)] ∧ Z.Warmed39 U.vm ∧ U.heap = h0) (fun _ _ _ _ _ => True) (fun _ U o U' => ∃ v L, o = .returned v ∧ Q_a5_3 Z dc kdc el ee kee ca cc eo mo x0 x1 x2 w1 kk2 w3 w4 w5 h0 v U'.heap L ∧ FrameEnd U o U' L ({ frames := 9, cells := 3, slots := 8, locals := 115 } : Room).cells ({ frames := 9, cells := 3, slots := 8, locals := 115 } : Room).slots) := by
  refine MetFree.of_bodySF (plainFor_of_name pn_5) hisR ?_
  intro p e s m args below meth c s₁ Bd hml0 hP hK
  obtain ⟨rfl, hZ, hh⟩ := hP
  have hx := Bd.exec
  have hby := Bd.bytes
  have hlk := Bd.notSynchronized
  have hml : c.maxLocals = 3 := hml0
  have hown : s.vm.findClass "com/example/wary_lock/warylock/LockState" = some m.cls := findClass_of_methodNamed Bd.named
  have hnm := (name_of_methodNamed Bd.named Bd.method).1
  have X0 : Stand p l e ({ frames := 9, cells := 3, slots := 8, locals := 115 } : Room) s m #[(.ref x0), (.ref x1), (.int x2)] below meth c s₁ [] 0 0 := Stand.of_body Bd
  have e0 : s₁.heap = h0 := by rw [← hh, Bd.state]; rfl
  have N0 := Fr.nil Z.heap.size
  show Go FrameEnd p e below s ({ frames := 9, cells := 3, slots := 8, locals := 115 } : Room).cells ({ frames := 9, cells := 3, slots := 8, locals := 115 } : Room).slots (Q_a5_3 Z dc kdc el ee kee ca cc eo mo x0 x1 x2 w1 kk2 w3 w4 w5 h0) s₁ (entryFrame m #[(.ref x0), (.ref x1), (.int x2)] 3)
  refine Go.cast (ef_a5_3 m x0 x1 x2) ?_
  show Go _ _ _ _ _ _ _ _ s₁ (mkF m 0 #[.val (.ref x0), .val (.ref x1), .val (.int x2)] [])
  refine Go.step (fun _ kt_ => XS.aloadN X0.here hx rfl (hb hby d5_0) rfl rfl kt_) ?_
  show Go _ _ _ _ _ _ _ _ s₁ (mkF m 1 #[.val (.ref x0), .val (.ref x1), .val (.int x2)] [(.ref x0)])
  obtain ⟨_, _, ⟨T1, L1, k1, n1⟩, -, X1, ⟨Lc1, hQ1, l1, y1, z1⟩, st1⟩ := X0.specialBack hx (y := (⟨"java/lang/Record", "<init>", "()V"⟩ : MethodName)) rfl hown (mvT hZ (hw _ (List.mem_of_getElem? (i := 37) rfl))) (mvT hZ (hw _ (List.mem_of_getElem? (i := 38) rfl))) (mvT hZ (hw _ (List.mem_of_getElem? (i := 41) rfl))) (by decide) (backOf (W := 0) (rm_a6_0 l Z a0 hw [] dc kdc el ee kee ca cc eo mo G_dc G_dce G_dcv G_el G_ele G_elf G_eev G_hi G_ca G_bx G_eo G_eoe G_mo x0 h0 O0 ) hZ (hw _ (List.mem_of_getElem? (i := 41) rfl)) (hw _ (List.mem_of_getElem? (i := 40) rfl)) (by decide) (by decide)) (g := (mkF m 1 #[.val (.ref x0), .val (.ref x1), .val (.int x2)] [(.ref x0)])) rfl (by rw [hml]; rfl) (Steps.refl _) (a := x0) (argsL := []) (rest := []) (lenOf pd_LRV rfl) rfl (by show 2 * 0 + _ ≤ _; exact Nat.le_of_eq rfl) (hb hby d5_1) (fun _ _ => ⟨rfl, e0, (by decide : 0 + 0 ≤ _), (by decide : 0 + 0 ≤ _)⟩)
  dsimp only [Pt.U, Pt.locs, Pt.cells, Pt.slots] at X1 l1 y1 z1 st1 hQ1
  subst l1 y1 z1
  obtain ⟨rfl, Nq1, e1⟩ := hQ1
  have N1_ := Fr.app N0 Nq1
  refine Go.trans st1 ?_
  show Go _ _ _ _ _ _ _ _ T1 (mkF m 4 #[.val (.ref x0), .val (.ref x1), .val (.int x2)] [])
  refine Go.step (fun _ kt_ => XS.aloadN X1.here hx rfl (hb hby d5_4) rfl rfl kt_) ?_
  show Go _ _ _ _ _ _ _ _ T1 (mkF m 5 #[.val (.ref x0), .val (.ref x1), .val (.int x2)] [(.ref x1)])
  obtain ⟨_, _, ⟨T2, L2, k2, n2⟩, -, X2, ⟨Lc2, hQ2, l2, y2, z2⟩, st2⟩ := Jvm.LawKit.callS X1 hx (y := (⟨"java/util/List", "copyOf", "(Ljava/util/Collection;)Ljava/util/List;"⟩ : MethodName)) hown (mvT hZ (hw _ (List.mem_of_getElem? (i := 43) rfl))) (mvT hZ (hw _ (List.mem_of_getElem? (i := 44) rfl))) (mvT hZ (hw _ (List.mem_of_getElem? (i := 45) rfl))) (mvT hZ (hw _ (List.mem_of_getElem? (i := 46) rfl))) (by decide) (backOf (W := 0) (rm_a7_3 l Z a0 hw [] dc kdc el ee kee ca cc eo mo G_dc G_dce G_dcv G_el G_ele G_elf G_eev G_hi G_ca G_bx G_eo G_eoe G_mo x1 w1 kk2 w3 w4 w5 h0 O0 r0 r1 r2 r3 r4 r5 r6 r7) hZ (hw _ (List.mem_of_getElem? (i := 46) rfl)) (hw _ (List.mem_of_getElem? (i := 45) rfl)) (by decide) (by decide)) (g := (mkF m 5 #[.val (.ref x0), .val (.ref x1), .val (.int x2)] [(.ref x1)])) rfl (by rw [hml]; rfl) (argsL := [(.ref x1)]) (rest := []) (lenOf pd_LLjava_util_Collection_RLjava_util_List_ rfl) rfl (by show 2 * 0 + _ ≤ _; exact Nat.le_of_eq rfl) (hb hby d5_5) (fun _ _ => ⟨rfl, e1, (by decide : 0 + 3 ≤ _), (by decide : 0 + 8 ≤ _)⟩)
  dsimp only [Pt.U, Pt.locs, Pt.cells, Pt.slots] at X2 l2 y2 z2 st2 hQ2
  subst l2 y2 z2
  obtain ⟨b19q2q5q1q2, b2q2q5q1q2, k2q2q5q1q2, rfl, Nq2, Kq2, p2_0, p2_1, p2_2, p2_3, p2_4, p2_5, p2_6, p2_7, p2_8⟩ := hQ2
  have O2_ : Ext Z.heap T2.heap := extKeep O0 Kq2 all0
  have K2 := Keep.trans (Keep.refl h0 [x0]) Kq2 all0
  have N2_ := Fr.app N1_ Nq2
  have g_b19q2q5q1q2 : Z.heap.size ≤ b19q2q5q1q2 := Nat.le_trans O0.1 p2_0
  have sz_b19q2q5q1q2 : h0.size ≤ b19q2q5q1q2 := Nat.le_trans (Keep.refl h0 [x0]).1 p2_0
  have g_b2q2q5q1q2 : Z.heap.size ≤ b2q2q5q1q2 := Nat.le_trans O0.1 p2_4
  have sz_b2q2q5q1q2 : h0.size ≤ b2q2q5q1q2 := Nat.le_trans (Keep.refl h0 [x0]).1 p2_4
  refine Go.step st2 ?_
  show Go _ _ _ _ _ _ _ _ T2 (mkF m 8 #[.val (.ref x0), .val (.ref x1), .val (.int x2)] [(.ref b19q2q5q1q2)])
  refine Go.step (fun _ kt_ => XS.astoreN X2.here hx rfl (hb hby d5_8) rfl rfl (l' := #[.val (.ref x0), .val (.ref b19q2q5q1q2), .val (.int x2)]) rfl kt_) ?_
  show Go _ _ _ _ _ _ _ _ T2 (mkF m 9 #[.val (.ref x0), .val (.ref b19q2q5q1q2), .val (.int x2)] [])
  refine Go.step (fun _ kt_ => XS.aloadN X2.here hx rfl (hb hby d5_9) rfl rfl kt_) ?_
  show Go _ _ _ _ _ _ _ _ T2 (mkF m 10 #[.val (.ref x0), .val (.ref b19q2q5q1q2), .val (.int x2)] [(.ref x0)])
  refine Go.step (fun _ kt_ => XS.aloadN X2.here hx rfl (hb hby d5_10) rfl rfl kt_) ?_
  show Go _ _ _ _ _ _ _ _ T2 (mkF m 11 #[.val (.ref x0), .val (.ref b19q2q5q1q2), .val (.int x2)] [(.ref b19q2q5q1q2), (.ref x0)])
  obtain ⟨T3, h3, X3, e3, W3, st3⟩ := putF X2 hx hZ hown (host := "") (Or.inl (hw _ (List.mem_of_getElem? (i := 72) rfl))) Via.refl rfl (r9.keep Kq2 nin0) (r8.keep Kq2) (Or.inr ⟨(hw _ (List.mem_of_getElem? (i := 73) rfl)), rfl, hnm⟩) (hw _ (List.mem_of_getElem? (i := 32) rfl)) (ty := (.object "java/util/List")) pf_Ljava_util_List_ rfl rfl (g := (mkF m 11 #[.val (.ref x0), .val (.ref b19q2q5q1q2), .val (.int x2)] [(.ref b19q2q5q1q2), (.ref x0)])) rfl rfl (hb hby d5_11)
  refine Go.step st3 ?_
  have N3_ := Fr.snoc X3 N2_ r10
  have O3_ : Ext Z.heap h3 := extWr O2_ W3 r10
  have K3 := Keep.wr K2 W3 (Or.inl (List.mem_of_getElem? (i := 0) rfl))
  have F3 := Fld.same W3 (r9.keep Kq2 nin0)
  show Go _ _ _ _ _ _ _ _ T3 (mkF m 14 #[.val (.ref x0), .val (.ref b19q2q5q1q2), .val (.int x2)] [])
  refine Go.step (fun _ kt_ => XS.aloadN X3.here hx rfl (hb hby d5_14) rfl rfl kt_) ?_
  show Go _ _ _ _ _ _ _ _ T3 (mkF m 15 #[.val (.ref x0), .val (.ref b19q2q5q1q2), .val (.int x2)] [(.ref x0)])
  refine Go.step (fun _ kt_ => XS.iloadN X3.here hx rfl (hb hby d5_15) rfl kt_) ?_
  show Go _ _ _ _ _ _ _ _ T3 (mkF m 16 #[.val (.ref x0), .val (.ref b19q2q5q1q2), .val (.int x2)] [(.int x2), (.ref x0)])
  have f4 := (Fld.other W3 (r11.keep Kq2 nin0) (Or.inr (sn_3 hw)))
  obtain ⟨T5, h5, X5, e5, W5, st5⟩ := putF X3 hx hZ hown (host := "") (Or.inl (hw _ (List.mem_of_getElem? (i := 74) rfl))) Via.refl e3 f4 (Exa.wr W3 (r8.keep Kq2)) (Or.inr ⟨(hw _ (List.mem_of_getElem? (i := 75) rfl)), rfl, hnm⟩) (hw _ (List.mem_of_getElem? (i := 32) rfl)) (ty := .int) pf_I rfl rfl (g := (mkF m 16 #[.val (.ref x0), .val (.ref b19q2q5q1q2), .val (.int x2)] [(.int x2), (.ref x0)])) rfl rfl (hb hby d5_16)
  refine Go.step st5 ?_
  have N5_ := Fr.snoc X5 N3_ r10
  have O5_ : Ext Z.heap h5 := extWr O3_ W5 r10
  have K5 := Keep.wr K3 W5 (Or.inl (List.mem_of_getElem? (i := 0) rfl))
  have F5 := Fld.same W5 f4
  show Go _ _ _ _ _ _ _ _ T5 (mkF m 19 #[.val (.ref x0), .val (.ref b19q2q5q1q2), .val (.int x2)] [])
  exact Go.retV X5 hx Bd.returns hlk (hb hby d5_19) (by decide) (by decide) (by show Q_a5_3 _ _ _ _ _ _ _ _ _ _ _ _ _ _ _ _ _ _ _ _ _ _; rw [e5]; exact ⟨b19q2q5q1q2, b2q2q5q1q2, k2q2q5q1q2, rfl, N5_, K5, (Fld.other W5 F3 (Or.inr (Ne.symm (sn_3 hw)))), F5, sz_b19q2q5q1q2, (Exa.wr W5 (Exa.wr W3 p2_1)), (Fld.other W5 (Fld.other W3 p2_2 (Or.inl (Ne.symm (Nat.ne_of_lt (Nat.lt_of_lt_of_le r8.lt p2_0))))) (Or.inl (Ne.symm (Nat.ne_of_lt (Nat.lt_of_lt_of_le r8.lt p2_0))))), (Fld.other W5 (Fld.other W3 p2_3 (Or.inl (Ne.symm (Nat.ne_of_lt (Nat.lt_of_lt_of_le r8.lt p2_0))))) (Or.inl (Ne.symm (Nat.ne_of_lt (Nat.lt_of_lt_of_le r8.lt p2_0))))), sz_b2q2q5q1q2, (Exa.wr W5 (Exa.wr W3 p2_5)), ((p2_6.other W3 (Ne.symm (Nat.ne_of_lt (Nat.lt_of_lt_of_le r8.lt p2_4)))).other W5 (Ne.symm (Nat.ne_of_lt (Nat.lt_of_lt_of_le r8.lt p2_4)))), p2_7, p2_8⟩)
theorem d12_12 : decode jdk_45_method_2_code 12 = .ok (.iconst 0, 1) := by decide +kernel
theorem ef_a12_1 (m : MethodId) (y0 : Addr) : entryFrame m #[(.ref y0)] 1 = mkF m 0 #[.val (.ref y0)] [] := by first | (simp [entryFrame, mkF, argsToLocals, Value.category]; done) | rfl
def Q_a12_1 (Z : State) (dc : Addr) (kdc : ClassId) (el : Addr) (ee : Addr) (kee : ClassId) (ca : Addr) (cc : Cell) (eo : Addr) (mo : Addr) (x0 : Addr) (w1 : Addr) (kk2 : ClassId) (w3 : Addr) (w4 : Addr) (w5 : Addr) (h0 : Heap) (v : Option Value) (h : Heap) (L : List Loc) : Prop := v = some (.int (0 : Int32)) ∧ Fr Z.heap.size L ∧ h = h0
set_option maxRecDepth 65536 in
set_option maxHeartbeats 40000000 in
theorem rm_a12_1 (l : Launch) (Z : State) (a0 : Array Value) (hw : ∀ d ∈ tables_1, d.before a0 Z = true) (ws : List Jvm.Cond) (dc : Addr) (kdc : ClassId) (el : Addr) (ee : Addr) (kee : ClassId) (ca : Addr) (cc : Cell) (eo : Addr) (mo : Addr) (G_dc : Sta Z Z.heap "java/util/ArrayList" "DEFAULTCAPACITY_EMPTY_ELEMENTDATA" "[Ljava/lang/Object;" (.ref dc)) (G_dce : Exa Z Z.heap dc "[Ljava/lang/Object;") (G_dcv : Arv Z Z.heap dc kdc (.object "java/lang/Object") (0 : Int32) [] .null) (G_el : Sta Z Z.heap "java/util/ImmutableCollections" "EMPTY_LIST" "Ljava/util/ImmutableCollections$ListN;" (.ref el)) (G_ele : Exa Z Z.heap el "java/util/ImmutableCollections$ListN") (G_elf : Fld Z Z.heap el "java/util/ImmutableCollections$ListN" "elements" "[Ljava/lang/Object;" (.ref ee)) (G_eev : Arv Z Z.heap ee kee (.object "java/lang/Object") (0 : Int32) [] .null) (G_hi : Sta Z Z.heap "java/lang/Integer$IntegerCache" "high" "I" (.int (127 : Int32))) (G_ca : Sta Z Z.heap "java/lang/Integer$IntegerCache" "cache" "[Ljava/lang/Integer;" (.ref ca)) (G_bx : Bxs Z ca cc "java/lang/Integer" "I" 256 (fun j => .int (j - 128))) (G_eo : Sta Z Z.heap "java/util/ImmutableCollections" "EMPTY" "Ljava/lang/Object;" (.ref eo)) (G_eoe : Exa Z Z.heap eo "java/lang/Object") (G_mo : MirO Z "[Ljava/lang/Object;" mo) (x0 : Addr) (w1 : Addr) (kk2 : ClassId) (w3 : Addr) (w4 : Addr) (w5 : Addr) (h0 : Heap) (O0 : Ext Z.heap h0) (r0 : Fld Z h0 x0 "java/util/ImmutableCollections$ListN" "elements" "[Ljava/lang/Object;" (.ref w1)) (r1 : Arv Z h0 w1 kk2 (.object "java/lang/Object") (3 : Int32) [(.ref w3), (.ref w4), (.ref w5)] .null) :
    MetFree l (⟨"java/util/ImmutableCollections$ListN", "isEmpty", "()Z"⟩ : MethodName) (head1 (Jvm.Cond.code (⟨"java/util/ImmutableCollections$ListN", "isEmpty", "()Z"⟩ : MethodName) jdk_45_method_2_code 1 (some .boolean) :: ws) ({ frames := 0, cells := 0, slots := 0, locals := 0 } : Room)) (fun a U => a = #[(.ref x0)] ∧ Z.Warmed39 U.vm ∧ U.heap = h0) (fun _ _ _ _ _ => True) (fun _ U o U' => ∃ v L, o = .returned v ∧ Q_a12_1 Z dc kdc el ee kee ca cc eo mo x0 w1 kk2 w3 w4 w5 h0 v U'.heap L ∧ FrameEnd U o U' L ({ frames := 0, cells := 0, slots := 0, locals := 0 } : Room).cells ({ frames := 0, cells := 0, slots := 0, locals := 0 } : Room).slots) := by
  refine MetFree.of_bodySF (plainFor_of_name pn_12) hisR ?_
  intro p e s m args below meth c s₁ Bd hml0 hP hK
  obtain ⟨rfl, hZ, hh⟩ := hP
  have hx := Bd.exec
  have hby := Bd.bytes
  have hlk := Bd.notSynchronized
  have hml : c.maxLocals = 1 := hml0
  have hown : s.vm.findClass "java/util/ImmutableCollections$ListN" = some m.cls := findClass_of_methodNamed Bd.named
  have hnm := (name_of_methodNamed Bd.named Bd.method).1
  have X0 : Stand p l e ({ frames := 0, cells := 0, slots := 0, locals := 0 } : Room) s m #[(.ref x0)] below meth c s₁ [] 0 0 := Stand.of_body Bd
  have e0 : s₁.heap = h0 := by rw [← hh, Bd.state]; rfl
  have N0 := Fr.nil Z.heap.size
  show Go FrameEnd p e below s ({ frames := 0, cells := 0, slots := 0, locals := 0 } : Room).cells ({ frames := 0, cells := 0, slots := 0, locals := 0 } : Room).slots (Q_a12_1 Z dc kdc el ee kee ca cc eo mo x0 w1 kk2 w3 w4 w5 h0) s₁ (entryFrame m #[(.ref x0)] 1)
  refine Go.cast (ef_a12_1 m x0) ?_
  show Go _ _ _ _ _ _ _ _ s₁ (mkF m 0 #[.val (.ref x0)] [])
  refine Go.step (fun _ kt_ => XS.aloadN X0.here hx rfl (hb hby d12_0) rfl rfl kt_) ?_
  show Go _ _ _ _ _ _ _ _ s₁ (mkF m 1 #[.val (.ref x0)] [(.ref x0)])
  obtain ⟨T1, X1, e1, st1⟩ := getF X0 hx hZ hown (host := "") (Or.inl (hw _ (List.mem_of_getElem? (i := 91) rfl))) Via.refl e0 r0 (g := (mkF m 1 #[.val (.ref x0)] [(.ref x0)])) rfl rfl (hb hby d12_1)
  refine Go.step st1 ?_
  show Go _ _ _ _ _ _ _ _ T1 (mkF m 4 #[.val (.ref x0)] [(.ref w1)])
  obtain ⟨cl2, Ar2, -, S2, N2, -, -⟩ := id r1
  refine Go.step (X1.arraylength hx (by rw [e1]; exact Ar2.1) (State.isArrayOf_alike hZ.alike Ar2.2.1) (g := (mkF m 4 #[.val (.ref x0)] [(.ref w1)])) rfl rfl (hb hby d12_4)) ?_
  rw [len_of S2 N2]
  show Go _ _ _ _ _ _ _ _ T1 (mkF m 5 #[.val (.ref x0)] [(.int (3 : Int32))])
  refine Go.step (fun _ kt_ => XS.ifYes X1.here hx rfl (pc0 := 5) (pc' := 12) rfl (hb hby d12_5) rfl ((if0 _ _).trans (feq (by decide : ¬ ((3 : Int32) = (0 : Int32)))).2) (by decide) (by decide) kt_) ?_
  show Go _ _ _ _ _ _ _ _ T1 (mkF m 12 #[.val (.ref x0)] [])
  refine Go.step (fun _ kt_ => XS.iconst X1.here hx rfl (hb hby d12_12)  kt_) ?_
  show Go _ _ _ _ _ _ _ _ T1 (mkF m 13 #[.val (.ref x0)] [(.int (0 : Int32))])
  exact Go.retN X1 hx (t := .boolean) Bd.returns (by simp) hlk (hb hby d12_13) (by decide) (by decide) (by show _ ∧ _ ∧ _; rw [e1]; exact ⟨rfl, N0, rfl⟩)
theorem d29_0 : decode jdk_45_method_4_code 0 = .ok (.aload_n 0, 1) := by decide +kernel
theorem d29_1 : decode jdk_45_method_4_code 1 = .ok (.getfield 7, 3) := by decide +kernel
theorem d29_4 : decode jdk_45_method_4_code 4 = .ok (.iload_n 1, 1) := by decide +kernel
theorem d29_5 : decode jdk_45_method_4_code 5 = .ok (.aaload, 1) := by decide +kernel
theorem d29_6 : decode jdk_45_method_4_code 6 = .ok (.areturn, 1) := by decide +kernel
theorem pn_29 : plainName "java/util/ImmutableCollections$ListN" = true := by first | (simp [plainName, overriddenIn]; done) | decide +kernel
theorem ef_a29_0 (m : MethodId) (y0 : Addr) (y1 : Int32) : entryFrame m #[(.ref y0), (.int y1)] 2 = mkF m 0 #[.val (.ref y0), .val (.int y1)] [] := by first | (simp [entryFrame, mkF, argsToLocals, Value.category]; done) | rfl
def Q_a29_0 (Z : State) (dc : Addr) (kdc : ClassId) (el : Addr) (ee : Addr) (kee : ClassId) (ca : Addr) (cc : Cell) (eo : Addr) (mo : Addr) (x0 : Addr) (w1 : Addr) (kk2 : ClassId) (w3 : Addr) (w4 : Addr) (w5 : Addr) (h0 : Heap) (v : Option Value) (h : Heap) (L : List Loc) : Prop := v = some (.ref w3) ∧ Fr Z.heap.size L ∧ h = h0
set_option maxRecDepth 65536 in
set_option maxHeartbeats 40000000 in
theorem rm_a29_0 (l : Launch) (Z : State) (a0 : Array Value) (hw : ∀ d ∈ tables_1, d.before a0 Z = true) (ws : List Jvm.Cond) (dc : Addr) (kdc : ClassId) (el : Addr) (ee : Addr) (kee : ClassId) (ca : Addr) (cc : Cell) (eo : Addr) (mo : Addr) (G_dc : Sta Z Z.heap "java/util/ArrayList" "DEFAULTCAPACITY_EMPTY_ELEMENTDATA" "[Ljava/lang/Object;" (.ref dc)) (G_dce : Exa Z Z.heap dc "[Ljava/lang/Object;") (G_dcv : Arv Z Z.heap dc kdc (.object "java/lang/Object") (0 : Int32) [] .null) (G_el : Sta Z Z.heap "java/util/ImmutableCollections" "EMPTY_LIST" "Ljava/util/ImmutableCollections$ListN;" (.ref el)) (G_ele : Exa Z Z.heap el "java/util/ImmutableCollections$ListN") (G_elf : Fld Z Z.heap el "java/util/ImmutableCollections$ListN" "elements" "[Ljava/lang/Object;" (.ref ee)) (G_eev : Arv Z Z.heap ee kee (.object "java/lang/Object") (0 : Int32) [] .null) (G_hi : Sta Z Z.heap "java/lang/Integer$IntegerCache" "high" "I" (.int (127 : Int32))) (G_ca : Sta Z Z.heap "java/lang/Integer$IntegerCache" "cache" "[Ljava/lang/Integer;" (.ref ca)) (G_bx : Bxs Z ca cc "java/lang/Integer" "I" 256 (fun j => .int (j - 128))) (G_eo : Sta Z Z.heap "java/util/ImmutableCollections" "EMPTY" "Ljava/lang/Object;" (.ref eo)) (G_eoe : Exa Z Z.heap eo "java/lang/Object") (G_mo : MirO Z "[Ljava/lang/Object;" mo) (x0 : Addr) (w1 : Addr) (kk2 : ClassId) (w3 : Addr) (w4 : Addr) (w5 : Addr) (h0 : Heap) (O0 : Ext Z.heap h0) (r0 : Fld Z h0 x0 "java/util/ImmutableCollections$ListN" "elements" "[Ljava/lang/Object;" (.ref w1)) (r1 : Arv Z h0 w1 kk2 (.object "java/lang/Object") (3 : Int32) [(.ref w3), (.ref w4), (.ref w5)] .null) :
    MetFree l (⟨"java/util/ImmutableCollections$ListN", "get", "(I)Ljava/lang/Object;"⟩ : MethodName) (head1 (Jvm.Cond.code (⟨"java/util/ImmutableCollections$ListN", "get", "(I)Ljava/lang/Object;"⟩ : MethodName) jdk_45_method_4_code 2 (some (.object "java/lang/Object")) :: ws) ({ frames := 0, cells := 0, slots := 0, locals := 0 } : Room)) (fun a U => a = #[(.ref x0), (.int (0 : Int32))] ∧ Z.Warmed39 U.vm ∧ U.heap = h0) (fun _ _ _ _ _ => True) (fun _ U o U' => ∃ v L, o = .returned v ∧ Q_a29_0 Z dc kdc el ee kee ca cc eo mo x0 w1 kk2 w3 w4 w5 h0 v U'.heap L ∧ FrameEnd U o U' L ({ frames := 0, cells := 0, slots := 0, locals := 0 } : Room).cells ({ frames := 0, cells := 0, slots := 0, locals := 0 } : Room).slots) := by
  refine MetFree.of_bodySF (plainFor_of_name pn_29) hisR ?_
  intro p e s m args below meth c s₁ Bd hml0 hP hK
  obtain ⟨rfl, hZ, hh⟩ := hP
  have hx := Bd.exec
  have hby := Bd.bytes
  have hlk := Bd.notSynchronized
  have hml : c.maxLocals = 2 := hml0
  have hown : s.vm.findClass "java/util/ImmutableCollections$ListN" = some m.cls := findClass_of_methodNamed Bd.named
  have hnm := (name_of_methodNamed Bd.named Bd.method).1
  have X0 : Stand p l e ({ frames := 0, cells := 0, slots := 0, locals := 0 } : Room) s m #[(.ref x0), (.int (0 : Int32))] below meth c s₁ [] 0 0 := Stand.of_body Bd
  have e0 : s₁.heap = h0 := by rw [← hh, Bd.state]; rfl
  have N0 := Fr.nil Z.heap.size
  show Go FrameEnd p e below s ({ frames := 0, cells := 0, slots := 0, locals := 0 } : Room).cells ({ frames := 0, cells := 0, slots := 0, locals := 0 } : Room).slots (Q_a29_0 Z dc kdc el ee kee ca cc eo mo x0 w1 kk2 w3 w4 w5 h0) s₁ (entryFrame m #[(.ref x0), (.int (0 : Int32))] 2)
  refine Go.cast (ef_a29_0 m x0 (0 : Int32)) ?_
  show Go _ _ _ _ _ _ _ _ s₁ (mkF m 0 #[.val (.ref x0), .val (.int (0 : Int32))] [])
  refine Go.step (fun _ kt_ => XS.aloadN X0.here hx rfl (hb hby d29_0) rfl rfl kt_) ?_
  show Go _ _ _ _ _ _ _ _ s₁ (mkF m 1 #[.val (.ref x0), .val (.int (0 : Int32))] [(.ref x0)])
  obtain ⟨T1, X1, e1, st1⟩ := getF X0 hx hZ hown (host := "") (Or.inl (hw _ (List.mem_of_getElem? (i := 91) rfl))) Via.refl e0 r0 (g := (mkF m 1 #[.val (.ref x0), .val (.int (0 : Int32))] [(.ref x0)])) rfl rfl (hb hby d29_1)
  refine Go.step st1 ?_
  show Go _ _ _ _ _ _ _ _ T1 (mkF m 4 #[.val (.ref x0), .val (.int (0 : Int32))] [(.ref w1)])
  refine Go.step (fun _ kt_ => XS.iloadN X1.here hx rfl (hb hby d29_4) rfl kt_) ?_
  show Go _ _ _ _ _ _ _ _ T1 (mkF m 5 #[.val (.ref x0), .val (.int (0 : Int32))] [(.int (0 : Int32)), (.ref w1)])
  obtain ⟨cl2, Ar2, q2, S2, N2, H2, G2⟩ := id r1
  have hin2 : ¬ ((0 : Int32) < 0 ∨ cl2.slots.size ≤ ((0 : Int32)).toNatClampNeg) := inb_of S2 ⟨by decide, by decide⟩
  refine Go.step (X1.aaload hx (j := (0 : Int32)) (v := (.ref w3)) (by rw [e1]; exact Ar2.1) (State.isArrayOf_alike hZ.alike Ar2.2.1) rfl Ar2.2.2 hin2 (Has.at H2 hin2 rfl) (g := (mkF m 5 #[.val (.ref x0), .val (.int (0 : Int32))] [(.int (0 : Int32)), (.ref w1)])) rfl rfl (hb hby d29_5)) ?_
  show Go _ _ _ _ _ _ _ _ T1 (mkF m 6 #[.val (.ref x0), .val (.int (0 : Int32))] [(.ref w3)])
  exact Go.retA X1 hx Bd.returns rfl rfl hlk (hb hby d29_6) (by decide) (by decide) (by show _ ∧ _ ∧ _; rw [e1]; exact ⟨rfl, N0, rfl⟩)
theorem ef_a11_2 (m : MethodId) (y0 : Addr) : entryFrame m #[(.ref y0)] 1 = mkF m 0 #[.val (.ref y0)] [] := by first | (simp [entryFrame, mkF, argsToLocals, Value.category]; done) | rfl
def Q_a11_2 (Z : State) (dc : Addr) (kdc : ClassId) (el : Addr) (ee : Addr) (kee : ClassId) (ca : Addr) (cc : Cell) (eo : Addr) (mo : Addr) (x0 : Addr) (w1 : Addr) (w2 : Addr) (kk3 : ClassId) (w4 : Addr) (w5 : Addr) (w6 : Addr) (w7 : Int32) (h0 : Heap) (v : Option Value) (h : Heap) (L : List Loc) : Prop := ∃ (r7 : Addr), v = some (.ref r7) ∧ Fr Z.heap.size L ∧ Keep h0 h [] ∧ Exa Z h r7 "java/lang/Integer" ∧ Fld Z h r7 "java/lang/Integer" "value" "I" (.int w7)
set_option maxRecDepth 65536 in
set_option maxHeartbeats 40000000 in
theorem rm_a11_2 (l : Launch) (Z : State) (a0 : Array Value) (hw : ∀ d ∈ tables_1, d.before a0 Z = true) (ws : List Jvm.Cond) (dc : Addr) (kdc : ClassId) (el : Addr) (ee : Addr) (kee : ClassId) (ca : Addr) (cc : Cell) (eo : Addr) (mo : Addr) (G_dc : Sta Z Z.heap "java/util/ArrayList" "DEFAULTCAPACITY_EMPTY_ELEMENTDATA" "[Ljava/lang/Object;" (.ref dc)) (G_dce : Exa Z Z.heap dc "[Ljava/lang/Object;") (G_dcv : Arv Z Z.heap dc kdc (.object "java/lang/Object") (0 : Int32) [] .null) (G_el : Sta Z Z.heap "java/util/ImmutableCollections" "EMPTY_LIST" "Ljava/util/ImmutableCollections$ListN;" (.ref el)) (G_ele : Exa Z Z.heap el "java/util/ImmutableCollections$ListN") (G_elf : Fld Z Z.heap el "java/util/ImmutableCollections$ListN" "elements" "[Ljava/lang/Object;" (.ref ee)) (G_eev : Arv Z Z.heap ee kee (.object "java/lang/Object") (0 : Int32) [] .null) (G_hi : Sta Z Z.heap "java/lang/Integer$IntegerCache" "high" "I" (.int (127 : Int32))) (G_ca : Sta Z Z.heap "java/lang/Integer$IntegerCache" "cache" "[Ljava/lang/Integer;" (.ref ca)) (G_bx : Bxs Z ca cc "java/lang/Integer" "I" 256 (fun j => .int (j - 128))) (G_eo : Sta Z Z.heap "java/util/ImmutableCollections" "EMPTY" "Ljava/lang/Object;" (.ref eo)) (G_eoe : Exa Z Z.heap eo "java/lang/Object") (G_mo : MirO Z "[Ljava/lang/Object;" mo) (x0 : Addr) (w1 : Addr) (w2 : Addr) (kk3 : ClassId) (w4 : Addr) (w5 : Addr) (w6 : Addr) (w7 : Int32) (h0 : Heap) (O0 : Ext Z.heap h0) (r0 : Fld Z h0 x0 "com/example/wary_lock/warylock/LockState" "holders" "Ljava/util/List;" (.ref w1)) (r1 : Exa Z h0 w1 "java/util/ImmutableCollections$ListN") (r2 : Fld Z h0 w1 "java/util/ImmutableCollections$ListN" "elements" "[Ljava/lang/Object;" (.ref w2)) (r3 : Arv Z h0 w2 kk3 (.object "java/lang/Object") (3 : Int32) [(.ref w4), (.ref w5), (.ref w6)] .null) (r4 : Exa Z h0 w4 "com/example/wary_lock/warylock/Lease") (r5 : Fld Z h0 w4 "com/example/wary_lock/warylock/Lease" "limit" "I" (.int w7)) :
    MetFree l (⟨"com/example/wary_lock/warylock/LockState", "limit", "()Ljava/lang/Integer;"⟩ : MethodName) (head1 (Jvm.Cond.code (⟨"com/example/wary_lock/warylock/LockState", "limit", "()Ljava/lang/Integer;"⟩ : MethodName) prog_11_method_2_code 1 (some (.object "java/lang/Integer")) :: ws) ({ frames := 4, cells := 1, slots := 1, locals := 50 } : Room)) (fun a U => a = #[(.ref x0)] ∧ Z.Warmed39 U.vm ∧ U.heap = h0) (fun _ _ _ _ _ => True) (fun _ U o U' => ∃ v L, o = .returned v ∧ Q_a11_2 Z dc kdc el ee kee ca cc eo mo x0 w1 w2 kk3 w4 w5 w6 w7 h0 v U'.heap L ∧ FrameEnd U o U' L ({ frames := 4, cells := 1, slots := 1, locals := 50 } : Room).cells ({ frames := 4, cells := 1, slots := 1, locals := 50 } : Room).slots) := by
  refine MetFree.of_bodySF (plainFor_of_name pn_11) hisR ?_
  intro p e s m args below meth c s₁ Bd hml0 hP hK
  obtain ⟨rfl, hZ, hh⟩ := hP
  have hx := Bd.exec
  have hby := Bd.bytes
  have hlk := Bd.notSynchronized
  have hml : c.maxLocals = 1 := hml0
  have hown : s.vm.findClass "com/example/wary_lock/warylock/LockState" = some m.cls := findClass_of_methodNamed Bd.named
  have hnm := (name_of_methodNamed Bd.named Bd.method).1
  have X0 : Stand p l e ({ frames := 4, cells := 1, slots := 1, locals := 50 } : Room) s m #[(.ref x0)] below meth c s₁ [] 0 0 := Stand.of_body Bd
  have e0 : s₁.heap = h0 := by rw [← hh, Bd.state]; rfl
  have N0 := Fr.nil Z.heap.size
  show Go FrameEnd p e below s ({ frames := 4, cells := 1, slots := 1, locals := 50 } : Room).cells ({ frames := 4, cells := 1, slots := 1, locals := 50 } : Room).slots (Q_a11_2 Z dc kdc el ee kee ca cc eo mo x0 w1 w2 kk3 w4 w5 w6 w7 h0) s₁ (entryFrame m #[(.ref x0)] 1)
  refine Go.cast (ef_a11_2 m x0) ?_
  show Go _ _ _ _ _ _ _ _ s₁ (mkF m 0 #[.val (.ref x0)] [])
  refine Go.step (fun _ kt_ => XS.aloadN X0.here hx rfl (hb hby d11_0) rfl rfl kt_) ?_
  show Go _ _ _ _ _ _ _ _ s₁ (mkF m 1 #[.val (.ref x0)] [(.ref x0)])
  obtain ⟨T1, X1, e1, st1⟩ := getF X0 hx hZ hown (host := "") (Or.inl (hw _ (List.mem_of_getElem? (i := 72) rfl))) Via.refl e0 r0 (g := (mkF m 1 #[.val (.ref x0)] [(.ref x0)])) rfl rfl (hb hby d11_1)
  refine Go.step st1 ?_
  show Go _ _ _ _ _ _ _ _ T1 (mkF m 4 #[.val (.ref x0)] [(.ref w1)])
  obtain ⟨cq2, kq2, q2a, q2b, q2c⟩ := isOf hZ e1 r1
  obtain ⟨_, _, ⟨T2, L2, k2, n2⟩, -, X2, ⟨Lc2, hQ2, l2, y2, z2⟩, st2⟩ := X1.interfaceBack hx (xi := (⟨"java/util/List", "isEmpty", "()Z"⟩ : MethodName)) (y := (⟨"java/util/ImmutableCollections$ListN", "isEmpty", "()Z"⟩ : MethodName)) hown (mvT hZ (hw _ (List.mem_of_getElem? (i := 81) rfl))) (mvT hZ (hw _ (List.mem_of_getElem? (i := 82) rfl))) (mvT hZ (hw _ (List.mem_of_getElem? (i := 83) rfl))) (mvT hZ (hw _ (List.mem_of_getElem? (i := 84) rfl))) (mvT hZ (hw _ (List.mem_of_getElem? (i := 85) rfl))) (mvT hZ (hw _ (List.mem_of_getElem? (i := 86) rfl))) (mvT hZ (hw _ (List.mem_of_getElem? (i := 87) rfl))) (mvT hZ (hw _ (List.mem_of_getElem? (i := 88) rfl))) (by decide) (backOf (W := 0) (rm_a12_1 l Z a0 hw [] dc kdc el ee kee ca cc eo mo G_dc G_dce G_dcv G_el G_ele G_elf G_eev G_hi G_ca G_bx G_eo G_eoe G_mo w1 w2 kk3 w4 w5 w6 h0 O0 r2 r3) hZ (hw _ (List.mem_of_getElem? (i := 90) rfl)) (hw _ (List.mem_of_getElem? (i := 89) rfl)) (by decide) (by decide)) q2a q2b q2c (g := (mkF m 4 #[.val (.ref x0)] [(.ref w1)])) rfl (by rw [hml]; rfl) (Steps.refl _) (argsL := []) (rest := []) (lenOf pd_LRZ rfl) rfl (by show 2 * 0 + _ ≤ _; exact Nat.le_of_eq rfl) (hb hby d11_4) (fun _ _ => ⟨rfl, e1, (by decide : 0 + 0 ≤ _), (by decide : 0 + 0 ≤ _)⟩)
  dsimp only [Pt.U, Pt.locs, Pt.cells, Pt.slots] at X2 l2 y2 z2 st2 hQ2
  subst l2 y2 z2
  obtain ⟨rfl, Nq2, e2⟩ := hQ2
  have N2_ := Fr.app N0 Nq2
  refine Go.trans st2 ?_
  show Go _ _ _ _ _ _ _ _ T2 (mkF m 9 #[.val (.ref x0)] [(.int (0 : Int32))])
  refine Go.step (fun _ kt_ => XS.ifYes X2.here hx rfl (pc0 := 9) (pc' := 16) rfl (hb hby d11_9) rfl ((if0 _ _).trans (teq (by decide : (0 : Int32) = (0 : Int32))).1) (by decide) (by decide) kt_) ?_
  show Go _ _ _ _ _ _ _ _ T2 (mkF m 16 #[.val (.ref x0)] [])
  refine Go.step (fun _ kt_ => XS.aloadN X2.here hx rfl (hb hby d11_16) rfl rfl kt_) ?_
  show Go _ _ _ _ _ _ _ _ T2 (mkF m 17 #[.val (.ref x0)] [(.ref x0)])
  obtain ⟨T3, X3, e3, st3⟩ := getF X2 hx hZ hown (host := "") (Or.inl (hw _ (List.mem_of_getElem? (i := 72) rfl))) Via.refl e2 r0 (g := (mkF m 17 #[.val (.ref x0)] [(.ref x0)])) rfl rfl (hb hby d11_17)
  refine Go.step st3 ?_
  show Go _ _ _ _ _ _ _ _ T3 (mkF m 20 #[.val (.ref x0)] [(.ref w1)])
  refine Go.step (fun _ kt_ => XS.iconst X3.here hx rfl (hb hby d11_20)  kt_) ?_
  show Go _ _ _ _ _ _ _ _ T3 (mkF m 21 #[.val (.ref x0)] [(.int (0 : Int32)), (.ref w1)])
  obtain ⟨cq4, kq4, q4a, q4b, q4c⟩ := isOf hZ e3 r1
  obtain ⟨_, _, ⟨T4, L4, k4, n4⟩, -, X4, ⟨Lc4, hQ4, l4, y4, z4⟩, st4⟩ := X3.interfaceBack hx (xi := (⟨"java/util/List", "get", "(I)Ljava/lang/Object;"⟩ : MethodName)) (y := (⟨"java/util/ImmutableCollections$ListN", "get", "(I)Ljava/lang/Object;"⟩ : MethodName)) hown (mvT hZ (hw _ (List.mem_of_getElem? (i := 218) rfl))) (mvT hZ (hw _ (List.mem_of_getElem? (i := 219) rfl))) (mvT hZ (hw _ (List.mem_of_getElem? (i := 220) rfl))) (mvT hZ (hw _ (List.mem_of_getElem? (i := 221) rfl))) (mvT hZ (hw _ (List.mem_of_getElem? (i := 222) rfl))) (mvT hZ (hw _ (List.mem_of_getElem? (i := 223) rfl))) (mvT hZ (hw _ (List.mem_of_getElem? (i := 224) rfl))) (mvT hZ (hw _ (List.mem_of_getElem? (i := 88) rfl))) (by decide) (backOf (W := 0) (rm_a29_0 l Z a0 hw [] dc kdc el ee kee ca cc eo mo G_dc G_dce G_dcv G_el G_ele G_elf G_eev G_hi G_ca G_bx G_eo G_eoe G_mo w1 w2 kk3 w4 w5 w6 h0 O0 r2 r3) hZ (hw _ (List.mem_of_getElem? (i := 225) rfl)) (hw _ (List.mem_of_getElem? (i := 89) rfl)) (by decide) (by decide)) q4a q4b q4c (g := (mkF m 21 #[.val (.ref x0)] [(.int (0 : Int32)), (.ref w1)])) rfl (by rw [hml]; rfl) (Steps.refl _) (argsL := [(.int (0 : Int32))]) (rest := []) (lenOf pd_LIRLjava_lang_Object_ rfl) rfl (by show 2 * 0 + _ ≤ _; exact Nat.le_of_eq rfl) (hb hby d11_21) (fun _ _ => ⟨rfl, e3, (by decide : 0 + 0 ≤ _), (by decide : 0 + 0 ≤ _)⟩)
  dsimp only [Pt.U, Pt.locs, Pt.cells, Pt.slots] at X4 l4 y4 z4 st4 hQ4
  subst l4 y4 z4
  obtain ⟨rfl, Nq4, e4⟩ := hQ4
  have N4_ := Fr.app N2_ Nq4
  refine Go.trans st4 ?_
  show Go _ _ _ _ _ _ _ _ T4 (mkF m 26 #[.val (.ref x0)] [(.ref w4)])
  obtain ⟨T5, X5, e5, st5⟩ := castY X4 hx hZ hown (hw _ (List.mem_of_getElem? (i := 226) rfl)) e4 (Ins.self r4) (g := (mkF m 26 #[.val (.ref x0)] [(.ref w4)])) rfl rfl (hb hby d11_26)
  refine Go.step st5 ?_
  show Go _ _ _ _ _ _ _ _ T5 (mkF m 29 #[.val (.ref x0)] [(.ref w4)])
  obtain ⟨cq6, kq6, q6a, q6b, q6c⟩ := isOf hZ e5 r4
  obtain ⟨_, _, ⟨T6, L6, k6, n6⟩, -, X6, ⟨Lc6, hQ6, l6, y6, z6⟩, st6⟩ := X5.virtualBack hx (y := (⟨"com/example/wary_lock/warylock/Lease", "limit", "()I"⟩ : MethodName)) (z := (⟨"com/example/wary_lock/warylock/Lease", "limit", "()I"⟩ : MethodName)) hown (mvT hZ (hw _ (List.mem_of_getElem? (i := 228) rfl))) (mvT hZ (hw _ (List.mem_of_getElem? (i := 229) rfl))) (notFace_of_selects (args := #[]) (mvT hZ (hw _ (List.mem_of_getElem? (i := 231) rfl)))) (mvT hZ (hw _ (List.mem_of_getElem? (i := 231) rfl))) (mvT hZ (hw _ (List.mem_of_getElem? (i := 230) rfl))) (by decide) (backOf (W := 0) (rm_a30_0 l Z a0 hw [] dc kdc el ee kee ca cc eo mo G_dc G_dce G_dcv G_el G_ele G_elf G_eev G_hi G_ca G_bx G_eo G_eoe G_mo w4 w7 h0 O0 r5) hZ (hw _ (List.mem_of_getElem? (i := 232) rfl)) (hw _ (List.mem_of_getElem? (i := 95) rfl)) (by decide) (by decide)) q6a q6c (g := (mkF m 29 #[.val (.ref x0)] [(.ref w4)])) rfl (by rw [hml]; rfl) (Steps.refl _) (argsL := []) (rest := []) (lenOf pd_LRI rfl) rfl (by show 2 * 0 + _ ≤ _; exact Nat.le_of_eq rfl) (hb hby d11_29) (fun _ _ => ⟨rfl, e5, (by decide : 0 + 0 ≤ _), (by decide : 0 + 0 ≤ _)⟩)
  dsimp only [Pt.U, Pt.locs, Pt.cells, Pt.slots] at X6 l6 y6 z6 st6 hQ6
  subst l6 y6 z6
  obtain ⟨rfl, Nq6, e6⟩ := hQ6
  have N6_ := Fr.app N4_ Nq6
  refine Go.trans st6 ?_
  show Go _ _ _ _ _ _ _ _ T6 (mkF m 32 #[.val (.ref x0)] [(.int w7)])
  obtain ⟨_, _, ⟨T7, L7, k7, n7⟩, -, X7, ⟨Lc7, hQ7, l7, y7, z7⟩, st7⟩ := Jvm.LawKit.callS X6 hx (y := (⟨"java/lang/Integer", "valueOf", "(I)Ljava/lang/Integer;"⟩ : MethodName)) hown (mvT hZ (hw _ (List.mem_of_getElem? (i := 233) rfl))) (mvT hZ (hw _ (List.mem_of_getElem? (i := 234) rfl))) (mvT hZ (hw _ (List.mem_of_getElem? (i := 235) rfl))) (mvT hZ (hw _ (List.mem_of_getElem? (i := 236) rfl))) (by decide) (backOf (W := 0) (rm_vo l Z a0 hw [] dc kdc el ee kee ca cc eo mo G_dc G_dce G_dcv G_el G_ele G_elf G_eev G_hi G_ca G_bx G_eo G_eoe G_mo w7 h0 O0) hZ (hw _ (List.mem_of_getElem? (i := 236) rfl)) (hw _ (List.mem_of_getElem? (i := 235) rfl)) (by decide) (by decide)) (g := (mkF m 32 #[.val (.ref x0)] [(.int w7)])) rfl (by rw [hml]; rfl) (argsL := [(.int w7)]) (rest := []) (lenOf pd_LIRLjava_lang_Integer_ rfl) rfl (by show 2 * 0 + _ ≤ _; exact Nat.le_of_eq rfl) (hb hby d11_32) (fun _ _ => ⟨rfl, e6, (by decide : 0 + 1 ≤ _), (by decide : 0 + 1 ≤ _)⟩)
  dsimp only [Pt.U, Pt.locs, Pt.cells, Pt.slots] at X7 l7 y7 z7 st7 hQ7
  subst l7 y7 z7
  obtain ⟨r7, rfl, Nq7, Kq7, pE7, pV7⟩ := hQ7
  have O7_ : Ext Z.heap T7.heap := extKeep O0 Kq7 all0
  have K7 := Keep.trans (Keep.refl h0 []) Kq7 all0
  have N7_ := Fr.app N6_ Nq7
  refine Go.step st7 ?_
  show Go _ _ _ _ _ _ _ _ T7 (mkF m 35 #[.val (.ref x0)] [(.ref r7)])
  exact Go.retA X7 hx Bd.returns rfl rfl hlk (hb hby d11_35) (by decide) (by decide) ⟨r7, rfl, N7_, K7, pE7, pV7⟩
theorem pn_0 : plainName "com/example/wary_lock/warylock/LockStateLimitPinLaw" = true := by first | (simp [plainName, overriddenIn]; done) | decide +kernel
theorem ef_0 (m : MethodId) (y0 : Int32) (y1 : Int32) (y2 : Int32) (y3 : Int64) (y4 : Int64) (y5 : Int32) : entryFrame m #[(.int y0), (.int y1), (.int y2), (.long y3), (.long y4), (.int y5)] maxLocals = mkF m 0 #[.val (.int y0), .val (.int y1), .val (.int y2), .val (.long y3), .second, .val (.long y4), .second, .val (.int y5), .unset, .unset, .unset, .unset, .unset, .unset, .unset] [] := by first | (simp [entryFrame, mkF, argsToLocals, Value.category, maxLocals]; done) | rfl
def Q_0 (Z : State) (dc : Addr) (kdc : ClassId) (el : Addr) (ee : Addr) (kee : ClassId) (ca : Addr) (cc : Cell) (eo : Addr) (mo : Addr) (x0 : Int32) (x1 : Int32) (x2 : Int32) (x3 : Int64) (x4 : Int64) (x5 : Int32) (sA : Addr) (eA : Addr) (h0 : Heap) (v : Option Value) (h : Heap) (L : List Loc) : Prop := v = some (.int 1) ∧ Fr Z.heap.size L ∧ True
set_option maxRecDepth 65536 in
set_option maxHeartbeats 40000000 in
theorem rm_0 (l : Launch) (Z : State) (a0 : Array Value) (hw : ∀ d ∈ tables_1, d.before a0 Z = true) (ws : List Jvm.Cond) (dc : Addr) (kdc : ClassId) (el : Addr) (ee : Addr) (kee : ClassId) (ca : Addr) (cc : Cell) (eo : Addr) (mo : Addr) (G_dc : Sta Z Z.heap "java/util/ArrayList" "DEFAULTCAPACITY_EMPTY_ELEMENTDATA" "[Ljava/lang/Object;" (.ref dc)) (G_dce : Exa Z Z.heap dc "[Ljava/lang/Object;") (G_dcv : Arv Z Z.heap dc kdc (.object "java/lang/Object") (0 : Int32) [] .null) (G_el : Sta Z Z.heap "java/util/ImmutableCollections" "EMPTY_LIST" "Ljava/util/ImmutableCollections$ListN;" (.ref el)) (G_ele : Exa Z Z.heap el "java/util/ImmutableCollections$ListN") (G_elf : Fld Z Z.heap el "java/util/ImmutableCollections$ListN" "elements" "[Ljava/lang/Object;" (.ref ee)) (G_eev : Arv Z Z.heap ee kee (.object "java/lang/Object") (0 : Int32) [] .null) (G_hi : Sta Z Z.heap "java/lang/Integer$IntegerCache" "high" "I" (.int (127 : Int32))) (G_ca : Sta Z Z.heap "java/lang/Integer$IntegerCache" "cache" "[Ljava/lang/Integer;" (.ref ca)) (G_bx : Bxs Z ca cc "java/lang/Integer" "I" 256 (fun j => .int (j - 128))) (G_eo : Sta Z Z.heap "java/util/ImmutableCollections" "EMPTY" "Ljava/lang/Object;" (.ref eo)) (G_eoe : Exa Z Z.heap eo "java/lang/Object") (G_mo : MirO Z "[Ljava/lang/Object;" mo) (x0 : Int32) (x1 : Int32) (x2 : Int32) (x3 : Int64) (x4 : Int64) (x5 : Int32) (sA : Addr) (eA : Addr) (h0 : Heap) (O0 : Ext Z.heap h0) (S_S : Sta Z Z.heap "com/example/wary_lock/warylock/LockMode" "SHARED" "Lcom/example/wary_lock/warylock/LockMode;" (.ref sA)) (S_E : Sta Z Z.heap "com/example/wary_lock/warylock/LockMode" "EXCLUSIVE" "Lcom/example/wary_lock/warylock/LockMode;" (.ref eA)) :
    MetFree l x (head1 (Jvm.Cond.code x code maxLocals ret :: ws) room_1) (fun a U => a = #[(.int x0), (.int x1), (.int x2), (.long x3), (.long x4), (.int x5)] ∧ Z.Warmed39 U.vm ∧ U.heap = h0) (fun _ _ _ _ _ => True) (fun _ U o U' => ∃ v L, o = .returned v ∧ Q_0 Z dc kdc el ee kee ca cc eo mo x0 x1 x2 x3 x4 x5 sA eA h0 v U'.heap L ∧ ReturnedEndW U o U' L room_1.cells room_1.slots) := by
  refine MetFree.of_bodySF (plainFor_of_name pn_0) hisR ?_
  intro p e s m args below meth c s₁ Bd hml0 hP hK
  obtain ⟨rfl, hZ, hh⟩ := hP
  have hx := Bd.exec
  have hby := Bd.bytes
  have hlk := Bd.notSynchronized
  have hml : c.maxLocals = 15 := hml0
  have hown : s.vm.findClass "com/example/wary_lock/warylock/LockStateLimitPinLaw" = some m.cls := findClass_of_methodNamed Bd.named
  have hnm := (name_of_methodNamed Bd.named Bd.method).1
  have X0 : Stand p l e room_1 (s.setVm s.vm) m #[(.int x0), (.int x1), (.int x2), (.long x3), (.long x4), (.int x5)] below meth c s₁ [] 0 0 := Stand.of_body Bd
  have e0 : s₁.heap = h0 := by rw [← hh, Bd.state]; rfl
  have N0 := Fr.nil Z.heap.size
  have S0 : s.Since s.vm 0 := State.WarmedH.since (State.WarmedH.refl s) 0
  have kk0 : 0 ≤ h0.size := Nat.zero_le _
  have wS := own_wS hw
  show Go ReturnedEndW p e below s room_1.cells room_1.slots (Q_0 Z dc kdc el ee kee ca cc eo mo x0 x1 x2 x3 x4 x5 sA eA h0) s₁ (entryFrame m #[(.int x0), (.int x1), (.int x2), (.long x3), (.long x4), (.int x5)] maxLocals)
  refine Go.cast (ef_0 m x0 x1 x2 x3 x4 x5) ?_
  show Go _ _ _ _ _ _ _ _ s₁ (mkF m 0 #[.val (.int x0), .val (.int x1), .val (.int x2), .val (.long x3), .second, .val (.long x4), .second, .val (.int x5), .unset, .unset, .unset, .unset, .unset, .unset, .unset] [])
  refine Go.step (fun _ kt_ => XS.iloadN X0.here hx rfl (hb hby at_0) rfl kt_) ?_
  show Go _ _ _ _ _ _ _ _ s₁ (mkF m 1 #[.val (.int x0), .val (.int x1), .val (.int x2), .val (.long x3), .second, .val (.long x4), .second, .val (.int x5), .unset, .unset, .unset, .unset, .unset, .unset, .unset] [(.int x0)])
  refine Go.step (fun _ kt_ => XS.iconst X0.here hx rfl (hb hby at_1)  kt_) ?_
  show Go _ _ _ _ _ _ _ _ s₁ (mkF m 2 #[.val (.int x0), .val (.int x1), .val (.int x2), .val (.long x3), .second, .val (.long x4), .second, .val (.int x5), .unset, .unset, .unset, .unset, .unset, .unset, .unset] [(.int (3 : Int32)), (.int x0)])
  refine Go.step (fun _ kt_ => XS.iand X0.here hx rfl (hb hby at_2) rfl kt_) ?_
  show Go _ _ _ _ _ _ _ _ s₁ (mkF m 3 #[.val (.int x0), .val (.int x1), .val (.int x2), .val (.long x3), .second, .val (.long x4), .second, .val (.int x5), .unset, .unset, .unset, .unset, .unset, .unset, .unset] [(.int (x0 &&& (3 : Int32)))])
  have hk := own_and3 x0
  generalize (x0 &&& (3 : Int32)) = k at hk ⊢
  show Go _ _ _ _ _ _ _ _ s₁ (mkF m 3 #[.val (.int x0), .val (.int x1), .val (.int x2), .val (.long x3), .second, .val (.long x4), .second, .val (.int x5), .unset, .unset, .unset, .unset, .unset, .unset, .unset] [(.int k)])
  refine Go.step (fun _ kt_ => XS.istore X0.here hx rfl (hb hby at_3) rfl (l' := #[.val (.int x0), .val (.int x1), .val (.int x2), .val (.long x3), .second, .val (.long x4), .second, .val (.int x5), .val (.int k), .unset, .unset, .unset, .unset, .unset, .unset]) rfl kt_) ?_
  show Go _ _ _ _ _ _ _ _ s₁ (mkF m 5 #[.val (.int x0), .val (.int x1), .val (.int x2), .val (.long x3), .second, .val (.long x4), .second, .val (.int x5), .val (.int k), .unset, .unset, .unset, .unset, .unset, .unset] [])
  have cut59 : ∀ (Tc1 : State) (Lc1 : List Loc) (vmc1 : Vm) (Xc1 : Stand p l e room_1 (s.setVm vmc1) m #[(.int x0), (.int x1), (.int x2), (.long x3), (.long x4), (.int x5)] below meth c Tc1 Lc1 0 0) (ec1 : Tc1.heap = h0) (Nc1 : Fr Z.heap.size Lc1) (hZc1 : Z.Warmed39 (s.setVm vmc1).vm) (hownc1 : (s.setVm vmc1).vm.findClass "com/example/wary_lock/warylock/LockStateLimitPinLaw" = some m.cls) (kc1 : Nat) (Sc1 : s.Since vmc1 kc1) (kkc1 : kc1 ≤ h0.size) (m0 : Addr) (m1 : Addr) (m2 : Addr) , Go ReturnedEndW p e below s (room_1).cells (room_1).slots (Q_0 Z dc kdc el ee kee ca cc eo mo x0 x1 x2 x3 x4 x5 sA eA h0) Tc1 (mkF m 59 #[.val (.int x0), .val (.int x1), .val (.int x2), .val (.long x3), .second, .val (.long x4), .second, .val (.int x5), .val (.int k), .val (.ref m0), .val (.ref m1), .val (.ref m2), .unset, .unset, .unset] []) := by
    intro Tc1 Lc1 vmc1 Xc1 ec1 Nc1 hZc1 hownc1 kc1 Sc1 kkc1 m0 m1 m2 
    obtain ⟨T2, h2, X2, e2, E2, A2, D2, U2, st2⟩ := newO Xc1 hx hZc1 hownc1 (hw _ (List.mem_of_getElem? (i := 5) rfl)) (hw _ (List.mem_of_getElem? (i := 6) rfl)) (hw _ (List.mem_of_getElem? (i := 7) rfl)) ec1 (g := (mkF m 59 #[.val (.int x0), .val (.int x1), .val (.int x2), .val (.long x3), .second, .val (.long x4), .second, .val (.int x5), .val (.int k), .val (.ref m0), .val (.ref m1), .val (.ref m2), .unset, .unset, .unset] [])) rfl (hb hby at_59) (by decide) (by decide)
    obtain ⟨b2, hb2⟩ : ∃ z, z = h0.size := ⟨_, rfl⟩
    rw [← hb2] at A2 D2 U2 st2
    refine Go.step st2 ?_
    have g_b2 : Z.heap.size ≤ b2 := Nat.le_trans O0.1 (Nat.le_of_eq hb2.symm)
    have O2_ : Ext Z.heap h2 := extTr O0 E2
    have F2_modCount : Fld Z h2 b2 "java/util/AbstractList" "modCount" "I" (.int (0 : Int32)) := D2 (Or.inl (hw _ (List.mem_of_getElem? (i := 27) rfl))) (ty := .int) pf_I
    have F2_elementData : Fld Z h2 b2 "java/util/ArrayList" "elementData" "[Ljava/lang/Object;" .null := D2 (Or.inl (hw _ (List.mem_of_getElem? (i := 30) rfl))) (ty := (.array (.object "java/lang/Object"))) pf_ALjava_lang_Object_
    have F2_size : Fld Z h2 b2 "java/util/ArrayList" "size" "I" (.int (0 : Int32)) := D2 (Or.inl (hw _ (List.mem_of_getElem? (i := 67) rfl))) (ty := .int) pf_I
    show Go _ _ _ _ _ _ _ _ T2 (mkF m 62 #[.val (.int x0), .val (.int x1), .val (.int x2), .val (.long x3), .second, .val (.long x4), .second, .val (.int x5), .val (.int k), .val (.ref m0), .val (.ref m1), .val (.ref m2), .unset, .unset, .unset] [(.ref b2)])
    refine Go.step (fun _ kt_ => XS.dup X2.here hx rfl (hb hby at_62) rfl rfl kt_) ?_
    show Go _ _ _ _ _ _ _ _ T2 (mkF m 63 #[.val (.int x0), .val (.int x1), .val (.int x2), .val (.long x3), .second, .val (.long x4), .second, .val (.int x5), .val (.int k), .val (.ref m0), .val (.ref m1), .val (.ref m2), .unset, .unset, .unset] [(.ref b2), (.ref b2)])
    obtain ⟨_, _, ⟨T3, L3, k3, n3⟩, -, X3, ⟨Lc3, hQ3, l3, y3, z3⟩, st3⟩ := X2.specialBack hx (y := (⟨"java/util/ArrayList", "<init>", "()V"⟩ : MethodName)) rfl hownc1 (mvT hZc1 (hw _ (List.mem_of_getElem? (i := 8) rfl))) (mvT hZc1 (hw _ (List.mem_of_getElem? (i := 9) rfl))) (mvT hZc1 (hw _ (List.mem_of_getElem? (i := 10) rfl))) (by decide) (backOf (W := 1) (rm_a1_0 l Z a0 hw [] dc kdc el ee kee ca cc eo mo G_dc G_dce G_dcv G_el G_ele G_elf G_eev G_hi G_ca G_bx G_eo G_eoe G_mo b2 (0 : Int32) (0 : Int32) h2 O2_ A2 F2_modCount g_b2 F2_elementData F2_size) hZc1 (hw _ (List.mem_of_getElem? (i := 10) rfl)) (hw _ (List.mem_of_getElem? (i := 7) rfl)) (by decide) (by decide)) (g := (mkF m 63 #[.val (.int x0), .val (.int x1), .val (.int x2), .val (.long x3), .second, .val (.long x4), .second, .val (.int x5), .val (.int k), .val (.ref m0), .val (.ref m1), .val (.ref m2), .unset, .unset, .unset] [(.ref b2), (.ref b2)])) rfl (by rw [hml]; rfl) (Steps.refl _) (a := b2) (argsL := []) (rest := [(.ref b2)]) (lenOf pd_LRV rfl) rfl (by show 2 * 0 + _ ≤ _; exact Nat.le_of_eq rfl) (hb hby at_63) (fun _ _ => ⟨rfl, e2, (by decide : 1 + 0 ≤ _), (by decide : 3 + 0 ≤ _)⟩)
    dsimp only [Pt.U, Pt.locs, Pt.cells, Pt.slots] at X3 l3 y3 z3 st3 hQ3
    subst l3 y3 z3
    obtain ⟨rfl, Nq3, Kq3, p3_0, p3_1, p3_2⟩ := hQ3
    have O3_ : Ext Z.heap T3.heap := extKeep O2_ Kq3 (allS g_b2 all0)
    have N3_ := Fr.app Nc1 Nq3
    refine Go.trans st3 ?_
    show Go _ _ _ _ _ _ _ _ T3 (mkF m 66 #[.val (.int x0), .val (.int x1), .val (.int x2), .val (.long x3), .second, .val (.long x4), .second, .val (.int x5), .val (.int k), .val (.ref m0), .val (.ref m1), .val (.ref m2), .unset, .unset, .unset] [(.ref b2)])
    refine Go.step (fun _ kt_ => XS.astore X3.here hx rfl (hb hby at_66) rfl rfl (l' := #[.val (.int x0), .val (.int x1), .val (.int x2), .val (.long x3), .second, .val (.long x4), .second, .val (.int x5), .val (.int k), .val (.ref m0), .val (.ref m1), .val (.ref m2), .val (.ref b2), .unset, .unset]) rfl kt_) ?_
    show Go _ _ _ _ _ _ _ _ T3 (mkF m 68 #[.val (.int x0), .val (.int x1), .val (.int x2), .val (.long x3), .second, .val (.long x4), .second, .val (.int x5), .val (.int k), .val (.ref m0), .val (.ref m1), .val (.ref m2), .val (.ref b2), .unset, .unset] [])
    rcases hk with hk | hk | hk | hk
    · subst hk
      show Go _ _ _ _ _ _ _ _ T3 (mkF m 68 #[.val (.int x0), .val (.int x1), .val (.int x2), .val (.long x3), .second, .val (.long x4), .second, .val (.int x5), .val (.int (0 : Int32)), .val (.ref m0), .val (.ref m1), .val (.ref m2), .val (.ref b2), .unset, .unset] [])
      refine Go.step (fun _ kt_ => XS.iload X3.here hx rfl (hb hby at_68) rfl kt_) ?_
      show Go _ _ _ _ _ _ _ _ T3 (mkF m 70 #[.val (.int x0), .val (.int x1), .val (.int x2), .val (.long x3), .second, .val (.long x4), .second, .val (.int x5), .val (.int (0 : Int32)), .val (.ref m0), .val (.ref m1), .val (.ref m2), .val (.ref b2), .unset, .unset] [(.int (0 : Int32))])
      refine Go.step (fun _ kt_ => XS.iconst X3.here hx rfl (hb hby at_70)  kt_) ?_
      show Go _ _ _ _ _ _ _ _ T3 (mkF m 71 #[.val (.int x0), .val (.int x1), .val (.int x2), .val (.long x3), .second, .val (.long x4), .second, .val (.int x5), .val (.int (0 : Int32)), .val (.ref m0), .val (.ref m1), .val (.ref m2), .val (.ref b2), .unset, .unset] [(.int (1 : Int32)), (.int (0 : Int32))])
      refine Go.step (fun _ kt_ => XS.icmpYes X3.here hx rfl (pc0 := 71) (pc' := 100) rfl (hb hby at_71) rfl (tlt (by decide : (0 : Int32) < (1 : Int32))).1 (by decide) (by decide) kt_) ?_
      show Go _ _ _ _ _ _ _ _ T3 (mkF m 100 #[.val (.int x0), .val (.int x1), .val (.int x2), .val (.long x3), .second, .val (.long x4), .second, .val (.int x5), .val (.int (0 : Int32)), .val (.ref m0), .val (.ref m1), .val (.ref m2), .val (.ref b2), .unset, .unset] [])
      refine Go.step (fun _ kt_ => XS.iload X3.here hx rfl (hb hby at_100) rfl kt_) ?_
      show Go _ _ _ _ _ _ _ _ T3 (mkF m 102 #[.val (.int x0), .val (.int x1), .val (.int x2), .val (.long x3), .second, .val (.long x4), .second, .val (.int x5), .val (.int (0 : Int32)), .val (.ref m0), .val (.ref m1), .val (.ref m2), .val (.ref b2), .unset, .unset] [(.int (0 : Int32))])
      refine Go.step (fun _ kt_ => XS.iconst X3.here hx rfl (hb hby at_102)  kt_) ?_
      show Go _ _ _ _ _ _ _ _ T3 (mkF m 103 #[.val (.int x0), .val (.int x1), .val (.int x2), .val (.long x3), .second, .val (.long x4), .second, .val (.int x5), .val (.int (0 : Int32)), .val (.ref m0), .val (.ref m1), .val (.ref m2), .val (.ref b2), .unset, .unset] [(.int (2 : Int32)), (.int (0 : Int32))])
      refine Go.step (fun _ kt_ => XS.icmpYes X3.here hx rfl (pc0 := 103) (pc' := 134) rfl (hb hby at_103) rfl (tlt (by decide : (0 : Int32) < (2 : Int32))).1 (by decide) (by decide) kt_) ?_
      show Go _ _ _ _ _ _ _ _ T3 (mkF m 134 #[.val (.int x0), .val (.int x1), .val (.int x2), .val (.long x3), .second, .val (.long x4), .second, .val (.int x5), .val (.int (0 : Int32)), .val (.ref m0), .val (.ref m1), .val (.ref m2), .val (.ref b2), .unset, .unset] [])
      refine Go.step (fun _ kt_ => XS.iload X3.here hx rfl (hb hby at_134) rfl kt_) ?_
      show Go _ _ _ _ _ _ _ _ T3 (mkF m 136 #[.val (.int x0), .val (.int x1), .val (.int x2), .val (.long x3), .second, .val (.long x4), .second, .val (.int x5), .val (.int (0 : Int32)), .val (.ref m0), .val (.ref m1), .val (.ref m2), .val (.ref b2), .unset, .unset] [(.int (0 : Int32))])
      refine Go.step (fun _ kt_ => XS.iconst X3.here hx rfl (hb hby at_136)  kt_) ?_
      show Go _ _ _ _ _ _ _ _ T3 (mkF m 137 #[.val (.int x0), .val (.int x1), .val (.int x2), .val (.long x3), .second, .val (.long x4), .second, .val (.int x5), .val (.int (0 : Int32)), .val (.ref m0), .val (.ref m1), .val (.ref m2), .val (.ref b2), .unset, .unset] [(.int (3 : Int32)), (.int (0 : Int32))])
      refine Go.step (fun _ kt_ => XS.icmpYes X3.here hx rfl (pc0 := 137) (pc' := 165) rfl (hb hby at_137) rfl (tlt (by decide : (0 : Int32) < (3 : Int32))).1 (by decide) (by decide) kt_) ?_
      show Go _ _ _ _ _ _ _ _ T3 (mkF m 165 #[.val (.int x0), .val (.int x1), .val (.int x2), .val (.long x3), .second, .val (.long x4), .second, .val (.int x5), .val (.int (0 : Int32)), .val (.ref m0), .val (.ref m1), .val (.ref m2), .val (.ref b2), .unset, .unset] [])
      obtain ⟨T4, h4, X4, e4, E4, A4, D4, U4, st4⟩ := newO X3 hx hZc1 hownc1 (hw _ (List.mem_of_getElem? (i := 31) rfl)) (hw _ (List.mem_of_getElem? (i := 32) rfl)) (hw _ (List.mem_of_getElem? (i := 33) rfl)) rfl (g := (mkF m 165 #[.val (.int x0), .val (.int x1), .val (.int x2), .val (.long x3), .second, .val (.long x4), .second, .val (.int x5), .val (.int (0 : Int32)), .val (.ref m0), .val (.ref m1), .val (.ref m2), .val (.ref b2), .unset, .unset] [])) rfl (hb hby at_165) (by decide) (by decide)
      obtain ⟨b4, hb4⟩ : ∃ z, z = T3.heap.size := ⟨_, rfl⟩
      rw [← hb4] at A4 D4 U4 st4
      refine Go.step st4 ?_
      have g_b4 : Z.heap.size ≤ b4 := Nat.le_trans O3_.1 (Nat.le_of_eq hb4.symm)
      have O4_ : Ext Z.heap h4 := extTr O3_ E4
      have F4_holders : Fld Z h4 b4 "com/example/wary_lock/warylock/LockState" "holders" "Ljava/util/List;" .null := D4 (Or.inr (hw _ (List.mem_of_getElem? (i := 73) rfl))) (ty := (.object "java/util/List")) pf_Ljava_util_List_
      have F4_waiting : Fld Z h4 b4 "com/example/wary_lock/warylock/LockState" "waiting" "I" (.int (0 : Int32)) := D4 (Or.inr (hw _ (List.mem_of_getElem? (i := 75) rfl))) (ty := .int) pf_I
      show Go _ _ _ _ _ _ _ _ T4 (mkF m 168 #[.val (.int x0), .val (.int x1), .val (.int x2), .val (.long x3), .second, .val (.long x4), .second, .val (.int x5), .val (.int (0 : Int32)), .val (.ref m0), .val (.ref m1), .val (.ref m2), .val (.ref b2), .unset, .unset] [(.ref b4)])
      refine Go.step (fun _ kt_ => XS.dup X4.here hx rfl (hb hby at_168) rfl rfl kt_) ?_
      show Go _ _ _ _ _ _ _ _ T4 (mkF m 169 #[.val (.int x0), .val (.int x1), .val (.int x2), .val (.long x3), .second, .val (.long x4), .second, .val (.int x5), .val (.int (0 : Int32)), .val (.ref m0), .val (.ref m1), .val (.ref m2), .val (.ref b2), .unset, .unset] [(.ref b4), (.ref b4)])
      refine Go.step (fun _ kt_ => XS.aload X4.here hx rfl (hb hby at_169) rfl rfl kt_) ?_
      show Go _ _ _ _ _ _ _ _ T4 (mkF m 171 #[.val (.int x0), .val (.int x1), .val (.int x2), .val (.long x3), .second, .val (.long x4), .second, .val (.int x5), .val (.int (0 : Int32)), .val (.ref m0), .val (.ref m1), .val (.ref m2), .val (.ref b2), .unset, .unset] [(.ref b2), (.ref b4), (.ref b4)])
      refine Go.step (fun _ kt_ => XS.iloadN X4.here hx rfl (hb hby at_171) rfl kt_) ?_
      show Go _ _ _ _ _ _ _ _ T4 (mkF m 172 #[.val (.int x0), .val (.int x1), .val (.int x2), .val (.long x3), .second, .val (.long x4), .second, .val (.int x5), .val (.int (0 : Int32)), .val (.ref m0), .val (.ref m1), .val (.ref m2), .val (.ref b2), .unset, .unset] [(.int x2), (.ref b2), (.ref b4), (.ref b4)])
      obtain ⟨_, _, ⟨T5, L5, k5, n5⟩, -, X5, ⟨Lc5, hQ5, l5, y5, z5⟩, st5⟩ := X4.specialBack hx (y := (⟨"com/example/wary_lock/warylock/LockState", "<init>", "(Ljava/util/List;I)V"⟩ : MethodName)) rfl hownc1 (mvT hZc1 (hw _ (List.mem_of_getElem? (i := 34) rfl))) (mvT hZc1 (hw _ (List.mem_of_getElem? (i := 35) rfl))) (mvT hZc1 (hw _ (List.mem_of_getElem? (i := 36) rfl))) (by decide) (backOf (W := 1) (rm_a5_0 l Z a0 hw [] dc kdc el ee kee ca cc eo mo G_dc G_dce G_dcv G_el G_ele G_elf G_eev G_hi G_ca G_bx G_eo G_eoe G_mo b4 b2 x2 (0 : Int32) (0 : Int32) h4 O4_ (Exa.ext E4 (A2.keep Kq3)) (Fld.ext E4 p3_2) (by decide) A4 F4_holders g_b4 F4_waiting) hZc1 (hw _ (List.mem_of_getElem? (i := 36) rfl)) (hw _ (List.mem_of_getElem? (i := 33) rfl)) (by decide) (by decide)) (g := (mkF m 172 #[.val (.int x0), .val (.int x1), .val (.int x2), .val (.long x3), .second, .val (.long x4), .second, .val (.int x5), .val (.int (0 : Int32)), .val (.ref m0), .val (.ref m1), .val (.ref m2), .val (.ref b2), .unset, .unset] [(.int x2), (.ref b2), (.ref b4), (.ref b4)])) rfl (by rw [hml]; rfl) (Steps.refl _) (a := b4) (argsL := [(.ref b2), (.int x2)]) (rest := [(.ref b4)]) (lenOf pd_LLjava_util_List_IRV rfl) rfl (by show 2 * 0 + _ ≤ _; exact Nat.le_of_eq rfl) (hb hby at_172) (fun _ _ => ⟨rfl, e4, (by decide : 2 + 0 ≤ _), (by decide : 5 + 0 ≤ _)⟩)
      dsimp only [Pt.U, Pt.locs, Pt.cells, Pt.slots] at X5 l5 y5 z5 st5 hQ5
      subst l5 y5 z5
      obtain ⟨rfl, Nq5, Kq5, p5_0, p5_1⟩ := hQ5
      have O5_ : Ext Z.heap T5.heap := extKeep O4_ Kq5 (allS g_b4 all0)
      have N5_ := Fr.app N3_ Nq5
      refine Go.trans st5 ?_
      show Go _ _ _ _ _ _ _ _ T5 (mkF m 175 #[.val (.int x0), .val (.int x1), .val (.int x2), .val (.long x3), .second, .val (.long x4), .second, .val (.int x5), .val (.int (0 : Int32)), .val (.ref m0), .val (.ref m1), .val (.ref m2), .val (.ref b2), .unset, .unset] [(.ref b4)])
      refine Go.step (fun _ kt_ => XS.astore X5.here hx rfl (hb hby at_175) rfl rfl (l' := #[.val (.int x0), .val (.int x1), .val (.int x2), .val (.long x3), .second, .val (.long x4), .second, .val (.int x5), .val (.int (0 : Int32)), .val (.ref m0), .val (.ref m1), .val (.ref m2), .val (.ref b2), .val (.ref b4), .unset]) rfl kt_) ?_
      show Go _ _ _ _ _ _ _ _ T5 (mkF m 177 #[.val (.int x0), .val (.int x1), .val (.int x2), .val (.long x3), .second, .val (.long x4), .second, .val (.int x5), .val (.int (0 : Int32)), .val (.ref m0), .val (.ref m1), .val (.ref m2), .val (.ref b2), .val (.ref b4), .unset] [])
      refine Go.step (fun _ kt_ => XS.aload X5.here hx rfl (hb hby at_177) rfl rfl kt_) ?_
      show Go _ _ _ _ _ _ _ _ T5 (mkF m 179 #[.val (.int x0), .val (.int x1), .val (.int x2), .val (.long x3), .second, .val (.long x4), .second, .val (.int x5), .val (.int (0 : Int32)), .val (.ref m0), .val (.ref m1), .val (.ref m2), .val (.ref b2), .val (.ref b4), .unset] [(.ref b4)])
      obtain ⟨cq6, kq6, q6a, q6b, q6c⟩ := isOf hZc1 rfl (A4.keep Kq5)
      obtain ⟨_, _, ⟨T6, L6, k6, n6⟩, -, X6, ⟨Lc6, hQ6, l6, y6, z6⟩, st6⟩ := X5.virtualBack hx (y := (⟨"com/example/wary_lock/warylock/LockState", "limit", "()Ljava/lang/Integer;"⟩ : MethodName)) (z := (⟨"com/example/wary_lock/warylock/LockState", "limit", "()Ljava/lang/Integer;"⟩ : MethodName)) hownc1 (mvT hZc1 (hw _ (List.mem_of_getElem? (i := 76) rfl))) (mvT hZc1 (hw _ (List.mem_of_getElem? (i := 77) rfl))) (notFace_of_selects (args := #[]) (mvT hZc1 (hw _ (List.mem_of_getElem? (i := 79) rfl)))) (mvT hZc1 (hw _ (List.mem_of_getElem? (i := 79) rfl))) (mvT hZc1 (hw _ (List.mem_of_getElem? (i := 78) rfl))) (by decide) (backOf (W := 0) (rm_a11_0 l Z a0 hw [] dc kdc el ee kee ca cc eo mo G_dc G_dce G_dcv G_el G_ele G_elf G_eev G_hi G_ca G_bx G_eo G_eoe G_mo b4 T5.heap O5_ p5_0) hZc1 (hw _ (List.mem_of_getElem? (i := 80) rfl)) (hw _ (List.mem_of_getElem? (i := 33) rfl)) (by decide) (by decide)) q6a q6c (g := (mkF m 179 #[.val (.int x0), .val (.int x1), .val (.int x2), .val (.long x3), .second, .val (.long x4), .second, .val (.int x5), .val (.int (0 : Int32)), .val (.ref m0), .val (.ref m1), .val (.ref m2), .val (.ref b2), .val (.ref b4), .unset] [(.ref b4)])) rfl (by rw [hml]; rfl) (Steps.refl _) (argsL := []) (rest := []) (lenOf pd_LRLjava_lang_Integer_ rfl) rfl (by show 2 * 0 + _ ≤ _; exact Nat.le_of_eq rfl) (hb hby at_179) (fun _ _ => ⟨rfl, rfl, (by decide : 2 + 0 ≤ _), (by decide : 5 + 0 ≤ _)⟩)
      dsimp only [Pt.U, Pt.locs, Pt.cells, Pt.slots] at X6 l6 y6 z6 st6 hQ6
      subst l6 y6 z6
      obtain ⟨rfl, Nq6, e6⟩ := hQ6
      have N6_ := Fr.app N5_ Nq6
      refine Go.trans st6 ?_
      show Go _ _ _ _ _ _ _ _ T6 (mkF m 182 #[.val (.int x0), .val (.int x1), .val (.int x2), .val (.long x3), .second, .val (.long x4), .second, .val (.int x5), .val (.int (0 : Int32)), .val (.ref m0), .val (.ref m1), .val (.ref m2), .val (.ref b2), .val (.ref b4), .unset] [.null])
      refine Go.step (fun _ kt_ => XS.astore X6.here hx rfl (hb hby at_182) rfl rfl (l' := #[.val (.int x0), .val (.int x1), .val (.int x2), .val (.long x3), .second, .val (.long x4), .second, .val (.int x5), .val (.int (0 : Int32)), .val (.ref m0), .val (.ref m1), .val (.ref m2), .val (.ref b2), .val (.ref b4), .val .null]) rfl kt_) ?_
      show Go _ _ _ _ _ _ _ _ T6 (mkF m 184 #[.val (.int x0), .val (.int x1), .val (.int x2), .val (.long x3), .second, .val (.long x4), .second, .val (.int x5), .val (.int (0 : Int32)), .val (.ref m0), .val (.ref m1), .val (.ref m2), .val (.ref b2), .val (.ref b4), .val .null] [])
      refine Go.step (fun _ kt_ => XS.iload X6.here hx rfl (hb hby at_184) rfl kt_) ?_
      show Go _ _ _ _ _ _ _ _ T6 (mkF m 186 #[.val (.int x0), .val (.int x1), .val (.int x2), .val (.long x3), .second, .val (.long x4), .second, .val (.int x5), .val (.int (0 : Int32)), .val (.ref m0), .val (.ref m1), .val (.ref m2), .val (.ref b2), .val (.ref b4), .val .null] [(.int (0 : Int32))])
      refine Go.step (fun _ kt_ => XS.ifNo X6.here hx rfl (hb hby at_186) rfl ((if0 _ _).trans (teq (by decide : (0 : Int32) = (0 : Int32))).2) kt_) ?_
      show Go _ _ _ _ _ _ _ _ T6 (mkF m 189 #[.val (.int x0), .val (.int x1), .val (.int x2), .val (.long x3), .second, .val (.long x4), .second, .val (.int x5), .val (.int (0 : Int32)), .val (.ref m0), .val (.ref m1), .val (.ref m2), .val (.ref b2), .val (.ref b4), .val .null] [])
      refine Go.step (fun _ kt_ => XS.aload X6.here hx rfl (hb hby at_189) rfl rfl kt_) ?_
      show Go _ _ _ _ _ _ _ _ T6 (mkF m 191 #[.val (.int x0), .val (.int x1), .val (.int x2), .val (.long x3), .second, .val (.long x4), .second, .val (.int x5), .val (.int (0 : Int32)), .val (.ref m0), .val (.ref m1), .val (.ref m2), .val (.ref b2), .val (.ref b4), .val .null] [.null])
      refine Go.step (fun _ kt_ => XS.ifnonnullNo X6.here hx rfl (hb hby at_191) rfl kt_) ?_
      show Go _ _ _ _ _ _ _ _ T6 (mkF m 194 #[.val (.int x0), .val (.int x1), .val (.int x2), .val (.long x3), .second, .val (.long x4), .second, .val (.int x5), .val (.int (0 : Int32)), .val (.ref m0), .val (.ref m1), .val (.ref m2), .val (.ref b2), .val (.ref b4), .val .null] [])
      refine Go.step (fun _ kt_ => XS.iconst X6.here hx rfl (hb hby at_194)  kt_) ?_
      show Go _ _ _ _ _ _ _ _ T6 (mkF m 195 #[.val (.int x0), .val (.int x1), .val (.int x2), .val (.long x3), .second, .val (.long x4), .second, .val (.int x5), .val (.int (0 : Int32)), .val (.ref m0), .val (.ref m1), .val (.ref m2), .val (.ref b2), .val (.ref b4), .val .null] [(.int (1 : Int32))])
      refine Go.step (fun _ kt_ => XS.goto X6.here hx rfl (pc0 := 195) (pc' := 199) rfl (hb hby at_195) (by decide) (by decide) kt_) ?_
      show Go _ _ _ _ _ _ _ _ T6 (mkF m 199 #[.val (.int x0), .val (.int x1), .val (.int x2), .val (.long x3), .second, .val (.long x4), .second, .val (.int x5), .val (.int (0 : Int32)), .val (.ref m0), .val (.ref m1), .val (.ref m2), .val (.ref b2), .val (.ref b4), .val .null] [(.int (1 : Int32))])
      exact Go.retNW X6 Sc1 (by rw [e6]; exact (Nat.le_trans (Nat.le_trans (Nat.le_trans (Nat.le_trans kkc1 E2.1) Kq3.1) E4.1) Kq5.1)) hx (t := .boolean) Bd.returns (by simp) hlk (hb hby at_199) (by decide) (by decide) ⟨rfl, N6_, trivial⟩
    · subst hk
      show Go _ _ _ _ _ _ _ _ T3 (mkF m 68 #[.val (.int x0), .val (.int x1), .val (.int x2), .val (.long x3), .second, .val (.long x4), .second, .val (.int x5), .val (.int (1 : Int32)), .val (.ref m0), .val (.ref m1), .val (.ref m2), .val (.ref b2), .unset, .unset] [])
      refine Go.step (fun _ kt_ => XS.iload X3.here hx rfl (hb hby at_68) rfl kt_) ?_
      show Go _ _ _ _ _ _ _ _ T3 (mkF m 70 #[.val (.int x0), .val (.int x1), .val (.int x2), .val (.long x3), .second, .val (.long x4), .second, .val (.int x5), .val (.int (1 : Int32)), .val (.ref m0), .val (.ref m1), .val (.ref m2), .val (.ref b2), .unset, .unset] [(.int (1 : Int32))])
      refine Go.step (fun _ kt_ => XS.iconst X3.here hx rfl (hb hby at_70)  kt_) ?_
      show Go _ _ _ _ _ _ _ _ T3 (mkF m 71 #[.val (.int x0), .val (.int x1), .val (.int x2), .val (.long x3), .second, .val (.long x4), .second, .val (.int x5), .val (.int (1 : Int32)), .val (.ref m0), .val (.ref m1), .val (.ref m2), .val (.ref b2), .unset, .unset] [(.int (1 : Int32)), (.int (1 : Int32))])
      refine Go.step (fun _ kt_ => XS.icmpNo X3.here hx rfl (hb hby at_71) rfl (flt (by decide : ¬ ((1 : Int32) < (1 : Int32)))).1 kt_) ?_
      show Go _ _ _ _ _ _ _ _ T3 (mkF m 74 #[.val (.int x0), .val (.int x1), .val (.int x2), .val (.long x3), .second, .val (.long x4), .second, .val (.int x5), .val (.int (1 : Int32)), .val (.ref m0), .val (.ref m1), .val (.ref m2), .val (.ref b2), .unset, .unset] [])
      refine Go.step (fun _ kt_ => XS.aload X3.here hx rfl (hb hby at_74) rfl rfl kt_) ?_
      show Go _ _ _ _ _ _ _ _ T3 (mkF m 76 #[.val (.int x0), .val (.int x1), .val (.int x2), .val (.long x3), .second, .val (.long x4), .second, .val (.int x5), .val (.int (1 : Int32)), .val (.ref m0), .val (.ref m1), .val (.ref m2), .val (.ref b2), .unset, .unset] [(.ref b2)])
      obtain ⟨T7, h7, X7, e7, E7, A7, D7, U7, st7⟩ := newO X3 hx hZc1 hownc1 (hw _ (List.mem_of_getElem? (i := 93) rfl)) (hw _ (List.mem_of_getElem? (i := 94) rfl)) (hw _ (List.mem_of_getElem? (i := 95) rfl)) rfl (g := (mkF m 76 #[.val (.int x0), .val (.int x1), .val (.int x2), .val (.long x3), .second, .val (.long x4), .second, .val (.int x5), .val (.int (1 : Int32)), .val (.ref m0), .val (.ref m1), .val (.ref m2), .val (.ref b2), .unset, .unset] [(.ref b2)])) rfl (hb hby at_76) (by decide) (by decide)
      obtain ⟨b7, hb7⟩ : ∃ z, z = T3.heap.size := ⟨_, rfl⟩
      rw [← hb7] at A7 D7 U7 st7
      refine Go.step st7 ?_
      have g_b7 : Z.heap.size ≤ b7 := Nat.le_trans O3_.1 (Nat.le_of_eq hb7.symm)
      have O7_ : Ext Z.heap h7 := extTr O3_ E7
      have F7_name : Fld Z h7 b7 "com/example/wary_lock/warylock/Lease" "name" "Ljava/lang/String;" .null := D7 (Or.inr (hw _ (List.mem_of_getElem? (i := 110) rfl))) (ty := (.object "java/lang/String")) pf_Ljava_lang_String_
      have F7_owner : Fld Z h7 b7 "com/example/wary_lock/warylock/Lease" "owner" "Ljava/lang/String;" .null := D7 (Or.inr (hw _ (List.mem_of_getElem? (i := 112) rfl))) (ty := (.object "java/lang/String")) pf_Ljava_lang_String_
      have F7_token : Fld Z h7 b7 "com/example/wary_lock/warylock/Lease" "token" "J" (.long (0 : Int64)) := D7 (Or.inr (hw _ (List.mem_of_getElem? (i := 114) rfl))) (ty := .long) pf_J
      have F7_ttlMs : Fld Z h7 b7 "com/example/wary_lock/warylock/Lease" "ttlMs" "J" (.long (0 : Int64)) := D7 (Or.inr (hw _ (List.mem_of_getElem? (i := 116) rfl))) (ty := .long) pf_J
      have F7_expiresAt : Fld Z h7 b7 "com/example/wary_lock/warylock/Lease" "expiresAt" "Ljava/time/Instant;" .null := D7 (Or.inr (hw _ (List.mem_of_getElem? (i := 118) rfl))) (ty := (.object "java/time/Instant")) pf_Ljava_time_Instant_
      have F7_expiresInMs : Fld Z h7 b7 "com/example/wary_lock/warylock/Lease" "expiresInMs" "J" (.long (0 : Int64)) := D7 (Or.inr (hw _ (List.mem_of_getElem? (i := 120) rfl))) (ty := .long) pf_J
      have F7_limit : Fld Z h7 b7 "com/example/wary_lock/warylock/Lease" "limit" "I" (.int (0 : Int32)) := D7 (Or.inr (hw _ (List.mem_of_getElem? (i := 122) rfl))) (ty := .int) pf_I
      have F7_mode : Fld Z h7 b7 "com/example/wary_lock/warylock/Lease" "mode" "Lcom/example/wary_lock/warylock/LockMode;" .null := D7 (Or.inr (hw _ (List.mem_of_getElem? (i := 124) rfl))) (ty := (.object "com/example/wary_lock/warylock/LockMode")) pf_Lcom_example_wary_lock_warylock_LockMode_
      show Go _ _ _ _ _ _ _ _ T7 (mkF m 79 #[.val (.int x0), .val (.int x1), .val (.int x2), .val (.long x3), .second, .val (.long x4), .second, .val (.int x5), .val (.int (1 : Int32)), .val (.ref m0), .val (.ref m1), .val (.ref m2), .val (.ref b2), .unset, .unset] [(.ref b7), (.ref b2)])
      refine Go.step (fun _ kt_ => XS.dup X7.here hx rfl (hb hby at_79) rfl rfl kt_) ?_
      show Go _ _ _ _ _ _ _ _ T7 (mkF m 80 #[.val (.int x0), .val (.int x1), .val (.int x2), .val (.long x3), .second, .val (.long x4), .second, .val (.int x5), .val (.int (1 : Int32)), .val (.ref m0), .val (.ref m1), .val (.ref m2), .val (.ref b2), .unset, .unset] [(.ref b7), (.ref b7), (.ref b2)])
      obtain ⟨a8, T8, h8, k8, X8, e8, E8, S8, kq8, hZ8, hown8, st8⟩ := ldcS X7 hx hZc1 hownc1 (hw _ (List.mem_of_getElem? (i := 96) rfl)) wS e7 Sc1 (Nat.le_trans (Nat.le_trans (Nat.le_trans kkc1 E2.1) Kq3.1) E7.1) (g := (mkF m 80 #[.val (.int x0), .val (.int x1), .val (.int x2), .val (.long x3), .second, .val (.long x4), .second, .val (.int x5), .val (.int (1 : Int32)), .val (.ref m0), .val (.ref m1), .val (.ref m2), .val (.ref b2), .unset, .unset] [(.ref b7), (.ref b7), (.ref b2)])) rfl (hb hby at_80) (n := 4) (by decide) (by decide) (by decide) (by decide)
      have O8_ : Ext Z.heap h8 := extTr O7_ E8
      refine Go.step st8 ?_
      show Go _ _ _ _ _ _ _ _ T8 (mkF m 82 #[.val (.int x0), .val (.int x1), .val (.int x2), .val (.long x3), .second, .val (.long x4), .second, .val (.int x5), .val (.int (1 : Int32)), .val (.ref m0), .val (.ref m1), .val (.ref m2), .val (.ref b2), .unset, .unset] [(.ref a8), (.ref b7), (.ref b7), (.ref b2)])
      obtain ⟨a9, T9, h9, k9, X9, e9, E9, S9, kq9, hZ9, hown9, st9⟩ := ldcS X8 hx hZ8 hown8 (hw _ (List.mem_of_getElem? (i := 104) rfl)) wS e8 S8 kq8 (g := (mkF m 82 #[.val (.int x0), .val (.int x1), .val (.int x2), .val (.long x3), .second, .val (.long x4), .second, .val (.int x5), .val (.int (1 : Int32)), .val (.ref m0), .val (.ref m1), .val (.ref m2), .val (.ref b2), .unset, .unset] [(.ref a8), (.ref b7), (.ref b7), (.ref b2)])) rfl (hb hby at_82) (n := 4) (by decide) (by decide) (by decide) (by decide)
      have O9_ : Ext Z.heap h9 := extTr O8_ E9
      refine Go.step st9 ?_
      show Go _ _ _ _ _ _ _ _ T9 (mkF m 84 #[.val (.int x0), .val (.int x1), .val (.int x2), .val (.long x3), .second, .val (.long x4), .second, .val (.int x5), .val (.int (1 : Int32)), .val (.ref m0), .val (.ref m1), .val (.ref m2), .val (.ref b2), .unset, .unset] [(.ref a9), (.ref a8), (.ref b7), (.ref b7), (.ref b2)])
      refine Go.step (fun _ kt_ => XS.lloadN X9.here hx rfl (hb hby at_84) rfl kt_) ?_
      show Go _ _ _ _ _ _ _ _ T9 (mkF m 85 #[.val (.int x0), .val (.int x1), .val (.int x2), .val (.long x3), .second, .val (.long x4), .second, .val (.int x5), .val (.int (1 : Int32)), .val (.ref m0), .val (.ref m1), .val (.ref m2), .val (.ref b2), .unset, .unset] [(.long x3), (.ref a9), (.ref a8), (.ref b7), (.ref b7), (.ref b2)])
      refine Go.step (fun _ kt_ => XS.lload X9.here hx rfl (hb hby at_85) rfl kt_) ?_
      show Go _ _ _ _ _ _ _ _ T9 (mkF m 87 #[.val (.int x0), .val (.int x1), .val (.int x2), .val (.long x3), .second, .val (.long x4), .second, .val (.int x5), .val (.int (1 : Int32)), .val (.ref m0), .val (.ref m1), .val (.ref m2), .val (.ref b2), .unset, .unset] [(.long x4), (.long x3), (.ref a9), (.ref a8), (.ref b7), (.ref b7), (.ref b2)])
      refine Go.step (fun _ kt_ => XS.aconstNull X9.here hx rfl (hb hby at_87)  kt_) ?_
      show Go _ _ _ _ _ _ _ _ T9 (mkF m 88 #[.val (.int x0), .val (.int x1), .val (.int x2), .val (.long x3), .second, .val (.long x4), .second, .val (.int x5), .val (.int (1 : Int32)), .val (.ref m0), .val (.ref m1), .val (.ref m2), .val (.ref b2), .unset, .unset] [.null, (.long x4), (.long x3), (.ref a9), (.ref a8), (.ref b7), (.ref b7), (.ref b2)])
      refine Go.step (fun _ kt_ => XS.lload X9.here hx rfl (hb hby at_88) rfl kt_) ?_
      show Go _ _ _ _ _ _ _ _ T9 (mkF m 90 #[.val (.int x0), .val (.int x1), .val (.int x2), .val (.long x3), .second, .val (.long x4), .second, .val (.int x5), .val (.int (1 : Int32)), .val (.ref m0), .val (.ref m1), .val (.ref m2), .val (.ref b2), .unset, .unset] [(.long x4), .null, (.long x4), (.long x3), (.ref a9), (.ref a8), (.ref b7), (.ref b7), (.ref b2)])
      refine Go.step (fun _ kt_ => XS.iloadN X9.here hx rfl (hb hby at_90) rfl kt_) ?_
      show Go _ _ _ _ _ _ _ _ T9 (mkF m 91 #[.val (.int x0), .val (.int x1), .val (.int x2), .val (.long x3), .second, .val (.long x4), .second, .val (.int x5), .val (.int (1 : Int32)), .val (.ref m0), .val (.ref m1), .val (.ref m2), .val (.ref b2), .unset, .unset] [(.int x1), (.long x4), .null, (.long x4), (.long x3), (.ref a9), (.ref a8), (.ref b7), (.ref b7), (.ref b2)])
      refine Go.step (fun _ kt_ => XS.aload X9.here hx rfl (hb hby at_91) rfl rfl kt_) ?_
      show Go _ _ _ _ _ _ _ _ T9 (mkF m 93 #[.val (.int x0), .val (.int x1), .val (.int x2), .val (.long x3), .second, .val (.long x4), .second, .val (.int x5), .val (.int (1 : Int32)), .val (.ref m0), .val (.ref m1), .val (.ref m2), .val (.ref b2), .unset, .unset] [(.ref m0), (.int x1), (.long x4), .null, (.long x4), (.long x3), (.ref a9), (.ref a8), (.ref b7), (.ref b7), (.ref b2)])
      obtain ⟨_, _, ⟨T10, L10, k10, n10⟩, -, X10, ⟨Lc10, hQ10, l10, y10, z10⟩, st10⟩ := X9.specialBack hx (y := (⟨"com/example/wary_lock/warylock/Lease", "<init>", "(Ljava/lang/String;Ljava/lang/String;JJLjava/time/Instant;JILcom/example/wary_lock/warylock/LockMode;)V"⟩ : MethodName)) rfl hown9 (mvT hZ9 (hw _ (List.mem_of_getElem? (i := 105) rfl))) (mvT hZ9 (hw _ (List.mem_of_getElem? (i := 106) rfl))) (mvT hZ9 (hw _ (List.mem_of_getElem? (i := 107) rfl))) (by decide) (backOf (W := 2) (rm_a13_0 l Z a0 hw [] dc kdc el ee kee ca cc eo mo G_dc G_dce G_dcv G_el G_ele G_elf G_eev G_hi G_ca G_bx G_eo G_eoe G_mo b7 a8 a9 x3 x4 x4 x1 m0 (0 : Int64) (0 : Int64) (0 : Int64) (0 : Int32) h9 O9_ (Exa.ext E9 (Exa.ext E8 A7)) (Fld.ext E9 (Fld.ext E8 F7_name)) g_b7 (Fld.ext E9 (Fld.ext E8 F7_owner)) (Fld.ext E9 (Fld.ext E8 F7_token)) (Fld.ext E9 (Fld.ext E8 F7_ttlMs)) (Fld.ext E9 (Fld.ext E8 F7_expiresAt)) (Fld.ext E9 (Fld.ext E8 F7_expiresInMs)) (Fld.ext E9 (Fld.ext E8 F7_limit)) (Fld.ext E9 (Fld.ext E8 F7_mode))) hZ9 (hw _ (List.mem_of_getElem? (i := 107) rfl)) (hw _ (List.mem_of_getElem? (i := 95) rfl)) (by decide) (by decide)) (g := (mkF m 93 #[.val (.int x0), .val (.int x1), .val (.int x2), .val (.long x3), .second, .val (.long x4), .second, .val (.int x5), .val (.int (1 : Int32)), .val (.ref m0), .val (.ref m1), .val (.ref m2), .val (.ref b2), .unset, .unset] [(.ref m0), (.int x1), (.long x4), .null, (.long x4), (.long x3), (.ref a9), (.ref a8), (.ref b7), (.ref b7), (.ref b2)])) rfl (by rw [hml]; rfl) (Steps.refl _) (a := b7) (argsL := [(.ref a8), (.ref a9), (.long x3), (.long x4), .null, (.long x4), (.int x1), (.ref m0)]) (rest := [(.ref b7), (.ref b2)]) (lenOf pd_LLjava_lang_String_Ljava_lang_String_JJLjava_time_Instant_JILcom_example_wary_lock_warylock_LockMode_RV rfl) rfl (by show 2 * 0 + _ ≤ _; exact Nat.le_of_eq rfl) (hb hby at_93) (fun _ _ => ⟨rfl, e9, (by decide : 6 + 0 ≤ _), (by decide : 27 + 0 ≤ _)⟩)
      dsimp only [Pt.U, Pt.locs, Pt.cells, Pt.slots] at X10 l10 y10 z10 st10 hQ10
      subst l10 y10 z10
      obtain ⟨rfl, Nq10, Kq10, p10_0, p10_1, p10_2, p10_3, p10_4, p10_5, p10_6, p10_7⟩ := hQ10
      have O10_ : Ext Z.heap T10.heap := extKeep O9_ Kq10 (allS g_b7 all0)
      have N10_ := Fr.app N3_ Nq10
      refine Go.trans st10 ?_
      show Go _ _ _ _ _ _ _ _ T10 (mkF m 96 #[.val (.int x0), .val (.int x1), .val (.int x2), .val (.long x3), .second, .val (.long x4), .second, .val (.int x5), .val (.int (1 : Int32)), .val (.ref m0), .val (.ref m1), .val (.ref m2), .val (.ref b2), .unset, .unset] [(.ref b7), (.ref b2)])
      have f11 := ((Exa.ext E9 (Exa.ext E8 (Exa.ext E7 (A2.keep Kq3)))).keep Kq10)
      have f12 := ((Fld.ext E9 (Fld.ext E8 (Fld.ext E7 p3_0))).keep Kq10 (ninS (Nat.ne_of_lt (Nat.lt_of_lt_of_le (A2.keep Kq3).lt (Nat.le_of_eq hb7.symm))) nin0))
      have f13 := ((Fld.ext E9 (Fld.ext E8 (Fld.ext E7 p3_1))).keep Kq10 (ninS (Nat.ne_of_lt (Nat.lt_of_lt_of_le (A2.keep Kq3).lt (Nat.le_of_eq hb7.symm))) nin0))
      have f14 := ((Fld.ext E9 (Fld.ext E8 (Fld.ext E7 p3_2))).keep Kq10 (ninS (Nat.ne_of_lt (Nat.lt_of_lt_of_le (A2.keep Kq3).lt (Nat.le_of_eq hb7.symm))) nin0))
      have f15 := ((Fld.ext E9 (Fld.ext E8 (Fld.ext E7 p3_0))).keep Kq10 (ninS (Nat.ne_of_lt (Nat.lt_of_lt_of_le (A2.keep Kq3).lt (Nat.le_of_eq hb7.symm))) nin0))
      have f16 := ((Fld.ext E9 (Fld.ext E8 (Fld.ext E7 p3_1))).keep Kq10 (ninS (Nat.ne_of_lt (Nat.lt_of_lt_of_le (A2.keep Kq3).lt (Nat.le_of_eq hb7.symm))) nin0))
      have f17 := ((Fld.ext E9 (Fld.ext E8 (Fld.ext E7 p3_2))).keep Kq10 (ninS (Nat.ne_of_lt (Nat.lt_of_lt_of_le (A2.keep Kq3).lt (Nat.le_of_eq hb7.symm))) nin0))
      have f18 := ((Fld.ext E9 (Fld.ext E8 (Fld.ext E7 p3_0))).keep Kq10 (ninS (Nat.ne_of_lt (Nat.lt_of_lt_of_le (A2.keep Kq3).lt (Nat.le_of_eq hb7.symm))) nin0))
      have f19 := ((Fld.ext E9 (Fld.ext E8 (Fld.ext E7 p3_1))).keep Kq10 (ninS (Nat.ne_of_lt (Nat.lt_of_lt_of_le (A2.keep Kq3).lt (Nat.le_of_eq hb7.symm))) nin0))
      have f20 := ((Fld.ext E9 (Fld.ext E8 (Fld.ext E7 p3_2))).keep Kq10 (ninS (Nat.ne_of_lt (Nat.lt_of_lt_of_le (A2.keep Kq3).lt (Nat.le_of_eq hb7.symm))) nin0))
      have f21 := ((Fld.ext E9 (Fld.ext E8 (Fld.ext E7 p3_0))).keep Kq10 (ninS (Nat.ne_of_lt (Nat.lt_of_lt_of_le (A2.keep Kq3).lt (Nat.le_of_eq hb7.symm))) nin0))
      have f22 := ((Fld.ext E9 (Fld.ext E8 (Fld.ext E7 p3_1))).keep Kq10 (ninS (Nat.ne_of_lt (Nat.lt_of_lt_of_le (A2.keep Kq3).lt (Nat.le_of_eq hb7.symm))) nin0))
      have f23 := ((Fld.ext E9 (Fld.ext E8 (Fld.ext E7 p3_2))).keep Kq10 (ninS (Nat.ne_of_lt (Nat.lt_of_lt_of_le (A2.keep Kq3).lt (Nat.le_of_eq hb7.symm))) nin0))
      obtain ⟨cq24, kq24, q24a, q24b, q24c⟩ := isOf hZ9 rfl f11
      obtain ⟨_, _, ⟨T24, L24, k24, n24⟩, -, X24, ⟨Lc24, hQ24, l24, y24, z24⟩, st24⟩ := X10.virtualBack hx (y := (⟨"java/util/ArrayList", "add", "(Ljava/lang/Object;)Z"⟩ : MethodName)) (z := (⟨"java/util/ArrayList", "add", "(Ljava/lang/Object;)Z"⟩ : MethodName)) hown9 (mvT hZ9 (hw _ (List.mem_of_getElem? (i := 125) rfl))) (mvT hZ9 (hw _ (List.mem_of_getElem? (i := 126) rfl))) (notFace_of_selects (args := #[]) (mvT hZ9 (hw _ (List.mem_of_getElem? (i := 128) rfl)))) (mvT hZ9 (hw _ (List.mem_of_getElem? (i := 128) rfl))) (mvT hZ9 (hw _ (List.mem_of_getElem? (i := 127) rfl))) (by decide) (backOf (W := 0) (rm_a14_0 l Z a0 hw [] dc kdc el ee kee ca cc eo mo G_dc G_dce G_dcv G_el G_ele G_elf G_eev G_hi G_ca G_bx G_eo G_eoe G_mo b2 b7 T10.heap O10_ f21 f11 g_b2 f22 f23 ((Exa.ext E9 (Exa.ext E8 A7)).keep Kq10)) hZ9 (hw _ (List.mem_of_getElem? (i := 129) rfl)) (hw _ (List.mem_of_getElem? (i := 7) rfl)) (by decide) (by decide)) q24a q24c (g := (mkF m 96 #[.val (.int x0), .val (.int x1), .val (.int x2), .val (.long x3), .second, .val (.long x4), .second, .val (.int x5), .val (.int (1 : Int32)), .val (.ref m0), .val (.ref m1), .val (.ref m2), .val (.ref b2), .unset, .unset] [(.ref b7), (.ref b2)])) rfl (by rw [hml]; rfl) (Steps.refl _) (argsL := [(.ref b7)]) (rest := []) (lenOf pd_LLjava_lang_Object_RZ rfl) rfl (by show 2 * 0 + _ ≤ _; exact Nat.le_of_eq rfl) (hb hby at_96) (fun _ _ => ⟨rfl, rfl, (by decide : 6 + 1 ≤ _), (by decide : 27 + 10 ≤ _)⟩)
      dsimp only [Pt.U, Pt.locs, Pt.cells, Pt.slots] at X24 l24 y24 z24 st24 hQ24
      subst l24 y24 z24
      obtain ⟨b6q2q2q5q24, k6q2q2q5q24, rfl, Nq24, Kq24, p24_0, p24_1, p24_2, p24_3, p24_4, p24_5, p24_6⟩ := hQ24
      have O24_ : Ext Z.heap T24.heap := extKeep O10_ Kq24 (allS g_b2 all0)
      have N24_ := Fr.app N10_ Nq24
      have g_b6q2q2q5q24 : Z.heap.size ≤ b6q2q2q5q24 := Nat.le_trans O10_.1 p24_3
      refine Go.trans st24 ?_
      show Go _ _ _ _ _ _ _ _ T24 (mkF m 99 #[.val (.int x0), .val (.int x1), .val (.int x2), .val (.long x3), .second, .val (.long x4), .second, .val (.int x5), .val (.int (1 : Int32)), .val (.ref m0), .val (.ref m1), .val (.ref m2), .val (.ref b2), .unset, .unset] [(.int (1 : Int32))])
      refine Go.step (fun _ kt_ => XS.pop X24.here hx rfl (hb hby at_99) rfl rfl kt_) ?_
      show Go _ _ _ _ _ _ _ _ T24 (mkF m 100 #[.val (.int x0), .val (.int x1), .val (.int x2), .val (.long x3), .second, .val (.long x4), .second, .val (.int x5), .val (.int (1 : Int32)), .val (.ref m0), .val (.ref m1), .val (.ref m2), .val (.ref b2), .unset, .unset] [])
      refine Go.step (fun _ kt_ => XS.iload X24.here hx rfl (hb hby at_100) rfl kt_) ?_
      show Go _ _ _ _ _ _ _ _ T24 (mkF m 102 #[.val (.int x0), .val (.int x1), .val (.int x2), .val (.long x3), .second, .val (.long x4), .second, .val (.int x5), .val (.int (1 : Int32)), .val (.ref m0), .val (.ref m1), .val (.ref m2), .val (.ref b2), .unset, .unset] [(.int (1 : Int32))])
      refine Go.step (fun _ kt_ => XS.iconst X24.here hx rfl (hb hby at_102)  kt_) ?_
      show Go _ _ _ _ _ _ _ _ T24 (mkF m 103 #[.val (.int x0), .val (.int x1), .val (.int x2), .val (.long x3), .second, .val (.long x4), .second, .val (.int x5), .val (.int (1 : Int32)), .val (.ref m0), .val (.ref m1), .val (.ref m2), .val (.ref b2), .unset, .unset] [(.int (2 : Int32)), (.int (1 : Int32))])
      refine Go.step (fun _ kt_ => XS.icmpYes X24.here hx rfl (pc0 := 103) (pc' := 134) rfl (hb hby at_103) rfl (tlt (by decide : (1 : Int32) < (2 : Int32))).1 (by decide) (by decide) kt_) ?_
      show Go _ _ _ _ _ _ _ _ T24 (mkF m 134 #[.val (.int x0), .val (.int x1), .val (.int x2), .val (.long x3), .second, .val (.long x4), .second, .val (.int x5), .val (.int (1 : Int32)), .val (.ref m0), .val (.ref m1), .val (.ref m2), .val (.ref b2), .unset, .unset] [])
      refine Go.step (fun _ kt_ => XS.iload X24.here hx rfl (hb hby at_134) rfl kt_) ?_
      show Go _ _ _ _ _ _ _ _ T24 (mkF m 136 #[.val (.int x0), .val (.int x1), .val (.int x2), .val (.long x3), .second, .val (.long x4), .second, .val (.int x5), .val (.int (1 : Int32)), .val (.ref m0), .val (.ref m1), .val (.ref m2), .val (.ref b2), .unset, .unset] [(.int (1 : Int32))])
      refine Go.step (fun _ kt_ => XS.iconst X24.here hx rfl (hb hby at_136)  kt_) ?_
      show Go _ _ _ _ _ _ _ _ T24 (mkF m 137 #[.val (.int x0), .val (.int x1), .val (.int x2), .val (.long x3), .second, .val (.long x4), .second, .val (.int x5), .val (.int (1 : Int32)), .val (.ref m0), .val (.ref m1), .val (.ref m2), .val (.ref b2), .unset, .unset] [(.int (3 : Int32)), (.int (1 : Int32))])
      refine Go.step (fun _ kt_ => XS.icmpYes X24.here hx rfl (pc0 := 137) (pc' := 165) rfl (hb hby at_137) rfl (tlt (by decide : (1 : Int32) < (3 : Int32))).1 (by decide) (by decide) kt_) ?_
      show Go _ _ _ _ _ _ _ _ T24 (mkF m 165 #[.val (.int x0), .val (.int x1), .val (.int x2), .val (.long x3), .second, .val (.long x4), .second, .val (.int x5), .val (.int (1 : Int32)), .val (.ref m0), .val (.ref m1), .val (.ref m2), .val (.ref b2), .unset, .unset] [])
      obtain ⟨T25, h25, X25, e25, E25, A25, D25, U25, st25⟩ := newO X24 hx hZ9 hown9 (hw _ (List.mem_of_getElem? (i := 31) rfl)) (hw _ (List.mem_of_getElem? (i := 32) rfl)) (hw _ (List.mem_of_getElem? (i := 33) rfl)) rfl (g := (mkF m 165 #[.val (.int x0), .val (.int x1), .val (.int x2), .val (.long x3), .second, .val (.long x4), .second, .val (.int x5), .val (.int (1 : Int32)), .val (.ref m0), .val (.ref m1), .val (.ref m2), .val (.ref b2), .unset, .unset] [])) rfl (hb hby at_165) (by decide) (by decide)
      obtain ⟨b25, hb25⟩ : ∃ z, z = T24.heap.size := ⟨_, rfl⟩
      rw [← hb25] at A25 D25 U25 st25
      refine Go.step st25 ?_
      have g_b25 : Z.heap.size ≤ b25 := Nat.le_trans O24_.1 (Nat.le_of_eq hb25.symm)
      have O25_ : Ext Z.heap h25 := extTr O24_ E25
      have F25_holders : Fld Z h25 b25 "com/example/wary_lock/warylock/LockState" "holders" "Ljava/util/List;" .null := D25 (Or.inr (hw _ (List.mem_of_getElem? (i := 73) rfl))) (ty := (.object "java/util/List")) pf_Ljava_util_List_
      have F25_waiting : Fld Z h25 b25 "com/example/wary_lock/warylock/LockState" "waiting" "I" (.int (0 : Int32)) := D25 (Or.inr (hw _ (List.mem_of_getElem? (i := 75) rfl))) (ty := .int) pf_I
      show Go _ _ _ _ _ _ _ _ T25 (mkF m 168 #[.val (.int x0), .val (.int x1), .val (.int x2), .val (.long x3), .second, .val (.long x4), .second, .val (.int x5), .val (.int (1 : Int32)), .val (.ref m0), .val (.ref m1), .val (.ref m2), .val (.ref b2), .unset, .unset] [(.ref b25)])
      refine Go.step (fun _ kt_ => XS.dup X25.here hx rfl (hb hby at_168) rfl rfl kt_) ?_
      show Go _ _ _ _ _ _ _ _ T25 (mkF m 169 #[.val (.int x0), .val (.int x1), .val (.int x2), .val (.long x3), .second, .val (.long x4), .second, .val (.int x5), .val (.int (1 : Int32)), .val (.ref m0), .val (.ref m1), .val (.ref m2), .val (.ref b2), .unset, .unset] [(.ref b25), (.ref b25)])
      refine Go.step (fun _ kt_ => XS.aload X25.here hx rfl (hb hby at_169) rfl rfl kt_) ?_
      show Go _ _ _ _ _ _ _ _ T25 (mkF m 171 #[.val (.int x0), .val (.int x1), .val (.int x2), .val (.long x3), .second, .val (.long x4), .second, .val (.int x5), .val (.int (1 : Int32)), .val (.ref m0), .val (.ref m1), .val (.ref m2), .val (.ref b2), .unset, .unset] [(.ref b2), (.ref b25), (.ref b25)])
      refine Go.step (fun _ kt_ => XS.iloadN X25.here hx rfl (hb hby at_171) rfl kt_) ?_
      show Go _ _ _ _ _ _ _ _ T25 (mkF m 172 #[.val (.int x0), .val (.int x1), .val (.int x2), .val (.long x3), .second, .val (.long x4), .second, .val (.int x5), .val (.int (1 : Int32)), .val (.ref m0), .val (.ref m1), .val (.ref m2), .val (.ref b2), .unset, .unset] [(.int x2), (.ref b2), (.ref b25), (.ref b25)])
      have f26 := (Exa.ext E25 (((Exa.ext E9 (Exa.ext E8 A7)).keep Kq10).keep Kq24))
      have f27 := (Exa.ext E25 (((Exa.ext E9 (Exa.ext E8 A7)).keep Kq10).keep Kq24))
      have f28 := (Exa.ext E25 (((Exa.ext E9 (Exa.ext E8 A7)).keep Kq10).keep Kq24))
      obtain ⟨_, _, ⟨T29, L29, k29, n29⟩, -, X29, ⟨Lc29, hQ29, l29, y29, z29⟩, st29⟩ := X25.specialBack hx (y := (⟨"com/example/wary_lock/warylock/LockState", "<init>", "(Ljava/util/List;I)V"⟩ : MethodName)) rfl hown9 (mvT hZ9 (hw _ (List.mem_of_getElem? (i := 34) rfl))) (mvT hZ9 (hw _ (List.mem_of_getElem? (i := 35) rfl))) (mvT hZ9 (hw _ (List.mem_of_getElem? (i := 36) rfl))) (by decide) (backOf (W := 1) (rm_a5_1 l Z a0 hw [] dc kdc el ee kee ca cc eo mo G_dc G_dce G_dcv G_el G_ele G_elf G_eev G_hi G_ca G_bx G_eo G_eoe G_mo b25 b2 x2 b6q2q2q5q24 k6q2q2q5q24 b7 h25 O25_ (Exa.ext E25 (f11.keep Kq24)) (Fld.ext E25 p24_1) (Fld.ext E25 p24_0) (Exa.ext E25 p24_4) (p24_5.ext E25) f28 A25 F25_holders g_b25 F25_waiting) hZ9 (hw _ (List.mem_of_getElem? (i := 36) rfl)) (hw _ (List.mem_of_getElem? (i := 33) rfl)) (by decide) (by decide)) (g := (mkF m 172 #[.val (.int x0), .val (.int x1), .val (.int x2), .val (.long x3), .second, .val (.long x4), .second, .val (.int x5), .val (.int (1 : Int32)), .val (.ref m0), .val (.ref m1), .val (.ref m2), .val (.ref b2), .unset, .unset] [(.int x2), (.ref b2), (.ref b25), (.ref b25)])) rfl (by rw [hml]; rfl) (Steps.refl _) (a := b25) (argsL := [(.ref b2), (.int x2)]) (rest := [(.ref b25)]) (lenOf pd_LLjava_util_List_IRV rfl) rfl (by show 2 * 0 + _ ≤ _; exact Nat.le_of_eq rfl) (hb hby at_172) (fun _ _ => ⟨rfl, e25, (by decide : 8 + 2 ≤ _), (by decide : 39 + 3 ≤ _)⟩)
      dsimp only [Pt.U, Pt.locs, Pt.cells, Pt.slots] at X29 l29 y29 z29 st29 hQ29
      subst l29 y29 z29
      obtain ⟨b2q5q1q2q29, rfl, Nq29, Kq29, p29_0, p29_1, p29_2, p29_3, p29_4, p29_5⟩ := hQ29
      have O29_ : Ext Z.heap T29.heap := extKeep O25_ Kq29 (allS g_b25 all0)
      have N29_ := Fr.app N24_ Nq29
      have g_b2q5q1q2q29 : Z.heap.size ≤ b2q5q1q2q29 := Nat.le_trans O25_.1 p29_2
      refine Go.trans st29 ?_
      show Go _ _ _ _ _ _ _ _ T29 (mkF m 175 #[.val (.int x0), .val (.int x1), .val (.int x2), .val (.long x3), .second, .val (.long x4), .second, .val (.int x5), .val (.int (1 : Int32)), .val (.ref m0), .val (.ref m1), .val (.ref m2), .val (.ref b2), .unset, .unset] [(.ref b25)])
      refine Go.step (fun _ kt_ => XS.astore X29.here hx rfl (hb hby at_175) rfl rfl (l' := #[.val (.int x0), .val (.int x1), .val (.int x2), .val (.long x3), .second, .val (.long x4), .second, .val (.int x5), .val (.int (1 : Int32)), .val (.ref m0), .val (.ref m1), .val (.ref m2), .val (.ref b2), .val (.ref b25), .unset]) rfl kt_) ?_
      show Go _ _ _ _ _ _ _ _ T29 (mkF m 177 #[.val (.int x0), .val (.int x1), .val (.int x2), .val (.long x3), .second, .val (.long x4), .second, .val (.int x5), .val (.int (1 : Int32)), .val (.ref m0), .val (.ref m1), .val (.ref m2), .val (.ref b2), .val (.ref b25), .unset] [])
      refine Go.step (fun _ kt_ => XS.aload X29.here hx rfl (hb hby at_177) rfl rfl kt_) ?_
      show Go _ _ _ _ _ _ _ _ T29 (mkF m 179 #[.val (.int x0), .val (.int x1), .val (.int x2), .val (.long x3), .second, .val (.long x4), .second, .val (.int x5), .val (.int (1 : Int32)), .val (.ref m0), .val (.ref m1), .val (.ref m2), .val (.ref b2), .val (.ref b25), .unset] [(.ref b25)])
      have f30 := ((Fld.ext E25 (p10_6.keep Kq24 (ninS (Ne.symm (Nat.ne_of_lt (Nat.lt_of_lt_of_le (A2.keep Kq3).lt (Nat.le_of_eq hb7.symm)))) nin0))).keep Kq29 (ninS (Nat.ne_of_lt (Nat.lt_of_lt_of_le (((Exa.ext E9 (Exa.ext E8 A7)).keep Kq10).keep Kq24).lt (Nat.le_of_eq hb25.symm))) nin0))
      have f31 := ((Fld.ext E25 (p10_6.keep Kq24 (ninS (Ne.symm (Nat.ne_of_lt (Nat.lt_of_lt_of_le (A2.keep Kq3).lt (Nat.le_of_eq hb7.symm)))) nin0))).keep Kq29 (ninS (Nat.ne_of_lt (Nat.lt_of_lt_of_le (((Exa.ext E9 (Exa.ext E8 A7)).keep Kq10).keep Kq24).lt (Nat.le_of_eq hb25.symm))) nin0))
      have f32 := ((Fld.ext E25 (p10_6.keep Kq24 (ninS (Ne.symm (Nat.ne_of_lt (Nat.lt_of_lt_of_le (A2.keep Kq3).lt (Nat.le_of_eq hb7.symm)))) nin0))).keep Kq29 (ninS (Nat.ne_of_lt (Nat.lt_of_lt_of_le (((Exa.ext E9 (Exa.ext E8 A7)).keep Kq10).keep Kq24).lt (Nat.le_of_eq hb25.symm))) nin0))
      obtain ⟨cq33, kq33, q33a, q33b, q33c⟩ := isOf hZ9 rfl (A25.keep Kq29)
      obtain ⟨_, _, ⟨T33, L33, k33, n33⟩, -, X33, ⟨Lc33, hQ33, l33, y33, z33⟩, st33⟩ := X29.virtualBack hx (y := (⟨"com/example/wary_lock/warylock/LockState", "limit", "()Ljava/lang/Integer;"⟩ : MethodName)) (z := (⟨"com/example/wary_lock/warylock/LockState", "limit", "()Ljava/lang/Integer;"⟩ : MethodName)) hown9 (mvT hZ9 (hw _ (List.mem_of_getElem? (i := 76) rfl))) (mvT hZ9 (hw _ (List.mem_of_getElem? (i := 77) rfl))) (notFace_of_selects (args := #[]) (mvT hZ9 (hw _ (List.mem_of_getElem? (i := 79) rfl)))) (mvT hZ9 (hw _ (List.mem_of_getElem? (i := 79) rfl))) (mvT hZ9 (hw _ (List.mem_of_getElem? (i := 78) rfl))) (by decide) (backOf (W := 0) (rm_a11_1 l Z a0 hw [] dc kdc el ee kee ca cc eo mo G_dc G_dce G_dcv G_el G_ele G_elf G_eev G_hi G_ca G_bx G_eo G_eoe G_mo b25 b2q5q1q2q29 b7 x1 T29.heap O29_ p29_0 p29_3 p29_4 (f28.keep Kq29) f32) hZ9 (hw _ (List.mem_of_getElem? (i := 80) rfl)) (hw _ (List.mem_of_getElem? (i := 33) rfl)) (by decide) (by decide)) q33a q33c (g := (mkF m 179 #[.val (.int x0), .val (.int x1), .val (.int x2), .val (.long x3), .second, .val (.long x4), .second, .val (.int x5), .val (.int (1 : Int32)), .val (.ref m0), .val (.ref m1), .val (.ref m2), .val (.ref b2), .val (.ref b25), .unset] [(.ref b25)])) rfl (by rw [hml]; rfl) (Steps.refl _) (argsL := []) (rest := []) (lenOf pd_LRLjava_lang_Integer_ rfl) rfl (by show 2 * 0 + _ ≤ _; exact Nat.le_of_eq rfl) (hb hby at_179) (fun _ _ => ⟨rfl, rfl, (by decide : 10 + 1 ≤ _), (by decide : 42 + 1 ≤ _)⟩)
      dsimp only [Pt.U, Pt.locs, Pt.cells, Pt.slots] at X33 l33 y33 z33 st33 hQ33
      subst l33 y33 z33
      obtain ⟨r7q33, rfl, Nq33, Kq33, p33_0, p33_1⟩ := hQ33
      have O33_ : Ext Z.heap T33.heap := extKeep O29_ Kq33 all0
      have N33_ := Fr.app N29_ Nq33
      refine Go.trans st33 ?_
      show Go _ _ _ _ _ _ _ _ T33 (mkF m 182 #[.val (.int x0), .val (.int x1), .val (.int x2), .val (.long x3), .second, .val (.long x4), .second, .val (.int x5), .val (.int (1 : Int32)), .val (.ref m0), .val (.ref m1), .val (.ref m2), .val (.ref b2), .val (.ref b25), .unset] [(.ref r7q33)])
      refine Go.step (fun _ kt_ => XS.astore X33.here hx rfl (hb hby at_182) rfl rfl (l' := #[.val (.int x0), .val (.int x1), .val (.int x2), .val (.long x3), .second, .val (.long x4), .second, .val (.int x5), .val (.int (1 : Int32)), .val (.ref m0), .val (.ref m1), .val (.ref m2), .val (.ref b2), .val (.ref b25), .val (.ref r7q33)]) rfl kt_) ?_
      show Go _ _ _ _ _ _ _ _ T33 (mkF m 184 #[.val (.int x0), .val (.int x1), .val (.int x2), .val (.long x3), .second, .val (.long x4), .second, .val (.int x5), .val (.int (1 : Int32)), .val (.ref m0), .val (.ref m1), .val (.ref m2), .val (.ref b2), .val (.ref b25), .val (.ref r7q33)] [])
      refine Go.step (fun _ kt_ => XS.iload X33.here hx rfl (hb hby at_184) rfl kt_) ?_
      show Go _ _ _ _ _ _ _ _ T33 (mkF m 186 #[.val (.int x0), .val (.int x1), .val (.int x2), .val (.long x3), .second, .val (.long x4), .second, .val (.int x5), .val (.int (1 : Int32)), .val (.ref m0), .val (.ref m1), .val (.ref m2), .val (.ref b2), .val (.ref b25), .val (.ref r7q33)] [(.int (1 : Int32))])
      refine Go.step (fun _ kt_ => XS.ifYes X33.here hx rfl (pc0 := 186) (pc' := 200) rfl (hb hby at_186) rfl ((if0 _ _).trans (feq (by decide : ¬ ((1 : Int32) = (0 : Int32)))).2) (by decide) (by decide) kt_) ?_
      show Go _ _ _ _ _ _ _ _ T33 (mkF m 200 #[.val (.int x0), .val (.int x1), .val (.int x2), .val (.long x3), .second, .val (.long x4), .second, .val (.int x5), .val (.int (1 : Int32)), .val (.ref m0), .val (.ref m1), .val (.ref m2), .val (.ref b2), .val (.ref b25), .val (.ref r7q33)] [])
      refine Go.step (fun _ kt_ => XS.aload X33.here hx rfl (hb hby at_200) rfl rfl kt_) ?_
      show Go _ _ _ _ _ _ _ _ T33 (mkF m 202 #[.val (.int x0), .val (.int x1), .val (.int x2), .val (.long x3), .second, .val (.long x4), .second, .val (.int x5), .val (.int (1 : Int32)), .val (.ref m0), .val (.ref m1), .val (.ref m2), .val (.ref b2), .val (.ref b25), .val (.ref r7q33)] [(.ref r7q33)])
      refine Go.step (fun _ kt_ => XS.ifnullNo X33.here hx rfl (hb hby at_202) rfl kt_) ?_
      show Go _ _ _ _ _ _ _ _ T33 (mkF m 205 #[.val (.int x0), .val (.int x1), .val (.int x2), .val (.long x3), .second, .val (.long x4), .second, .val (.int x5), .val (.int (1 : Int32)), .val (.ref m0), .val (.ref m1), .val (.ref m2), .val (.ref b2), .val (.ref b25), .val (.ref r7q33)] [])
      refine Go.step (fun _ kt_ => XS.aload X33.here hx rfl (hb hby at_205) rfl rfl kt_) ?_
      show Go _ _ _ _ _ _ _ _ T33 (mkF m 207 #[.val (.int x0), .val (.int x1), .val (.int x2), .val (.long x3), .second, .val (.long x4), .second, .val (.int x5), .val (.int (1 : Int32)), .val (.ref m0), .val (.ref m1), .val (.ref m2), .val (.ref b2), .val (.ref b25), .val (.ref r7q33)] [(.ref r7q33)])
      obtain ⟨cq34, kq34, q34a, q34b, q34c⟩ := isOf hZ9 rfl p33_0
      obtain ⟨_, _, ⟨T34, L34, k34, n34⟩, -, X34, ⟨Lc34, hQ34, l34, y34, z34⟩, st34⟩ := X33.virtualBack hx (y := (⟨"java/lang/Integer", "intValue", "()I"⟩ : MethodName)) (z := (⟨"java/lang/Integer", "intValue", "()I"⟩ : MethodName)) hown9 (mvT hZ9 (hw _ (List.mem_of_getElem? (i := 240) rfl))) (mvT hZ9 (hw _ (List.mem_of_getElem? (i := 241) rfl))) (notFace_of_selects (args := #[]) (mvT hZ9 (hw _ (List.mem_of_getElem? (i := 243) rfl)))) (mvT hZ9 (hw _ (List.mem_of_getElem? (i := 243) rfl))) (mvT hZ9 (hw _ (List.mem_of_getElem? (i := 242) rfl))) (by decide) (backOf (W := 0) (rm_a32_0 l Z a0 hw [] dc kdc el ee kee ca cc eo mo G_dc G_dce G_dcv G_el G_ele G_elf G_eev G_hi G_ca G_bx G_eo G_eoe G_mo r7q33 x1 T33.heap O33_ p33_1) hZ9 (hw _ (List.mem_of_getElem? (i := 244) rfl)) (hw _ (List.mem_of_getElem? (i := 235) rfl)) (by decide) (by decide)) q34a q34c (g := (mkF m 207 #[.val (.int x0), .val (.int x1), .val (.int x2), .val (.long x3), .second, .val (.long x4), .second, .val (.int x5), .val (.int (1 : Int32)), .val (.ref m0), .val (.ref m1), .val (.ref m2), .val (.ref b2), .val (.ref b25), .val (.ref r7q33)] [(.ref r7q33)])) rfl (by rw [hml]; rfl) (Steps.refl _) (argsL := []) (rest := []) (lenOf pd_LRI rfl) rfl (by show 2 * 0 + _ ≤ _; exact Nat.le_of_eq rfl) (hb hby at_207) (fun _ _ => ⟨rfl, rfl, (by decide : 11 + 0 ≤ _), (by decide : 43 + 0 ≤ _)⟩)
      dsimp only [Pt.U, Pt.locs, Pt.cells, Pt.slots] at X34 l34 y34 z34 st34 hQ34
      subst l34 y34 z34
      obtain ⟨rfl, Nq34, e34⟩ := hQ34
      have N34_ := Fr.app N33_ Nq34
      refine Go.trans st34 ?_
      show Go _ _ _ _ _ _ _ _ T34 (mkF m 210 #[.val (.int x0), .val (.int x1), .val (.int x2), .val (.long x3), .second, .val (.long x4), .second, .val (.int x5), .val (.int (1 : Int32)), .val (.ref m0), .val (.ref m1), .val (.ref m2), .val (.ref b2), .val (.ref b25), .val (.ref r7q33)] [(.int x1)])
      refine Go.step (fun _ kt_ => XS.iloadN X34.here hx rfl (hb hby at_210) rfl kt_) ?_
      show Go _ _ _ _ _ _ _ _ T34 (mkF m 211 #[.val (.int x0), .val (.int x1), .val (.int x2), .val (.long x3), .second, .val (.long x4), .second, .val (.int x5), .val (.int (1 : Int32)), .val (.ref m0), .val (.ref m1), .val (.ref m2), .val (.ref b2), .val (.ref b25), .val (.ref r7q33)] [(.int x1), (.int x1)])
      refine Go.step (fun _ kt_ => XS.icmpNo X34.here hx rfl (hb hby at_211) rfl (teq (rfl : x1 = x1)).2 kt_) ?_
      show Go _ _ _ _ _ _ _ _ T34 (mkF m 214 #[.val (.int x0), .val (.int x1), .val (.int x2), .val (.long x3), .second, .val (.long x4), .second, .val (.int x5), .val (.int (1 : Int32)), .val (.ref m0), .val (.ref m1), .val (.ref m2), .val (.ref b2), .val (.ref b25), .val (.ref r7q33)] [])
      refine Go.step (fun _ kt_ => XS.iconst X34.here hx rfl (hb hby at_214)  kt_) ?_
      show Go _ _ _ _ _ _ _ _ T34 (mkF m 215 #[.val (.int x0), .val (.int x1), .val (.int x2), .val (.long x3), .second, .val (.long x4), .second, .val (.int x5), .val (.int (1 : Int32)), .val (.ref m0), .val (.ref m1), .val (.ref m2), .val (.ref b2), .val (.ref b25), .val (.ref r7q33)] [(.int (1 : Int32))])
      refine Go.step (fun _ kt_ => XS.goto X34.here hx rfl (pc0 := 215) (pc' := 219) rfl (hb hby at_215) (by decide) (by decide) kt_) ?_
      show Go _ _ _ _ _ _ _ _ T34 (mkF m 219 #[.val (.int x0), .val (.int x1), .val (.int x2), .val (.long x3), .second, .val (.long x4), .second, .val (.int x5), .val (.int (1 : Int32)), .val (.ref m0), .val (.ref m1), .val (.ref m2), .val (.ref b2), .val (.ref b25), .val (.ref r7q33)] [(.int (1 : Int32))])
      exact Go.retNW X34 S9 (by rw [e34]; exact (Nat.le_trans (Nat.le_trans (Nat.le_trans (Nat.le_trans (Nat.le_trans kq9 Kq10.1) Kq24.1) E25.1) Kq29.1) Kq33.1)) hx (t := .boolean) Bd.returns (by simp) hlk (hb hby at_219) (by decide) (by decide) ⟨rfl, N34_, trivial⟩
    · subst hk
      show Go _ _ _ _ _ _ _ _ T3 (mkF m 68 #[.val (.int x0), .val (.int x1), .val (.int x2), .val (.long x3), .second, .val (.long x4), .second, .val (.int x5), .val (.int (2 : Int32)), .val (.ref m0), .val (.ref m1), .val (.ref m2), .val (.ref b2), .unset, .unset] [])
      refine Go.step (fun _ kt_ => XS.iload X3.here hx rfl (hb hby at_68) rfl kt_) ?_
      show Go _ _ _ _ _ _ _ _ T3 (mkF m 70 #[.val (.int x0), .val (.int x1), .val (.int x2), .val (.long x3), .second, .val (.long x4), .second, .val (.int x5), .val (.int (2 : Int32)), .val (.ref m0), .val (.ref m1), .val (.ref m2), .val (.ref b2), .unset, .unset] [(.int (2 : Int32))])
      refine Go.step (fun _ kt_ => XS.iconst X3.here hx rfl (hb hby at_70)  kt_) ?_
      show Go _ _ _ _ _ _ _ _ T3 (mkF m 71 #[.val (.int x0), .val (.int x1), .val (.int x2), .val (.long x3), .second, .val (.long x4), .second, .val (.int x5), .val (.int (2 : Int32)), .val (.ref m0), .val (.ref m1), .val (.ref m2), .val (.ref b2), .unset, .unset] [(.int (1 : Int32)), (.int (2 : Int32))])
      refine Go.step (fun _ kt_ => XS.icmpNo X3.here hx rfl (hb hby at_71) rfl (flt (by decide : ¬ ((2 : Int32) < (1 : Int32)))).1 kt_) ?_
      show Go _ _ _ _ _ _ _ _ T3 (mkF m 74 #[.val (.int x0), .val (.int x1), .val (.int x2), .val (.long x3), .second, .val (.long x4), .second, .val (.int x5), .val (.int (2 : Int32)), .val (.ref m0), .val (.ref m1), .val (.ref m2), .val (.ref b2), .unset, .unset] [])
      refine Go.step (fun _ kt_ => XS.aload X3.here hx rfl (hb hby at_74) rfl rfl kt_) ?_
      show Go _ _ _ _ _ _ _ _ T3 (mkF m 76 #[.val (.int x0), .val (.int x1), .val (.int x2), .val (.long x3), .second, .val (.long x4), .second, .val (.int x5), .val (.int (2 : Int32)), .val (.ref m0), .val (.ref m1), .val (.ref m2), .val (.ref b2), .unset, .unset] [(.ref b2)])
      obtain ⟨T35, h35, X35, e35, E35, A35, D35, U35, st35⟩ := newO X3 hx hZc1 hownc1 (hw _ (List.mem_of_getElem? (i := 93) rfl)) (hw _ (List.mem_of_getElem? (i := 94) rfl)) (hw _ (List.mem_of_getElem? (i := 95) rfl)) rfl (g := (mkF m 76 #[.val (.int x0), .val (.int x1), .val (.int x2), .val (.long x3), .second, .val (.long x4), .second, .val (.int x5), .val (.int (2 : Int32)), .val (.ref m0), .val (.ref m1), .val (.ref m2), .val (.ref b2), .unset, .unset] [(.ref b2)])) rfl (hb hby at_76) (by decide) (by decide)
      obtain ⟨b35, hb35⟩ : ∃ z, z = T3.heap.size := ⟨_, rfl⟩
      rw [← hb35] at A35 D35 U35 st35
      refine Go.step st35 ?_
      have g_b35 : Z.heap.size ≤ b35 := Nat.le_trans O3_.1 (Nat.le_of_eq hb35.symm)
      have O35_ : Ext Z.heap h35 := extTr O3_ E35
      have F35_name : Fld Z h35 b35 "com/example/wary_lock/warylock/Lease" "name" "Ljava/lang/String;" .null := D35 (Or.inr (hw _ (List.mem_of_getElem? (i := 110) rfl))) (ty := (.object "java/lang/String")) pf_Ljava_lang_String_
      have F35_owner : Fld Z h35 b35 "com/example/wary_lock/warylock/Lease" "owner" "Ljava/lang/String;" .null := D35 (Or.inr (hw _ (List.mem_of_getElem? (i := 112) rfl))) (ty := (.object "java/lang/String")) pf_Ljava_lang_String_
      have F35_token : Fld Z h35 b35 "com/example/wary_lock/warylock/Lease" "token" "J" (.long (0 : Int64)) := D35 (Or.inr (hw _ (List.mem_of_getElem? (i := 114) rfl))) (ty := .long) pf_J
      have F35_ttlMs : Fld Z h35 b35 "com/example/wary_lock/warylock/Lease" "ttlMs" "J" (.long (0 : Int64)) := D35 (Or.inr (hw _ (List.mem_of_getElem? (i := 116) rfl))) (ty := .long) pf_J
      have F35_expiresAt : Fld Z h35 b35 "com/example/wary_lock/warylock/Lease" "expiresAt" "Ljava/time/Instant;" .null := D35 (Or.inr (hw _ (List.mem_of_getElem? (i := 118) rfl))) (ty := (.object "java/time/Instant")) pf_Ljava_time_Instant_
      have F35_expiresInMs : Fld Z h35 b35 "com/example/wary_lock/warylock/Lease" "expiresInMs" "J" (.long (0 : Int64)) := D35 (Or.inr (hw _ (List.mem_of_getElem? (i := 120) rfl))) (ty := .long) pf_J
      have F35_limit : Fld Z h35 b35 "com/example/wary_lock/warylock/Lease" "limit" "I" (.int (0 : Int32)) := D35 (Or.inr (hw _ (List.mem_of_getElem? (i := 122) rfl))) (ty := .int) pf_I
      have F35_mode : Fld Z h35 b35 "com/example/wary_lock/warylock/Lease" "mode" "Lcom/example/wary_lock/warylock/LockMode;" .null := D35 (Or.inr (hw _ (List.mem_of_getElem? (i := 124) rfl))) (ty := (.object "com/example/wary_lock/warylock/LockMode")) pf_Lcom_example_wary_lock_warylock_LockMode_
      show Go _ _ _ _ _ _ _ _ T35 (mkF m 79 #[.val (.int x0), .val (.int x1), .val (.int x2), .val (.long x3), .second, .val (.long x4), .second, .val (.int x5), .val (.int (2 : Int32)), .val (.ref m0), .val (.ref m1), .val (.ref m2), .val (.ref b2), .unset, .unset] [(.ref b35), (.ref b2)])
      refine Go.step (fun _ kt_ => XS.dup X35.here hx rfl (hb hby at_79) rfl rfl kt_) ?_
      show Go _ _ _ _ _ _ _ _ T35 (mkF m 80 #[.val (.int x0), .val (.int x1), .val (.int x2), .val (.long x3), .second, .val (.long x4), .second, .val (.int x5), .val (.int (2 : Int32)), .val (.ref m0), .val (.ref m1), .val (.ref m2), .val (.ref b2), .unset, .unset] [(.ref b35), (.ref b35), (.ref b2)])
      obtain ⟨a36, T36, h36, k36, X36, e36, E36, S36, kq36, hZ36, hown36, st36⟩ := ldcS X35 hx hZc1 hownc1 (hw _ (List.mem_of_getElem? (i := 96) rfl)) wS e35 Sc1 (Nat.le_trans (Nat.le_trans (Nat.le_trans kkc1 E2.1) Kq3.1) E35.1) (g := (mkF m 80 #[.val (.int x0), .val (.int x1), .val (.int x2), .val (.long x3), .second, .val (.long x4), .second, .val (.int x5), .val (.int (2 : Int32)), .val (.ref m0), .val (.ref m1), .val (.ref m2), .val (.ref b2), .unset, .unset] [(.ref b35), (.ref b35), (.ref b2)])) rfl (hb hby at_80) (n := 4) (by decide) (by decide) (by decide) (by decide)
      have O36_ : Ext Z.heap h36 := extTr O35_ E36
      refine Go.step st36 ?_
      show Go _ _ _ _ _ _ _ _ T36 (mkF m 82 #[.val (.int x0), .val (.int x1), .val (.int x2), .val (.long x3), .second, .val (.long x4), .second, .val (.int x5), .val (.int (2 : Int32)), .val (.ref m0), .val (.ref m1), .val (.ref m2), .val (.ref b2), .unset, .unset] [(.ref a36), (.ref b35), (.ref b35), (.ref b2)])
      obtain ⟨a37, T37, h37, k37, X37, e37, E37, S37, kq37, hZ37, hown37, st37⟩ := ldcS X36 hx hZ36 hown36 (hw _ (List.mem_of_getElem? (i := 104) rfl)) wS e36 S36 kq36 (g := (mkF m 82 #[.val (.int x0), .val (.int x1), .val (.int x2), .val (.long x3), .second, .val (.long x4), .second, .val (.int x5), .val (.int (2 : Int32)), .val (.ref m0), .val (.ref m1), .val (.ref m2), .val (.ref b2), .unset, .unset] [(.ref a36), (.ref b35), (.ref b35), (.ref b2)])) rfl (hb hby at_82) (n := 4) (by decide) (by decide) (by decide) (by decide)
      have O37_ : Ext Z.heap h37 := extTr O36_ E37
      refine Go.step st37 ?_
      show Go _ _ _ _ _ _ _ _ T37 (mkF m 84 #[.val (.int x0), .val (.int x1), .val (.int x2), .val (.long x3), .second, .val (.long x4), .second, .val (.int x5), .val (.int (2 : Int32)), .val (.ref m0), .val (.ref m1), .val (.ref m2), .val (.ref b2), .unset, .unset] [(.ref a37), (.ref a36), (.ref b35), (.ref b35), (.ref b2)])
      refine Go.step (fun _ kt_ => XS.lloadN X37.here hx rfl (hb hby at_84) rfl kt_) ?_
      show Go _ _ _ _ _ _ _ _ T37 (mkF m 85 #[.val (.int x0), .val (.int x1), .val (.int x2), .val (.long x3), .second, .val (.long x4), .second, .val (.int x5), .val (.int (2 : Int32)), .val (.ref m0), .val (.ref m1), .val (.ref m2), .val (.ref b2), .unset, .unset] [(.long x3), (.ref a37), (.ref a36), (.ref b35), (.ref b35), (.ref b2)])
      refine Go.step (fun _ kt_ => XS.lload X37.here hx rfl (hb hby at_85) rfl kt_) ?_
      show Go _ _ _ _ _ _ _ _ T37 (mkF m 87 #[.val (.int x0), .val (.int x1), .val (.int x2), .val (.long x3), .second, .val (.long x4), .second, .val (.int x5), .val (.int (2 : Int32)), .val (.ref m0), .val (.ref m1), .val (.ref m2), .val (.ref b2), .unset, .unset] [(.long x4), (.long x3), (.ref a37), (.ref a36), (.ref b35), (.ref b35), (.ref b2)])
      refine Go.step (fun _ kt_ => XS.aconstNull X37.here hx rfl (hb hby at_87)  kt_) ?_
      show Go _ _ _ _ _ _ _ _ T37 (mkF m 88 #[.val (.int x0), .val (.int x1), .val (.int x2), .val (.long x3), .second, .val (.long x4), .second, .val (.int x5), .val (.int (2 : Int32)), .val (.ref m0), .val (.ref m1), .val (.ref m2), .val (.ref b2), .unset, .unset] [.null, (.long x4), (.long x3), (.ref a37), (.ref a36), (.ref b35), (.ref b35), (.ref b2)])
      refine Go.step (fun _ kt_ => XS.lload X37.here hx rfl (hb hby at_88) rfl kt_) ?_
      show Go _ _ _ _ _ _ _ _ T37 (mkF m 90 #[.val (.int x0), .val (.int x1), .val (.int x2), .val (.long x3), .second, .val (.long x4), .second, .val (.int x5), .val (.int (2 : Int32)), .val (.ref m0), .val (.ref m1), .val (.ref m2), .val (.ref b2), .unset, .unset] [(.long x4), .null, (.long x4), (.long x3), (.ref a37), (.ref a36), (.ref b35), (.ref b35), (.ref b2)])
      refine Go.step (fun _ kt_ => XS.iloadN X37.here hx rfl (hb hby at_90) rfl kt_) ?_
      show Go _ _ _ _ _ _ _ _ T37 (mkF m 91 #[.val (.int x0), .val (.int x1), .val (.int x2), .val (.long x3), .second, .val (.long x4), .second, .val (.int x5), .val (.int (2 : Int32)), .val (.ref m0), .val (.ref m1), .val (.ref m2), .val (.ref b2), .unset, .unset] [(.int x1), (.long x4), .null, (.long x4), (.long x3), (.ref a37), (.ref a36), (.ref b35), (.ref b35), (.ref b2)])
      refine Go.step (fun _ kt_ => XS.aload X37.here hx rfl (hb hby at_91) rfl rfl kt_) ?_
      show Go _ _ _ _ _ _ _ _ T37 (mkF m 93 #[.val (.int x0), .val (.int x1), .val (.int x2), .val (.long x3), .second, .val (.long x4), .second, .val (.int x5), .val (.int (2 : Int32)), .val (.ref m0), .val (.ref m1), .val (.ref m2), .val (.ref b2), .unset, .unset] [(.ref m0), (.int x1), (.long x4), .null, (.long x4), (.long x3), (.ref a37), (.ref a36), (.ref b35), (.ref b35), (.ref b2)])
      have f38 := (Fld.ext E37 (Fld.ext E36 F35_expiresAt))
      have f39 := (Fld.ext E37 (Fld.ext E36 F35_expiresInMs))
      obtain ⟨_, _, ⟨T40, L40, k40, n40⟩, -, X40, ⟨Lc40, hQ40, l40, y40, z40⟩, st40⟩ := X37.specialBack hx (y := (⟨"com/example/wary_lock/warylock/Lease", "<init>", "(Ljava/lang/String;Ljava/lang/String;JJLjava/time/Instant;JILcom/example/wary_lock/warylock/LockMode;)V"⟩ : MethodName)) rfl hown37 (mvT hZ37 (hw _ (List.mem_of_getElem? (i := 105) rfl))) (mvT hZ37 (hw _ (List.mem_of_getElem? (i := 106) rfl))) (mvT hZ37 (hw _ (List.mem_of_getElem? (i := 107) rfl))) (by decide) (backOf (W := 2) (rm_a13_0 l Z a0 hw [] dc kdc el ee kee ca cc eo mo G_dc G_dce G_dcv G_el G_ele G_elf G_eev G_hi G_ca G_bx G_eo G_eoe G_mo b35 a36 a37 x3 x4 x4 x1 m0 (0 : Int64) (0 : Int64) (0 : Int64) (0 : Int32) h37 O37_ (Exa.ext E37 (Exa.ext E36 A35)) (Fld.ext E37 (Fld.ext E36 F35_name)) g_b35 (Fld.ext E37 (Fld.ext E36 F35_owner)) (Fld.ext E37 (Fld.ext E36 F35_token)) (Fld.ext E37 (Fld.ext E36 F35_ttlMs)) f38 f39 (Fld.ext E37 (Fld.ext E36 F35_limit)) (Fld.ext E37 (Fld.ext E36 F35_mode))) hZ37 (hw _ (List.mem_of_getElem? (i := 107) rfl)) (hw _ (List.mem_of_getElem? (i := 95) rfl)) (by decide) (by decide)) (g := (mkF m 93 #[.val (.int x0), .val (.int x1), .val (.int x2), .val (.long x3), .second, .val (.long x4), .second, .val (.int x5), .val (.int (2 : Int32)), .val (.ref m0), .val (.ref m1), .val (.ref m2), .val (.ref b2), .unset, .unset] [(.ref m0), (.int x1), (.long x4), .null, (.long x4), (.long x3), (.ref a37), (.ref a36), (.ref b35), (.ref b35), (.ref b2)])) rfl (by rw [hml]; rfl) (Steps.refl _) (a := b35) (argsL := [(.ref a36), (.ref a37), (.long x3), (.long x4), .null, (.long x4), (.int x1), (.ref m0)]) (rest := [(.ref b35), (.ref b2)]) (lenOf pd_LLjava_lang_String_Ljava_lang_String_JJLjava_time_Instant_JILcom_example_wary_lock_warylock_LockMode_RV rfl) rfl (by show 2 * 0 + _ ≤ _; exact Nat.le_of_eq rfl) (hb hby at_93) (fun _ _ => ⟨rfl, e37, (by decide : 6 + 0 ≤ _), (by decide : 27 + 0 ≤ _)⟩)
      dsimp only [Pt.U, Pt.locs, Pt.cells, Pt.slots] at X40 l40 y40 z40 st40 hQ40
      subst l40 y40 z40
      obtain ⟨rfl, Nq40, Kq40, p40_0, p40_1, p40_2, p40_3, p40_4, p40_5, p40_6, p40_7⟩ := hQ40
      have O40_ : Ext Z.heap T40.heap := extKeep O37_ Kq40 (allS g_b35 all0)
      have N40_ := Fr.app N3_ Nq40
      refine Go.trans st40 ?_
      show Go _ _ _ _ _ _ _ _ T40 (mkF m 96 #[.val (.int x0), .val (.int x1), .val (.int x2), .val (.long x3), .second, .val (.long x4), .second, .val (.int x5), .val (.int (2 : Int32)), .val (.ref m0), .val (.ref m1), .val (.ref m2), .val (.ref b2), .unset, .unset] [(.ref b35), (.ref b2)])
      have f41 := ((Exa.ext E37 (Exa.ext E36 (Exa.ext E35 (A2.keep Kq3)))).keep Kq40)
      have f42 := ((Fld.ext E37 (Fld.ext E36 (Fld.ext E35 p3_0))).keep Kq40 (ninS (Nat.ne_of_lt (Nat.lt_of_lt_of_le (A2.keep Kq3).lt (Nat.le_of_eq hb35.symm))) nin0))
      have f43 := ((Fld.ext E37 (Fld.ext E36 (Fld.ext E35 p3_1))).keep Kq40 (ninS (Nat.ne_of_lt (Nat.lt_of_lt_of_le (A2.keep Kq3).lt (Nat.le_of_eq hb35.symm))) nin0))
      have f44 := ((Fld.ext E37 (Fld.ext E36 (Fld.ext E35 p3_2))).keep Kq40 (ninS (Nat.ne_of_lt (Nat.lt_of_lt_of_le (A2.keep Kq3).lt (Nat.le_of_eq hb35.symm))) nin0))
      have f45 := ((Exa.ext E37 (Exa.ext E36 A35)).keep Kq40)
      obtain ⟨cq46, kq46, q46a, q46b, q46c⟩ := isOf hZ37 rfl f41
      obtain ⟨_, _, ⟨T46, L46, k46, n46⟩, -, X46, ⟨Lc46, hQ46, l46, y46, z46⟩, st46⟩ := X40.virtualBack hx (y := (⟨"java/util/ArrayList", "add", "(Ljava/lang/Object;)Z"⟩ : MethodName)) (z := (⟨"java/util/ArrayList", "add", "(Ljava/lang/Object;)Z"⟩ : MethodName)) hown37 (mvT hZ37 (hw _ (List.mem_of_getElem? (i := 125) rfl))) (mvT hZ37 (hw _ (List.mem_of_getElem? (i := 126) rfl))) (notFace_of_selects (args := #[]) (mvT hZ37 (hw _ (List.mem_of_getElem? (i := 128) rfl)))) (mvT hZ37 (hw _ (List.mem_of_getElem? (i := 128) rfl))) (mvT hZ37 (hw _ (List.mem_of_getElem? (i := 127) rfl))) (by decide) (backOf (W := 0) (rm_a14_0 l Z a0 hw [] dc kdc el ee kee ca cc eo mo G_dc G_dce G_dcv G_el G_ele G_elf G_eev G_hi G_ca G_bx G_eo G_eoe G_mo b2 b35 T40.heap O40_ f42 f41 g_b2 f43 f44 f45) hZ37 (hw _ (List.mem_of_getElem? (i := 129) rfl)) (hw _ (List.mem_of_getElem? (i := 7) rfl)) (by decide) (by decide)) q46a q46c (g := (mkF m 96 #[.val (.int x0), .val (.int x1), .val (.int x2), .val (.long x3), .second, .val (.long x4), .second, .val (.int x5), .val (.int (2 : Int32)), .val (.ref m0), .val (.ref m1), .val (.ref m2), .val (.ref b2), .unset, .unset] [(.ref b35), (.ref b2)])) rfl (by rw [hml]; rfl) (Steps.refl _) (argsL := [(.ref b35)]) (rest := []) (lenOf pd_LLjava_lang_Object_RZ rfl) rfl (by show 2 * 0 + _ ≤ _; exact Nat.le_of_eq rfl) (hb hby at_96) (fun _ _ => ⟨rfl, rfl, (by decide : 6 + 1 ≤ _), (by decide : 27 + 10 ≤ _)⟩)
      dsimp only [Pt.U, Pt.locs, Pt.cells, Pt.slots] at X46 l46 y46 z46 st46 hQ46
      subst l46 y46 z46
      obtain ⟨b6q2q2q5q46, k6q2q2q5q46, rfl, Nq46, Kq46, p46_0, p46_1, p46_2, p46_3, p46_4, p46_5, p46_6⟩ := hQ46
      have O46_ : Ext Z.heap T46.heap := extKeep O40_ Kq46 (allS g_b2 all0)
      have N46_ := Fr.app N40_ Nq46
      have g_b6q2q2q5q46 : Z.heap.size ≤ b6q2q2q5q46 := Nat.le_trans O40_.1 p46_3
      refine Go.trans st46 ?_
      show Go _ _ _ _ _ _ _ _ T46 (mkF m 99 #[.val (.int x0), .val (.int x1), .val (.int x2), .val (.long x3), .second, .val (.long x4), .second, .val (.int x5), .val (.int (2 : Int32)), .val (.ref m0), .val (.ref m1), .val (.ref m2), .val (.ref b2), .unset, .unset] [(.int (1 : Int32))])
      refine Go.step (fun _ kt_ => XS.pop X46.here hx rfl (hb hby at_99) rfl rfl kt_) ?_
      show Go _ _ _ _ _ _ _ _ T46 (mkF m 100 #[.val (.int x0), .val (.int x1), .val (.int x2), .val (.long x3), .second, .val (.long x4), .second, .val (.int x5), .val (.int (2 : Int32)), .val (.ref m0), .val (.ref m1), .val (.ref m2), .val (.ref b2), .unset, .unset] [])
      refine Go.step (fun _ kt_ => XS.iload X46.here hx rfl (hb hby at_100) rfl kt_) ?_
      show Go _ _ _ _ _ _ _ _ T46 (mkF m 102 #[.val (.int x0), .val (.int x1), .val (.int x2), .val (.long x3), .second, .val (.long x4), .second, .val (.int x5), .val (.int (2 : Int32)), .val (.ref m0), .val (.ref m1), .val (.ref m2), .val (.ref b2), .unset, .unset] [(.int (2 : Int32))])
      refine Go.step (fun _ kt_ => XS.iconst X46.here hx rfl (hb hby at_102)  kt_) ?_
      show Go _ _ _ _ _ _ _ _ T46 (mkF m 103 #[.val (.int x0), .val (.int x1), .val (.int x2), .val (.long x3), .second, .val (.long x4), .second, .val (.int x5), .val (.int (2 : Int32)), .val (.ref m0), .val (.ref m1), .val (.ref m2), .val (.ref b2), .unset, .unset] [(.int (2 : Int32)), (.int (2 : Int32))])
      refine Go.step (fun _ kt_ => XS.icmpNo X46.here hx rfl (hb hby at_103) rfl (flt (by decide : ¬ ((2 : Int32) < (2 : Int32)))).1 kt_) ?_
      show Go _ _ _ _ _ _ _ _ T46 (mkF m 106 #[.val (.int x0), .val (.int x1), .val (.int x2), .val (.long x3), .second, .val (.long x4), .second, .val (.int x5), .val (.int (2 : Int32)), .val (.ref m0), .val (.ref m1), .val (.ref m2), .val (.ref b2), .unset, .unset] [])
      refine Go.step (fun _ kt_ => XS.aload X46.here hx rfl (hb hby at_106) rfl rfl kt_) ?_
      show Go _ _ _ _ _ _ _ _ T46 (mkF m 108 #[.val (.int x0), .val (.int x1), .val (.int x2), .val (.long x3), .second, .val (.long x4), .second, .val (.int x5), .val (.int (2 : Int32)), .val (.ref m0), .val (.ref m1), .val (.ref m2), .val (.ref b2), .unset, .unset] [(.ref b2)])
      obtain ⟨T47, h47, X47, e47, E47, A47, D47, U47, st47⟩ := newO X46 hx hZ37 hown37 (hw _ (List.mem_of_getElem? (i := 93) rfl)) (hw _ (List.mem_of_getElem? (i := 94) rfl)) (hw _ (List.mem_of_getElem? (i := 95) rfl)) rfl (g := (mkF m 108 #[.val (.int x0), .val (.int x1), .val (.int x2), .val (.long x3), .second, .val (.long x4), .second, .val (.int x5), .val (.int (2 : Int32)), .val (.ref m0), .val (.ref m1), .val (.ref m2), .val (.ref b2), .unset, .unset] [(.ref b2)])) rfl (hb hby at_108) (by decide) (by decide)
      obtain ⟨b47, hb47⟩ : ∃ z, z = T46.heap.size := ⟨_, rfl⟩
      rw [← hb47] at A47 D47 U47 st47
      refine Go.step st47 ?_
      have g_b47 : Z.heap.size ≤ b47 := Nat.le_trans O46_.1 (Nat.le_of_eq hb47.symm)
      have O47_ : Ext Z.heap h47 := extTr O46_ E47
      have F47_name : Fld Z h47 b47 "com/example/wary_lock/warylock/Lease" "name" "Ljava/lang/String;" .null := D47 (Or.inr (hw _ (List.mem_of_getElem? (i := 110) rfl))) (ty := (.object "java/lang/String")) pf_Ljava_lang_String_
      have F47_owner : Fld Z h47 b47 "com/example/wary_lock/warylock/Lease" "owner" "Ljava/lang/String;" .null := D47 (Or.inr (hw _ (List.mem_of_getElem? (i := 112) rfl))) (ty := (.object "java/lang/String")) pf_Ljava_lang_String_
      have F47_token : Fld Z h47 b47 "com/example/wary_lock/warylock/Lease" "token" "J" (.long (0 : Int64)) := D47 (Or.inr (hw _ (List.mem_of_getElem? (i := 114) rfl))) (ty := .long) pf_J
      have F47_ttlMs : Fld Z h47 b47 "com/example/wary_lock/warylock/Lease" "ttlMs" "J" (.long (0 : Int64)) := D47 (Or.inr (hw _ (List.mem_of_getElem? (i := 116) rfl))) (ty := .long) pf_J
      have F47_expiresAt : Fld Z h47 b47 "com/example/wary_lock/warylock/Lease" "expiresAt" "Ljava/time/Instant;" .null := D47 (Or.inr (hw _ (List.mem_of_getElem? (i := 118) rfl))) (ty := (.object "java/time/Instant")) pf_Ljava_time_Instant_
      have F47_expiresInMs : Fld Z h47 b47 "com/example/wary_lock/warylock/Lease" "expiresInMs" "J" (.long (0 : Int64)) := D47 (Or.inr (hw _ (List.mem_of_getElem? (i := 120) rfl))) (ty := .long) pf_J
      have F47_limit : Fld Z h47 b47 "com/example/wary_lock/warylock/Lease" "limit" "I" (.int (0 : Int32)) := D47 (Or.inr (hw _ (List.mem_of_getElem? (i := 122) rfl))) (ty := .int) pf_I
      have F47_mode : Fld Z h47 b47 "com/example/wary_lock/warylock/Lease" "mode" "Lcom/example/wary_lock/warylock/LockMode;" .null := D47 (Or.inr (hw _ (List.mem_of_getElem? (i := 124) rfl))) (ty := (.object "com/example/wary_lock/warylock/LockMode")) pf_Lcom_example_wary_lock_warylock_LockMode_
      show Go _ _ _ _ _ _ _ _ T47 (mkF m 111 #[.val (.int x0), .val (.int x1), .val (.int x2), .val (.long x3), .second, .val (.long x4), .second, .val (.int x5), .val (.int (2 : Int32)), .val (.ref m0), .val (.ref m1), .val (.ref m2), .val (.ref b2), .unset, .unset] [(.ref b47), (.ref b2)])
      refine Go.step (fun _ kt_ => XS.dup X47.here hx rfl (hb hby at_111) rfl rfl kt_) ?_
      show Go _ _ _ _ _ _ _ _ T47 (mkF m 112 #[.val (.int x0), .val (.int x1), .val (.int x2), .val (.long x3), .second, .val (.long x4), .second, .val (.int x5), .val (.int (2 : Int32)), .val (.ref m0), .val (.ref m1), .val (.ref m2), .val (.ref b2), .unset, .unset] [(.ref b47), (.ref b47), (.ref b2)])
      obtain ⟨a48, T48, h48, k48, X48, e48, E48, S48, kq48, hZ48, hown48, st48⟩ := ldcS X47 hx hZ37 hown37 (hw _ (List.mem_of_getElem? (i := 96) rfl)) wS e47 S37 (Nat.le_trans (Nat.le_trans (Nat.le_trans kq37 Kq40.1) Kq46.1) E47.1) (g := (mkF m 112 #[.val (.int x0), .val (.int x1), .val (.int x2), .val (.long x3), .second, .val (.long x4), .second, .val (.int x5), .val (.int (2 : Int32)), .val (.ref m0), .val (.ref m1), .val (.ref m2), .val (.ref b2), .unset, .unset] [(.ref b47), (.ref b47), (.ref b2)])) rfl (hb hby at_112) (n := 4) (by decide) (by decide) (by decide) (by decide)
      have O48_ : Ext Z.heap h48 := extTr O47_ E48
      refine Go.step st48 ?_
      show Go _ _ _ _ _ _ _ _ T48 (mkF m 114 #[.val (.int x0), .val (.int x1), .val (.int x2), .val (.long x3), .second, .val (.long x4), .second, .val (.int x5), .val (.int (2 : Int32)), .val (.ref m0), .val (.ref m1), .val (.ref m2), .val (.ref b2), .unset, .unset] [(.ref a48), (.ref b47), (.ref b47), (.ref b2)])
      obtain ⟨a49, T49, h49, k49, X49, e49, E49, S49, kq49, hZ49, hown49, st49⟩ := ldcS X48 hx hZ48 hown48 (hw _ (List.mem_of_getElem? (i := 154) rfl)) wS e48 S48 kq48 (g := (mkF m 114 #[.val (.int x0), .val (.int x1), .val (.int x2), .val (.long x3), .second, .val (.long x4), .second, .val (.int x5), .val (.int (2 : Int32)), .val (.ref m0), .val (.ref m1), .val (.ref m2), .val (.ref b2), .unset, .unset] [(.ref a48), (.ref b47), (.ref b47), (.ref b2)])) rfl (hb hby at_114) (n := 4) (by decide) (by decide) (by decide) (by decide)
      have O49_ : Ext Z.heap h49 := extTr O48_ E49
      refine Go.step st49 ?_
      show Go _ _ _ _ _ _ _ _ T49 (mkF m 116 #[.val (.int x0), .val (.int x1), .val (.int x2), .val (.long x3), .second, .val (.long x4), .second, .val (.int x5), .val (.int (2 : Int32)), .val (.ref m0), .val (.ref m1), .val (.ref m2), .val (.ref b2), .unset, .unset] [(.ref a49), (.ref a48), (.ref b47), (.ref b47), (.ref b2)])
      refine Go.step (fun _ kt_ => XS.lloadN X49.here hx rfl (hb hby at_116) rfl kt_) ?_
      show Go _ _ _ _ _ _ _ _ T49 (mkF m 117 #[.val (.int x0), .val (.int x1), .val (.int x2), .val (.long x3), .second, .val (.long x4), .second, .val (.int x5), .val (.int (2 : Int32)), .val (.ref m0), .val (.ref m1), .val (.ref m2), .val (.ref b2), .unset, .unset] [(.long x3), (.ref a49), (.ref a48), (.ref b47), (.ref b47), (.ref b2)])
      refine Go.step (fun _ kt_ => XS.lconst X49.here hx rfl (hb hby at_117)  kt_) ?_
      show Go _ _ _ _ _ _ _ _ T49 (mkF m 118 #[.val (.int x0), .val (.int x1), .val (.int x2), .val (.long x3), .second, .val (.long x4), .second, .val (.int x5), .val (.int (2 : Int32)), .val (.ref m0), .val (.ref m1), .val (.ref m2), .val (.ref b2), .unset, .unset] [(.long (1 : Int64)), (.long x3), (.ref a49), (.ref a48), (.ref b47), (.ref b47), (.ref b2)])
      refine Go.step (fun _ kt_ => XS.ladd X49.here hx rfl (hb hby at_118) rfl kt_) ?_
      show Go _ _ _ _ _ _ _ _ T49 (mkF m 119 #[.val (.int x0), .val (.int x1), .val (.int x2), .val (.long x3), .second, .val (.long x4), .second, .val (.int x5), .val (.int (2 : Int32)), .val (.ref m0), .val (.ref m1), .val (.ref m2), .val (.ref b2), .unset, .unset] [(.long (x3 + (1 : Int64))), (.ref a49), (.ref a48), (.ref b47), (.ref b47), (.ref b2)])
      refine Go.step (fun _ kt_ => XS.lload X49.here hx rfl (hb hby at_119) rfl kt_) ?_
      show Go _ _ _ _ _ _ _ _ T49 (mkF m 121 #[.val (.int x0), .val (.int x1), .val (.int x2), .val (.long x3), .second, .val (.long x4), .second, .val (.int x5), .val (.int (2 : Int32)), .val (.ref m0), .val (.ref m1), .val (.ref m2), .val (.ref b2), .unset, .unset] [(.long x4), (.long (x3 + (1 : Int64))), (.ref a49), (.ref a48), (.ref b47), (.ref b47), (.ref b2)])
      refine Go.step (fun _ kt_ => XS.aconstNull X49.here hx rfl (hb hby at_121)  kt_) ?_
      show Go _ _ _ _ _ _ _ _ T49 (mkF m 122 #[.val (.int x0), .val (.int x1), .val (.int x2), .val (.long x3), .second, .val (.long x4), .second, .val (.int x5), .val (.int (2 : Int32)), .val (.ref m0), .val (.ref m1), .val (.ref m2), .val (.ref b2), .unset, .unset] [.null, (.long x4), (.long (x3 + (1 : Int64))), (.ref a49), (.ref a48), (.ref b47), (.ref b47), (.ref b2)])
      refine Go.step (fun _ kt_ => XS.iloadN X49.here hx rfl (hb hby at_122) rfl kt_) ?_
      show Go _ _ _ _ _ _ _ _ T49 (mkF m 123 #[.val (.int x0), .val (.int x1), .val (.int x2), .val (.long x3), .second, .val (.long x4), .second, .val (.int x5), .val (.int (2 : Int32)), .val (.ref m0), .val (.ref m1), .val (.ref m2), .val (.ref b2), .unset, .unset] [(.int x2), .null, (.long x4), (.long (x3 + (1 : Int64))), (.ref a49), (.ref a48), (.ref b47), (.ref b47), (.ref b2)])
      refine Go.step (fun _ kt_ => XS.i2l X49.here hx rfl (hb hby at_123) rfl kt_) ?_
      show Go _ _ _ _ _ _ _ _ T49 (mkF m 124 #[.val (.int x0), .val (.int x1), .val (.int x2), .val (.long x3), .second, .val (.long x4), .second, .val (.int x5), .val (.int (2 : Int32)), .val (.ref m0), .val (.ref m1), .val (.ref m2), .val (.ref b2), .unset, .unset] [(.long (x2.toInt64)), .null, (.long x4), (.long (x3 + (1 : Int64))), (.ref a49), (.ref a48), (.ref b47), (.ref b47), (.ref b2)])
      refine Go.step (fun _ kt_ => XS.iloadN X49.here hx rfl (hb hby at_124) rfl kt_) ?_
      show Go _ _ _ _ _ _ _ _ T49 (mkF m 125 #[.val (.int x0), .val (.int x1), .val (.int x2), .val (.long x3), .second, .val (.long x4), .second, .val (.int x5), .val (.int (2 : Int32)), .val (.ref m0), .val (.ref m1), .val (.ref m2), .val (.ref b2), .unset, .unset] [(.int x1), (.long (x2.toInt64)), .null, (.long x4), (.long (x3 + (1 : Int64))), (.ref a49), (.ref a48), (.ref b47), (.ref b47), (.ref b2)])
      refine Go.step (fun _ kt_ => XS.aload X49.here hx rfl (hb hby at_125) rfl rfl kt_) ?_
      show Go _ _ _ _ _ _ _ _ T49 (mkF m 127 #[.val (.int x0), .val (.int x1), .val (.int x2), .val (.long x3), .second, .val (.long x4), .second, .val (.int x5), .val (.int (2 : Int32)), .val (.ref m0), .val (.ref m1), .val (.ref m2), .val (.ref b2), .unset, .unset] [(.ref m1), (.int x1), (.long (x2.toInt64)), .null, (.long x4), (.long (x3 + (1 : Int64))), (.ref a49), (.ref a48), (.ref b47), (.ref b47), (.ref b2)])
      have f50 := (Fld.ext E49 (Fld.ext E48 F47_expiresAt))
      have f51 := (Fld.ext E49 (Fld.ext E48 F47_expiresInMs))
      obtain ⟨_, _, ⟨T52, L52, k52, n52⟩, -, X52, ⟨Lc52, hQ52, l52, y52, z52⟩, st52⟩ := X49.specialBack hx (y := (⟨"com/example/wary_lock/warylock/Lease", "<init>", "(Ljava/lang/String;Ljava/lang/String;JJLjava/time/Instant;JILcom/example/wary_lock/warylock/LockMode;)V"⟩ : MethodName)) rfl hown49 (mvT hZ49 (hw _ (List.mem_of_getElem? (i := 105) rfl))) (mvT hZ49 (hw _ (List.mem_of_getElem? (i := 106) rfl))) (mvT hZ49 (hw _ (List.mem_of_getElem? (i := 107) rfl))) (by decide) (backOf (W := 2) (rm_a13_0 l Z a0 hw [] dc kdc el ee kee ca cc eo mo G_dc G_dce G_dcv G_el G_ele G_elf G_eev G_hi G_ca G_bx G_eo G_eoe G_mo b47 a48 a49 (x3 + (1 : Int64)) x4 (x2.toInt64) x1 m1 (0 : Int64) (0 : Int64) (0 : Int64) (0 : Int32) h49 O49_ (Exa.ext E49 (Exa.ext E48 A47)) (Fld.ext E49 (Fld.ext E48 F47_name)) g_b47 (Fld.ext E49 (Fld.ext E48 F47_owner)) (Fld.ext E49 (Fld.ext E48 F47_token)) (Fld.ext E49 (Fld.ext E48 F47_ttlMs)) f50 f51 (Fld.ext E49 (Fld.ext E48 F47_limit)) (Fld.ext E49 (Fld.ext E48 F47_mode))) hZ49 (hw _ (List.mem_of_getElem? (i := 107) rfl)) (hw _ (List.mem_of_getElem? (i := 95) rfl)) (by decide) (by decide)) (g := (mkF m 127 #[.val (.int x0), .val (.int x1), .val (.int x2), .val (.long x3), .second, .val (.long x4), .second, .val (.int x5), .val (.int (2 : Int32)), .val (.ref m0), .val (.ref m1), .val (.ref m2), .val (.ref b2), .unset, .unset] [(.ref m1), (.int x1), (.long (x2.toInt64)), .null, (.long x4), (.long (x3 + (1 : Int64))), (.ref a49), (.ref a48), (.ref b47), (.ref b47), (.ref b2)])) rfl (by rw [hml]; rfl) (Steps.refl _) (a := b47) (argsL := [(.ref a48), (.ref a49), (.long (x3 + (1 : Int64))), (.long x4), .null, (.long (x2.toInt64)), (.int x1), (.ref m1)]) (rest := [(.ref b47), (.ref b2)]) (lenOf pd_LLjava_lang_String_Ljava_lang_String_JJLjava_time_Instant_JILcom_example_wary_lock_warylock_LockMode_RV rfl) rfl (by show 2 * 0 + _ ≤ _; exact Nat.le_of_eq rfl) (hb hby at_127) (fun _ _ => ⟨rfl, e49, (by decide : 12 + 0 ≤ _), (by decide : 61 + 0 ≤ _)⟩)
      dsimp only [Pt.U, Pt.locs, Pt.cells, Pt.slots] at X52 l52 y52 z52 st52 hQ52
      subst l52 y52 z52
      obtain ⟨rfl, Nq52, Kq52, p52_0, p52_1, p52_2, p52_3, p52_4, p52_5, p52_6, p52_7⟩ := hQ52
      have O52_ : Ext Z.heap T52.heap := extKeep O49_ Kq52 (allS g_b47 all0)
      have N52_ := Fr.app N46_ Nq52
      refine Go.trans st52 ?_
      show Go _ _ _ _ _ _ _ _ T52 (mkF m 130 #[.val (.int x0), .val (.int x1), .val (.int x2), .val (.long x3), .second, .val (.long x4), .second, .val (.int x5), .val (.int (2 : Int32)), .val (.ref m0), .val (.ref m1), .val (.ref m2), .val (.ref b2), .unset, .unset] [(.ref b47), (.ref b2)])
      have f53 := ((Exa.ext E49 (Exa.ext E48 (Exa.ext E47 (f41.keep Kq46)))).keep Kq52)
      have f54 := ((Fld.ext E49 (Fld.ext E48 (Fld.ext E47 p46_2))).keep Kq52 (ninS (Nat.ne_of_lt (Nat.lt_of_lt_of_le (f41.keep Kq46).lt (Nat.le_of_eq hb47.symm))) nin0))
      have f55 := ((Fld.ext E49 (Fld.ext E48 (Fld.ext E47 p46_0))).keep Kq52 (ninS (Nat.ne_of_lt (Nat.lt_of_lt_of_le (f41.keep Kq46).lt (Nat.le_of_eq hb47.symm))) nin0))
      have f56 := ((Fld.ext E49 (Fld.ext E48 (Fld.ext E47 p46_1))).keep Kq52 (ninS (Nat.ne_of_lt (Nat.lt_of_lt_of_le (f41.keep Kq46).lt (Nat.le_of_eq hb47.symm))) nin0))
      have f57 := ((((p46_5.ext E47).ext E48).ext E49).keep Kq52 (ninS (Nat.ne_of_lt (Nat.lt_of_lt_of_le p46_4.lt (Nat.le_of_eq hb47.symm))) nin0))
      have f58 := ((Fld.ext E49 (Fld.ext E48 (Fld.ext E47 p46_0))).keep Kq52 (ninS (Nat.ne_of_lt (Nat.lt_of_lt_of_le (f41.keep Kq46).lt (Nat.le_of_eq hb47.symm))) nin0))
      have f59 := ((Fld.ext E49 (Fld.ext E48 (Fld.ext E47 p46_1))).keep Kq52 (ninS (Nat.ne_of_lt (Nat.lt_of_lt_of_le (f41.keep Kq46).lt (Nat.le_of_eq hb47.symm))) nin0))
      have f60 := ((((p46_5.ext E47).ext E48).ext E49).keep Kq52 (ninS (Nat.ne_of_lt (Nat.lt_of_lt_of_le p46_4.lt (Nat.le_of_eq hb47.symm))) nin0))
      have f61 := ((Exa.ext E49 (Exa.ext E48 A47)).keep Kq52)
      have f62 := ((Fld.ext E49 (Fld.ext E48 (Fld.ext E47 p46_0))).keep Kq52 (ninS (Nat.ne_of_lt (Nat.lt_of_lt_of_le (f41.keep Kq46).lt (Nat.le_of_eq hb47.symm))) nin0))
      have f63 := ((Fld.ext E49 (Fld.ext E48 (Fld.ext E47 p46_1))).keep Kq52 (ninS (Nat.ne_of_lt (Nat.lt_of_lt_of_le (f41.keep Kq46).lt (Nat.le_of_eq hb47.symm))) nin0))
      have f64 := ((((p46_5.ext E47).ext E48).ext E49).keep Kq52 (ninS (Nat.ne_of_lt (Nat.lt_of_lt_of_le p46_4.lt (Nat.le_of_eq hb47.symm))) nin0))
      have f65 := ((Exa.ext E49 (Exa.ext E48 A47)).keep Kq52)
      have f66 := ((Fld.ext E49 (Fld.ext E48 (Fld.ext E47 p46_0))).keep Kq52 (ninS (Nat.ne_of_lt (Nat.lt_of_lt_of_le (f41.keep Kq46).lt (Nat.le_of_eq hb47.symm))) nin0))
      have f67 := ((Fld.ext E49 (Fld.ext E48 (Fld.ext E47 p46_1))).keep Kq52 (ninS (Nat.ne_of_lt (Nat.lt_of_lt_of_le (f41.keep Kq46).lt (Nat.le_of_eq hb47.symm))) nin0))
      have f68 := ((((p46_5.ext E47).ext E48).ext E49).keep Kq52 (ninS (Nat.ne_of_lt (Nat.lt_of_lt_of_le p46_4.lt (Nat.le_of_eq hb47.symm))) nin0))
      have f69 := ((Exa.ext E49 (Exa.ext E48 A47)).keep Kq52)
      obtain ⟨cq70, kq70, q70a, q70b, q70c⟩ := isOf hZ49 rfl f53
      obtain ⟨_, _, ⟨T70, L70, k70, n70⟩, -, X70, ⟨Lc70, hQ70, l70, y70, z70⟩, st70⟩ := X52.virtualBack hx (y := (⟨"java/util/ArrayList", "add", "(Ljava/lang/Object;)Z"⟩ : MethodName)) (z := (⟨"java/util/ArrayList", "add", "(Ljava/lang/Object;)Z"⟩ : MethodName)) hown49 (mvT hZ49 (hw _ (List.mem_of_getElem? (i := 125) rfl))) (mvT hZ49 (hw _ (List.mem_of_getElem? (i := 126) rfl))) (notFace_of_selects (args := #[]) (mvT hZ49 (hw _ (List.mem_of_getElem? (i := 128) rfl)))) (mvT hZ49 (hw _ (List.mem_of_getElem? (i := 128) rfl))) (mvT hZ49 (hw _ (List.mem_of_getElem? (i := 127) rfl))) (by decide) (backOf (W := 0) (rm_a14_1 l Z a0 hw [] dc kdc el ee kee ca cc eo mo G_dc G_dce G_dcv G_el G_ele G_elf G_eev G_hi G_ca G_bx G_eo G_eoe G_mo b2 b47 b6q2q2q5q46 k6q2q2q5q46 b35 T52.heap O52_ f54 f53 g_b2 f66 f67 f68 (Ne.symm (Nat.ne_of_lt (Nat.lt_of_lt_of_le f41.lt p46_3))) p46_6 f69 g_b6q2q2q5q46) hZ49 (hw _ (List.mem_of_getElem? (i := 129) rfl)) (hw _ (List.mem_of_getElem? (i := 7) rfl)) (by decide) (by decide)) q70a q70c (g := (mkF m 130 #[.val (.int x0), .val (.int x1), .val (.int x2), .val (.long x3), .second, .val (.long x4), .second, .val (.int x5), .val (.int (2 : Int32)), .val (.ref m0), .val (.ref m1), .val (.ref m2), .val (.ref b2), .unset, .unset] [(.ref b47), (.ref b2)])) rfl (by rw [hml]; rfl) (Steps.refl _) (argsL := [(.ref b47)]) (rest := []) (lenOf pd_LLjava_lang_Object_RZ rfl) rfl (by show 2 * 0 + _ ≤ _; exact Nat.le_of_eq rfl) (hb hby at_130) (fun _ _ => ⟨rfl, rfl, (by decide : 12 + 0 ≤ _), (by decide : 61 + 0 ≤ _)⟩)
      dsimp only [Pt.U, Pt.locs, Pt.cells, Pt.slots] at X70 l70 y70 z70 st70 hQ70
      subst l70 y70 z70
      obtain ⟨rfl, Nq70, Kq70, p70_0, p70_1, p70_2, p70_3⟩ := hQ70
      have O70_ : Ext Z.heap T70.heap := extKeep O52_ Kq70 (allS g_b2 (allS g_b6q2q2q5q46 all0))
      have N70_ := Fr.app N52_ Nq70
      refine Go.trans st70 ?_
      show Go _ _ _ _ _ _ _ _ T70 (mkF m 133 #[.val (.int x0), .val (.int x1), .val (.int x2), .val (.long x3), .second, .val (.long x4), .second, .val (.int x5), .val (.int (2 : Int32)), .val (.ref m0), .val (.ref m1), .val (.ref m2), .val (.ref b2), .unset, .unset] [(.int (1 : Int32))])
      refine Go.step (fun _ kt_ => XS.pop X70.here hx rfl (hb hby at_133) rfl rfl kt_) ?_
      show Go _ _ _ _ _ _ _ _ T70 (mkF m 134 #[.val (.int x0), .val (.int x1), .val (.int x2), .val (.long x3), .second, .val (.long x4), .second, .val (.int x5), .val (.int (2 : Int32)), .val (.ref m0), .val (.ref m1), .val (.ref m2), .val (.ref b2), .unset, .unset] [])
      refine Go.step (fun _ kt_ => XS.iload X70.here hx rfl (hb hby at_134) rfl kt_) ?_
      show Go _ _ _ _ _ _ _ _ T70 (mkF m 136 #[.val (.int x0), .val (.int x1), .val (.int x2), .val (.long x3), .second, .val (.long x4), .second, .val (.int x5), .val (.int (2 : Int32)), .val (.ref m0), .val (.ref m1), .val (.ref m2), .val (.ref b2), .unset, .unset] [(.int (2 : Int32))])
      refine Go.step (fun _ kt_ => XS.iconst X70.here hx rfl (hb hby at_136)  kt_) ?_
      show Go _ _ _ _ _ _ _ _ T70 (mkF m 137 #[.val (.int x0), .val (.int x1), .val (.int x2), .val (.long x3), .second, .val (.long x4), .second, .val (.int x5), .val (.int (2 : Int32)), .val (.ref m0), .val (.ref m1), .val (.ref m2), .val (.ref b2), .unset, .unset] [(.int (3 : Int32)), (.int (2 : Int32))])
      refine Go.step (fun _ kt_ => XS.icmpYes X70.here hx rfl (pc0 := 137) (pc' := 165) rfl (hb hby at_137) rfl (tlt (by decide : (2 : Int32) < (3 : Int32))).1 (by decide) (by decide) kt_) ?_
      show Go _ _ _ _ _ _ _ _ T70 (mkF m 165 #[.val (.int x0), .val (.int x1), .val (.int x2), .val (.long x3), .second, .val (.long x4), .second, .val (.int x5), .val (.int (2 : Int32)), .val (.ref m0), .val (.ref m1), .val (.ref m2), .val (.ref b2), .unset, .unset] [])
      obtain ⟨T71, h71, X71, e71, E71, A71, D71, U71, st71⟩ := newO X70 hx hZ49 hown49 (hw _ (List.mem_of_getElem? (i := 31) rfl)) (hw _ (List.mem_of_getElem? (i := 32) rfl)) (hw _ (List.mem_of_getElem? (i := 33) rfl)) rfl (g := (mkF m 165 #[.val (.int x0), .val (.int x1), .val (.int x2), .val (.long x3), .second, .val (.long x4), .second, .val (.int x5), .val (.int (2 : Int32)), .val (.ref m0), .val (.ref m1), .val (.ref m2), .val (.ref b2), .unset, .unset] [])) rfl (hb hby at_165) (by decide) (by decide)
      obtain ⟨b71, hb71⟩ : ∃ z, z = T70.heap.size := ⟨_, rfl⟩
      rw [← hb71] at A71 D71 U71 st71
      refine Go.step st71 ?_
      have g_b71 : Z.heap.size ≤ b71 := Nat.le_trans O70_.1 (Nat.le_of_eq hb71.symm)
      have O71_ : Ext Z.heap h71 := extTr O70_ E71
      have F71_holders : Fld Z h71 b71 "com/example/wary_lock/warylock/LockState" "holders" "Ljava/util/List;" .null := D71 (Or.inr (hw _ (List.mem_of_getElem? (i := 73) rfl))) (ty := (.object "java/util/List")) pf_Ljava_util_List_
      have F71_waiting : Fld Z h71 b71 "com/example/wary_lock/warylock/LockState" "waiting" "I" (.int (0 : Int32)) := D71 (Or.inr (hw _ (List.mem_of_getElem? (i := 75) rfl))) (ty := .int) pf_I
      show Go _ _ _ _ _ _ _ _ T71 (mkF m 168 #[.val (.int x0), .val (.int x1), .val (.int x2), .val (.long x3), .second, .val (.long x4), .second, .val (.int x5), .val (.int (2 : Int32)), .val (.ref m0), .val (.ref m1), .val (.ref m2), .val (.ref b2), .unset, .unset] [(.ref b71)])
      refine Go.step (fun _ kt_ => XS.dup X71.here hx rfl (hb hby at_168) rfl rfl kt_) ?_
      show Go _ _ _ _ _ _ _ _ T71 (mkF m 169 #[.val (.int x0), .val (.int x1), .val (.int x2), .val (.long x3), .second, .val (.long x4), .second, .val (.int x5), .val (.int (2 : Int32)), .val (.ref m0), .val (.ref m1), .val (.ref m2), .val (.ref b2), .unset, .unset] [(.ref b71), (.ref b71)])
      refine Go.step (fun _ kt_ => XS.aload X71.here hx rfl (hb hby at_169) rfl rfl kt_) ?_
      show Go _ _ _ _ _ _ _ _ T71 (mkF m 171 #[.val (.int x0), .val (.int x1), .val (.int x2), .val (.long x3), .second, .val (.long x4), .second, .val (.int x5), .val (.int (2 : Int32)), .val (.ref m0), .val (.ref m1), .val (.ref m2), .val (.ref b2), .unset, .unset] [(.ref b2), (.ref b71), (.ref b71)])
      refine Go.step (fun _ kt_ => XS.iloadN X71.here hx rfl (hb hby at_171) rfl kt_) ?_
      show Go _ _ _ _ _ _ _ _ T71 (mkF m 172 #[.val (.int x0), .val (.int x1), .val (.int x2), .val (.long x3), .second, .val (.long x4), .second, .val (.int x5), .val (.int (2 : Int32)), .val (.ref m0), .val (.ref m1), .val (.ref m2), .val (.ref b2), .unset, .unset] [(.int x2), (.ref b2), (.ref b71), (.ref b71)])
      have f72 := (Exa.ext E71 (((Exa.ext E49 (Exa.ext E48 (Exa.ext E47 p46_4))).keep Kq52).keep Kq70))
      have f73 := (Exa.ext E71 (((Exa.ext E49 (Exa.ext E48 (Exa.ext E47 p46_4))).keep Kq52).keep Kq70))
      have f74 := (Exa.ext E71 (((Exa.ext E49 (Exa.ext E48 (Exa.ext E47 (f45.keep Kq46)))).keep Kq52).keep Kq70))
      have f75 := (Exa.ext E71 (((Exa.ext E49 (Exa.ext E48 (Exa.ext E47 p46_4))).keep Kq52).keep Kq70))
      have f76 := (Exa.ext E71 (((Exa.ext E49 (Exa.ext E48 (Exa.ext E47 (f45.keep Kq46)))).keep Kq52).keep Kq70))
      have f77 := (Exa.ext E71 (((Exa.ext E49 (Exa.ext E48 (Exa.ext E47 p46_4))).keep Kq52).keep Kq70))
      have f78 := (Exa.ext E71 (((Exa.ext E49 (Exa.ext E48 (Exa.ext E47 (f45.keep Kq46)))).keep Kq52).keep Kq70))
      obtain ⟨_, _, ⟨T79, L79, k79, n79⟩, -, X79, ⟨Lc79, hQ79, l79, y79, z79⟩, st79⟩ := X71.specialBack hx (y := (⟨"com/example/wary_lock/warylock/LockState", "<init>", "(Ljava/util/List;I)V"⟩ : MethodName)) rfl hown49 (mvT hZ49 (hw _ (List.mem_of_getElem? (i := 34) rfl))) (mvT hZ49 (hw _ (List.mem_of_getElem? (i := 35) rfl))) (mvT hZ49 (hw _ (List.mem_of_getElem? (i := 36) rfl))) (by decide) (backOf (W := 1) (rm_a5_2 l Z a0 hw [] dc kdc el ee kee ca cc eo mo G_dc G_dce G_dcv G_el G_ele G_elf G_eev G_hi G_ca G_bx G_eo G_eoe G_mo b71 b2 x2 b6q2q2q5q46 k6q2q2q5q46 b35 b47 h71 O71_ (Exa.ext E71 (f53.keep Kq70)) (Fld.ext E71 p70_0) (Fld.ext E71 p70_2) f77 (p70_3.ext E71) (Exa.ext E71 (f69.keep Kq70)) f78 A71 F71_holders g_b71 F71_waiting) hZ49 (hw _ (List.mem_of_getElem? (i := 36) rfl)) (hw _ (List.mem_of_getElem? (i := 33) rfl)) (by decide) (by decide)) (g := (mkF m 172 #[.val (.int x0), .val (.int x1), .val (.int x2), .val (.long x3), .second, .val (.long x4), .second, .val (.int x5), .val (.int (2 : Int32)), .val (.ref m0), .val (.ref m1), .val (.ref m2), .val (.ref b2), .unset, .unset] [(.int x2), (.ref b2), (.ref b71), (.ref b71)])) rfl (by rw [hml]; rfl) (Steps.refl _) (a := b71) (argsL := [(.ref b2), (.int x2)]) (rest := [(.ref b71)]) (lenOf pd_LLjava_util_List_IRV rfl) rfl (by show 2 * 0 + _ ≤ _; exact Nat.le_of_eq rfl) (hb hby at_172) (fun _ _ => ⟨rfl, e71, (by decide : 13 + 2 ≤ _), (by decide : 63 + 4 ≤ _)⟩)
      dsimp only [Pt.U, Pt.locs, Pt.cells, Pt.slots] at X79 l79 y79 z79 st79 hQ79
      subst l79 y79 z79
      obtain ⟨b2q5q1q2q79, rfl, Nq79, Kq79, p79_0, p79_1, p79_2, p79_3, p79_4, p79_5⟩ := hQ79
      have O79_ : Ext Z.heap T79.heap := extKeep O71_ Kq79 (allS g_b71 all0)
      have N79_ := Fr.app N70_ Nq79
      have g_b2q5q1q2q79 : Z.heap.size ≤ b2q5q1q2q79 := Nat.le_trans O71_.1 p79_2
      refine Go.trans st79 ?_
      show Go _ _ _ _ _ _ _ _ T79 (mkF m 175 #[.val (.int x0), .val (.int x1), .val (.int x2), .val (.long x3), .second, .val (.long x4), .second, .val (.int x5), .val (.int (2 : Int32)), .val (.ref m0), .val (.ref m1), .val (.ref m2), .val (.ref b2), .unset, .unset] [(.ref b71)])
      refine Go.step (fun _ kt_ => XS.astore X79.here hx rfl (hb hby at_175) rfl rfl (l' := #[.val (.int x0), .val (.int x1), .val (.int x2), .val (.long x3), .second, .val (.long x4), .second, .val (.int x5), .val (.int (2 : Int32)), .val (.ref m0), .val (.ref m1), .val (.ref m2), .val (.ref b2), .val (.ref b71), .unset]) rfl kt_) ?_
      show Go _ _ _ _ _ _ _ _ T79 (mkF m 177 #[.val (.int x0), .val (.int x1), .val (.int x2), .val (.long x3), .second, .val (.long x4), .second, .val (.int x5), .val (.int (2 : Int32)), .val (.ref m0), .val (.ref m1), .val (.ref m2), .val (.ref b2), .val (.ref b71), .unset] [])
      refine Go.step (fun _ kt_ => XS.aload X79.here hx rfl (hb hby at_177) rfl rfl kt_) ?_
      show Go _ _ _ _ _ _ _ _ T79 (mkF m 179 #[.val (.int x0), .val (.int x1), .val (.int x2), .val (.long x3), .second, .val (.long x4), .second, .val (.int x5), .val (.int (2 : Int32)), .val (.ref m0), .val (.ref m1), .val (.ref m2), .val (.ref b2), .val (.ref b71), .unset] [(.ref b71)])
      have f80 := ((Fld.ext E71 (((Fld.ext E49 (Fld.ext E48 (Fld.ext E47 (p40_6.keep Kq46 (ninS (Ne.symm (Nat.ne_of_lt (Nat.lt_of_lt_of_le (A2.keep Kq3).lt (Nat.le_of_eq hb35.symm)))) nin0))))).keep Kq52 (ninS (Nat.ne_of_lt (Nat.lt_of_lt_of_le (f45.keep Kq46).lt (Nat.le_of_eq hb47.symm))) nin0)).keep Kq70 (ninS (Ne.symm (Nat.ne_of_lt (Nat.lt_of_lt_of_le (A2.keep Kq3).lt (Nat.le_of_eq hb35.symm)))) (ninS (Nat.ne_of_lt (Nat.lt_of_lt_of_le f45.lt p46_3)) nin0)))).keep Kq79 (ninS (Nat.ne_of_lt (Nat.lt_of_lt_of_le (((Exa.ext E49 (Exa.ext E48 (Exa.ext E47 (f45.keep Kq46)))).keep Kq52).keep Kq70).lt (Nat.le_of_eq hb71.symm))) nin0))
      obtain ⟨cq81, kq81, q81a, q81b, q81c⟩ := isOf hZ49 rfl (A71.keep Kq79)
      obtain ⟨_, _, ⟨T81, L81, k81, n81⟩, -, X81, ⟨Lc81, hQ81, l81, y81, z81⟩, st81⟩ := X79.virtualBack hx (y := (⟨"com/example/wary_lock/warylock/LockState", "limit", "()Ljava/lang/Integer;"⟩ : MethodName)) (z := (⟨"com/example/wary_lock/warylock/LockState", "limit", "()Ljava/lang/Integer;"⟩ : MethodName)) hown49 (mvT hZ49 (hw _ (List.mem_of_getElem? (i := 76) rfl))) (mvT hZ49 (hw _ (List.mem_of_getElem? (i := 77) rfl))) (notFace_of_selects (args := #[]) (mvT hZ49 (hw _ (List.mem_of_getElem? (i := 79) rfl)))) (mvT hZ49 (hw _ (List.mem_of_getElem? (i := 79) rfl))) (mvT hZ49 (hw _ (List.mem_of_getElem? (i := 78) rfl))) (by decide) (backOf (W := 0) (rm_a11_1 l Z a0 hw [] dc kdc el ee kee ca cc eo mo G_dc G_dce G_dcv G_el G_ele G_elf G_eev G_hi G_ca G_bx G_eo G_eoe G_mo b71 b2q5q1q2q79 b35 x1 T79.heap O79_ p79_0 p79_3 p79_4 (f78.keep Kq79) f80) hZ49 (hw _ (List.mem_of_getElem? (i := 80) rfl)) (hw _ (List.mem_of_getElem? (i := 33) rfl)) (by decide) (by decide)) q81a q81c (g := (mkF m 179 #[.val (.int x0), .val (.int x1), .val (.int x2), .val (.long x3), .second, .val (.long x4), .second, .val (.int x5), .val (.int (2 : Int32)), .val (.ref m0), .val (.ref m1), .val (.ref m2), .val (.ref b2), .val (.ref b71), .unset] [(.ref b71)])) rfl (by rw [hml]; rfl) (Steps.refl _) (argsL := []) (rest := []) (lenOf pd_LRLjava_lang_Integer_ rfl) rfl (by show 2 * 0 + _ ≤ _; exact Nat.le_of_eq rfl) (hb hby at_179) (fun _ _ => ⟨rfl, rfl, (by decide : 15 + 1 ≤ _), (by decide : 67 + 1 ≤ _)⟩)
      dsimp only [Pt.U, Pt.locs, Pt.cells, Pt.slots] at X81 l81 y81 z81 st81 hQ81
      subst l81 y81 z81
      obtain ⟨r7q81, rfl, Nq81, Kq81, p81_0, p81_1⟩ := hQ81
      have O81_ : Ext Z.heap T81.heap := extKeep O79_ Kq81 all0
      have N81_ := Fr.app N79_ Nq81
      refine Go.trans st81 ?_
      show Go _ _ _ _ _ _ _ _ T81 (mkF m 182 #[.val (.int x0), .val (.int x1), .val (.int x2), .val (.long x3), .second, .val (.long x4), .second, .val (.int x5), .val (.int (2 : Int32)), .val (.ref m0), .val (.ref m1), .val (.ref m2), .val (.ref b2), .val (.ref b71), .unset] [(.ref r7q81)])
      refine Go.step (fun _ kt_ => XS.astore X81.here hx rfl (hb hby at_182) rfl rfl (l' := #[.val (.int x0), .val (.int x1), .val (.int x2), .val (.long x3), .second, .val (.long x4), .second, .val (.int x5), .val (.int (2 : Int32)), .val (.ref m0), .val (.ref m1), .val (.ref m2), .val (.ref b2), .val (.ref b71), .val (.ref r7q81)]) rfl kt_) ?_
      show Go _ _ _ _ _ _ _ _ T81 (mkF m 184 #[.val (.int x0), .val (.int x1), .val (.int x2), .val (.long x3), .second, .val (.long x4), .second, .val (.int x5), .val (.int (2 : Int32)), .val (.ref m0), .val (.ref m1), .val (.ref m2), .val (.ref b2), .val (.ref b71), .val (.ref r7q81)] [])
      refine Go.step (fun _ kt_ => XS.iload X81.here hx rfl (hb hby at_184) rfl kt_) ?_
      show Go _ _ _ _ _ _ _ _ T81 (mkF m 186 #[.val (.int x0), .val (.int x1), .val (.int x2), .val (.long x3), .second, .val (.long x4), .second, .val (.int x5), .val (.int (2 : Int32)), .val (.ref m0), .val (.ref m1), .val (.ref m2), .val (.ref b2), .val (.ref b71), .val (.ref r7q81)] [(.int (2 : Int32))])
      refine Go.step (fun _ kt_ => XS.ifYes X81.here hx rfl (pc0 := 186) (pc' := 200) rfl (hb hby at_186) rfl ((if0 _ _).trans (feq (by decide : ¬ ((2 : Int32) = (0 : Int32)))).2) (by decide) (by decide) kt_) ?_
      show Go _ _ _ _ _ _ _ _ T81 (mkF m 200 #[.val (.int x0), .val (.int x1), .val (.int x2), .val (.long x3), .second, .val (.long x4), .second, .val (.int x5), .val (.int (2 : Int32)), .val (.ref m0), .val (.ref m1), .val (.ref m2), .val (.ref b2), .val (.ref b71), .val (.ref r7q81)] [])
      refine Go.step (fun _ kt_ => XS.aload X81.here hx rfl (hb hby at_200) rfl rfl kt_) ?_
      show Go _ _ _ _ _ _ _ _ T81 (mkF m 202 #[.val (.int x0), .val (.int x1), .val (.int x2), .val (.long x3), .second, .val (.long x4), .second, .val (.int x5), .val (.int (2 : Int32)), .val (.ref m0), .val (.ref m1), .val (.ref m2), .val (.ref b2), .val (.ref b71), .val (.ref r7q81)] [(.ref r7q81)])
      refine Go.step (fun _ kt_ => XS.ifnullNo X81.here hx rfl (hb hby at_202) rfl kt_) ?_
      show Go _ _ _ _ _ _ _ _ T81 (mkF m 205 #[.val (.int x0), .val (.int x1), .val (.int x2), .val (.long x3), .second, .val (.long x4), .second, .val (.int x5), .val (.int (2 : Int32)), .val (.ref m0), .val (.ref m1), .val (.ref m2), .val (.ref b2), .val (.ref b71), .val (.ref r7q81)] [])
      refine Go.step (fun _ kt_ => XS.aload X81.here hx rfl (hb hby at_205) rfl rfl kt_) ?_
      show Go _ _ _ _ _ _ _ _ T81 (mkF m 207 #[.val (.int x0), .val (.int x1), .val (.int x2), .val (.long x3), .second, .val (.long x4), .second, .val (.int x5), .val (.int (2 : Int32)), .val (.ref m0), .val (.ref m1), .val (.ref m2), .val (.ref b2), .val (.ref b71), .val (.ref r7q81)] [(.ref r7q81)])
      obtain ⟨cq82, kq82, q82a, q82b, q82c⟩ := isOf hZ49 rfl p81_0
      obtain ⟨_, _, ⟨T82, L82, k82, n82⟩, -, X82, ⟨Lc82, hQ82, l82, y82, z82⟩, st82⟩ := X81.virtualBack hx (y := (⟨"java/lang/Integer", "intValue", "()I"⟩ : MethodName)) (z := (⟨"java/lang/Integer", "intValue", "()I"⟩ : MethodName)) hown49 (mvT hZ49 (hw _ (List.mem_of_getElem? (i := 240) rfl))) (mvT hZ49 (hw _ (List.mem_of_getElem? (i := 241) rfl))) (notFace_of_selects (args := #[]) (mvT hZ49 (hw _ (List.mem_of_getElem? (i := 243) rfl)))) (mvT hZ49 (hw _ (List.mem_of_getElem? (i := 243) rfl))) (mvT hZ49 (hw _ (List.mem_of_getElem? (i := 242) rfl))) (by decide) (backOf (W := 0) (rm_a32_0 l Z a0 hw [] dc kdc el ee kee ca cc eo mo G_dc G_dce G_dcv G_el G_ele G_elf G_eev G_hi G_ca G_bx G_eo G_eoe G_mo r7q81 x1 T81.heap O81_ p81_1) hZ49 (hw _ (List.mem_of_getElem? (i := 244) rfl)) (hw _ (List.mem_of_getElem? (i := 235) rfl)) (by decide) (by decide)) q82a q82c (g := (mkF m 207 #[.val (.int x0), .val (.int x1), .val (.int x2), .val (.long x3), .second, .val (.long x4), .second, .val (.int x5), .val (.int (2 : Int32)), .val (.ref m0), .val (.ref m1), .val (.ref m2), .val (.ref b2), .val (.ref b71), .val (.ref r7q81)] [(.ref r7q81)])) rfl (by rw [hml]; rfl) (Steps.refl _) (argsL := []) (rest := []) (lenOf pd_LRI rfl) rfl (by show 2 * 0 + _ ≤ _; exact Nat.le_of_eq rfl) (hb hby at_207) (fun _ _ => ⟨rfl, rfl, (by decide : 16 + 0 ≤ _), (by decide : 68 + 0 ≤ _)⟩)
      dsimp only [Pt.U, Pt.locs, Pt.cells, Pt.slots] at X82 l82 y82 z82 st82 hQ82
      subst l82 y82 z82
      obtain ⟨rfl, Nq82, e82⟩ := hQ82
      have N82_ := Fr.app N81_ Nq82
      refine Go.trans st82 ?_
      show Go _ _ _ _ _ _ _ _ T82 (mkF m 210 #[.val (.int x0), .val (.int x1), .val (.int x2), .val (.long x3), .second, .val (.long x4), .second, .val (.int x5), .val (.int (2 : Int32)), .val (.ref m0), .val (.ref m1), .val (.ref m2), .val (.ref b2), .val (.ref b71), .val (.ref r7q81)] [(.int x1)])
      refine Go.step (fun _ kt_ => XS.iloadN X82.here hx rfl (hb hby at_210) rfl kt_) ?_
      show Go _ _ _ _ _ _ _ _ T82 (mkF m 211 #[.val (.int x0), .val (.int x1), .val (.int x2), .val (.long x3), .second, .val (.long x4), .second, .val (.int x5), .val (.int (2 : Int32)), .val (.ref m0), .val (.ref m1), .val (.ref m2), .val (.ref b2), .val (.ref b71), .val (.ref r7q81)] [(.int x1), (.int x1)])
      refine Go.step (fun _ kt_ => XS.icmpNo X82.here hx rfl (hb hby at_211) rfl (teq (rfl : x1 = x1)).2 kt_) ?_
      show Go _ _ _ _ _ _ _ _ T82 (mkF m 214 #[.val (.int x0), .val (.int x1), .val (.int x2), .val (.long x3), .second, .val (.long x4), .second, .val (.int x5), .val (.int (2 : Int32)), .val (.ref m0), .val (.ref m1), .val (.ref m2), .val (.ref b2), .val (.ref b71), .val (.ref r7q81)] [])
      refine Go.step (fun _ kt_ => XS.iconst X82.here hx rfl (hb hby at_214)  kt_) ?_
      show Go _ _ _ _ _ _ _ _ T82 (mkF m 215 #[.val (.int x0), .val (.int x1), .val (.int x2), .val (.long x3), .second, .val (.long x4), .second, .val (.int x5), .val (.int (2 : Int32)), .val (.ref m0), .val (.ref m1), .val (.ref m2), .val (.ref b2), .val (.ref b71), .val (.ref r7q81)] [(.int (1 : Int32))])
      refine Go.step (fun _ kt_ => XS.goto X82.here hx rfl (pc0 := 215) (pc' := 219) rfl (hb hby at_215) (by decide) (by decide) kt_) ?_
      show Go _ _ _ _ _ _ _ _ T82 (mkF m 219 #[.val (.int x0), .val (.int x1), .val (.int x2), .val (.long x3), .second, .val (.long x4), .second, .val (.int x5), .val (.int (2 : Int32)), .val (.ref m0), .val (.ref m1), .val (.ref m2), .val (.ref b2), .val (.ref b71), .val (.ref r7q81)] [(.int (1 : Int32))])
      exact Go.retNW X82 S49 (by rw [e82]; exact (Nat.le_trans (Nat.le_trans (Nat.le_trans (Nat.le_trans (Nat.le_trans kq49 Kq52.1) Kq70.1) E71.1) Kq79.1) Kq81.1)) hx (t := .boolean) Bd.returns (by simp) hlk (hb hby at_219) (by decide) (by decide) ⟨rfl, N82_, trivial⟩
    · subst hk
      show Go _ _ _ _ _ _ _ _ T3 (mkF m 68 #[.val (.int x0), .val (.int x1), .val (.int x2), .val (.long x3), .second, .val (.long x4), .second, .val (.int x5), .val (.int (3 : Int32)), .val (.ref m0), .val (.ref m1), .val (.ref m2), .val (.ref b2), .unset, .unset] [])
      refine Go.step (fun _ kt_ => XS.iload X3.here hx rfl (hb hby at_68) rfl kt_) ?_
      show Go _ _ _ _ _ _ _ _ T3 (mkF m 70 #[.val (.int x0), .val (.int x1), .val (.int x2), .val (.long x3), .second, .val (.long x4), .second, .val (.int x5), .val (.int (3 : Int32)), .val (.ref m0), .val (.ref m1), .val (.ref m2), .val (.ref b2), .unset, .unset] [(.int (3 : Int32))])
      refine Go.step (fun _ kt_ => XS.iconst X3.here hx rfl (hb hby at_70)  kt_) ?_
      show Go _ _ _ _ _ _ _ _ T3 (mkF m 71 #[.val (.int x0), .val (.int x1), .val (.int x2), .val (.long x3), .second, .val (.long x4), .second, .val (.int x5), .val (.int (3 : Int32)), .val (.ref m0), .val (.ref m1), .val (.ref m2), .val (.ref b2), .unset, .unset] [(.int (1 : Int32)), (.int (3 : Int32))])
      refine Go.step (fun _ kt_ => XS.icmpNo X3.here hx rfl (hb hby at_71) rfl (flt (by decide : ¬ ((3 : Int32) < (1 : Int32)))).1 kt_) ?_
      show Go _ _ _ _ _ _ _ _ T3 (mkF m 74 #[.val (.int x0), .val (.int x1), .val (.int x2), .val (.long x3), .second, .val (.long x4), .second, .val (.int x5), .val (.int (3 : Int32)), .val (.ref m0), .val (.ref m1), .val (.ref m2), .val (.ref b2), .unset, .unset] [])
      refine Go.step (fun _ kt_ => XS.aload X3.here hx rfl (hb hby at_74) rfl rfl kt_) ?_
      show Go _ _ _ _ _ _ _ _ T3 (mkF m 76 #[.val (.int x0), .val (.int x1), .val (.int x2), .val (.long x3), .second, .val (.long x4), .second, .val (.int x5), .val (.int (3 : Int32)), .val (.ref m0), .val (.ref m1), .val (.ref m2), .val (.ref b2), .unset, .unset] [(.ref b2)])
      obtain ⟨T83, h83, X83, e83, E83, A83, D83, U83, st83⟩ := newO X3 hx hZc1 hownc1 (hw _ (List.mem_of_getElem? (i := 93) rfl)) (hw _ (List.mem_of_getElem? (i := 94) rfl)) (hw _ (List.mem_of_getElem? (i := 95) rfl)) rfl (g := (mkF m 76 #[.val (.int x0), .val (.int x1), .val (.int x2), .val (.long x3), .second, .val (.long x4), .second, .val (.int x5), .val (.int (3 : Int32)), .val (.ref m0), .val (.ref m1), .val (.ref m2), .val (.ref b2), .unset, .unset] [(.ref b2)])) rfl (hb hby at_76) (by decide) (by decide)
      obtain ⟨b83, hb83⟩ : ∃ z, z = T3.heap.size := ⟨_, rfl⟩
      rw [← hb83] at A83 D83 U83 st83
      refine Go.step st83 ?_
      have g_b83 : Z.heap.size ≤ b83 := Nat.le_trans O3_.1 (Nat.le_of_eq hb83.symm)
      have O83_ : Ext Z.heap h83 := extTr O3_ E83
      have F83_name : Fld Z h83 b83 "com/example/wary_lock/warylock/Lease" "name" "Ljava/lang/String;" .null := D83 (Or.inr (hw _ (List.mem_of_getElem? (i := 110) rfl))) (ty := (.object "java/lang/String")) pf_Ljava_lang_String_
      have F83_owner : Fld Z h83 b83 "com/example/wary_lock/warylock/Lease" "owner" "Ljava/lang/String;" .null := D83 (Or.inr (hw _ (List.mem_of_getElem? (i := 112) rfl))) (ty := (.object "java/lang/String")) pf_Ljava_lang_String_
      have F83_token : Fld Z h83 b83 "com/example/wary_lock/warylock/Lease" "token" "J" (.long (0 : Int64)) := D83 (Or.inr (hw _ (List.mem_of_getElem? (i := 114) rfl))) (ty := .long) pf_J
      have F83_ttlMs : Fld Z h83 b83 "com/example/wary_lock/warylock/Lease" "ttlMs" "J" (.long (0 : Int64)) := D83 (Or.inr (hw _ (List.mem_of_getElem? (i := 116) rfl))) (ty := .long) pf_J
      have F83_expiresAt : Fld Z h83 b83 "com/example/wary_lock/warylock/Lease" "expiresAt" "Ljava/time/Instant;" .null := D83 (Or.inr (hw _ (List.mem_of_getElem? (i := 118) rfl))) (ty := (.object "java/time/Instant")) pf_Ljava_time_Instant_
      have F83_expiresInMs : Fld Z h83 b83 "com/example/wary_lock/warylock/Lease" "expiresInMs" "J" (.long (0 : Int64)) := D83 (Or.inr (hw _ (List.mem_of_getElem? (i := 120) rfl))) (ty := .long) pf_J
      have F83_limit : Fld Z h83 b83 "com/example/wary_lock/warylock/Lease" "limit" "I" (.int (0 : Int32)) := D83 (Or.inr (hw _ (List.mem_of_getElem? (i := 122) rfl))) (ty := .int) pf_I
      have F83_mode : Fld Z h83 b83 "com/example/wary_lock/warylock/Lease" "mode" "Lcom/example/wary_lock/warylock/LockMode;" .null := D83 (Or.inr (hw _ (List.mem_of_getElem? (i := 124) rfl))) (ty := (.object "com/example/wary_lock/warylock/LockMode")) pf_Lcom_example_wary_lock_warylock_LockMode_
      show Go _ _ _ _ _ _ _ _ T83 (mkF m 79 #[.val (.int x0), .val (.int x1), .val (.int x2), .val (.long x3), .second, .val (.long x4), .second, .val (.int x5), .val (.int (3 : Int32)), .val (.ref m0), .val (.ref m1), .val (.ref m2), .val (.ref b2), .unset, .unset] [(.ref b83), (.ref b2)])
      refine Go.step (fun _ kt_ => XS.dup X83.here hx rfl (hb hby at_79) rfl rfl kt_) ?_
      show Go _ _ _ _ _ _ _ _ T83 (mkF m 80 #[.val (.int x0), .val (.int x1), .val (.int x2), .val (.long x3), .second, .val (.long x4), .second, .val (.int x5), .val (.int (3 : Int32)), .val (.ref m0), .val (.ref m1), .val (.ref m2), .val (.ref b2), .unset, .unset] [(.ref b83), (.ref b83), (.ref b2)])
      obtain ⟨a84, T84, h84, k84, X84, e84, E84, S84, kq84, hZ84, hown84, st84⟩ := ldcS X83 hx hZc1 hownc1 (hw _ (List.mem_of_getElem? (i := 96) rfl)) wS e83 Sc1 (Nat.le_trans (Nat.le_trans (Nat.le_trans kkc1 E2.1) Kq3.1) E83.1) (g := (mkF m 80 #[.val (.int x0), .val (.int x1), .val (.int x2), .val (.long x3), .second, .val (.long x4), .second, .val (.int x5), .val (.int (3 : Int32)), .val (.ref m0), .val (.ref m1), .val (.ref m2), .val (.ref b2), .unset, .unset] [(.ref b83), (.ref b83), (.ref b2)])) rfl (hb hby at_80) (n := 4) (by decide) (by decide) (by decide) (by decide)
      have O84_ : Ext Z.heap h84 := extTr O83_ E84
      refine Go.step st84 ?_
      show Go _ _ _ _ _ _ _ _ T84 (mkF m 82 #[.val (.int x0), .val (.int x1), .val (.int x2), .val (.long x3), .second, .val (.long x4), .second, .val (.int x5), .val (.int (3 : Int32)), .val (.ref m0), .val (.ref m1), .val (.ref m2), .val (.ref b2), .unset, .unset] [(.ref a84), (.ref b83), (.ref b83), (.ref b2)])
      obtain ⟨a85, T85, h85, k85, X85, e85, E85, S85, kq85, hZ85, hown85, st85⟩ := ldcS X84 hx hZ84 hown84 (hw _ (List.mem_of_getElem? (i := 104) rfl)) wS e84 S84 kq84 (g := (mkF m 82 #[.val (.int x0), .val (.int x1), .val (.int x2), .val (.long x3), .second, .val (.long x4), .second, .val (.int x5), .val (.int (3 : Int32)), .val (.ref m0), .val (.ref m1), .val (.ref m2), .val (.ref b2), .unset, .unset] [(.ref a84), (.ref b83), (.ref b83), (.ref b2)])) rfl (hb hby at_82) (n := 4) (by decide) (by decide) (by decide) (by decide)
      have O85_ : Ext Z.heap h85 := extTr O84_ E85
      refine Go.step st85 ?_
      show Go _ _ _ _ _ _ _ _ T85 (mkF m 84 #[.val (.int x0), .val (.int x1), .val (.int x2), .val (.long x3), .second, .val (.long x4), .second, .val (.int x5), .val (.int (3 : Int32)), .val (.ref m0), .val (.ref m1), .val (.ref m2), .val (.ref b2), .unset, .unset] [(.ref a85), (.ref a84), (.ref b83), (.ref b83), (.ref b2)])
      refine Go.step (fun _ kt_ => XS.lloadN X85.here hx rfl (hb hby at_84) rfl kt_) ?_
      show Go _ _ _ _ _ _ _ _ T85 (mkF m 85 #[.val (.int x0), .val (.int x1), .val (.int x2), .val (.long x3), .second, .val (.long x4), .second, .val (.int x5), .val (.int (3 : Int32)), .val (.ref m0), .val (.ref m1), .val (.ref m2), .val (.ref b2), .unset, .unset] [(.long x3), (.ref a85), (.ref a84), (.ref b83), (.ref b83), (.ref b2)])
      refine Go.step (fun _ kt_ => XS.lload X85.here hx rfl (hb hby at_85) rfl kt_) ?_
      show Go _ _ _ _ _ _ _ _ T85 (mkF m 87 #[.val (.int x0), .val (.int x1), .val (.int x2), .val (.long x3), .second, .val (.long x4), .second, .val (.int x5), .val (.int (3 : Int32)), .val (.ref m0), .val (.ref m1), .val (.ref m2), .val (.ref b2), .unset, .unset] [(.long x4), (.long x3), (.ref a85), (.ref a84), (.ref b83), (.ref b83), (.ref b2)])
      refine Go.step (fun _ kt_ => XS.aconstNull X85.here hx rfl (hb hby at_87)  kt_) ?_
      show Go _ _ _ _ _ _ _ _ T85 (mkF m 88 #[.val (.int x0), .val (.int x1), .val (.int x2), .val (.long x3), .second, .val (.long x4), .second, .val (.int x5), .val (.int (3 : Int32)), .val (.ref m0), .val (.ref m1), .val (.ref m2), .val (.ref b2), .unset, .unset] [.null, (.long x4), (.long x3), (.ref a85), (.ref a84), (.ref b83), (.ref b83), (.ref b2)])
      refine Go.step (fun _ kt_ => XS.lload X85.here hx rfl (hb hby at_88) rfl kt_) ?_
      show Go _ _ _ _ _ _ _ _ T85 (mkF m 90 #[.val (.int x0), .val (.int x1), .val (.int x2), .val (.long x3), .second, .val (.long x4), .second, .val (.int x5), .val (.int (3 : Int32)), .val (.ref m0), .val (.ref m1), .val (.ref m2), .val (.ref b2), .unset, .unset] [(.long x4), .null, (.long x4), (.long x3), (.ref a85), (.ref a84), (.ref b83), (.ref b83), (.ref b2)])
      refine Go.step (fun _ kt_ => XS.iloadN X85.here hx rfl (hb hby at_90) rfl kt_) ?_
      show Go _ _ _ _ _ _ _ _ T85 (mkF m 91 #[.val (.int x0), .val (.int x1), .val (.int x2), .val (.long x3), .second, .val (.long x4), .second, .val (.int x5), .val (.int (3 : Int32)), .val (.ref m0), .val (.ref m1), .val (.ref m2), .val (.ref b2), .unset, .unset] [(.int x1), (.long x4), .null, (.long x4), (.long x3), (.ref a85), (.ref a84), (.ref b83), (.ref b83), (.ref b2)])
      refine Go.step (fun _ kt_ => XS.aload X85.here hx rfl (hb hby at_91) rfl rfl kt_) ?_
      show Go _ _ _ _ _ _ _ _ T85 (mkF m 93 #[.val (.int x0), .val (.int x1), .val (.int x2), .val (.long x3), .second, .val (.long x4), .second, .val (.int x5), .val (.int (3 : Int32)), .val (.ref m0), .val (.ref m1), .val (.ref m2), .val (.ref b2), .unset, .unset] [(.ref m0), (.int x1), (.long x4), .null, (.long x4), (.long x3), (.ref a85), (.ref a84), (.ref b83), (.ref b83), (.ref b2)])
      have f86 := (Fld.ext E85 (Fld.ext E84 F83_expiresAt))
      have f87 := (Fld.ext E85 (Fld.ext E84 F83_expiresInMs))
      obtain ⟨_, _, ⟨T88, L88, k88, n88⟩, -, X88, ⟨Lc88, hQ88, l88, y88, z88⟩, st88⟩ := X85.specialBack hx (y := (⟨"com/example/wary_lock/warylock/Lease", "<init>", "(Ljava/lang/String;Ljava/lang/String;JJLjava/time/Instant;JILcom/example/wary_lock/warylock/LockMode;)V"⟩ : MethodName)) rfl hown85 (mvT hZ85 (hw _ (List.mem_of_getElem? (i := 105) rfl))) (mvT hZ85 (hw _ (List.mem_of_getElem? (i := 106) rfl))) (mvT hZ85 (hw _ (List.mem_of_getElem? (i := 107) rfl))) (by decide) (backOf (W := 2) (rm_a13_0 l Z a0 hw [] dc kdc el ee kee ca cc eo mo G_dc G_dce G_dcv G_el G_ele G_elf G_eev G_hi G_ca G_bx G_eo G_eoe G_mo b83 a84 a85 x3 x4 x4 x1 m0 (0 : Int64) (0 : Int64) (0 : Int64) (0 : Int32) h85 O85_ (Exa.ext E85 (Exa.ext E84 A83)) (Fld.ext E85 (Fld.ext E84 F83_name)) g_b83 (Fld.ext E85 (Fld.ext E84 F83_owner)) (Fld.ext E85 (Fld.ext E84 F83_token)) (Fld.ext E85 (Fld.ext E84 F83_ttlMs)) f86 f87 (Fld.ext E85 (Fld.ext E84 F83_limit)) (Fld.ext E85 (Fld.ext E84 F83_mode))) hZ85 (hw _ (List.mem_of_getElem? (i := 107) rfl)) (hw _ (List.mem_of_getElem? (i := 95) rfl)) (by decide) (by decide)) (g := (mkF m 93 #[.val (.int x0), .val (.int x1), .val (.int x2), .val (.long x3), .second, .val (.long x4), .second, .val (.int x5), .val (.int (3 : Int32)), .val (.ref m0), .val (.ref m1), .val (.ref m2), .val (.ref b2), .unset, .unset] [(.ref m0), (.int x1), (.long x4), .null, (.long x4), (.long x3), (.ref a85), (.ref a84), (.ref b83), (.ref b83), (.ref b2)])) rfl (by rw [hml]; rfl) (Steps.refl _) (a := b83) (argsL := [(.ref a84), (.ref a85), (.long x3), (.long x4), .null, (.long x4), (.int x1), (.ref m0)]) (rest := [(.ref b83), (.ref b2)]) (lenOf pd_LLjava_lang_String_Ljava_lang_String_JJLjava_time_Instant_JILcom_example_wary_lock_warylock_LockMode_RV rfl) rfl (by show 2 * 0 + _ ≤ _; exact Nat.le_of_eq rfl) (hb hby at_93) (fun _ _ => ⟨rfl, e85, (by decide : 6 + 0 ≤ _), (by decide : 27 + 0 ≤ _)⟩)
      dsimp only [Pt.U, Pt.locs, Pt.cells, Pt.slots] at X88 l88 y88 z88 st88 hQ88
      subst l88 y88 z88
      obtain ⟨rfl, Nq88, Kq88, p88_0, p88_1, p88_2, p88_3, p88_4, p88_5, p88_6, p88_7⟩ := hQ88
      have O88_ : Ext Z.heap T88.heap := extKeep O85_ Kq88 (allS g_b83 all0)
      have N88_ := Fr.app N3_ Nq88
      refine Go.trans st88 ?_
      show Go _ _ _ _ _ _ _ _ T88 (mkF m 96 #[.val (.int x0), .val (.int x1), .val (.int x2), .val (.long x3), .second, .val (.long x4), .second, .val (.int x5), .val (.int (3 : Int32)), .val (.ref m0), .val (.ref m1), .val (.ref m2), .val (.ref b2), .unset, .unset] [(.ref b83), (.ref b2)])
      have f89 := ((Exa.ext E85 (Exa.ext E84 (Exa.ext E83 (A2.keep Kq3)))).keep Kq88)
      have f90 := ((Fld.ext E85 (Fld.ext E84 (Fld.ext E83 p3_0))).keep Kq88 (ninS (Nat.ne_of_lt (Nat.lt_of_lt_of_le (A2.keep Kq3).lt (Nat.le_of_eq hb83.symm))) nin0))
      have f91 := ((Fld.ext E85 (Fld.ext E84 (Fld.ext E83 p3_1))).keep Kq88 (ninS (Nat.ne_of_lt (Nat.lt_of_lt_of_le (A2.keep Kq3).lt (Nat.le_of_eq hb83.symm))) nin0))
      have f92 := ((Fld.ext E85 (Fld.ext E84 (Fld.ext E83 p3_2))).keep Kq88 (ninS (Nat.ne_of_lt (Nat.lt_of_lt_of_le (A2.keep Kq3).lt (Nat.le_of_eq hb83.symm))) nin0))
      have f93 := ((Exa.ext E85 (Exa.ext E84 A83)).keep Kq88)
      obtain ⟨cq94, kq94, q94a, q94b, q94c⟩ := isOf hZ85 rfl f89
      obtain ⟨_, _, ⟨T94, L94, k94, n94⟩, -, X94, ⟨Lc94, hQ94, l94, y94, z94⟩, st94⟩ := X88.virtualBack hx (y := (⟨"java/util/ArrayList", "add", "(Ljava/lang/Object;)Z"⟩ : MethodName)) (z := (⟨"java/util/ArrayList", "add", "(Ljava/lang/Object;)Z"⟩ : MethodName)) hown85 (mvT hZ85 (hw _ (List.mem_of_getElem? (i := 125) rfl))) (mvT hZ85 (hw _ (List.mem_of_getElem? (i := 126) rfl))) (notFace_of_selects (args := #[]) (mvT hZ85 (hw _ (List.mem_of_getElem? (i := 128) rfl)))) (mvT hZ85 (hw _ (List.mem_of_getElem? (i := 128) rfl))) (mvT hZ85 (hw _ (List.mem_of_getElem? (i := 127) rfl))) (by decide) (backOf (W := 0) (rm_a14_0 l Z a0 hw [] dc kdc el ee kee ca cc eo mo G_dc G_dce G_dcv G_el G_ele G_elf G_eev G_hi G_ca G_bx G_eo G_eoe G_mo b2 b83 T88.heap O88_ f90 f89 g_b2 f91 f92 f93) hZ85 (hw _ (List.mem_of_getElem? (i := 129) rfl)) (hw _ (List.mem_of_getElem? (i := 7) rfl)) (by decide) (by decide)) q94a q94c (g := (mkF m 96 #[.val (.int x0), .val (.int x1), .val (.int x2), .val (.long x3), .second, .val (.long x4), .second, .val (.int x5), .val (.int (3 : Int32)), .val (.ref m0), .val (.ref m1), .val (.ref m2), .val (.ref b2), .unset, .unset] [(.ref b83), (.ref b2)])) rfl (by rw [hml]; rfl) (Steps.refl _) (argsL := [(.ref b83)]) (rest := []) (lenOf pd_LLjava_lang_Object_RZ rfl) rfl (by show 2 * 0 + _ ≤ _; exact Nat.le_of_eq rfl) (hb hby at_96) (fun _ _ => ⟨rfl, rfl, (by decide : 6 + 1 ≤ _), (by decide : 27 + 10 ≤ _)⟩)
      dsimp only [Pt.U, Pt.locs, Pt.cells, Pt.slots] at X94 l94 y94 z94 st94 hQ94
      subst l94 y94 z94
      obtain ⟨b6q2q2q5q94, k6q2q2q5q94, rfl, Nq94, Kq94, p94_0, p94_1, p94_2, p94_3, p94_4, p94_5, p94_6⟩ := hQ94
      have O94_ : Ext Z.heap T94.heap := extKeep O88_ Kq94 (allS g_b2 all0)
      have N94_ := Fr.app N88_ Nq94
      have g_b6q2q2q5q94 : Z.heap.size ≤ b6q2q2q5q94 := Nat.le_trans O88_.1 p94_3
      refine Go.trans st94 ?_
      show Go _ _ _ _ _ _ _ _ T94 (mkF m 99 #[.val (.int x0), .val (.int x1), .val (.int x2), .val (.long x3), .second, .val (.long x4), .second, .val (.int x5), .val (.int (3 : Int32)), .val (.ref m0), .val (.ref m1), .val (.ref m2), .val (.ref b2), .unset, .unset] [(.int (1 : Int32))])
      refine Go.step (fun _ kt_ => XS.pop X94.here hx rfl (hb hby at_99) rfl rfl kt_) ?_
      show Go _ _ _ _ _ _ _ _ T94 (mkF m 100 #[.val (.int x0), .val (.int x1), .val (.int x2), .val (.long x3), .second, .val (.long x4), .second, .val (.int x5), .val (.int (3 : Int32)), .val (.ref m0), .val (.ref m1), .val (.ref m2), .val (.ref b2), .unset, .unset] [])
      refine Go.step (fun _ kt_ => XS.iload X94.here hx rfl (hb hby at_100) rfl kt_) ?_
      show Go _ _ _ _ _ _ _ _ T94 (mkF m 102 #[.val (.int x0), .val (.int x1), .val (.int x2), .val (.long x3), .second, .val (.long x4), .second, .val (.int x5), .val (.int (3 : Int32)), .val (.ref m0), .val (.ref m1), .val (.ref m2), .val (.ref b2), .unset, .unset] [(.int (3 : Int32))])
      refine Go.step (fun _ kt_ => XS.iconst X94.here hx rfl (hb hby at_102)  kt_) ?_
      show Go _ _ _ _ _ _ _ _ T94 (mkF m 103 #[.val (.int x0), .val (.int x1), .val (.int x2), .val (.long x3), .second, .val (.long x4), .second, .val (.int x5), .val (.int (3 : Int32)), .val (.ref m0), .val (.ref m1), .val (.ref m2), .val (.ref b2), .unset, .unset] [(.int (2 : Int32)), (.int (3 : Int32))])
      refine Go.step (fun _ kt_ => XS.icmpNo X94.here hx rfl (hb hby at_103) rfl (flt (by decide : ¬ ((3 : Int32) < (2 : Int32)))).1 kt_) ?_
      show Go _ _ _ _ _ _ _ _ T94 (mkF m 106 #[.val (.int x0), .val (.int x1), .val (.int x2), .val (.long x3), .second, .val (.long x4), .second, .val (.int x5), .val (.int (3 : Int32)), .val (.ref m0), .val (.ref m1), .val (.ref m2), .val (.ref b2), .unset, .unset] [])
      refine Go.step (fun _ kt_ => XS.aload X94.here hx rfl (hb hby at_106) rfl rfl kt_) ?_
      show Go _ _ _ _ _ _ _ _ T94 (mkF m 108 #[.val (.int x0), .val (.int x1), .val (.int x2), .val (.long x3), .second, .val (.long x4), .second, .val (.int x5), .val (.int (3 : Int32)), .val (.ref m0), .val (.ref m1), .val (.ref m2), .val (.ref b2), .unset, .unset] [(.ref b2)])
      obtain ⟨T95, h95, X95, e95, E95, A95, D95, U95, st95⟩ := newO X94 hx hZ85 hown85 (hw _ (List.mem_of_getElem? (i := 93) rfl)) (hw _ (List.mem_of_getElem? (i := 94) rfl)) (hw _ (List.mem_of_getElem? (i := 95) rfl)) rfl (g := (mkF m 108 #[.val (.int x0), .val (.int x1), .val (.int x2), .val (.long x3), .second, .val (.long x4), .second, .val (.int x5), .val (.int (3 : Int32)), .val (.ref m0), .val (.ref m1), .val (.ref m2), .val (.ref b2), .unset, .unset] [(.ref b2)])) rfl (hb hby at_108) (by decide) (by decide)
      obtain ⟨b95, hb95⟩ : ∃ z, z = T94.heap.size := ⟨_, rfl⟩
      rw [← hb95] at A95 D95 U95 st95
      refine Go.step st95 ?_
      have g_b95 : Z.heap.size ≤ b95 := Nat.le_trans O94_.1 (Nat.le_of_eq hb95.symm)
      have O95_ : Ext Z.heap h95 := extTr O94_ E95
      have F95_name : Fld Z h95 b95 "com/example/wary_lock/warylock/Lease" "name" "Ljava/lang/String;" .null := D95 (Or.inr (hw _ (List.mem_of_getElem? (i := 110) rfl))) (ty := (.object "java/lang/String")) pf_Ljava_lang_String_
      have F95_owner : Fld Z h95 b95 "com/example/wary_lock/warylock/Lease" "owner" "Ljava/lang/String;" .null := D95 (Or.inr (hw _ (List.mem_of_getElem? (i := 112) rfl))) (ty := (.object "java/lang/String")) pf_Ljava_lang_String_
      have F95_token : Fld Z h95 b95 "com/example/wary_lock/warylock/Lease" "token" "J" (.long (0 : Int64)) := D95 (Or.inr (hw _ (List.mem_of_getElem? (i := 114) rfl))) (ty := .long) pf_J
      have F95_ttlMs : Fld Z h95 b95 "com/example/wary_lock/warylock/Lease" "ttlMs" "J" (.long (0 : Int64)) := D95 (Or.inr (hw _ (List.mem_of_getElem? (i := 116) rfl))) (ty := .long) pf_J
      have F95_expiresAt : Fld Z h95 b95 "com/example/wary_lock/warylock/Lease" "expiresAt" "Ljava/time/Instant;" .null := D95 (Or.inr (hw _ (List.mem_of_getElem? (i := 118) rfl))) (ty := (.object "java/time/Instant")) pf_Ljava_time_Instant_
      have F95_expiresInMs : Fld Z h95 b95 "com/example/wary_lock/warylock/Lease" "expiresInMs" "J" (.long (0 : Int64)) := D95 (Or.inr (hw _ (List.mem_of_getElem? (i := 120) rfl))) (ty := .long) pf_J
      have F95_limit : Fld Z h95 b95 "com/example/wary_lock/warylock/Lease" "limit" "I" (.int (0 : Int32)) := D95 (Or.inr (hw _ (List.mem_of_getElem? (i := 122) rfl))) (ty := .int) pf_I
      have F95_mode : Fld Z h95 b95 "com/example/wary_lock/warylock/Lease" "mode" "Lcom/example/wary_lock/warylock/LockMode;" .null := D95 (Or.inr (hw _ (List.mem_of_getElem? (i := 124) rfl))) (ty := (.object "com/example/wary_lock/warylock/LockMode")) pf_Lcom_example_wary_lock_warylock_LockMode_
      show Go _ _ _ _ _ _ _ _ T95 (mkF m 111 #[.val (.int x0), .val (.int x1), .val (.int x2), .val (.long x3), .second, .val (.long x4), .second, .val (.int x5), .val (.int (3 : Int32)), .val (.ref m0), .val (.ref m1), .val (.ref m2), .val (.ref b2), .unset, .unset] [(.ref b95), (.ref b2)])
      refine Go.step (fun _ kt_ => XS.dup X95.here hx rfl (hb hby at_111) rfl rfl kt_) ?_
      show Go _ _ _ _ _ _ _ _ T95 (mkF m 112 #[.val (.int x0), .val (.int x1), .val (.int x2), .val (.long x3), .second, .val (.long x4), .second, .val (.int x5), .val (.int (3 : Int32)), .val (.ref m0), .val (.ref m1), .val (.ref m2), .val (.ref b2), .unset, .unset] [(.ref b95), (.ref b95), (.ref b2)])
      obtain ⟨a96, T96, h96, k96, X96, e96, E96, S96, kq96, hZ96, hown96, st96⟩ := ldcS X95 hx hZ85 hown85 (hw _ (List.mem_of_getElem? (i := 96) rfl)) wS e95 S85 (Nat.le_trans (Nat.le_trans (Nat.le_trans kq85 Kq88.1) Kq94.1) E95.1) (g := (mkF m 112 #[.val (.int x0), .val (.int x1), .val (.int x2), .val (.long x3), .second, .val (.long x4), .second, .val (.int x5), .val (.int (3 : Int32)), .val (.ref m0), .val (.ref m1), .val (.ref m2), .val (.ref b2), .unset, .unset] [(.ref b95), (.ref b95), (.ref b2)])) rfl (hb hby at_112) (n := 4) (by decide) (by decide) (by decide) (by decide)
      have O96_ : Ext Z.heap h96 := extTr O95_ E96
      refine Go.step st96 ?_
      show Go _ _ _ _ _ _ _ _ T96 (mkF m 114 #[.val (.int x0), .val (.int x1), .val (.int x2), .val (.long x3), .second, .val (.long x4), .second, .val (.int x5), .val (.int (3 : Int32)), .val (.ref m0), .val (.ref m1), .val (.ref m2), .val (.ref b2), .unset, .unset] [(.ref a96), (.ref b95), (.ref b95), (.ref b2)])
      obtain ⟨a97, T97, h97, k97, X97, e97, E97, S97, kq97, hZ97, hown97, st97⟩ := ldcS X96 hx hZ96 hown96 (hw _ (List.mem_of_getElem? (i := 154) rfl)) wS e96 S96 kq96 (g := (mkF m 114 #[.val (.int x0), .val (.int x1), .val (.int x2), .val (.long x3), .second, .val (.long x4), .second, .val (.int x5), .val (.int (3 : Int32)), .val (.ref m0), .val (.ref m1), .val (.ref m2), .val (.ref b2), .unset, .unset] [(.ref a96), (.ref b95), (.ref b95), (.ref b2)])) rfl (hb hby at_114) (n := 4) (by decide) (by decide) (by decide) (by decide)
      have O97_ : Ext Z.heap h97 := extTr O96_ E97
      refine Go.step st97 ?_
      show Go _ _ _ _ _ _ _ _ T97 (mkF m 116 #[.val (.int x0), .val (.int x1), .val (.int x2), .val (.long x3), .second, .val (.long x4), .second, .val (.int x5), .val (.int (3 : Int32)), .val (.ref m0), .val (.ref m1), .val (.ref m2), .val (.ref b2), .unset, .unset] [(.ref a97), (.ref a96), (.ref b95), (.ref b95), (.ref b2)])
      refine Go.step (fun _ kt_ => XS.lloadN X97.here hx rfl (hb hby at_116) rfl kt_) ?_
      show Go _ _ _ _ _ _ _ _ T97 (mkF m 117 #[.val (.int x0), .val (.int x1), .val (.int x2), .val (.long x3), .second, .val (.long x4), .second, .val (.int x5), .val (.int (3 : Int32)), .val (.ref m0), .val (.ref m1), .val (.ref m2), .val (.ref b2), .unset, .unset] [(.long x3), (.ref a97), (.ref a96), (.ref b95), (.ref b95), (.ref b2)])
      refine Go.step (fun _ kt_ => XS.lconst X97.here hx rfl (hb hby at_117)  kt_) ?_
      show Go _ _ _ _ _ _ _ _ T97 (mkF m 118 #[.val (.int x0), .val (.int x1), .val (.int x2), .val (.long x3), .second, .val (.long x4), .second, .val (.int x5), .val (.int (3 : Int32)), .val (.ref m0), .val (.ref m1), .val (.ref m2), .val (.ref b2), .unset, .unset] [(.long (1 : Int64)), (.long x3), (.ref a97), (.ref a96), (.ref b95), (.ref b95), (.ref b2)])
      refine Go.step (fun _ kt_ => XS.ladd X97.here hx rfl (hb hby at_118) rfl kt_) ?_
      show Go _ _ _ _ _ _ _ _ T97 (mkF m 119 #[.val (.int x0), .val (.int x1), .val (.int x2), .val (.long x3), .second, .val (.long x4), .second, .val (.int x5), .val (.int (3 : Int32)), .val (.ref m0), .val (.ref m1), .val (.ref m2), .val (.ref b2), .unset, .unset] [(.long (x3 + (1 : Int64))), (.ref a97), (.ref a96), (.ref b95), (.ref b95), (.ref b2)])
      refine Go.step (fun _ kt_ => XS.lload X97.here hx rfl (hb hby at_119) rfl kt_) ?_
      show Go _ _ _ _ _ _ _ _ T97 (mkF m 121 #[.val (.int x0), .val (.int x1), .val (.int x2), .val (.long x3), .second, .val (.long x4), .second, .val (.int x5), .val (.int (3 : Int32)), .val (.ref m0), .val (.ref m1), .val (.ref m2), .val (.ref b2), .unset, .unset] [(.long x4), (.long (x3 + (1 : Int64))), (.ref a97), (.ref a96), (.ref b95), (.ref b95), (.ref b2)])
      refine Go.step (fun _ kt_ => XS.aconstNull X97.here hx rfl (hb hby at_121)  kt_) ?_
      show Go _ _ _ _ _ _ _ _ T97 (mkF m 122 #[.val (.int x0), .val (.int x1), .val (.int x2), .val (.long x3), .second, .val (.long x4), .second, .val (.int x5), .val (.int (3 : Int32)), .val (.ref m0), .val (.ref m1), .val (.ref m2), .val (.ref b2), .unset, .unset] [.null, (.long x4), (.long (x3 + (1 : Int64))), (.ref a97), (.ref a96), (.ref b95), (.ref b95), (.ref b2)])
      refine Go.step (fun _ kt_ => XS.iloadN X97.here hx rfl (hb hby at_122) rfl kt_) ?_
      show Go _ _ _ _ _ _ _ _ T97 (mkF m 123 #[.val (.int x0), .val (.int x1), .val (.int x2), .val (.long x3), .second, .val (.long x4), .second, .val (.int x5), .val (.int (3 : Int32)), .val (.ref m0), .val (.ref m1), .val (.ref m2), .val (.ref b2), .unset, .unset] [(.int x2), .null, (.long x4), (.long (x3 + (1 : Int64))), (.ref a97), (.ref a96), (.ref b95), (.ref b95), (.ref b2)])
      refine Go.step (fun _ kt_ => XS.i2l X97.here hx rfl (hb hby at_123) rfl kt_) ?_
      show Go _ _ _ _ _ _ _ _ T97 (mkF m 124 #[.val (.int x0), .val (.int x1), .val (.int x2), .val (.long x3), .second, .val (.long x4), .second, .val (.int x5), .val (.int (3 : Int32)), .val (.ref m0), .val (.ref m1), .val (.ref m2), .val (.ref b2), .unset, .unset] [(.long (x2.toInt64)), .null, (.long x4), (.long (x3 + (1 : Int64))), (.ref a97), (.ref a96), (.ref b95), (.ref b95), (.ref b2)])
      refine Go.step (fun _ kt_ => XS.iloadN X97.here hx rfl (hb hby at_124) rfl kt_) ?_
      show Go _ _ _ _ _ _ _ _ T97 (mkF m 125 #[.val (.int x0), .val (.int x1), .val (.int x2), .val (.long x3), .second, .val (.long x4), .second, .val (.int x5), .val (.int (3 : Int32)), .val (.ref m0), .val (.ref m1), .val (.ref m2), .val (.ref b2), .unset, .unset] [(.int x1), (.long (x2.toInt64)), .null, (.long x4), (.long (x3 + (1 : Int64))), (.ref a97), (.ref a96), (.ref b95), (.ref b95), (.ref b2)])
      refine Go.step (fun _ kt_ => XS.aload X97.here hx rfl (hb hby at_125) rfl rfl kt_) ?_
      show Go _ _ _ _ _ _ _ _ T97 (mkF m 127 #[.val (.int x0), .val (.int x1), .val (.int x2), .val (.long x3), .second, .val (.long x4), .second, .val (.int x5), .val (.int (3 : Int32)), .val (.ref m0), .val (.ref m1), .val (.ref m2), .val (.ref b2), .unset, .unset] [(.ref m1), (.int x1), (.long (x2.toInt64)), .null, (.long x4), (.long (x3 + (1 : Int64))), (.ref a97), (.ref a96), (.ref b95), (.ref b95), (.ref b2)])
      have f98 := (Fld.ext E97 (Fld.ext E96 F95_expiresAt))
      have f99 := (Fld.ext E97 (Fld.ext E96 F95_expiresInMs))
      obtain ⟨_, _, ⟨T100, L100, k100, n100⟩, -, X100, ⟨Lc100, hQ100, l100, y100, z100⟩, st100⟩ := X97.specialBack hx (y := (⟨"com/example/wary_lock/warylock/Lease", "<init>", "(Ljava/lang/String;Ljava/lang/String;JJLjava/time/Instant;JILcom/example/wary_lock/warylock/LockMode;)V"⟩ : MethodName)) rfl hown97 (mvT hZ97 (hw _ (List.mem_of_getElem? (i := 105) rfl))) (mvT hZ97 (hw _ (List.mem_of_getElem? (i := 106) rfl))) (mvT hZ97 (hw _ (List.mem_of_getElem? (i := 107) rfl))) (by decide) (backOf (W := 2) (rm_a13_0 l Z a0 hw [] dc kdc el ee kee ca cc eo mo G_dc G_dce G_dcv G_el G_ele G_elf G_eev G_hi G_ca G_bx G_eo G_eoe G_mo b95 a96 a97 (x3 + (1 : Int64)) x4 (x2.toInt64) x1 m1 (0 : Int64) (0 : Int64) (0 : Int64) (0 : Int32) h97 O97_ (Exa.ext E97 (Exa.ext E96 A95)) (Fld.ext E97 (Fld.ext E96 F95_name)) g_b95 (Fld.ext E97 (Fld.ext E96 F95_owner)) (Fld.ext E97 (Fld.ext E96 F95_token)) (Fld.ext E97 (Fld.ext E96 F95_ttlMs)) f98 f99 (Fld.ext E97 (Fld.ext E96 F95_limit)) (Fld.ext E97 (Fld.ext E96 F95_mode))) hZ97 (hw _ (List.mem_of_getElem? (i := 107) rfl)) (hw _ (List.mem_of_getElem? (i := 95) rfl)) (by decide) (by decide)) (g := (mkF m 127 #[.val (.int x0), .val (.int x1), .val (.int x2), .val (.long x3), .second, .val (.long x4), .second, .val (.int x5), .val (.int (3 : Int32)), .val (.ref m0), .val (.ref m1), .val (.ref m2), .val (.ref b2), .unset, .unset] [(.ref m1), (.int x1), (.long (x2.toInt64)), .null, (.long x4), (.long (x3 + (1 : Int64))), (.ref a97), (.ref a96), (.ref b95), (.ref b95), (.ref b2)])) rfl (by rw [hml]; rfl) (Steps.refl _) (a := b95) (argsL := [(.ref a96), (.ref a97), (.long (x3 + (1 : Int64))), (.long x4), .null, (.long (x2.toInt64)), (.int x1), (.ref m1)]) (rest := [(.ref b95), (.ref b2)]) (lenOf pd_LLjava_lang_String_Ljava_lang_String_JJLjava_time_Instant_JILcom_example_wary_lock_warylock_LockMode_RV rfl) rfl (by show 2 * 0 + _ ≤ _; exact Nat.le_of_eq rfl) (hb hby at_127) (fun _ _ => ⟨rfl, e97, (by decide : 12 + 0 ≤ _), (by decide : 61 + 0 ≤ _)⟩)
      dsimp only [Pt.U, Pt.locs, Pt.cells, Pt.slots] at X100 l100 y100 z100 st100 hQ100
      subst l100 y100 z100
      obtain ⟨rfl, Nq100, Kq100, p100_0, p100_1, p100_2, p100_3, p100_4, p100_5, p100_6, p100_7⟩ := hQ100
      have O100_ : Ext Z.heap T100.heap := extKeep O97_ Kq100 (allS g_b95 all0)
      have N100_ := Fr.app N94_ Nq100
      refine Go.trans st100 ?_
      show Go _ _ _ _ _ _ _ _ T100 (mkF m 130 #[.val (.int x0), .val (.int x1), .val (.int x2), .val (.long x3), .second, .val (.long x4), .second, .val (.int x5), .val (.int (3 : Int32)), .val (.ref m0), .val (.ref m1), .val (.ref m2), .val (.ref b2), .unset, .unset] [(.ref b95), (.ref b2)])
      have f101 := ((Exa.ext E97 (Exa.ext E96 (Exa.ext E95 (f89.keep Kq94)))).keep Kq100)
      have f102 := ((Fld.ext E97 (Fld.ext E96 (Fld.ext E95 p94_2))).keep Kq100 (ninS (Nat.ne_of_lt (Nat.lt_of_lt_of_le (f89.keep Kq94).lt (Nat.le_of_eq hb95.symm))) nin0))
      have f103 := ((Fld.ext E97 (Fld.ext E96 (Fld.ext E95 p94_0))).keep Kq100 (ninS (Nat.ne_of_lt (Nat.lt_of_lt_of_le (f89.keep Kq94).lt (Nat.le_of_eq hb95.symm))) nin0))
      have f104 := ((Fld.ext E97 (Fld.ext E96 (Fld.ext E95 p94_1))).keep Kq100 (ninS (Nat.ne_of_lt (Nat.lt_of_lt_of_le (f89.keep Kq94).lt (Nat.le_of_eq hb95.symm))) nin0))
      have f105 := ((((p94_5.ext E95).ext E96).ext E97).keep Kq100 (ninS (Nat.ne_of_lt (Nat.lt_of_lt_of_le p94_4.lt (Nat.le_of_eq hb95.symm))) nin0))
      have f106 := ((Exa.ext E97 (Exa.ext E96 A95)).keep Kq100)
      obtain ⟨cq107, kq107, q107a, q107b, q107c⟩ := isOf hZ97 rfl f101
      obtain ⟨_, _, ⟨T107, L107, k107, n107⟩, -, X107, ⟨Lc107, hQ107, l107, y107, z107⟩, st107⟩ := X100.virtualBack hx (y := (⟨"java/util/ArrayList", "add", "(Ljava/lang/Object;)Z"⟩ : MethodName)) (z := (⟨"java/util/ArrayList", "add", "(Ljava/lang/Object;)Z"⟩ : MethodName)) hown97 (mvT hZ97 (hw _ (List.mem_of_getElem? (i := 125) rfl))) (mvT hZ97 (hw _ (List.mem_of_getElem? (i := 126) rfl))) (notFace_of_selects (args := #[]) (mvT hZ97 (hw _ (List.mem_of_getElem? (i := 128) rfl)))) (mvT hZ97 (hw _ (List.mem_of_getElem? (i := 128) rfl))) (mvT hZ97 (hw _ (List.mem_of_getElem? (i := 127) rfl))) (by decide) (backOf (W := 0) (rm_a14_1 l Z a0 hw [] dc kdc el ee kee ca cc eo mo G_dc G_dce G_dcv G_el G_ele G_elf G_eev G_hi G_ca G_bx G_eo G_eoe G_mo b2 b95 b6q2q2q5q94 k6q2q2q5q94 b83 T100.heap O100_ f102 f101 g_b2 f103 f104 f105 (Ne.symm (Nat.ne_of_lt (Nat.lt_of_lt_of_le f89.lt p94_3))) p94_6 f106 g_b6q2q2q5q94) hZ97 (hw _ (List.mem_of_getElem? (i := 129) rfl)) (hw _ (List.mem_of_getElem? (i := 7) rfl)) (by decide) (by decide)) q107a q107c (g := (mkF m 130 #[.val (.int x0), .val (.int x1), .val (.int x2), .val (.long x3), .second, .val (.long x4), .second, .val (.int x5), .val (.int (3 : Int32)), .val (.ref m0), .val (.ref m1), .val (.ref m2), .val (.ref b2), .unset, .unset] [(.ref b95), (.ref b2)])) rfl (by rw [hml]; rfl) (Steps.refl _) (argsL := [(.ref b95)]) (rest := []) (lenOf pd_LLjava_lang_Object_RZ rfl) rfl (by show 2 * 0 + _ ≤ _; exact Nat.le_of_eq rfl) (hb hby at_130) (fun _ _ => ⟨rfl, rfl, (by decide : 12 + 0 ≤ _), (by decide : 61 + 0 ≤ _)⟩)
      dsimp only [Pt.U, Pt.locs, Pt.cells, Pt.slots] at X107 l107 y107 z107 st107 hQ107
      subst l107 y107 z107
      obtain ⟨rfl, Nq107, Kq107, p107_0, p107_1, p107_2, p107_3⟩ := hQ107
      have O107_ : Ext Z.heap T107.heap := extKeep O100_ Kq107 (allS g_b2 (allS g_b6q2q2q5q94 all0))
      have N107_ := Fr.app N100_ Nq107
      refine Go.trans st107 ?_
      show Go _ _ _ _ _ _ _ _ T107 (mkF m 133 #[.val (.int x0), .val (.int x1), .val (.int x2), .val (.long x3), .second, .val (.long x4), .second, .val (.int x5), .val (.int (3 : Int32)), .val (.ref m0), .val (.ref m1), .val (.ref m2), .val (.ref b2), .unset, .unset] [(.int (1 : Int32))])
      refine Go.step (fun _ kt_ => XS.pop X107.here hx rfl (hb hby at_133) rfl rfl kt_) ?_
      show Go _ _ _ _ _ _ _ _ T107 (mkF m 134 #[.val (.int x0), .val (.int x1), .val (.int x2), .val (.long x3), .second, .val (.long x4), .second, .val (.int x5), .val (.int (3 : Int32)), .val (.ref m0), .val (.ref m1), .val (.ref m2), .val (.ref b2), .unset, .unset] [])
      refine Go.step (fun _ kt_ => XS.iload X107.here hx rfl (hb hby at_134) rfl kt_) ?_
      show Go _ _ _ _ _ _ _ _ T107 (mkF m 136 #[.val (.int x0), .val (.int x1), .val (.int x2), .val (.long x3), .second, .val (.long x4), .second, .val (.int x5), .val (.int (3 : Int32)), .val (.ref m0), .val (.ref m1), .val (.ref m2), .val (.ref b2), .unset, .unset] [(.int (3 : Int32))])
      refine Go.step (fun _ kt_ => XS.iconst X107.here hx rfl (hb hby at_136)  kt_) ?_
      show Go _ _ _ _ _ _ _ _ T107 (mkF m 137 #[.val (.int x0), .val (.int x1), .val (.int x2), .val (.long x3), .second, .val (.long x4), .second, .val (.int x5), .val (.int (3 : Int32)), .val (.ref m0), .val (.ref m1), .val (.ref m2), .val (.ref b2), .unset, .unset] [(.int (3 : Int32)), (.int (3 : Int32))])
      refine Go.step (fun _ kt_ => XS.icmpNo X107.here hx rfl (hb hby at_137) rfl (flt (by decide : ¬ ((3 : Int32) < (3 : Int32)))).1 kt_) ?_
      show Go _ _ _ _ _ _ _ _ T107 (mkF m 140 #[.val (.int x0), .val (.int x1), .val (.int x2), .val (.long x3), .second, .val (.long x4), .second, .val (.int x5), .val (.int (3 : Int32)), .val (.ref m0), .val (.ref m1), .val (.ref m2), .val (.ref b2), .unset, .unset] [])
      refine Go.step (fun _ kt_ => XS.aload X107.here hx rfl (hb hby at_140) rfl rfl kt_) ?_
      show Go _ _ _ _ _ _ _ _ T107 (mkF m 142 #[.val (.int x0), .val (.int x1), .val (.int x2), .val (.long x3), .second, .val (.long x4), .second, .val (.int x5), .val (.int (3 : Int32)), .val (.ref m0), .val (.ref m1), .val (.ref m2), .val (.ref b2), .unset, .unset] [(.ref b2)])
      obtain ⟨T108, h108, X108, e108, E108, A108, D108, U108, st108⟩ := newO X107 hx hZ97 hown97 (hw _ (List.mem_of_getElem? (i := 93) rfl)) (hw _ (List.mem_of_getElem? (i := 94) rfl)) (hw _ (List.mem_of_getElem? (i := 95) rfl)) rfl (g := (mkF m 142 #[.val (.int x0), .val (.int x1), .val (.int x2), .val (.long x3), .second, .val (.long x4), .second, .val (.int x5), .val (.int (3 : Int32)), .val (.ref m0), .val (.ref m1), .val (.ref m2), .val (.ref b2), .unset, .unset] [(.ref b2)])) rfl (hb hby at_142) (by decide) (by decide)
      obtain ⟨b108, hb108⟩ : ∃ z, z = T107.heap.size := ⟨_, rfl⟩
      rw [← hb108] at A108 D108 U108 st108
      refine Go.step st108 ?_
      have g_b108 : Z.heap.size ≤ b108 := Nat.le_trans O107_.1 (Nat.le_of_eq hb108.symm)
      have O108_ : Ext Z.heap h108 := extTr O107_ E108
      have F108_name : Fld Z h108 b108 "com/example/wary_lock/warylock/Lease" "name" "Ljava/lang/String;" .null := D108 (Or.inr (hw _ (List.mem_of_getElem? (i := 110) rfl))) (ty := (.object "java/lang/String")) pf_Ljava_lang_String_
      have F108_owner : Fld Z h108 b108 "com/example/wary_lock/warylock/Lease" "owner" "Ljava/lang/String;" .null := D108 (Or.inr (hw _ (List.mem_of_getElem? (i := 112) rfl))) (ty := (.object "java/lang/String")) pf_Ljava_lang_String_
      have F108_token : Fld Z h108 b108 "com/example/wary_lock/warylock/Lease" "token" "J" (.long (0 : Int64)) := D108 (Or.inr (hw _ (List.mem_of_getElem? (i := 114) rfl))) (ty := .long) pf_J
      have F108_ttlMs : Fld Z h108 b108 "com/example/wary_lock/warylock/Lease" "ttlMs" "J" (.long (0 : Int64)) := D108 (Or.inr (hw _ (List.mem_of_getElem? (i := 116) rfl))) (ty := .long) pf_J
      have F108_expiresAt : Fld Z h108 b108 "com/example/wary_lock/warylock/Lease" "expiresAt" "Ljava/time/Instant;" .null := D108 (Or.inr (hw _ (List.mem_of_getElem? (i := 118) rfl))) (ty := (.object "java/time/Instant")) pf_Ljava_time_Instant_
      have F108_expiresInMs : Fld Z h108 b108 "com/example/wary_lock/warylock/Lease" "expiresInMs" "J" (.long (0 : Int64)) := D108 (Or.inr (hw _ (List.mem_of_getElem? (i := 120) rfl))) (ty := .long) pf_J
      have F108_limit : Fld Z h108 b108 "com/example/wary_lock/warylock/Lease" "limit" "I" (.int (0 : Int32)) := D108 (Or.inr (hw _ (List.mem_of_getElem? (i := 122) rfl))) (ty := .int) pf_I
      have F108_mode : Fld Z h108 b108 "com/example/wary_lock/warylock/Lease" "mode" "Lcom/example/wary_lock/warylock/LockMode;" .null := D108 (Or.inr (hw _ (List.mem_of_getElem? (i := 124) rfl))) (ty := (.object "com/example/wary_lock/warylock/LockMode")) pf_Lcom_example_wary_lock_warylock_LockMode_
      show Go _ _ _ _ _ _ _ _ T108 (mkF m 145 #[.val (.int x0), .val (.int x1), .val (.int x2), .val (.long x3), .second, .val (.long x4), .second, .val (.int x5), .val (.int (3 : Int32)), .val (.ref m0), .val (.ref m1), .val (.ref m2), .val (.ref b2), .unset, .unset] [(.ref b108), (.ref b2)])
      refine Go.step (fun _ kt_ => XS.dup X108.here hx rfl (hb hby at_145) rfl rfl kt_) ?_
      show Go _ _ _ _ _ _ _ _ T108 (mkF m 146 #[.val (.int x0), .val (.int x1), .val (.int x2), .val (.long x3), .second, .val (.long x4), .second, .val (.int x5), .val (.int (3 : Int32)), .val (.ref m0), .val (.ref m1), .val (.ref m2), .val (.ref b2), .unset, .unset] [(.ref b108), (.ref b108), (.ref b2)])
      obtain ⟨a109, T109, h109, k109, X109, e109, E109, S109, kq109, hZ109, hown109, st109⟩ := ldcS X108 hx hZ97 hown97 (hw _ (List.mem_of_getElem? (i := 96) rfl)) wS e108 S97 (Nat.le_trans (Nat.le_trans (Nat.le_trans kq97 Kq100.1) Kq107.1) E108.1) (g := (mkF m 146 #[.val (.int x0), .val (.int x1), .val (.int x2), .val (.long x3), .second, .val (.long x4), .second, .val (.int x5), .val (.int (3 : Int32)), .val (.ref m0), .val (.ref m1), .val (.ref m2), .val (.ref b2), .unset, .unset] [(.ref b108), (.ref b108), (.ref b2)])) rfl (hb hby at_146) (n := 4) (by decide) (by decide) (by decide) (by decide)
      have O109_ : Ext Z.heap h109 := extTr O108_ E109
      refine Go.step st109 ?_
      show Go _ _ _ _ _ _ _ _ T109 (mkF m 148 #[.val (.int x0), .val (.int x1), .val (.int x2), .val (.long x3), .second, .val (.long x4), .second, .val (.int x5), .val (.int (3 : Int32)), .val (.ref m0), .val (.ref m1), .val (.ref m2), .val (.ref b2), .unset, .unset] [(.ref a109), (.ref b108), (.ref b108), (.ref b2)])
      obtain ⟨a110, T110, h110, k110, X110, e110, E110, S110, kq110, hZ110, hown110, st110⟩ := ldcS X109 hx hZ109 hown109 (hw _ (List.mem_of_getElem? (i := 155) rfl)) wS e109 S109 kq109 (g := (mkF m 148 #[.val (.int x0), .val (.int x1), .val (.int x2), .val (.long x3), .second, .val (.long x4), .second, .val (.int x5), .val (.int (3 : Int32)), .val (.ref m0), .val (.ref m1), .val (.ref m2), .val (.ref b2), .unset, .unset] [(.ref a109), (.ref b108), (.ref b108), (.ref b2)])) rfl (hb hby at_148) (n := 4) (by decide) (by decide) (by decide) (by decide)
      have O110_ : Ext Z.heap h110 := extTr O109_ E110
      refine Go.step st110 ?_
      show Go _ _ _ _ _ _ _ _ T110 (mkF m 150 #[.val (.int x0), .val (.int x1), .val (.int x2), .val (.long x3), .second, .val (.long x4), .second, .val (.int x5), .val (.int (3 : Int32)), .val (.ref m0), .val (.ref m1), .val (.ref m2), .val (.ref b2), .unset, .unset] [(.ref a110), (.ref a109), (.ref b108), (.ref b108), (.ref b2)])
      refine Go.step (fun _ kt_ => XS.lload X110.here hx rfl (hb hby at_150) rfl kt_) ?_
      show Go _ _ _ _ _ _ _ _ T110 (mkF m 152 #[.val (.int x0), .val (.int x1), .val (.int x2), .val (.long x3), .second, .val (.long x4), .second, .val (.int x5), .val (.int (3 : Int32)), .val (.ref m0), .val (.ref m1), .val (.ref m2), .val (.ref b2), .unset, .unset] [(.long x4), (.ref a110), (.ref a109), (.ref b108), (.ref b108), (.ref b2)])
      refine Go.step (fun _ kt_ => XS.lloadN X110.here hx rfl (hb hby at_152) rfl kt_) ?_
      show Go _ _ _ _ _ _ _ _ T110 (mkF m 153 #[.val (.int x0), .val (.int x1), .val (.int x2), .val (.long x3), .second, .val (.long x4), .second, .val (.int x5), .val (.int (3 : Int32)), .val (.ref m0), .val (.ref m1), .val (.ref m2), .val (.ref b2), .unset, .unset] [(.long x3), (.long x4), (.ref a110), (.ref a109), (.ref b108), (.ref b108), (.ref b2)])
      refine Go.step (fun _ kt_ => XS.aconstNull X110.here hx rfl (hb hby at_153)  kt_) ?_
      show Go _ _ _ _ _ _ _ _ T110 (mkF m 154 #[.val (.int x0), .val (.int x1), .val (.int x2), .val (.long x3), .second, .val (.long x4), .second, .val (.int x5), .val (.int (3 : Int32)), .val (.ref m0), .val (.ref m1), .val (.ref m2), .val (.ref b2), .unset, .unset] [.null, (.long x3), (.long x4), (.ref a110), (.ref a109), (.ref b108), (.ref b108), (.ref b2)])
      refine Go.step (fun _ kt_ => XS.lloadN X110.here hx rfl (hb hby at_154) rfl kt_) ?_
      show Go _ _ _ _ _ _ _ _ T110 (mkF m 155 #[.val (.int x0), .val (.int x1), .val (.int x2), .val (.long x3), .second, .val (.long x4), .second, .val (.int x5), .val (.int (3 : Int32)), .val (.ref m0), .val (.ref m1), .val (.ref m2), .val (.ref b2), .unset, .unset] [(.long x3), .null, (.long x3), (.long x4), (.ref a110), (.ref a109), (.ref b108), (.ref b108), (.ref b2)])
      refine Go.step (fun _ kt_ => XS.iloadN X110.here hx rfl (hb hby at_155) rfl kt_) ?_
      show Go _ _ _ _ _ _ _ _ T110 (mkF m 156 #[.val (.int x0), .val (.int x1), .val (.int x2), .val (.long x3), .second, .val (.long x4), .second, .val (.int x5), .val (.int (3 : Int32)), .val (.ref m0), .val (.ref m1), .val (.ref m2), .val (.ref b2), .unset, .unset] [(.int x1), (.long x3), .null, (.long x3), (.long x4), (.ref a110), (.ref a109), (.ref b108), (.ref b108), (.ref b2)])
      refine Go.step (fun _ kt_ => XS.aload X110.here hx rfl (hb hby at_156) rfl rfl kt_) ?_
      show Go _ _ _ _ _ _ _ _ T110 (mkF m 158 #[.val (.int x0), .val (.int x1), .val (.int x2), .val (.long x3), .second, .val (.long x4), .second, .val (.int x5), .val (.int (3 : Int32)), .val (.ref m0), .val (.ref m1), .val (.ref m2), .val (.ref b2), .unset, .unset] [(.ref m2), (.int x1), (.long x3), .null, (.long x3), (.long x4), (.ref a110), (.ref a109), (.ref b108), (.ref b108), (.ref b2)])
      have f111 := (Fld.ext E110 (Fld.ext E109 F108_expiresAt))
      have f112 := (Fld.ext E110 (Fld.ext E109 F108_expiresInMs))
      obtain ⟨_, _, ⟨T113, L113, k113, n113⟩, -, X113, ⟨Lc113, hQ113, l113, y113, z113⟩, st113⟩ := X110.specialBack hx (y := (⟨"com/example/wary_lock/warylock/Lease", "<init>", "(Ljava/lang/String;Ljava/lang/String;JJLjava/time/Instant;JILcom/example/wary_lock/warylock/LockMode;)V"⟩ : MethodName)) rfl hown110 (mvT hZ110 (hw _ (List.mem_of_getElem? (i := 105) rfl))) (mvT hZ110 (hw _ (List.mem_of_getElem? (i := 106) rfl))) (mvT hZ110 (hw _ (List.mem_of_getElem? (i := 107) rfl))) (by decide) (backOf (W := 2) (rm_a13_0 l Z a0 hw [] dc kdc el ee kee ca cc eo mo G_dc G_dce G_dcv G_el G_ele G_elf G_eev G_hi G_ca G_bx G_eo G_eoe G_mo b108 a109 a110 x4 x3 x3 x1 m2 (0 : Int64) (0 : Int64) (0 : Int64) (0 : Int32) h110 O110_ (Exa.ext E110 (Exa.ext E109 A108)) (Fld.ext E110 (Fld.ext E109 F108_name)) g_b108 (Fld.ext E110 (Fld.ext E109 F108_owner)) (Fld.ext E110 (Fld.ext E109 F108_token)) (Fld.ext E110 (Fld.ext E109 F108_ttlMs)) f111 f112 (Fld.ext E110 (Fld.ext E109 F108_limit)) (Fld.ext E110 (Fld.ext E109 F108_mode))) hZ110 (hw _ (List.mem_of_getElem? (i := 107) rfl)) (hw _ (List.mem_of_getElem? (i := 95) rfl)) (by decide) (by decide)) (g := (mkF m 158 #[.val (.int x0), .val (.int x1), .val (.int x2), .val (.long x3), .second, .val (.long x4), .second, .val (.int x5), .val (.int (3 : Int32)), .val (.ref m0), .val (.ref m1), .val (.ref m2), .val (.ref b2), .unset, .unset] [(.ref m2), (.int x1), (.long x3), .null, (.long x3), (.long x4), (.ref a110), (.ref a109), (.ref b108), (.ref b108), (.ref b2)])) rfl (by rw [hml]; rfl) (Steps.refl _) (a := b108) (argsL := [(.ref a109), (.ref a110), (.long x4), (.long x3), .null, (.long x3), (.int x1), (.ref m2)]) (rest := [(.ref b108), (.ref b2)]) (lenOf pd_LLjava_lang_String_Ljava_lang_String_JJLjava_time_Instant_JILcom_example_wary_lock_warylock_LockMode_RV rfl) rfl (by show 2 * 0 + _ ≤ _; exact Nat.le_of_eq rfl) (hb hby at_158) (fun _ _ => ⟨rfl, e110, (by decide : 17 + 0 ≤ _), (by decide : 85 + 0 ≤ _)⟩)
      dsimp only [Pt.U, Pt.locs, Pt.cells, Pt.slots] at X113 l113 y113 z113 st113 hQ113
      subst l113 y113 z113
      obtain ⟨rfl, Nq113, Kq113, p113_0, p113_1, p113_2, p113_3, p113_4, p113_5, p113_6, p113_7⟩ := hQ113
      have O113_ : Ext Z.heap T113.heap := extKeep O110_ Kq113 (allS g_b108 all0)
      have N113_ := Fr.app N107_ Nq113
      refine Go.trans st113 ?_
      show Go _ _ _ _ _ _ _ _ T113 (mkF m 161 #[.val (.int x0), .val (.int x1), .val (.int x2), .val (.long x3), .second, .val (.long x4), .second, .val (.int x5), .val (.int (3 : Int32)), .val (.ref m0), .val (.ref m1), .val (.ref m2), .val (.ref b2), .unset, .unset] [(.ref b108), (.ref b2)])
      have f114 := ((Exa.ext E110 (Exa.ext E109 (Exa.ext E108 (f101.keep Kq107)))).keep Kq113)
      have f115 := ((Fld.ext E110 (Fld.ext E109 (Fld.ext E108 p107_1))).keep Kq113 (ninS (Nat.ne_of_lt (Nat.lt_of_lt_of_le (f101.keep Kq107).lt (Nat.le_of_eq hb108.symm))) nin0))
      have f116 := ((Fld.ext E110 (Fld.ext E109 (Fld.ext E108 p107_2))).keep Kq113 (ninS (Nat.ne_of_lt (Nat.lt_of_lt_of_le (f101.keep Kq107).lt (Nat.le_of_eq hb108.symm))) nin0))
      have f117 := ((Fld.ext E110 (Fld.ext E109 (Fld.ext E108 p107_0))).keep Kq113 (ninS (Nat.ne_of_lt (Nat.lt_of_lt_of_le (f101.keep Kq107).lt (Nat.le_of_eq hb108.symm))) nin0))
      have f118 := ((((p107_3.ext E108).ext E109).ext E110).keep Kq113 (ninS (Nat.ne_of_lt (Nat.lt_of_lt_of_le (((Exa.ext E97 (Exa.ext E96 (Exa.ext E95 p94_4))).keep Kq100).keep Kq107).lt (Nat.le_of_eq hb108.symm))) nin0))
      have f119 := ((Fld.ext E110 (Fld.ext E109 (Fld.ext E108 p107_2))).keep Kq113 (ninS (Nat.ne_of_lt (Nat.lt_of_lt_of_le (f101.keep Kq107).lt (Nat.le_of_eq hb108.symm))) nin0))
      have f120 := ((Fld.ext E110 (Fld.ext E109 (Fld.ext E108 p107_0))).keep Kq113 (ninS (Nat.ne_of_lt (Nat.lt_of_lt_of_le (f101.keep Kq107).lt (Nat.le_of_eq hb108.symm))) nin0))
      have f121 := ((((p107_3.ext E108).ext E109).ext E110).keep Kq113 (ninS (Nat.ne_of_lt (Nat.lt_of_lt_of_le (((Exa.ext E97 (Exa.ext E96 (Exa.ext E95 p94_4))).keep Kq100).keep Kq107).lt (Nat.le_of_eq hb108.symm))) nin0))
      have f122 := ((Exa.ext E110 (Exa.ext E109 A108)).keep Kq113)
      have f123 := ((Fld.ext E110 (Fld.ext E109 (Fld.ext E108 p107_2))).keep Kq113 (ninS (Nat.ne_of_lt (Nat.lt_of_lt_of_le (f101.keep Kq107).lt (Nat.le_of_eq hb108.symm))) nin0))
      have f124 := ((Fld.ext E110 (Fld.ext E109 (Fld.ext E108 p107_0))).keep Kq113 (ninS (Nat.ne_of_lt (Nat.lt_of_lt_of_le (f101.keep Kq107).lt (Nat.le_of_eq hb108.symm))) nin0))
      have f125 := ((((p107_3.ext E108).ext E109).ext E110).keep Kq113 (ninS (Nat.ne_of_lt (Nat.lt_of_lt_of_le (((Exa.ext E97 (Exa.ext E96 (Exa.ext E95 p94_4))).keep Kq100).keep Kq107).lt (Nat.le_of_eq hb108.symm))) nin0))
      have f126 := ((Exa.ext E110 (Exa.ext E109 A108)).keep Kq113)
      have f127 := ((Fld.ext E110 (Fld.ext E109 (Fld.ext E108 p107_2))).keep Kq113 (ninS (Nat.ne_of_lt (Nat.lt_of_lt_of_le (f101.keep Kq107).lt (Nat.le_of_eq hb108.symm))) nin0))
      have f128 := ((Fld.ext E110 (Fld.ext E109 (Fld.ext E108 p107_0))).keep Kq113 (ninS (Nat.ne_of_lt (Nat.lt_of_lt_of_le (f101.keep Kq107).lt (Nat.le_of_eq hb108.symm))) nin0))
      have f129 := ((((p107_3.ext E108).ext E109).ext E110).keep Kq113 (ninS (Nat.ne_of_lt (Nat.lt_of_lt_of_le (((Exa.ext E97 (Exa.ext E96 (Exa.ext E95 p94_4))).keep Kq100).keep Kq107).lt (Nat.le_of_eq hb108.symm))) nin0))
      have f130 := ((Exa.ext E110 (Exa.ext E109 A108)).keep Kq113)
      obtain ⟨cq131, kq131, q131a, q131b, q131c⟩ := isOf hZ110 rfl f114
      obtain ⟨_, _, ⟨T131, L131, k131, n131⟩, -, X131, ⟨Lc131, hQ131, l131, y131, z131⟩, st131⟩ := X113.virtualBack hx (y := (⟨"java/util/ArrayList", "add", "(Ljava/lang/Object;)Z"⟩ : MethodName)) (z := (⟨"java/util/ArrayList", "add", "(Ljava/lang/Object;)Z"⟩ : MethodName)) hown110 (mvT hZ110 (hw _ (List.mem_of_getElem? (i := 125) rfl))) (mvT hZ110 (hw _ (List.mem_of_getElem? (i := 126) rfl))) (notFace_of_selects (args := #[]) (mvT hZ110 (hw _ (List.mem_of_getElem? (i := 128) rfl)))) (mvT hZ110 (hw _ (List.mem_of_getElem? (i := 128) rfl))) (mvT hZ110 (hw _ (List.mem_of_getElem? (i := 127) rfl))) (by decide) (backOf (W := 0) (rm_a14_2 l Z a0 hw [] dc kdc el ee kee ca cc eo mo G_dc G_dce G_dcv G_el G_ele G_elf G_eev G_hi G_ca G_bx G_eo G_eoe G_mo b2 b108 b6q2q2q5q94 k6q2q2q5q94 b83 b95 T113.heap O113_ f115 f114 g_b2 f127 f128 f129 (Ne.symm (Nat.ne_of_lt (Nat.lt_of_lt_of_le f89.lt p94_3))) p94_6 f130 g_b6q2q2q5q94) hZ110 (hw _ (List.mem_of_getElem? (i := 129) rfl)) (hw _ (List.mem_of_getElem? (i := 7) rfl)) (by decide) (by decide)) q131a q131c (g := (mkF m 161 #[.val (.int x0), .val (.int x1), .val (.int x2), .val (.long x3), .second, .val (.long x4), .second, .val (.int x5), .val (.int (3 : Int32)), .val (.ref m0), .val (.ref m1), .val (.ref m2), .val (.ref b2), .unset, .unset] [(.ref b108), (.ref b2)])) rfl (by rw [hml]; rfl) (Steps.refl _) (argsL := [(.ref b108)]) (rest := []) (lenOf pd_LLjava_lang_Object_RZ rfl) rfl (by show 2 * 0 + _ ≤ _; exact Nat.le_of_eq rfl) (hb hby at_161) (fun _ _ => ⟨rfl, rfl, (by decide : 17 + 0 ≤ _), (by decide : 85 + 0 ≤ _)⟩)
      dsimp only [Pt.U, Pt.locs, Pt.cells, Pt.slots] at X131 l131 y131 z131 st131 hQ131
      subst l131 y131 z131
      obtain ⟨rfl, Nq131, Kq131, p131_0, p131_1, p131_2, p131_3⟩ := hQ131
      have O131_ : Ext Z.heap T131.heap := extKeep O113_ Kq131 (allS g_b2 (allS g_b6q2q2q5q94 all0))
      have N131_ := Fr.app N113_ Nq131
      refine Go.trans st131 ?_
      show Go _ _ _ _ _ _ _ _ T131 (mkF m 164 #[.val (.int x0), .val (.int x1), .val (.int x2), .val (.long x3), .second, .val (.long x4), .second, .val (.int x5), .val (.int (3 : Int32)), .val (.ref m0), .val (.ref m1), .val (.ref m2), .val (.ref b2), .unset, .unset] [(.int (1 : Int32))])
      refine Go.step (fun _ kt_ => XS.pop X131.here hx rfl (hb hby at_164) rfl rfl kt_) ?_
      show Go _ _ _ _ _ _ _ _ T131 (mkF m 165 #[.val (.int x0), .val (.int x1), .val (.int x2), .val (.long x3), .second, .val (.long x4), .second, .val (.int x5), .val (.int (3 : Int32)), .val (.ref m0), .val (.ref m1), .val (.ref m2), .val (.ref b2), .unset, .unset] [])
      obtain ⟨T132, h132, X132, e132, E132, A132, D132, U132, st132⟩ := newO X131 hx hZ110 hown110 (hw _ (List.mem_of_getElem? (i := 31) rfl)) (hw _ (List.mem_of_getElem? (i := 32) rfl)) (hw _ (List.mem_of_getElem? (i := 33) rfl)) rfl (g := (mkF m 165 #[.val (.int x0), .val (.int x1), .val (.int x2), .val (.long x3), .second, .val (.long x4), .second, .val (.int x5), .val (.int (3 : Int32)), .val (.ref m0), .val (.ref m1), .val (.ref m2), .val (.ref b2), .unset, .unset] [])) rfl (hb hby at_165) (by decide) (by decide)
      obtain ⟨b132, hb132⟩ : ∃ z, z = T131.heap.size := ⟨_, rfl⟩
      rw [← hb132] at A132 D132 U132 st132
      refine Go.step st132 ?_
      have g_b132 : Z.heap.size ≤ b132 := Nat.le_trans O131_.1 (Nat.le_of_eq hb132.symm)
      have O132_ : Ext Z.heap h132 := extTr O131_ E132
      have F132_holders : Fld Z h132 b132 "com/example/wary_lock/warylock/LockState" "holders" "Ljava/util/List;" .null := D132 (Or.inr (hw _ (List.mem_of_getElem? (i := 73) rfl))) (ty := (.object "java/util/List")) pf_Ljava_util_List_
      have F132_waiting : Fld Z h132 b132 "com/example/wary_lock/warylock/LockState" "waiting" "I" (.int (0 : Int32)) := D132 (Or.inr (hw _ (List.mem_of_getElem? (i := 75) rfl))) (ty := .int) pf_I
      show Go _ _ _ _ _ _ _ _ T132 (mkF m 168 #[.val (.int x0), .val (.int x1), .val (.int x2), .val (.long x3), .second, .val (.long x4), .second, .val (.int x5), .val (.int (3 : Int32)), .val (.ref m0), .val (.ref m1), .val (.ref m2), .val (.ref b2), .unset, .unset] [(.ref b132)])
      refine Go.step (fun _ kt_ => XS.dup X132.here hx rfl (hb hby at_168) rfl rfl kt_) ?_
      show Go _ _ _ _ _ _ _ _ T132 (mkF m 169 #[.val (.int x0), .val (.int x1), .val (.int x2), .val (.long x3), .second, .val (.long x4), .second, .val (.int x5), .val (.int (3 : Int32)), .val (.ref m0), .val (.ref m1), .val (.ref m2), .val (.ref b2), .unset, .unset] [(.ref b132), (.ref b132)])
      refine Go.step (fun _ kt_ => XS.aload X132.here hx rfl (hb hby at_169) rfl rfl kt_) ?_
      show Go _ _ _ _ _ _ _ _ T132 (mkF m 171 #[.val (.int x0), .val (.int x1), .val (.int x2), .val (.long x3), .second, .val (.long x4), .second, .val (.int x5), .val (.int (3 : Int32)), .val (.ref m0), .val (.ref m1), .val (.ref m2), .val (.ref b2), .unset, .unset] [(.ref b2), (.ref b132), (.ref b132)])
      refine Go.step (fun _ kt_ => XS.iloadN X132.here hx rfl (hb hby at_171) rfl kt_) ?_
      show Go _ _ _ _ _ _ _ _ T132 (mkF m 172 #[.val (.int x0), .val (.int x1), .val (.int x2), .val (.long x3), .second, .val (.long x4), .second, .val (.int x5), .val (.int (3 : Int32)), .val (.ref m0), .val (.ref m1), .val (.ref m2), .val (.ref b2), .unset, .unset] [(.int x2), (.ref b2), (.ref b132), (.ref b132)])
      have f133 := (Exa.ext E132 (((Exa.ext E110 (Exa.ext E109 (Exa.ext E108 (((Exa.ext E97 (Exa.ext E96 (Exa.ext E95 p94_4))).keep Kq100).keep Kq107)))).keep Kq113).keep Kq131))
      have f134 := (Exa.ext E132 (((Exa.ext E110 (Exa.ext E109 (Exa.ext E108 (((Exa.ext E97 (Exa.ext E96 (Exa.ext E95 p94_4))).keep Kq100).keep Kq107)))).keep Kq113).keep Kq131))
      have f135 := (Exa.ext E132 (((Exa.ext E110 (Exa.ext E109 (Exa.ext E108 (f106.keep Kq107)))).keep Kq113).keep Kq131))
      have f136 := (Exa.ext E132 (((Exa.ext E110 (Exa.ext E109 (Exa.ext E108 (((Exa.ext E97 (Exa.ext E96 (Exa.ext E95 (f93.keep Kq94)))).keep Kq100).keep Kq107)))).keep Kq113).keep Kq131))
      have f137 := (Exa.ext E132 (((Exa.ext E110 (Exa.ext E109 (Exa.ext E108 (((Exa.ext E97 (Exa.ext E96 (Exa.ext E95 p94_4))).keep Kq100).keep Kq107)))).keep Kq113).keep Kq131))
      have f138 := (Exa.ext E132 (((Exa.ext E110 (Exa.ext E109 (Exa.ext E108 (f106.keep Kq107)))).keep Kq113).keep Kq131))
      have f139 := (Exa.ext E132 (((Exa.ext E110 (Exa.ext E109 (Exa.ext E108 (((Exa.ext E97 (Exa.ext E96 (Exa.ext E95 (f93.keep Kq94)))).keep Kq100).keep Kq107)))).keep Kq113).keep Kq131))
      have f140 := (Exa.ext E132 (((Exa.ext E110 (Exa.ext E109 (Exa.ext E108 (((Exa.ext E97 (Exa.ext E96 (Exa.ext E95 p94_4))).keep Kq100).keep Kq107)))).keep Kq113).keep Kq131))
      have f141 := (Exa.ext E132 (((Exa.ext E110 (Exa.ext E109 (Exa.ext E108 (f106.keep Kq107)))).keep Kq113).keep Kq131))
      have f142 := (Exa.ext E132 (((Exa.ext E110 (Exa.ext E109 (Exa.ext E108 (((Exa.ext E97 (Exa.ext E96 (Exa.ext E95 (f93.keep Kq94)))).keep Kq100).keep Kq107)))).keep Kq113).keep Kq131))
      obtain ⟨_, _, ⟨T143, L143, k143, n143⟩, -, X143, ⟨Lc143, hQ143, l143, y143, z143⟩, st143⟩ := X132.specialBack hx (y := (⟨"com/example/wary_lock/warylock/LockState", "<init>", "(Ljava/util/List;I)V"⟩ : MethodName)) rfl hown110 (mvT hZ110 (hw _ (List.mem_of_getElem? (i := 34) rfl))) (mvT hZ110 (hw _ (List.mem_of_getElem? (i := 35) rfl))) (mvT hZ110 (hw _ (List.mem_of_getElem? (i := 36) rfl))) (by decide) (backOf (W := 1) (rm_a5_3 l Z a0 hw [] dc kdc el ee kee ca cc eo mo G_dc G_dce G_dcv G_el G_ele G_elf G_eev G_hi G_ca G_bx G_eo G_eoe G_mo b132 b2 x2 b6q2q2q5q94 k6q2q2q5q94 b83 b95 b108 h132 O132_ (Exa.ext E132 (f114.keep Kq131)) (Fld.ext E132 p131_0) (Fld.ext E132 p131_2) f140 (p131_3.ext E132) (Exa.ext E132 (f130.keep Kq131)) f141 f142 A132 F132_holders g_b132 F132_waiting) hZ110 (hw _ (List.mem_of_getElem? (i := 36) rfl)) (hw _ (List.mem_of_getElem? (i := 33) rfl)) (by decide) (by decide)) (g := (mkF m 172 #[.val (.int x0), .val (.int x1), .val (.int x2), .val (.long x3), .second, .val (.long x4), .second, .val (.int x5), .val (.int (3 : Int32)), .val (.ref m0), .val (.ref m1), .val (.ref m2), .val (.ref b2), .unset, .unset] [(.int x2), (.ref b2), (.ref b132), (.ref b132)])) rfl (by rw [hml]; rfl) (Steps.refl _) (a := b132) (argsL := [(.ref b2), (.int x2)]) (rest := [(.ref b132)]) (lenOf pd_LLjava_util_List_IRV rfl) rfl (by show 2 * 0 + _ ≤ _; exact Nat.le_of_eq rfl) (hb hby at_172) (fun _ _ => ⟨rfl, e132, (by decide : 18 + 3 ≤ _), (by decide : 87 + 8 ≤ _)⟩)
      dsimp only [Pt.U, Pt.locs, Pt.cells, Pt.slots] at X143 l143 y143 z143 st143 hQ143
      subst l143 y143 z143
      obtain ⟨b19q2q5q1q2q143, b2q2q5q1q2q143, k2q2q5q1q2q143, rfl, Nq143, Kq143, p143_0, p143_1, p143_2, p143_3, p143_4, p143_5, p143_6, p143_7, p143_8, p143_9, p143_10⟩ := hQ143
      have O143_ : Ext Z.heap T143.heap := extKeep O132_ Kq143 (allS g_b132 all0)
      have N143_ := Fr.app N131_ Nq143
      have g_b19q2q5q1q2q143 : Z.heap.size ≤ b19q2q5q1q2q143 := Nat.le_trans O132_.1 p143_2
      have g_b2q2q5q1q2q143 : Z.heap.size ≤ b2q2q5q1q2q143 := Nat.le_trans O132_.1 p143_6
      refine Go.trans st143 ?_
      show Go _ _ _ _ _ _ _ _ T143 (mkF m 175 #[.val (.int x0), .val (.int x1), .val (.int x2), .val (.long x3), .second, .val (.long x4), .second, .val (.int x5), .val (.int (3 : Int32)), .val (.ref m0), .val (.ref m1), .val (.ref m2), .val (.ref b2), .unset, .unset] [(.ref b132)])
      refine Go.step (fun _ kt_ => XS.astore X143.here hx rfl (hb hby at_175) rfl rfl (l' := #[.val (.int x0), .val (.int x1), .val (.int x2), .val (.long x3), .second, .val (.long x4), .second, .val (.int x5), .val (.int (3 : Int32)), .val (.ref m0), .val (.ref m1), .val (.ref m2), .val (.ref b2), .val (.ref b132), .unset]) rfl kt_) ?_
      show Go _ _ _ _ _ _ _ _ T143 (mkF m 177 #[.val (.int x0), .val (.int x1), .val (.int x2), .val (.long x3), .second, .val (.long x4), .second, .val (.int x5), .val (.int (3 : Int32)), .val (.ref m0), .val (.ref m1), .val (.ref m2), .val (.ref b2), .val (.ref b132), .unset] [])
      refine Go.step (fun _ kt_ => XS.aload X143.here hx rfl (hb hby at_177) rfl rfl kt_) ?_
      show Go _ _ _ _ _ _ _ _ T143 (mkF m 179 #[.val (.int x0), .val (.int x1), .val (.int x2), .val (.long x3), .second, .val (.long x4), .second, .val (.int x5), .val (.int (3 : Int32)), .val (.ref m0), .val (.ref m1), .val (.ref m2), .val (.ref b2), .val (.ref b132), .unset] [(.ref b132)])
      have f144 := ((Fld.ext E132 (((Fld.ext E110 (Fld.ext E109 (Fld.ext E108 (((Fld.ext E97 (Fld.ext E96 (Fld.ext E95 (p88_6.keep Kq94 (ninS (Ne.symm (Nat.ne_of_lt (Nat.lt_of_lt_of_le (A2.keep Kq3).lt (Nat.le_of_eq hb83.symm)))) nin0))))).keep Kq100 (ninS (Nat.ne_of_lt (Nat.lt_of_lt_of_le (f93.keep Kq94).lt (Nat.le_of_eq hb95.symm))) nin0)).keep Kq107 (ninS (Ne.symm (Nat.ne_of_lt (Nat.lt_of_lt_of_le (A2.keep Kq3).lt (Nat.le_of_eq hb83.symm)))) (ninS (Nat.ne_of_lt (Nat.lt_of_lt_of_le f93.lt p94_3)) nin0)))))).keep Kq113 (ninS (Nat.ne_of_lt (Nat.lt_of_lt_of_le (((Exa.ext E97 (Exa.ext E96 (Exa.ext E95 (f93.keep Kq94)))).keep Kq100).keep Kq107).lt (Nat.le_of_eq hb108.symm))) nin0)).keep Kq131 (ninS (Ne.symm (Nat.ne_of_lt (Nat.lt_of_lt_of_le (A2.keep Kq3).lt (Nat.le_of_eq hb83.symm)))) (ninS (Nat.ne_of_lt (Nat.lt_of_lt_of_le f93.lt p94_3)) nin0)))).keep Kq143 (ninS (Nat.ne_of_lt (Nat.lt_of_lt_of_le (((Exa.ext E110 (Exa.ext E109 (Exa.ext E108 (((Exa.ext E97 (Exa.ext E96 (Exa.ext E95 (f93.keep Kq94)))).keep Kq100).keep Kq107)))).keep Kq113).keep Kq131).lt (Nat.le_of_eq hb132.symm))) nin0))
      have f145 := ((Fld.ext E132 (((Fld.ext E110 (Fld.ext E109 (Fld.ext E108 (((Fld.ext E97 (Fld.ext E96 (Fld.ext E95 (p88_6.keep Kq94 (ninS (Ne.symm (Nat.ne_of_lt (Nat.lt_of_lt_of_le (A2.keep Kq3).lt (Nat.le_of_eq hb83.symm)))) nin0))))).keep Kq100 (ninS (Nat.ne_of_lt (Nat.lt_of_lt_of_le (f93.keep Kq94).lt (Nat.le_of_eq hb95.symm))) nin0)).keep Kq107 (ninS (Ne.symm (Nat.ne_of_lt (Nat.lt_of_lt_of_le (A2.keep Kq3).lt (Nat.le_of_eq hb83.symm)))) (ninS (Nat.ne_of_lt (Nat.lt_of_lt_of_le f93.lt p94_3)) nin0)))))).keep Kq113 (ninS (Nat.ne_of_lt (Nat.lt_of_lt_of_le (((Exa.ext E97 (Exa.ext E96 (Exa.ext E95 (f93.keep Kq94)))).keep Kq100).keep Kq107).lt (Nat.le_of_eq hb108.symm))) nin0)).keep Kq131 (ninS (Ne.symm (Nat.ne_of_lt (Nat.lt_of_lt_of_le (A2.keep Kq3).lt (Nat.le_of_eq hb83.symm)))) (ninS (Nat.ne_of_lt (Nat.lt_of_lt_of_le f93.lt p94_3)) nin0)))).keep Kq143 (ninS (Nat.ne_of_lt (Nat.lt_of_lt_of_le (((Exa.ext E110 (Exa.ext E109 (Exa.ext E108 (((Exa.ext E97 (Exa.ext E96 (Exa.ext E95 (f93.keep Kq94)))).keep Kq100).keep Kq107)))).keep Kq113).keep Kq131).lt (Nat.le_of_eq hb132.symm))) nin0))
      have f146 := ((Fld.ext E132 (((Fld.ext E110 (Fld.ext E109 (Fld.ext E108 (((Fld.ext E97 (Fld.ext E96 (Fld.ext E95 (p88_6.keep Kq94 (ninS (Ne.symm (Nat.ne_of_lt (Nat.lt_of_lt_of_le (A2.keep Kq3).lt (Nat.le_of_eq hb83.symm)))) nin0))))).keep Kq100 (ninS (Nat.ne_of_lt (Nat.lt_of_lt_of_le (f93.keep Kq94).lt (Nat.le_of_eq hb95.symm))) nin0)).keep Kq107 (ninS (Ne.symm (Nat.ne_of_lt (Nat.lt_of_lt_of_le (A2.keep Kq3).lt (Nat.le_of_eq hb83.symm)))) (ninS (Nat.ne_of_lt (Nat.lt_of_lt_of_le f93.lt p94_3)) nin0)))))).keep Kq113 (ninS (Nat.ne_of_lt (Nat.lt_of_lt_of_le (((Exa.ext E97 (Exa.ext E96 (Exa.ext E95 (f93.keep Kq94)))).keep Kq100).keep Kq107).lt (Nat.le_of_eq hb108.symm))) nin0)).keep Kq131 (ninS (Ne.symm (Nat.ne_of_lt (Nat.lt_of_lt_of_le (A2.keep Kq3).lt (Nat.le_of_eq hb83.symm)))) (ninS (Nat.ne_of_lt (Nat.lt_of_lt_of_le f93.lt p94_3)) nin0)))).keep Kq143 (ninS (Nat.ne_of_lt (Nat.lt_of_lt_of_le (((Exa.ext E110 (Exa.ext E109 (Exa.ext E108 (((Exa.ext E97 (Exa.ext E96 (Exa.ext E95 (f93.keep Kq94)))).keep Kq100).keep Kq107)))).keep Kq113).keep Kq131).lt (Nat.le_of_eq hb132.symm))) nin0))
      obtain ⟨cq147, kq147, q147a, q147b, q147c⟩ := isOf hZ110 rfl (A132.keep Kq143)
      obtain ⟨_, _, ⟨T147, L147, k147, n147⟩, -, X147, ⟨Lc147, hQ147, l147, y147, z147⟩, st147⟩ := X143.virtualBack hx (y := (⟨"com/example/wary_lock/warylock/LockState", "limit", "()Ljava/lang/Integer;"⟩ : MethodName)) (z := (⟨"com/example/wary_lock/warylock/LockState", "limit", "()Ljava/lang/Integer;"⟩ : MethodName)) hown110 (mvT hZ110 (hw _ (List.mem_of_getElem? (i := 76) rfl))) (mvT hZ110 (hw _ (List.mem_of_getElem? (i := 77) rfl))) (notFace_of_selects (args := #[]) (mvT hZ110 (hw _ (List.mem_of_getElem? (i := 79) rfl)))) (mvT hZ110 (hw _ (List.mem_of_getElem? (i := 79) rfl))) (mvT hZ110 (hw _ (List.mem_of_getElem? (i := 78) rfl))) (by decide) (backOf (W := 0) (rm_a11_2 l Z a0 hw [] dc kdc el ee kee ca cc eo mo G_dc G_dce G_dcv G_el G_ele G_elf G_eev G_hi G_ca G_bx G_eo G_eoe G_mo b132 b19q2q5q1q2q143 b2q2q5q1q2q143 k2q2q5q1q2q143 b83 b95 b108 x1 T143.heap O143_ p143_0 p143_3 p143_4 p143_8 (f142.keep Kq143) f146) hZ110 (hw _ (List.mem_of_getElem? (i := 80) rfl)) (hw _ (List.mem_of_getElem? (i := 33) rfl)) (by decide) (by decide)) q147a q147c (g := (mkF m 179 #[.val (.int x0), .val (.int x1), .val (.int x2), .val (.long x3), .second, .val (.long x4), .second, .val (.int x5), .val (.int (3 : Int32)), .val (.ref m0), .val (.ref m1), .val (.ref m2), .val (.ref b2), .val (.ref b132), .unset] [(.ref b132)])) rfl (by rw [hml]; rfl) (Steps.refl _) (argsL := []) (rest := []) (lenOf pd_LRLjava_lang_Integer_ rfl) rfl (by show 2 * 0 + _ ≤ _; exact Nat.le_of_eq rfl) (hb hby at_179) (fun _ _ => ⟨rfl, rfl, (by decide : 21 + 1 ≤ _), (by decide : 95 + 1 ≤ _)⟩)
      dsimp only [Pt.U, Pt.locs, Pt.cells, Pt.slots] at X147 l147 y147 z147 st147 hQ147
      subst l147 y147 z147
      obtain ⟨r7q147, rfl, Nq147, Kq147, p147_0, p147_1⟩ := hQ147
      have O147_ : Ext Z.heap T147.heap := extKeep O143_ Kq147 all0
      have N147_ := Fr.app N143_ Nq147
      refine Go.trans st147 ?_
      show Go _ _ _ _ _ _ _ _ T147 (mkF m 182 #[.val (.int x0), .val (.int x1), .val (.int x2), .val (.long x3), .second, .val (.long x4), .second, .val (.int x5), .val (.int (3 : Int32)), .val (.ref m0), .val (.ref m1), .val (.ref m2), .val (.ref b2), .val (.ref b132), .unset] [(.ref r7q147)])
      refine Go.step (fun _ kt_ => XS.astore X147.here hx rfl (hb hby at_182) rfl rfl (l' := #[.val (.int x0), .val (.int x1), .val (.int x2), .val (.long x3), .second, .val (.long x4), .second, .val (.int x5), .val (.int (3 : Int32)), .val (.ref m0), .val (.ref m1), .val (.ref m2), .val (.ref b2), .val (.ref b132), .val (.ref r7q147)]) rfl kt_) ?_
      show Go _ _ _ _ _ _ _ _ T147 (mkF m 184 #[.val (.int x0), .val (.int x1), .val (.int x2), .val (.long x3), .second, .val (.long x4), .second, .val (.int x5), .val (.int (3 : Int32)), .val (.ref m0), .val (.ref m1), .val (.ref m2), .val (.ref b2), .val (.ref b132), .val (.ref r7q147)] [])
      refine Go.step (fun _ kt_ => XS.iload X147.here hx rfl (hb hby at_184) rfl kt_) ?_
      show Go _ _ _ _ _ _ _ _ T147 (mkF m 186 #[.val (.int x0), .val (.int x1), .val (.int x2), .val (.long x3), .second, .val (.long x4), .second, .val (.int x5), .val (.int (3 : Int32)), .val (.ref m0), .val (.ref m1), .val (.ref m2), .val (.ref b2), .val (.ref b132), .val (.ref r7q147)] [(.int (3 : Int32))])
      refine Go.step (fun _ kt_ => XS.ifYes X147.here hx rfl (pc0 := 186) (pc' := 200) rfl (hb hby at_186) rfl ((if0 _ _).trans (feq (by decide : ¬ ((3 : Int32) = (0 : Int32)))).2) (by decide) (by decide) kt_) ?_
      show Go _ _ _ _ _ _ _ _ T147 (mkF m 200 #[.val (.int x0), .val (.int x1), .val (.int x2), .val (.long x3), .second, .val (.long x4), .second, .val (.int x5), .val (.int (3 : Int32)), .val (.ref m0), .val (.ref m1), .val (.ref m2), .val (.ref b2), .val (.ref b132), .val (.ref r7q147)] [])
      refine Go.step (fun _ kt_ => XS.aload X147.here hx rfl (hb hby at_200) rfl rfl kt_) ?_
      show Go _ _ _ _ _ _ _ _ T147 (mkF m 202 #[.val (.int x0), .val (.int x1), .val (.int x2), .val (.long x3), .second, .val (.long x4), .second, .val (.int x5), .val (.int (3 : Int32)), .val (.ref m0), .val (.ref m1), .val (.ref m2), .val (.ref b2), .val (.ref b132), .val (.ref r7q147)] [(.ref r7q147)])
      refine Go.step (fun _ kt_ => XS.ifnullNo X147.here hx rfl (hb hby at_202) rfl kt_) ?_
      show Go _ _ _ _ _ _ _ _ T147 (mkF m 205 #[.val (.int x0), .val (.int x1), .val (.int x2), .val (.long x3), .second, .val (.long x4), .second, .val (.int x5), .val (.int (3 : Int32)), .val (.ref m0), .val (.ref m1), .val (.ref m2), .val (.ref b2), .val (.ref b132), .val (.ref r7q147)] [])
      refine Go.step (fun _ kt_ => XS.aload X147.here hx rfl (hb hby at_205) rfl rfl kt_) ?_
      show Go _ _ _ _ _ _ _ _ T147 (mkF m 207 #[.val (.int x0), .val (.int x1), .val (.int x2), .val (.long x3), .second, .val (.long x4), .second, .val (.int x5), .val (.int (3 : Int32)), .val (.ref m0), .val (.ref m1), .val (.ref m2), .val (.ref b2), .val (.ref b132), .val (.ref r7q147)] [(.ref r7q147)])
      obtain ⟨cq148, kq148, q148a, q148b, q148c⟩ := isOf hZ110 rfl p147_0
      obtain ⟨_, _, ⟨T148, L148, k148, n148⟩, -, X148, ⟨Lc148, hQ148, l148, y148, z148⟩, st148⟩ := X147.virtualBack hx (y := (⟨"java/lang/Integer", "intValue", "()I"⟩ : MethodName)) (z := (⟨"java/lang/Integer", "intValue", "()I"⟩ : MethodName)) hown110 (mvT hZ110 (hw _ (List.mem_of_getElem? (i := 240) rfl))) (mvT hZ110 (hw _ (List.mem_of_getElem? (i := 241) rfl))) (notFace_of_selects (args := #[]) (mvT hZ110 (hw _ (List.mem_of_getElem? (i := 243) rfl)))) (mvT hZ110 (hw _ (List.mem_of_getElem? (i := 243) rfl))) (mvT hZ110 (hw _ (List.mem_of_getElem? (i := 242) rfl))) (by decide) (backOf (W := 0) (rm_a32_0 l Z a0 hw [] dc kdc el ee kee ca cc eo mo G_dc G_dce G_dcv G_el G_ele G_elf G_eev G_hi G_ca G_bx G_eo G_eoe G_mo r7q147 x1 T147.heap O147_ p147_1) hZ110 (hw _ (List.mem_of_getElem? (i := 244) rfl)) (hw _ (List.mem_of_getElem? (i := 235) rfl)) (by decide) (by decide)) q148a q148c (g := (mkF m 207 #[.val (.int x0), .val (.int x1), .val (.int x2), .val (.long x3), .second, .val (.long x4), .second, .val (.int x5), .val (.int (3 : Int32)), .val (.ref m0), .val (.ref m1), .val (.ref m2), .val (.ref b2), .val (.ref b132), .val (.ref r7q147)] [(.ref r7q147)])) rfl (by rw [hml]; rfl) (Steps.refl _) (argsL := []) (rest := []) (lenOf pd_LRI rfl) rfl (by show 2 * 0 + _ ≤ _; exact Nat.le_of_eq rfl) (hb hby at_207) (fun _ _ => ⟨rfl, rfl, (by decide : 22 + 0 ≤ _), (by decide : 96 + 0 ≤ _)⟩)
      dsimp only [Pt.U, Pt.locs, Pt.cells, Pt.slots] at X148 l148 y148 z148 st148 hQ148
      subst l148 y148 z148
      obtain ⟨rfl, Nq148, e148⟩ := hQ148
      have N148_ := Fr.app N147_ Nq148
      refine Go.trans st148 ?_
      show Go _ _ _ _ _ _ _ _ T148 (mkF m 210 #[.val (.int x0), .val (.int x1), .val (.int x2), .val (.long x3), .second, .val (.long x4), .second, .val (.int x5), .val (.int (3 : Int32)), .val (.ref m0), .val (.ref m1), .val (.ref m2), .val (.ref b2), .val (.ref b132), .val (.ref r7q147)] [(.int x1)])
      refine Go.step (fun _ kt_ => XS.iloadN X148.here hx rfl (hb hby at_210) rfl kt_) ?_
      show Go _ _ _ _ _ _ _ _ T148 (mkF m 211 #[.val (.int x0), .val (.int x1), .val (.int x2), .val (.long x3), .second, .val (.long x4), .second, .val (.int x5), .val (.int (3 : Int32)), .val (.ref m0), .val (.ref m1), .val (.ref m2), .val (.ref b2), .val (.ref b132), .val (.ref r7q147)] [(.int x1), (.int x1)])
      refine Go.step (fun _ kt_ => XS.icmpNo X148.here hx rfl (hb hby at_211) rfl (teq (rfl : x1 = x1)).2 kt_) ?_
      show Go _ _ _ _ _ _ _ _ T148 (mkF m 214 #[.val (.int x0), .val (.int x1), .val (.int x2), .val (.long x3), .second, .val (.long x4), .second, .val (.int x5), .val (.int (3 : Int32)), .val (.ref m0), .val (.ref m1), .val (.ref m2), .val (.ref b2), .val (.ref b132), .val (.ref r7q147)] [])
      refine Go.step (fun _ kt_ => XS.iconst X148.here hx rfl (hb hby at_214)  kt_) ?_
      show Go _ _ _ _ _ _ _ _ T148 (mkF m 215 #[.val (.int x0), .val (.int x1), .val (.int x2), .val (.long x3), .second, .val (.long x4), .second, .val (.int x5), .val (.int (3 : Int32)), .val (.ref m0), .val (.ref m1), .val (.ref m2), .val (.ref b2), .val (.ref b132), .val (.ref r7q147)] [(.int (1 : Int32))])
      refine Go.step (fun _ kt_ => XS.goto X148.here hx rfl (pc0 := 215) (pc' := 219) rfl (hb hby at_215) (by decide) (by decide) kt_) ?_
      show Go _ _ _ _ _ _ _ _ T148 (mkF m 219 #[.val (.int x0), .val (.int x1), .val (.int x2), .val (.long x3), .second, .val (.long x4), .second, .val (.int x5), .val (.int (3 : Int32)), .val (.ref m0), .val (.ref m1), .val (.ref m2), .val (.ref b2), .val (.ref b132), .val (.ref r7q147)] [(.int (1 : Int32))])
      exact Go.retNW X148 S110 (by rw [e148]; exact (Nat.le_trans (Nat.le_trans (Nat.le_trans (Nat.le_trans (Nat.le_trans kq110 Kq113.1) Kq131.1) E132.1) Kq143.1) Kq147.1)) hx (t := .boolean) Bd.returns (by simp) hlk (hb hby at_219) (by decide) (by decide) ⟨rfl, N148_, trivial⟩
  refine Go.step (fun _ kt_ => XS.iload X0.here hx rfl (hb hby at_5) rfl kt_) ?_
  show Go _ _ _ _ _ _ _ _ s₁ (mkF m 7 #[.val (.int x0), .val (.int x1), .val (.int x2), .val (.long x3), .second, .val (.long x4), .second, .val (.int x5), .val (.int k), .unset, .unset, .unset, .unset, .unset, .unset] [(.int x5)])
  refine Go.step (fun _ kt_ => XS.iconst X0.here hx rfl (hb hby at_7)  kt_) ?_
  show Go _ _ _ _ _ _ _ _ s₁ (mkF m 8 #[.val (.int x0), .val (.int x1), .val (.int x2), .val (.long x3), .second, .val (.long x4), .second, .val (.int x5), .val (.int k), .unset, .unset, .unset, .unset, .unset, .unset] [(.int (1 : Int32)), (.int x5)])
  refine Go.step (fun _ kt_ => XS.iand X0.here hx rfl (hb hby at_8) rfl kt_) ?_
  show Go _ _ _ _ _ _ _ _ s₁ (mkF m 9 #[.val (.int x0), .val (.int x1), .val (.int x2), .val (.long x3), .second, .val (.long x4), .second, .val (.int x5), .val (.int k), .unset, .unset, .unset, .unset, .unset, .unset] [(.int (x5 &&& (1 : Int32)))])
  by_cases hc9_149 : (x5 &&& (1 : Int32)) = (0 : Int32)
  · refine Go.step (fun _ kt_ => XS.ifYes X0.here hx rfl (pc0 := 9) (pc' := 18) rfl (hb hby at_9) rfl ((if0 _ _).trans (teq hc9_149).1) (by decide) (by decide) kt_) ?_
    show Go _ _ _ _ _ _ _ _ s₁ (mkF m 18 #[.val (.int x0), .val (.int x1), .val (.int x2), .val (.long x3), .second, .val (.long x4), .second, .val (.int x5), .val (.int k), .unset, .unset, .unset, .unset, .unset, .unset] [])
    obtain ⟨T150, X150, e150, st150⟩ := getS2 X0 hx hZ hown (host := "") (Or.inl (hw _ (List.mem_of_getElem? (i := 3) rfl))) Via.refl e0 (Sta.ext O0 S_E) (g := (mkF m 18 #[.val (.int x0), .val (.int x1), .val (.int x2), .val (.long x3), .second, .val (.long x4), .second, .val (.int x5), .val (.int k), .unset, .unset, .unset, .unset, .unset, .unset] [])) rfl (hb hby at_18)
    refine Go.step st150 ?_
    show Go _ _ _ _ _ _ _ _ T150 (mkF m 21 #[.val (.int x0), .val (.int x1), .val (.int x2), .val (.long x3), .second, .val (.long x4), .second, .val (.int x5), .val (.int k), .unset, .unset, .unset, .unset, .unset, .unset] [(.ref eA)])
    refine Go.step (fun _ kt_ => XS.astore X150.here hx rfl (hb hby at_21) rfl rfl (l' := #[.val (.int x0), .val (.int x1), .val (.int x2), .val (.long x3), .second, .val (.long x4), .second, .val (.int x5), .val (.int k), .val (.ref eA), .unset, .unset, .unset, .unset, .unset]) rfl kt_) ?_
    show Go _ _ _ _ _ _ _ _ T150 (mkF m 23 #[.val (.int x0), .val (.int x1), .val (.int x2), .val (.long x3), .second, .val (.long x4), .second, .val (.int x5), .val (.int k), .val (.ref eA), .unset, .unset, .unset, .unset, .unset] [])
    refine Go.step (fun _ kt_ => XS.iload X150.here hx rfl (hb hby at_23) rfl kt_) ?_
    show Go _ _ _ _ _ _ _ _ T150 (mkF m 25 #[.val (.int x0), .val (.int x1), .val (.int x2), .val (.long x3), .second, .val (.long x4), .second, .val (.int x5), .val (.int k), .val (.ref eA), .unset, .unset, .unset, .unset, .unset] [(.int x5)])
    refine Go.step (fun _ kt_ => XS.iconst X150.here hx rfl (hb hby at_25)  kt_) ?_
    show Go _ _ _ _ _ _ _ _ T150 (mkF m 26 #[.val (.int x0), .val (.int x1), .val (.int x2), .val (.long x3), .second, .val (.long x4), .second, .val (.int x5), .val (.int k), .val (.ref eA), .unset, .unset, .unset, .unset, .unset] [(.int (2 : Int32)), (.int x5)])
    refine Go.step (fun _ kt_ => XS.iand X150.here hx rfl (hb hby at_26) rfl kt_) ?_
    show Go _ _ _ _ _ _ _ _ T150 (mkF m 27 #[.val (.int x0), .val (.int x1), .val (.int x2), .val (.long x3), .second, .val (.long x4), .second, .val (.int x5), .val (.int k), .val (.ref eA), .unset, .unset, .unset, .unset, .unset] [(.int (x5 &&& (2 : Int32)))])
    by_cases hc27_151 : (x5 &&& (2 : Int32)) = (0 : Int32)
    · refine Go.step (fun _ kt_ => XS.ifYes X150.here hx rfl (pc0 := 27) (pc' := 36) rfl (hb hby at_27) rfl ((if0 _ _).trans (teq hc27_151).1) (by decide) (by decide) kt_) ?_
      show Go _ _ _ _ _ _ _ _ T150 (mkF m 36 #[.val (.int x0), .val (.int x1), .val (.int x2), .val (.long x3), .second, .val (.long x4), .second, .val (.int x5), .val (.int k), .val (.ref eA), .unset, .unset, .unset, .unset, .unset] [])
      obtain ⟨T152, X152, e152, st152⟩ := getS2 X150 hx hZ hown (host := "") (Or.inl (hw _ (List.mem_of_getElem? (i := 3) rfl))) Via.refl e150 (Sta.ext O0 S_E) (g := (mkF m 36 #[.val (.int x0), .val (.int x1), .val (.int x2), .val (.long x3), .second, .val (.long x4), .second, .val (.int x5), .val (.int k), .val (.ref eA), .unset, .unset, .unset, .unset, .unset] [])) rfl (hb hby at_36)
      refine Go.step st152 ?_
      show Go _ _ _ _ _ _ _ _ T152 (mkF m 39 #[.val (.int x0), .val (.int x1), .val (.int x2), .val (.long x3), .second, .val (.long x4), .second, .val (.int x5), .val (.int k), .val (.ref eA), .unset, .unset, .unset, .unset, .unset] [(.ref eA)])
      refine Go.step (fun _ kt_ => XS.astore X152.here hx rfl (hb hby at_39) rfl rfl (l' := #[.val (.int x0), .val (.int x1), .val (.int x2), .val (.long x3), .second, .val (.long x4), .second, .val (.int x5), .val (.int k), .val (.ref eA), .val (.ref eA), .unset, .unset, .unset, .unset]) rfl kt_) ?_
      show Go _ _ _ _ _ _ _ _ T152 (mkF m 41 #[.val (.int x0), .val (.int x1), .val (.int x2), .val (.long x3), .second, .val (.long x4), .second, .val (.int x5), .val (.int k), .val (.ref eA), .val (.ref eA), .unset, .unset, .unset, .unset] [])
      refine Go.step (fun _ kt_ => XS.iload X152.here hx rfl (hb hby at_41) rfl kt_) ?_
      show Go _ _ _ _ _ _ _ _ T152 (mkF m 43 #[.val (.int x0), .val (.int x1), .val (.int x2), .val (.long x3), .second, .val (.long x4), .second, .val (.int x5), .val (.int k), .val (.ref eA), .val (.ref eA), .unset, .unset, .unset, .unset] [(.int x5)])
      refine Go.step (fun _ kt_ => XS.iconst X152.here hx rfl (hb hby at_43)  kt_) ?_
      show Go _ _ _ _ _ _ _ _ T152 (mkF m 44 #[.val (.int x0), .val (.int x1), .val (.int x2), .val (.long x3), .second, .val (.long x4), .second, .val (.int x5), .val (.int k), .val (.ref eA), .val (.ref eA), .unset, .unset, .unset, .unset] [(.int (4 : Int32)), (.int x5)])
      refine Go.step (fun _ kt_ => XS.iand X152.here hx rfl (hb hby at_44) rfl kt_) ?_
      show Go _ _ _ _ _ _ _ _ T152 (mkF m 45 #[.val (.int x0), .val (.int x1), .val (.int x2), .val (.long x3), .second, .val (.long x4), .second, .val (.int x5), .val (.int k), .val (.ref eA), .val (.ref eA), .unset, .unset, .unset, .unset] [(.int (x5 &&& (4 : Int32)))])
      by_cases hc45_153 : (x5 &&& (4 : Int32)) = (0 : Int32)
      · refine Go.step (fun _ kt_ => XS.ifYes X152.here hx rfl (pc0 := 45) (pc' := 54) rfl (hb hby at_45) rfl ((if0 _ _).trans (teq hc45_153).1) (by decide) (by decide) kt_) ?_
        show Go _ _ _ _ _ _ _ _ T152 (mkF m 54 #[.val (.int x0), .val (.int x1), .val (.int x2), .val (.long x3), .second, .val (.long x4), .second, .val (.int x5), .val (.int k), .val (.ref eA), .val (.ref eA), .unset, .unset, .unset, .unset] [])
        obtain ⟨T154, X154, e154, st154⟩ := getS2 X152 hx hZ hown (host := "") (Or.inl (hw _ (List.mem_of_getElem? (i := 3) rfl))) Via.refl e152 (Sta.ext O0 S_E) (g := (mkF m 54 #[.val (.int x0), .val (.int x1), .val (.int x2), .val (.long x3), .second, .val (.long x4), .second, .val (.int x5), .val (.int k), .val (.ref eA), .val (.ref eA), .unset, .unset, .unset, .unset] [])) rfl (hb hby at_54)
        refine Go.step st154 ?_
        show Go _ _ _ _ _ _ _ _ T154 (mkF m 57 #[.val (.int x0), .val (.int x1), .val (.int x2), .val (.long x3), .second, .val (.long x4), .second, .val (.int x5), .val (.int k), .val (.ref eA), .val (.ref eA), .unset, .unset, .unset, .unset] [(.ref eA)])
        refine Go.step (fun _ kt_ => XS.astore X154.here hx rfl (hb hby at_57) rfl rfl (l' := #[.val (.int x0), .val (.int x1), .val (.int x2), .val (.long x3), .second, .val (.long x4), .second, .val (.int x5), .val (.int k), .val (.ref eA), .val (.ref eA), .val (.ref eA), .unset, .unset, .unset]) rfl kt_) ?_
        show Go _ _ _ _ _ _ _ _ T154 (mkF m 59 #[.val (.int x0), .val (.int x1), .val (.int x2), .val (.long x3), .second, .val (.long x4), .second, .val (.int x5), .val (.int k), .val (.ref eA), .val (.ref eA), .val (.ref eA), .unset, .unset, .unset] [])
        exact cut59 T154 _ _ X154 e154 N0 hZ hown _ S0 kk0 eA eA eA 
      · refine Go.step (fun _ kt_ => XS.ifNo X152.here hx rfl (hb hby at_45) rfl ((if0 _ _).trans (feq hc45_153).1) kt_) ?_
        show Go _ _ _ _ _ _ _ _ T152 (mkF m 48 #[.val (.int x0), .val (.int x1), .val (.int x2), .val (.long x3), .second, .val (.long x4), .second, .val (.int x5), .val (.int k), .val (.ref eA), .val (.ref eA), .unset, .unset, .unset, .unset] [])
        obtain ⟨T155, X155, e155, st155⟩ := getS2 X152 hx hZ hown (host := "") (Or.inl (hw _ (List.mem_of_getElem? (i := 0) rfl))) Via.refl e152 (Sta.ext O0 S_S) (g := (mkF m 48 #[.val (.int x0), .val (.int x1), .val (.int x2), .val (.long x3), .second, .val (.long x4), .second, .val (.int x5), .val (.int k), .val (.ref eA), .val (.ref eA), .unset, .unset, .unset, .unset] [])) rfl (hb hby at_48)
        refine Go.step st155 ?_
        show Go _ _ _ _ _ _ _ _ T155 (mkF m 51 #[.val (.int x0), .val (.int x1), .val (.int x2), .val (.long x3), .second, .val (.long x4), .second, .val (.int x5), .val (.int k), .val (.ref eA), .val (.ref eA), .unset, .unset, .unset, .unset] [(.ref sA)])
        refine Go.step (fun _ kt_ => XS.goto X155.here hx rfl (pc0 := 51) (pc' := 57) rfl (hb hby at_51) (by decide) (by decide) kt_) ?_
        show Go _ _ _ _ _ _ _ _ T155 (mkF m 57 #[.val (.int x0), .val (.int x1), .val (.int x2), .val (.long x3), .second, .val (.long x4), .second, .val (.int x5), .val (.int k), .val (.ref eA), .val (.ref eA), .unset, .unset, .unset, .unset] [(.ref sA)])
        refine Go.step (fun _ kt_ => XS.astore X155.here hx rfl (hb hby at_57) rfl rfl (l' := #[.val (.int x0), .val (.int x1), .val (.int x2), .val (.long x3), .second, .val (.long x4), .second, .val (.int x5), .val (.int k), .val (.ref eA), .val (.ref eA), .val (.ref sA), .unset, .unset, .unset]) rfl kt_) ?_
        show Go _ _ _ _ _ _ _ _ T155 (mkF m 59 #[.val (.int x0), .val (.int x1), .val (.int x2), .val (.long x3), .second, .val (.long x4), .second, .val (.int x5), .val (.int k), .val (.ref eA), .val (.ref eA), .val (.ref sA), .unset, .unset, .unset] [])
        exact cut59 T155 _ _ X155 e155 N0 hZ hown _ S0 kk0 eA eA sA 
    · refine Go.step (fun _ kt_ => XS.ifNo X150.here hx rfl (hb hby at_27) rfl ((if0 _ _).trans (feq hc27_151).1) kt_) ?_
      show Go _ _ _ _ _ _ _ _ T150 (mkF m 30 #[.val (.int x0), .val (.int x1), .val (.int x2), .val (.long x3), .second, .val (.long x4), .second, .val (.int x5), .val (.int k), .val (.ref eA), .unset, .unset, .unset, .unset, .unset] [])
      obtain ⟨T156, X156, e156, st156⟩ := getS2 X150 hx hZ hown (host := "") (Or.inl (hw _ (List.mem_of_getElem? (i := 0) rfl))) Via.refl e150 (Sta.ext O0 S_S) (g := (mkF m 30 #[.val (.int x0), .val (.int x1), .val (.int x2), .val (.long x3), .second, .val (.long x4), .second, .val (.int x5), .val (.int k), .val (.ref eA), .unset, .unset, .unset, .unset, .unset] [])) rfl (hb hby at_30)
      refine Go.step st156 ?_
      show Go _ _ _ _ _ _ _ _ T156 (mkF m 33 #[.val (.int x0), .val (.int x1), .val (.int x2), .val (.long x3), .second, .val (.long x4), .second, .val (.int x5), .val (.int k), .val (.ref eA), .unset, .unset, .unset, .unset, .unset] [(.ref sA)])
      refine Go.step (fun _ kt_ => XS.goto X156.here hx rfl (pc0 := 33) (pc' := 39) rfl (hb hby at_33) (by decide) (by decide) kt_) ?_
      show Go _ _ _ _ _ _ _ _ T156 (mkF m 39 #[.val (.int x0), .val (.int x1), .val (.int x2), .val (.long x3), .second, .val (.long x4), .second, .val (.int x5), .val (.int k), .val (.ref eA), .unset, .unset, .unset, .unset, .unset] [(.ref sA)])
      refine Go.step (fun _ kt_ => XS.astore X156.here hx rfl (hb hby at_39) rfl rfl (l' := #[.val (.int x0), .val (.int x1), .val (.int x2), .val (.long x3), .second, .val (.long x4), .second, .val (.int x5), .val (.int k), .val (.ref eA), .val (.ref sA), .unset, .unset, .unset, .unset]) rfl kt_) ?_
      show Go _ _ _ _ _ _ _ _ T156 (mkF m 41 #[.val (.int x0), .val (.int x1), .val (.int x2), .val (.long x3), .second, .val (.long x4), .second, .val (.int x5), .val (.int k), .val (.ref eA), .val (.ref sA), .unset, .unset, .unset, .unset] [])
      refine Go.step (fun _ kt_ => XS.iload X156.here hx rfl (hb hby at_41) rfl kt_) ?_
      show Go _ _ _ _ _ _ _ _ T156 (mkF m 43 #[.val (.int x0), .val (.int x1), .val (.int x2), .val (.long x3), .second, .val (.long x4), .second, .val (.int x5), .val (.int k), .val (.ref eA), .val (.ref sA), .unset, .unset, .unset, .unset] [(.int x5)])
      refine Go.step (fun _ kt_ => XS.iconst X156.here hx rfl (hb hby at_43)  kt_) ?_
      show Go _ _ _ _ _ _ _ _ T156 (mkF m 44 #[.val (.int x0), .val (.int x1), .val (.int x2), .val (.long x3), .second, .val (.long x4), .second, .val (.int x5), .val (.int k), .val (.ref eA), .val (.ref sA), .unset, .unset, .unset, .unset] [(.int (4 : Int32)), (.int x5)])
      refine Go.step (fun _ kt_ => XS.iand X156.here hx rfl (hb hby at_44) rfl kt_) ?_
      show Go _ _ _ _ _ _ _ _ T156 (mkF m 45 #[.val (.int x0), .val (.int x1), .val (.int x2), .val (.long x3), .second, .val (.long x4), .second, .val (.int x5), .val (.int k), .val (.ref eA), .val (.ref sA), .unset, .unset, .unset, .unset] [(.int (x5 &&& (4 : Int32)))])
      by_cases hc45_157 : (x5 &&& (4 : Int32)) = (0 : Int32)
      · refine Go.step (fun _ kt_ => XS.ifYes X156.here hx rfl (pc0 := 45) (pc' := 54) rfl (hb hby at_45) rfl ((if0 _ _).trans (teq hc45_157).1) (by decide) (by decide) kt_) ?_
        show Go _ _ _ _ _ _ _ _ T156 (mkF m 54 #[.val (.int x0), .val (.int x1), .val (.int x2), .val (.long x3), .second, .val (.long x4), .second, .val (.int x5), .val (.int k), .val (.ref eA), .val (.ref sA), .unset, .unset, .unset, .unset] [])
        obtain ⟨T158, X158, e158, st158⟩ := getS2 X156 hx hZ hown (host := "") (Or.inl (hw _ (List.mem_of_getElem? (i := 3) rfl))) Via.refl e156 (Sta.ext O0 S_E) (g := (mkF m 54 #[.val (.int x0), .val (.int x1), .val (.int x2), .val (.long x3), .second, .val (.long x4), .second, .val (.int x5), .val (.int k), .val (.ref eA), .val (.ref sA), .unset, .unset, .unset, .unset] [])) rfl (hb hby at_54)
        refine Go.step st158 ?_
        show Go _ _ _ _ _ _ _ _ T158 (mkF m 57 #[.val (.int x0), .val (.int x1), .val (.int x2), .val (.long x3), .second, .val (.long x4), .second, .val (.int x5), .val (.int k), .val (.ref eA), .val (.ref sA), .unset, .unset, .unset, .unset] [(.ref eA)])
        refine Go.step (fun _ kt_ => XS.astore X158.here hx rfl (hb hby at_57) rfl rfl (l' := #[.val (.int x0), .val (.int x1), .val (.int x2), .val (.long x3), .second, .val (.long x4), .second, .val (.int x5), .val (.int k), .val (.ref eA), .val (.ref sA), .val (.ref eA), .unset, .unset, .unset]) rfl kt_) ?_
        show Go _ _ _ _ _ _ _ _ T158 (mkF m 59 #[.val (.int x0), .val (.int x1), .val (.int x2), .val (.long x3), .second, .val (.long x4), .second, .val (.int x5), .val (.int k), .val (.ref eA), .val (.ref sA), .val (.ref eA), .unset, .unset, .unset] [])
        exact cut59 T158 _ _ X158 e158 N0 hZ hown _ S0 kk0 eA sA eA 
      · refine Go.step (fun _ kt_ => XS.ifNo X156.here hx rfl (hb hby at_45) rfl ((if0 _ _).trans (feq hc45_157).1) kt_) ?_
        show Go _ _ _ _ _ _ _ _ T156 (mkF m 48 #[.val (.int x0), .val (.int x1), .val (.int x2), .val (.long x3), .second, .val (.long x4), .second, .val (.int x5), .val (.int k), .val (.ref eA), .val (.ref sA), .unset, .unset, .unset, .unset] [])
        obtain ⟨T159, X159, e159, st159⟩ := getS2 X156 hx hZ hown (host := "") (Or.inl (hw _ (List.mem_of_getElem? (i := 0) rfl))) Via.refl e156 (Sta.ext O0 S_S) (g := (mkF m 48 #[.val (.int x0), .val (.int x1), .val (.int x2), .val (.long x3), .second, .val (.long x4), .second, .val (.int x5), .val (.int k), .val (.ref eA), .val (.ref sA), .unset, .unset, .unset, .unset] [])) rfl (hb hby at_48)
        refine Go.step st159 ?_
        show Go _ _ _ _ _ _ _ _ T159 (mkF m 51 #[.val (.int x0), .val (.int x1), .val (.int x2), .val (.long x3), .second, .val (.long x4), .second, .val (.int x5), .val (.int k), .val (.ref eA), .val (.ref sA), .unset, .unset, .unset, .unset] [(.ref sA)])
        refine Go.step (fun _ kt_ => XS.goto X159.here hx rfl (pc0 := 51) (pc' := 57) rfl (hb hby at_51) (by decide) (by decide) kt_) ?_
        show Go _ _ _ _ _ _ _ _ T159 (mkF m 57 #[.val (.int x0), .val (.int x1), .val (.int x2), .val (.long x3), .second, .val (.long x4), .second, .val (.int x5), .val (.int k), .val (.ref eA), .val (.ref sA), .unset, .unset, .unset, .unset] [(.ref sA)])
        refine Go.step (fun _ kt_ => XS.astore X159.here hx rfl (hb hby at_57) rfl rfl (l' := #[.val (.int x0), .val (.int x1), .val (.int x2), .val (.long x3), .second, .val (.long x4), .second, .val (.int x5), .val (.int k), .val (.ref eA), .val (.ref sA), .val (.ref sA), .unset, .unset, .unset]) rfl kt_) ?_
        show Go _ _ _ _ _ _ _ _ T159 (mkF m 59 #[.val (.int x0), .val (.int x1), .val (.int x2), .val (.long x3), .second, .val (.long x4), .second, .val (.int x5), .val (.int k), .val (.ref eA), .val (.ref sA), .val (.ref sA), .unset, .unset, .unset] [])
        exact cut59 T159 _ _ X159 e159 N0 hZ hown _ S0 kk0 eA sA sA 
  · refine Go.step (fun _ kt_ => XS.ifNo X0.here hx rfl (hb hby at_9) rfl ((if0 _ _).trans (feq hc9_149).1) kt_) ?_
    show Go _ _ _ _ _ _ _ _ s₁ (mkF m 12 #[.val (.int x0), .val (.int x1), .val (.int x2), .val (.long x3), .second, .val (.long x4), .second, .val (.int x5), .val (.int k), .unset, .unset, .unset, .unset, .unset, .unset] [])
    obtain ⟨T160, X160, e160, st160⟩ := getS2 X0 hx hZ hown (host := "") (Or.inl (hw _ (List.mem_of_getElem? (i := 0) rfl))) Via.refl e0 (Sta.ext O0 S_S) (g := (mkF m 12 #[.val (.int x0), .val (.int x1), .val (.int x2), .val (.long x3), .second, .val (.long x4), .second, .val (.int x5), .val (.int k), .unset, .unset, .unset, .unset, .unset, .unset] [])) rfl (hb hby at_12)
    refine Go.step st160 ?_
    show Go _ _ _ _ _ _ _ _ T160 (mkF m 15 #[.val (.int x0), .val (.int x1), .val (.int x2), .val (.long x3), .second, .val (.long x4), .second, .val (.int x5), .val (.int k), .unset, .unset, .unset, .unset, .unset, .unset] [(.ref sA)])
    refine Go.step (fun _ kt_ => XS.goto X160.here hx rfl (pc0 := 15) (pc' := 21) rfl (hb hby at_15) (by decide) (by decide) kt_) ?_
    show Go _ _ _ _ _ _ _ _ T160 (mkF m 21 #[.val (.int x0), .val (.int x1), .val (.int x2), .val (.long x3), .second, .val (.long x4), .second, .val (.int x5), .val (.int k), .unset, .unset, .unset, .unset, .unset, .unset] [(.ref sA)])
    refine Go.step (fun _ kt_ => XS.astore X160.here hx rfl (hb hby at_21) rfl rfl (l' := #[.val (.int x0), .val (.int x1), .val (.int x2), .val (.long x3), .second, .val (.long x4), .second, .val (.int x5), .val (.int k), .val (.ref sA), .unset, .unset, .unset, .unset, .unset]) rfl kt_) ?_
    show Go _ _ _ _ _ _ _ _ T160 (mkF m 23 #[.val (.int x0), .val (.int x1), .val (.int x2), .val (.long x3), .second, .val (.long x4), .second, .val (.int x5), .val (.int k), .val (.ref sA), .unset, .unset, .unset, .unset, .unset] [])
    refine Go.step (fun _ kt_ => XS.iload X160.here hx rfl (hb hby at_23) rfl kt_) ?_
    show Go _ _ _ _ _ _ _ _ T160 (mkF m 25 #[.val (.int x0), .val (.int x1), .val (.int x2), .val (.long x3), .second, .val (.long x4), .second, .val (.int x5), .val (.int k), .val (.ref sA), .unset, .unset, .unset, .unset, .unset] [(.int x5)])
    refine Go.step (fun _ kt_ => XS.iconst X160.here hx rfl (hb hby at_25)  kt_) ?_
    show Go _ _ _ _ _ _ _ _ T160 (mkF m 26 #[.val (.int x0), .val (.int x1), .val (.int x2), .val (.long x3), .second, .val (.long x4), .second, .val (.int x5), .val (.int k), .val (.ref sA), .unset, .unset, .unset, .unset, .unset] [(.int (2 : Int32)), (.int x5)])
    refine Go.step (fun _ kt_ => XS.iand X160.here hx rfl (hb hby at_26) rfl kt_) ?_
    show Go _ _ _ _ _ _ _ _ T160 (mkF m 27 #[.val (.int x0), .val (.int x1), .val (.int x2), .val (.long x3), .second, .val (.long x4), .second, .val (.int x5), .val (.int k), .val (.ref sA), .unset, .unset, .unset, .unset, .unset] [(.int (x5 &&& (2 : Int32)))])
    by_cases hc27_161 : (x5 &&& (2 : Int32)) = (0 : Int32)
    · refine Go.step (fun _ kt_ => XS.ifYes X160.here hx rfl (pc0 := 27) (pc' := 36) rfl (hb hby at_27) rfl ((if0 _ _).trans (teq hc27_161).1) (by decide) (by decide) kt_) ?_
      show Go _ _ _ _ _ _ _ _ T160 (mkF m 36 #[.val (.int x0), .val (.int x1), .val (.int x2), .val (.long x3), .second, .val (.long x4), .second, .val (.int x5), .val (.int k), .val (.ref sA), .unset, .unset, .unset, .unset, .unset] [])
      obtain ⟨T162, X162, e162, st162⟩ := getS2 X160 hx hZ hown (host := "") (Or.inl (hw _ (List.mem_of_getElem? (i := 3) rfl))) Via.refl e160 (Sta.ext O0 S_E) (g := (mkF m 36 #[.val (.int x0), .val (.int x1), .val (.int x2), .val (.long x3), .second, .val (.long x4), .second, .val (.int x5), .val (.int k), .val (.ref sA), .unset, .unset, .unset, .unset, .unset] [])) rfl (hb hby at_36)
      refine Go.step st162 ?_
      show Go _ _ _ _ _ _ _ _ T162 (mkF m 39 #[.val (.int x0), .val (.int x1), .val (.int x2), .val (.long x3), .second, .val (.long x4), .second, .val (.int x5), .val (.int k), .val (.ref sA), .unset, .unset, .unset, .unset, .unset] [(.ref eA)])
      refine Go.step (fun _ kt_ => XS.astore X162.here hx rfl (hb hby at_39) rfl rfl (l' := #[.val (.int x0), .val (.int x1), .val (.int x2), .val (.long x3), .second, .val (.long x4), .second, .val (.int x5), .val (.int k), .val (.ref sA), .val (.ref eA), .unset, .unset, .unset, .unset]) rfl kt_) ?_
      show Go _ _ _ _ _ _ _ _ T162 (mkF m 41 #[.val (.int x0), .val (.int x1), .val (.int x2), .val (.long x3), .second, .val (.long x4), .second, .val (.int x5), .val (.int k), .val (.ref sA), .val (.ref eA), .unset, .unset, .unset, .unset] [])
      refine Go.step (fun _ kt_ => XS.iload X162.here hx rfl (hb hby at_41) rfl kt_) ?_
      show Go _ _ _ _ _ _ _ _ T162 (mkF m 43 #[.val (.int x0), .val (.int x1), .val (.int x2), .val (.long x3), .second, .val (.long x4), .second, .val (.int x5), .val (.int k), .val (.ref sA), .val (.ref eA), .unset, .unset, .unset, .unset] [(.int x5)])
      refine Go.step (fun _ kt_ => XS.iconst X162.here hx rfl (hb hby at_43)  kt_) ?_
      show Go _ _ _ _ _ _ _ _ T162 (mkF m 44 #[.val (.int x0), .val (.int x1), .val (.int x2), .val (.long x3), .second, .val (.long x4), .second, .val (.int x5), .val (.int k), .val (.ref sA), .val (.ref eA), .unset, .unset, .unset, .unset] [(.int (4 : Int32)), (.int x5)])
      refine Go.step (fun _ kt_ => XS.iand X162.here hx rfl (hb hby at_44) rfl kt_) ?_
      show Go _ _ _ _ _ _ _ _ T162 (mkF m 45 #[.val (.int x0), .val (.int x1), .val (.int x2), .val (.long x3), .second, .val (.long x4), .second, .val (.int x5), .val (.int k), .val (.ref sA), .val (.ref eA), .unset, .unset, .unset, .unset] [(.int (x5 &&& (4 : Int32)))])
      by_cases hc45_163 : (x5 &&& (4 : Int32)) = (0 : Int32)
      · refine Go.step (fun _ kt_ => XS.ifYes X162.here hx rfl (pc0 := 45) (pc' := 54) rfl (hb hby at_45) rfl ((if0 _ _).trans (teq hc45_163).1) (by decide) (by decide) kt_) ?_
        show Go _ _ _ _ _ _ _ _ T162 (mkF m 54 #[.val (.int x0), .val (.int x1), .val (.int x2), .val (.long x3), .second, .val (.long x4), .second, .val (.int x5), .val (.int k), .val (.ref sA), .val (.ref eA), .unset, .unset, .unset, .unset] [])
        obtain ⟨T164, X164, e164, st164⟩ := getS2 X162 hx hZ hown (host := "") (Or.inl (hw _ (List.mem_of_getElem? (i := 3) rfl))) Via.refl e162 (Sta.ext O0 S_E) (g := (mkF m 54 #[.val (.int x0), .val (.int x1), .val (.int x2), .val (.long x3), .second, .val (.long x4), .second, .val (.int x5), .val (.int k), .val (.ref sA), .val (.ref eA), .unset, .unset, .unset, .unset] [])) rfl (hb hby at_54)
        refine Go.step st164 ?_
        show Go _ _ _ _ _ _ _ _ T164 (mkF m 57 #[.val (.int x0), .val (.int x1), .val (.int x2), .val (.long x3), .second, .val (.long x4), .second, .val (.int x5), .val (.int k), .val (.ref sA), .val (.ref eA), .unset, .unset, .unset, .unset] [(.ref eA)])
        refine Go.step (fun _ kt_ => XS.astore X164.here hx rfl (hb hby at_57) rfl rfl (l' := #[.val (.int x0), .val (.int x1), .val (.int x2), .val (.long x3), .second, .val (.long x4), .second, .val (.int x5), .val (.int k), .val (.ref sA), .val (.ref eA), .val (.ref eA), .unset, .unset, .unset]) rfl kt_) ?_
        show Go _ _ _ _ _ _ _ _ T164 (mkF m 59 #[.val (.int x0), .val (.int x1), .val (.int x2), .val (.long x3), .second, .val (.long x4), .second, .val (.int x5), .val (.int k), .val (.ref sA), .val (.ref eA), .val (.ref eA), .unset, .unset, .unset] [])
        exact cut59 T164 _ _ X164 e164 N0 hZ hown _ S0 kk0 sA eA eA 
      · refine Go.step (fun _ kt_ => XS.ifNo X162.here hx rfl (hb hby at_45) rfl ((if0 _ _).trans (feq hc45_163).1) kt_) ?_
        show Go _ _ _ _ _ _ _ _ T162 (mkF m 48 #[.val (.int x0), .val (.int x1), .val (.int x2), .val (.long x3), .second, .val (.long x4), .second, .val (.int x5), .val (.int k), .val (.ref sA), .val (.ref eA), .unset, .unset, .unset, .unset] [])
        obtain ⟨T165, X165, e165, st165⟩ := getS2 X162 hx hZ hown (host := "") (Or.inl (hw _ (List.mem_of_getElem? (i := 0) rfl))) Via.refl e162 (Sta.ext O0 S_S) (g := (mkF m 48 #[.val (.int x0), .val (.int x1), .val (.int x2), .val (.long x3), .second, .val (.long x4), .second, .val (.int x5), .val (.int k), .val (.ref sA), .val (.ref eA), .unset, .unset, .unset, .unset] [])) rfl (hb hby at_48)
        refine Go.step st165 ?_
        show Go _ _ _ _ _ _ _ _ T165 (mkF m 51 #[.val (.int x0), .val (.int x1), .val (.int x2), .val (.long x3), .second, .val (.long x4), .second, .val (.int x5), .val (.int k), .val (.ref sA), .val (.ref eA), .unset, .unset, .unset, .unset] [(.ref sA)])
        refine Go.step (fun _ kt_ => XS.goto X165.here hx rfl (pc0 := 51) (pc' := 57) rfl (hb hby at_51) (by decide) (by decide) kt_) ?_
        show Go _ _ _ _ _ _ _ _ T165 (mkF m 57 #[.val (.int x0), .val (.int x1), .val (.int x2), .val (.long x3), .second, .val (.long x4), .second, .val (.int x5), .val (.int k), .val (.ref sA), .val (.ref eA), .unset, .unset, .unset, .unset] [(.ref sA)])
        refine Go.step (fun _ kt_ => XS.astore X165.here hx rfl (hb hby at_57) rfl rfl (l' := #[.val (.int x0), .val (.int x1), .val (.int x2), .val (.long x3), .second, .val (.long x4), .second, .val (.int x5), .val (.int k), .val (.ref sA), .val (.ref eA), .val (.ref sA), .unset, .unset, .unset]) rfl kt_) ?_
        show Go _ _ _ _ _ _ _ _ T165 (mkF m 59 #[.val (.int x0), .val (.int x1), .val (.int x2), .val (.long x3), .second, .val (.long x4), .second, .val (.int x5), .val (.int k), .val (.ref sA), .val (.ref eA), .val (.ref sA), .unset, .unset, .unset] [])
        exact cut59 T165 _ _ X165 e165 N0 hZ hown _ S0 kk0 sA eA sA 
    · refine Go.step (fun _ kt_ => XS.ifNo X160.here hx rfl (hb hby at_27) rfl ((if0 _ _).trans (feq hc27_161).1) kt_) ?_
      show Go _ _ _ _ _ _ _ _ T160 (mkF m 30 #[.val (.int x0), .val (.int x1), .val (.int x2), .val (.long x3), .second, .val (.long x4), .second, .val (.int x5), .val (.int k), .val (.ref sA), .unset, .unset, .unset, .unset, .unset] [])
      obtain ⟨T166, X166, e166, st166⟩ := getS2 X160 hx hZ hown (host := "") (Or.inl (hw _ (List.mem_of_getElem? (i := 0) rfl))) Via.refl e160 (Sta.ext O0 S_S) (g := (mkF m 30 #[.val (.int x0), .val (.int x1), .val (.int x2), .val (.long x3), .second, .val (.long x4), .second, .val (.int x5), .val (.int k), .val (.ref sA), .unset, .unset, .unset, .unset, .unset] [])) rfl (hb hby at_30)
      refine Go.step st166 ?_
      show Go _ _ _ _ _ _ _ _ T166 (mkF m 33 #[.val (.int x0), .val (.int x1), .val (.int x2), .val (.long x3), .second, .val (.long x4), .second, .val (.int x5), .val (.int k), .val (.ref sA), .unset, .unset, .unset, .unset, .unset] [(.ref sA)])
      refine Go.step (fun _ kt_ => XS.goto X166.here hx rfl (pc0 := 33) (pc' := 39) rfl (hb hby at_33) (by decide) (by decide) kt_) ?_
      show Go _ _ _ _ _ _ _ _ T166 (mkF m 39 #[.val (.int x0), .val (.int x1), .val (.int x2), .val (.long x3), .second, .val (.long x4), .second, .val (.int x5), .val (.int k), .val (.ref sA), .unset, .unset, .unset, .unset, .unset] [(.ref sA)])
      refine Go.step (fun _ kt_ => XS.astore X166.here hx rfl (hb hby at_39) rfl rfl (l' := #[.val (.int x0), .val (.int x1), .val (.int x2), .val (.long x3), .second, .val (.long x4), .second, .val (.int x5), .val (.int k), .val (.ref sA), .val (.ref sA), .unset, .unset, .unset, .unset]) rfl kt_) ?_
      show Go _ _ _ _ _ _ _ _ T166 (mkF m 41 #[.val (.int x0), .val (.int x1), .val (.int x2), .val (.long x3), .second, .val (.long x4), .second, .val (.int x5), .val (.int k), .val (.ref sA), .val (.ref sA), .unset, .unset, .unset, .unset] [])
      refine Go.step (fun _ kt_ => XS.iload X166.here hx rfl (hb hby at_41) rfl kt_) ?_
      show Go _ _ _ _ _ _ _ _ T166 (mkF m 43 #[.val (.int x0), .val (.int x1), .val (.int x2), .val (.long x3), .second, .val (.long x4), .second, .val (.int x5), .val (.int k), .val (.ref sA), .val (.ref sA), .unset, .unset, .unset, .unset] [(.int x5)])
      refine Go.step (fun _ kt_ => XS.iconst X166.here hx rfl (hb hby at_43)  kt_) ?_
      show Go _ _ _ _ _ _ _ _ T166 (mkF m 44 #[.val (.int x0), .val (.int x1), .val (.int x2), .val (.long x3), .second, .val (.long x4), .second, .val (.int x5), .val (.int k), .val (.ref sA), .val (.ref sA), .unset, .unset, .unset, .unset] [(.int (4 : Int32)), (.int x5)])
      refine Go.step (fun _ kt_ => XS.iand X166.here hx rfl (hb hby at_44) rfl kt_) ?_
      show Go _ _ _ _ _ _ _ _ T166 (mkF m 45 #[.val (.int x0), .val (.int x1), .val (.int x2), .val (.long x3), .second, .val (.long x4), .second, .val (.int x5), .val (.int k), .val (.ref sA), .val (.ref sA), .unset, .unset, .unset, .unset] [(.int (x5 &&& (4 : Int32)))])
      by_cases hc45_167 : (x5 &&& (4 : Int32)) = (0 : Int32)
      · refine Go.step (fun _ kt_ => XS.ifYes X166.here hx rfl (pc0 := 45) (pc' := 54) rfl (hb hby at_45) rfl ((if0 _ _).trans (teq hc45_167).1) (by decide) (by decide) kt_) ?_
        show Go _ _ _ _ _ _ _ _ T166 (mkF m 54 #[.val (.int x0), .val (.int x1), .val (.int x2), .val (.long x3), .second, .val (.long x4), .second, .val (.int x5), .val (.int k), .val (.ref sA), .val (.ref sA), .unset, .unset, .unset, .unset] [])
        obtain ⟨T168, X168, e168, st168⟩ := getS2 X166 hx hZ hown (host := "") (Or.inl (hw _ (List.mem_of_getElem? (i := 3) rfl))) Via.refl e166 (Sta.ext O0 S_E) (g := (mkF m 54 #[.val (.int x0), .val (.int x1), .val (.int x2), .val (.long x3), .second, .val (.long x4), .second, .val (.int x5), .val (.int k), .val (.ref sA), .val (.ref sA), .unset, .unset, .unset, .unset] [])) rfl (hb hby at_54)
        refine Go.step st168 ?_
        show Go _ _ _ _ _ _ _ _ T168 (mkF m 57 #[.val (.int x0), .val (.int x1), .val (.int x2), .val (.long x3), .second, .val (.long x4), .second, .val (.int x5), .val (.int k), .val (.ref sA), .val (.ref sA), .unset, .unset, .unset, .unset] [(.ref eA)])
        refine Go.step (fun _ kt_ => XS.astore X168.here hx rfl (hb hby at_57) rfl rfl (l' := #[.val (.int x0), .val (.int x1), .val (.int x2), .val (.long x3), .second, .val (.long x4), .second, .val (.int x5), .val (.int k), .val (.ref sA), .val (.ref sA), .val (.ref eA), .unset, .unset, .unset]) rfl kt_) ?_
        show Go _ _ _ _ _ _ _ _ T168 (mkF m 59 #[.val (.int x0), .val (.int x1), .val (.int x2), .val (.long x3), .second, .val (.long x4), .second, .val (.int x5), .val (.int k), .val (.ref sA), .val (.ref sA), .val (.ref eA), .unset, .unset, .unset] [])
        exact cut59 T168 _ _ X168 e168 N0 hZ hown _ S0 kk0 sA sA eA 
      · refine Go.step (fun _ kt_ => XS.ifNo X166.here hx rfl (hb hby at_45) rfl ((if0 _ _).trans (feq hc45_167).1) kt_) ?_
        show Go _ _ _ _ _ _ _ _ T166 (mkF m 48 #[.val (.int x0), .val (.int x1), .val (.int x2), .val (.long x3), .second, .val (.long x4), .second, .val (.int x5), .val (.int k), .val (.ref sA), .val (.ref sA), .unset, .unset, .unset, .unset] [])
        obtain ⟨T169, X169, e169, st169⟩ := getS2 X166 hx hZ hown (host := "") (Or.inl (hw _ (List.mem_of_getElem? (i := 0) rfl))) Via.refl e166 (Sta.ext O0 S_S) (g := (mkF m 48 #[.val (.int x0), .val (.int x1), .val (.int x2), .val (.long x3), .second, .val (.long x4), .second, .val (.int x5), .val (.int k), .val (.ref sA), .val (.ref sA), .unset, .unset, .unset, .unset] [])) rfl (hb hby at_48)
        refine Go.step st169 ?_
        show Go _ _ _ _ _ _ _ _ T169 (mkF m 51 #[.val (.int x0), .val (.int x1), .val (.int x2), .val (.long x3), .second, .val (.long x4), .second, .val (.int x5), .val (.int k), .val (.ref sA), .val (.ref sA), .unset, .unset, .unset, .unset] [(.ref sA)])
        refine Go.step (fun _ kt_ => XS.goto X169.here hx rfl (pc0 := 51) (pc' := 57) rfl (hb hby at_51) (by decide) (by decide) kt_) ?_
        show Go _ _ _ _ _ _ _ _ T169 (mkF m 57 #[.val (.int x0), .val (.int x1), .val (.int x2), .val (.long x3), .second, .val (.long x4), .second, .val (.int x5), .val (.int k), .val (.ref sA), .val (.ref sA), .unset, .unset, .unset, .unset] [(.ref sA)])
        refine Go.step (fun _ kt_ => XS.astore X169.here hx rfl (hb hby at_57) rfl rfl (l' := #[.val (.int x0), .val (.int x1), .val (.int x2), .val (.long x3), .second, .val (.long x4), .second, .val (.int x5), .val (.int k), .val (.ref sA), .val (.ref sA), .val (.ref sA), .unset, .unset, .unset]) rfl kt_) ?_
        show Go _ _ _ _ _ _ _ _ T169 (mkF m 59 #[.val (.int x0), .val (.int x1), .val (.int x2), .val (.long x3), .second, .val (.long x4), .second, .val (.int x5), .val (.int k), .val (.ref sA), .val (.ref sA), .val (.ref sA), .unset, .unset, .unset] [])
        exact cut59 T169 _ _ X169 e169 N0 hZ hown _ S0 kk0 sA sA sA 
set_option maxRecDepth 65536 in
set_option maxHeartbeats 40000000 in
theorem comes_1 {Post : Tables → Env → Array Value → State → Outcome → State → Prop} (hpost : ∀ tb e args s v u, (limb_1_1.after args s (.returned v) u = true ∧ limb_1_2.after args s (.returned v) u = true ∧ True) → ReturnedEndW s (.returned v) u (Jvm.fieldLocs frame_1_writes args s ++ Jvm.arrayLocs frame_1_arrays args s ++ Jvm.staticLocs frame_1_statics s) 40 4288 → Post tb e args s (.returned v) u) :
    ArmFor flags0 classFile x code maxLocals ret World_1 tables_1 room_1 Calls_1 rest_1 Pre_1 Post := by
  intro l hfl _ _ p e ha hc hk s m args below hf hA hF happ hP
  obtain ⟨hcalls, hrest, hpre⟩ := hP
  obtain ⟨-, -, -, hnamed, -, -, -, hat⟩ := (Spec.applies_iff hf).mp happ
  obtain ⟨hg, hn⟩ := and_e (Cond.before_iff.mp (show (Jvm.Cond.and given_1 narrow_1).before args s = true from hpre))
  obtain ⟨hcount, gr0⟩ := and_e hg
  obtain ⟨ga0, gr1⟩ := and_e gr0
  obtain ⟨ga1, gr2⟩ := and_e gr1
  obtain ⟨ga2, gr3⟩ := and_e gr2
  obtain ⟨ga3, gr4⟩ := and_e gr3
  obtain ⟨ga4, gr5⟩ := and_e gr4
  have ga5 := gr5
  obtain ⟨w0, w1, w2, w3, w4, w5, rfl⟩ : ∃ w0 w1 w2 w3 w4 w5 : Value, args = #[w0, w1, w2, w3, w4, w5] := by
    have hs : args.size = 6 := by simpa [Cond.value, given_1] using hcount
    obtain ⟨L⟩ := args
    match L, hs with
    | [w0, w1, w2, w3, w4, w5], _ => exact ⟨w0, w1, w2, w3, w4, w5, rfl⟩
  have hw := fun d (hd : d ∈ tables_1) => atoms_spec (ws := Jvm.Cond.code x code maxLocals ret :: tables_1) hat d (List.mem_cons_of_mem _ hd)
  have hfit : Fit s := fun {y c} hc i hi => by
    obtain ⟨ha, rfl⟩ := Array.getElem?_eq_some_iff.mp hc
    have q := List.all_eq_true.mp ((Array.all_eq_true_iff_forall_mem.mp hF) _ (Array.getElem_mem ha)) i (List.mem_range.mpr hi)
    simpa [Array.getElem?_eq_getElem hi] using q
  obtain ⟨hsets, hown0⟩ := atoms_of _ (rest_1_c_eq ▸ (show rest_1_c.before _ s = true from hrest))
  have hr0 := Cond.before_iff.mp hown0
  obtain ⟨i0, ei0⟩ := is_v ga0
  obtain rfl : w0 = (.int i0) := Option.some.inj ei0
  obtain ⟨i1, ei1⟩ := is_v ga1
  obtain rfl : w1 = (.int i1) := Option.some.inj ei1
  obtain ⟨i2, ei2⟩ := is_v ga2
  obtain rfl : w2 = (.int i2) := Option.some.inj ei2
  obtain ⟨i3, ei3⟩ := isL_v ga3
  obtain rfl : w3 = (.long i3) := Option.some.inj ei3
  obtain ⟨i4, ei4⟩ := isL_v ga4
  obtain rfl : w4 = (.long i4) := Option.some.inj ei4
  obtain ⟨i5, ei5⟩ := is_v ga5
  obtain rfl : w5 = (.int i5) := Option.some.inj ei5
  obtain ⟨nw0, nr0⟩ := and_e hn
  have nw1 := nr0
  obtain ⟨a_0, ev_0⟩ := exa_v nw0
  have S_0 : Sta s s.heap "com/example/wary_lock/warylock/LockMode" "SHARED" "Lcom/example/wary_lock/warylock/LockMode;" (.ref a_0) := Sta.start ev_0 (Or.inr ⟨(hw _ (List.mem_of_getElem? (i := 1) rfl)), (hw _ (List.mem_of_getElem? (i := 2) rfl))⟩)
  have X_0 : Exa s s.heap a_0 "com/example/wary_lock/warylock/LockMode" := Exa.start ev_0 nw0
  obtain ⟨a_1, ev_1⟩ := exa_v nw1
  have S_1 : Sta s s.heap "com/example/wary_lock/warylock/LockMode" "EXCLUSIVE" "Lcom/example/wary_lock/warylock/LockMode;" (.ref a_1) := Sta.start ev_1 (Or.inr ⟨(hw _ (List.mem_of_getElem? (i := 1) rfl)), (hw _ (List.mem_of_getElem? (i := 4) rfl))⟩)
  have X_1 : Exa s s.heap a_1 "com/example/wary_lock/warylock/LockMode" := Exa.start ev_1 nw1
  obtain ⟨dc, evdc⟩ := exa_v (Cond.before_iff.mp (hsets _ (List.mem_of_getElem? (i := 7) rfl)))
  have G_dc : Sta s s.heap "java/util/ArrayList" "DEFAULTCAPACITY_EMPTY_ELEMENTDATA" "[Ljava/lang/Object;" (.ref dc) := Sta.start evdc (Or.inr ⟨(hw _ (List.mem_of_getElem? (i := 7) rfl)), (hsets _ (List.mem_of_getElem? (i := 2) rfl))⟩)
  have G_dce : Exa s s.heap dc "[Ljava/lang/Object;" := Exa.start evdc (Cond.before_iff.mp (hsets _ (List.mem_of_getElem? (i := 7) rfl)))
  obtain ⟨kdc, G_dcv⟩ := own_arv0 (dv := .null) hfit evdc (Cond.before_iff.mp (hsets _ (List.mem_of_getElem? (i := 6) rfl))) (Cond.before_iff.mp (hsets _ (List.mem_of_getElem? (i := 8) rfl)))
  obtain ⟨el, evel⟩ := exa_v (Cond.before_iff.mp (hsets _ (List.mem_of_getElem? (i := 11) rfl)))
  have G_el : Sta s s.heap "java/util/ImmutableCollections" "EMPTY_LIST" "Ljava/util/ImmutableCollections$ListN;" (.ref el) := Sta.start evel (Or.inl (hsets _ (List.mem_of_getElem? (i := 10) rfl)))
  have G_ele : Exa s s.heap el "java/util/ImmutableCollections$ListN" := Exa.start evel (Cond.before_iff.mp (hsets _ (List.mem_of_getElem? (i := 11) rfl)))
  obtain ⟨ee, evee⟩ := exa_v (Cond.before_iff.mp (hsets _ (List.mem_of_getElem? (i := 13) rfl)))
  have G_elf : Fld s s.heap el "java/util/ImmutableCollections$ListN" "elements" "[Ljava/lang/Object;" (.ref ee) := Fld.start ((fld_at evel).symm.trans evee)
  obtain ⟨kee, G_eev⟩ := own_arv0 (dv := .null) hfit evee (Cond.before_iff.mp (hsets _ (List.mem_of_getElem? (i := 12) rfl))) (Cond.before_iff.mp (hsets _ (List.mem_of_getElem? (i := 14) rfl)))
  have G_hi : Sta s s.heap "java/lang/Integer$IntegerCache" "high" "I" (.int (127 : Int32)) := Sta.start (eqv_i (Term.int_eval 127) (Cond.before_iff.mp (hsets _ (List.mem_of_getElem? (i := 19) rfl)))) (Or.inl (hsets _ (List.mem_of_getElem? (i := 17) rfl)))
  obtain ⟨ca, evca⟩ := exa_v (Cond.before_iff.mp (hsets _ (List.mem_of_getElem? (i := 21) rfl)))
  have G_ca : Sta s s.heap "java/lang/Integer$IntegerCache" "cache" "[Ljava/lang/Integer;" (.ref ca) := Sta.start evca (Or.inr ⟨(hw _ (List.mem_of_getElem? (i := 238) rfl)), (hsets _ (List.mem_of_getElem? (i := 18) rfl))⟩)
  obtain ⟨cc, Acc⟩ := Arr.start evca (Cond.before_iff.mp (hsets _ (List.mem_of_getElem? (i := 20) rfl)))
  obtain ⟨qc1, qc2⟩ := own_len evca Acc (Cond.before_iff.mp (hsets _ (List.mem_of_getElem? (i := 22) rfl)))
  have G_bx : Bxs s ca cc "java/lang/Integer" "I" 256 (fun j => .int (j - 128)) := Bxs.start (fun idx => evca) Acc qc1 qc2 (by decide) (Cond.before_iff.mp (hsets _ (List.mem_of_getElem? (i := 23) rfl))) (fun X j hj hv => eqv_i (Term.sub_int (idx_at hj) (Term.int_eval 128)) hv)
  obtain ⟨eo, eveo⟩ := exa_v (Cond.before_iff.mp (hsets _ (List.mem_of_getElem? (i := 26) rfl)))
  have G_eo : Sta s s.heap "java/util/ImmutableCollections" "EMPTY" "Ljava/lang/Object;" (.ref eo) := Sta.start eveo (Or.inl (hsets _ (List.mem_of_getElem? (i := 25) rfl)))
  have G_eoe : Exa s s.heap eo "java/lang/Object" := Exa.start eveo (Cond.before_iff.mp (hsets _ (List.mem_of_getElem? (i := 26) rfl)))
  obtain ⟨⟨cmo, kmo, mo, hm1, hm2, hm3⟩, -⟩ := hcalls
  have G_mo : MirO s "[Ljava/lang/Object;" mo := ⟨cmo, kmo, hm1, hm2, hm3.1⟩
  obtain ⟨n, o, h1, h2, h3, _, L, rfl, ⟨rfl, N, -⟩, hq⟩ := rm_0 l s _ hw tables_1 dc kdc el ee kee ca cc eo mo G_dc G_dce G_dcv G_el G_ele G_elf G_eev G_hi G_ca G_bx G_eo G_eoe G_mo i0 i1 i2 i3 i4 i5 a_0 a_1 s.heap (extRfl _) S_0 S_1 p e ha hc hk s m _ below hf ((Spec.applies_iff_loose hf).mp happ).1 ⟨rfl, State.Warmed39.refl s, rfl⟩ trivial
  refine ⟨n, _, h1, h2, h3, hpost _ _ _ _ _ _ ⟨Cond.after_iff.mpr rfl, Cond.after_iff.mpr (eq_i res_at (Term.int_eval (1)) rfl), trivial⟩ ⟨hq.1, hq.2.1, hq.2.2.1, (hq.2.2.2.sift fun y hy => Or.inr (N y hy)).mono (by decide) (by decide)⟩⟩
theorem main_1_1 : Claimed_1_1 := comes_1 fun _ _ _ _ _ _ h hF => ⟨h.1, hF⟩
theorem main_1_2 : Claimed_1_2 := comes_1 fun _ _ _ _ _ _ h hF => ⟨h.2.1, hF⟩
end Jvm.Pilot.@@N@@
namespace Jvm.Pilot.@@N@@
open Jvm Jvm.ClassFile Sem Op Lib Jvm.Free Jvm.Stand Jvm.Pilot.@@N@@.Jvm.D
/-! MADE BY PROGRAM (witnessworld.py) out of the Statement's table words and the real class files: 41 classes; the members and pool entries that the words name. The judged class is class 1, her method 1. -/
namespace start1
open Jvm.ClassFile
def u (s : String) : CpInfo := .utf8 (stringToUtf16 s)
/-- a pool by its gaps: so many unusable entries, then the entry; so many at the end -/
def gap : Nat → List CpInfo → List CpInfo
  | 0, r => r
  | n + 1, r => .unusable :: gap n r
def poolList (es : List (Nat × CpInfo)) (last : Nat) : List CpInfo := es.foldr (fun e r => gap e.1 (e.2 :: r)) (gap last [])
def pool (es : List (Nat × CpInfo)) (last : Nat) : Array CpInfo := ⟨poolList es last⟩
def fileOf (pool : Array CpInfo) (this : Nat) (attrs : Array Attribute := #[]) (ms : Array MethodInfo := #[]) (fl : Nat := 33) (sup : Nat := 0) (ifs : Array Nat := #[]) (fds : Array FieldInfo := #[]) : ClassFile where
  minorVersion := 0
  majorVersion := 65
  constantPool := pool
  accessFlags := fl
  thisClass := this
  superClass := sup
  interfaces := ifs
  fields := fds
  methods := ms
  attributes := attrs
def plain (name : String) (sup : Option ClassId) : Class where
  name := name
  kind := .ordinary
  loader := none
  accessFlags := 33
  super := sup
  interfaces := #[]
  cf := none
  fields := #[]
  methods := #[]
  instanceTypes := #[]
  staticTypes := #[]
  resolved := #[]
  callSites := []
  init := .initialized
  statics := none
  mirror := none

def pool0 : Array CpInfo := pool [(5, u "<init>"), (0, u "()V"), (1, .class_ 10), (1, u "java/lang/Object"), (0, u "getClass"), (0, u "()Ljava/lang/Class;")] 111

def k0c0 : Code := { maxStack := 0, maxLocals := 1, code := object_method_1_code, exceptionTable := #[], attributes := #[] }
def k0m0 : Method := { name := "<init>", desc := "()V", sig := { parameters := [], returnType := none }, accessFlags := 1, code := some k0c0 }
def k0m1 : Method := { name := "getClass", desc := "()Ljava/lang/Class;", sig := { parameters := [], returnType := some (.object "java/lang/Class") }, accessFlags := 273, code := none }
/-- java/lang/Object -/
def k0 : Class := { plain "java/lang/Object" none with
  accessFlags := 33
  interfaces := #[]
  cf := some (fileOf pool0 8 #[] #[{ accessFlags := 1, nameIndex := 5, descriptorIndex := 6, attributes := #[] }, { accessFlags := 273, nameIndex := 11, descriptorIndex := 12, attributes := #[] }] 33 0 #[] #[])
  fields := #[]
  methods := #[k0m0, k0m1]
  instanceTypes := #[]
  staticTypes := #[]
  resolved := Array.replicate 124 none
  statics := none }

def pool1 : Array CpInfo := pool [(2, .class_ 4), (0, .nameAndType 5 6), (0, u "java/lang/Object"), (0, u "<init>"), (0, u "()V"), (0, .fieldref 8 9), (0, .class_ 10), (0, .nameAndType 11 12), (0, u "com/example/wary_lock/warylock/LockMode"), (0, u "SHARED"), (0, u "Lcom/example/wary_lock/warylock/LockMode;"), (0, .fieldref 8 14), (0, .nameAndType 15 12), (0, u "EXCLUSIVE"), (0, .class_ 17), (0, u "java/util/ArrayList"), (0, .methodref 16 3), (0, .class_ 20), (0, u "com/example/wary_lock/warylock/Lease"), (0, .string 22), (0, u "a"), (0, .string 24), (0, u "x"), (0, .methodref 19 26), (0, .nameAndType 5 27), (0, u "(Ljava/lang/String;Ljava/lang/String;JJLjava/time/Instant;JILcom/example/wary_lock/warylock/LockMode;)V"), (0, .methodref 16 29), (0, .nameAndType 30 31), (0, u "add"), (0, u "(Ljava/lang/Object;)Z"), (0, .string 33), (0, u "y"), (0, .string 35), (0, u "z"), (0, .class_ 37), (0, u "com/example/wary_lock/warylock/LockState"), (0, .methodref 36 39), (0, .nameAndType 5 40), (0, u "(Ljava/util/List;I)V"), (0, .methodref 36 42), (0, .nameAndType 43 44), (0, u "limit"), (0, u "()Ljava/lang/Integer;"), (0, .methodref 46 47), (0, .class_ 48), (0, .nameAndType 49 50), (0, u "java/lang/Integer"), (0, u "intValue"), (0, u "()I"), (0, .class_ 52), (0, u "com/example/wary_lock/warylock/LockStateLimitPinLaw"), (2, u "law"), (0, u "(IIIJJI)Z")] 3

def k1m0 : Method := { name := "<init>", desc := "()V", sig := { parameters := [], returnType := none }, accessFlags := 2, code := none }
def k1c1 : Code := { maxStack := 14, maxLocals := 15, code := code, exceptionTable := #[], attributes := #[] }
def k1m1 : Method := { name := "law", desc := "(IIIJJI)Z", sig := { parameters := [.int, .int, .int, .long, .long, .int], returnType := some .boolean }, accessFlags := 9, code := some k1c1 }
/-- com/example/wary_lock/warylock/LockStateLimitPinLaw -/
def k1 : Class := { plain "com/example/wary_lock/warylock/LockStateLimitPinLaw" (some 0) with
  accessFlags := 49
  interfaces := #[]
  cf := some (fileOf pool1 51 #[] #[{ accessFlags := 2, nameIndex := 5, descriptorIndex := 6, attributes := #[] }, { accessFlags := 9, nameIndex := 55, descriptorIndex := 56, attributes := #[] }] 49 2 #[] #[])
  fields := #[]
  methods := #[k1m0, k1m1]
  instanceTypes := #[]
  staticTypes := #[]
  resolved := Array.replicate 60 none
  statics := none }

def pool2 : Array CpInfo := pool [(1, .class_ 2), (0, u "java/lang/constant/Constable"), (0, .class_ 4), (0, u "java/lang/Object")] 6

/-- java/lang/constant/Constable -/
def k2 : Class := { plain "java/lang/constant/Constable" (some 0) with
  accessFlags := 1537
  interfaces := #[]
  cf := some (fileOf pool2 1 #[] #[] 1537 3 #[] #[])
  fields := #[]
  methods := #[]
  instanceTypes := #[]
  staticTypes := #[]
  resolved := Array.replicate 11 none
  statics := none }

def pool3 : Array CpInfo := pool [(1, .class_ 2), (0, u "java/lang/Comparable"), (0, .class_ 4), (0, u "java/lang/Object")] 7

/-- java/lang/Comparable -/
def k3 : Class := { plain "java/lang/Comparable" (some 0) with
  accessFlags := 1537
  interfaces := #[]
  cf := some (fileOf pool3 1 #[] #[] 1537 3 #[] #[])
  fields := #[]
  methods := #[]
  instanceTypes := #[]
  staticTypes := #[]
  resolved := Array.replicate 12 none
  statics := none }

def pool4 : Array CpInfo := pool [(1, .class_ 2), (0, u "java/io/Serializable"), (0, .class_ 4), (0, u "java/lang/Object")] 2

/-- java/io/Serializable -/
def k4 : Class := { plain "java/io/Serializable" (some 0) with
  accessFlags := 1537
  interfaces := #[]
  cf := some (fileOf pool4 1 #[] #[] 1537 3 #[] #[])
  fields := #[]
  methods := #[]
  instanceTypes := #[]
  staticTypes := #[]
  resolved := Array.replicate 7 none
  statics := none }

def pool5 : Array CpInfo := pool [(2, .class_ 4), (1, u "java/lang/Enum"), (0, u "name"), (0, u "Ljava/lang/String;"), (2, u "ordinal"), (0, u "I"), (1, .class_ 14), (1, u "java/lang/Object"), (4, u "hash"), (86, .class_ 108), (1, u "java/lang/Enum$EnumDesc"), (2, .class_ 112), (0, u "java/lang/constant/Constable"), (0, .class_ 114), (0, u "java/lang/Comparable"), (0, .class_ 116), (0, u "java/io/Serializable")] 87

/-- java/lang/Enum -/
def k5 : Class := { plain "java/lang/Enum" (some 0) with
  accessFlags := 1057
  interfaces := #[2, 3, 4]
  cf := some (fileOf pool5 2 #[.nestMembers #[106]] #[] 1057 12 #[111, 113, 115] #[{ accessFlags := 18, nameIndex := 5, descriptorIndex := 6, attributes := #[] }, { accessFlags := 18, nameIndex := 9, descriptorIndex := 10, attributes := #[] }, { accessFlags := 2, nameIndex := 19, descriptorIndex := 10, attributes := #[] }])
  fields := #[{ name := "name", type := (.object "java/lang/String"), accessFlags := 18, slot := 0, constantValue := 0 }, { name := "ordinal", type := .int, accessFlags := 18, slot := 1, constantValue := 0 }, { name := "hash", type := .int, accessFlags := 2, slot := 2, constantValue := 0 }]
  methods := #[]
  instanceTypes := #[(.object "java/lang/String"), .int, .int]
  staticTypes := #[]
  resolved := Array.replicate 204 none
  statics := none }

def pool6 : Array CpInfo := pool [(1, .class_ 2), (0, u "com/example/wary_lock/warylock/LockMode"), (2, u "EXCLUSIVE"), (0, u "Lcom/example/wary_lock/warylock/LockMode;"), (2, u "SHARED"), (2, u "$VALUES"), (0, u "[Lcom/example/wary_lock/warylock/LockMode;"), (6, .class_ 22), (1, u "java/lang/Enum")] 77

/-- com/example/wary_lock/warylock/LockMode -/
def k6 : Class := { plain "com/example/wary_lock/warylock/LockMode" (some 5) with
  accessFlags := 16433
  interfaces := #[]
  cf := some (fileOf pool6 1 #[] #[] 16433 20 #[] #[{ accessFlags := 16409, nameIndex := 5, descriptorIndex := 6, attributes := #[] }, { accessFlags := 16409, nameIndex := 9, descriptorIndex := 6, attributes := #[] }, { accessFlags := 4122, nameIndex := 12, descriptorIndex := 13, attributes := #[] }])
  fields := #[{ name := "EXCLUSIVE", type := (.object "com/example/wary_lock/warylock/LockMode"), accessFlags := 16409, slot := 0, constantValue := 0 }, { name := "SHARED", type := (.object "com/example/wary_lock/warylock/LockMode"), accessFlags := 16409, slot := 1, constantValue := 0 }, { name := "$VALUES", type := (.array (.object "com/example/wary_lock/warylock/LockMode")), accessFlags := 4122, slot := 2, constantValue := 0 }]
  methods := #[]
  instanceTypes := #[(.object "java/lang/String"), .int, .int]
  staticTypes := #[(.object "com/example/wary_lock/warylock/LockMode"), (.object "com/example/wary_lock/warylock/LockMode"), (.array (.object "com/example/wary_lock/warylock/LockMode"))]
  resolved := Array.replicate 100 none
  statics := some 0 }

def pool7 : Array CpInfo := pool [(8, .class_ 10), (1, u "java/lang/Iterable"), (24, .class_ 36), (0, u "java/lang/Object")] 25

/-- java/lang/Iterable -/
def k7 : Class := { plain "java/lang/Iterable" (some 0) with
  accessFlags := 1537
  interfaces := #[]
  cf := some (fileOf pool7 8 #[] #[] 1537 35 #[] #[])
  fields := #[]
  methods := #[]
  instanceTypes := #[]
  staticTypes := #[]
  resolved := Array.replicate 62 none
  statics := none }

def pool8 : Array CpInfo := pool [(10, .class_ 12), (1, u "java/util/Collection"), (0, u "toArray"), (16, u "()Z"), (29, .class_ 61), (0, u "java/lang/Object"), (0, .class_ 63), (0, u "java/lang/Iterable"), (2, u "isEmpty"), (3, u "()[Ljava/lang/Object;")] 44

def k8m0 : Method := { name := "isEmpty", desc := "()Z", sig := { parameters := [], returnType := some .boolean }, accessFlags := 1025, code := none }
def k8m1 : Method := { name := "toArray", desc := "()[Ljava/lang/Object;", sig := { parameters := [], returnType := some (.array (.object "java/lang/Object")) }, accessFlags := 1025, code := none }
/-- java/util/Collection -/
def k8 : Class := { plain "java/util/Collection" (some 0) with
  accessFlags := 1537
  interfaces := #[7]
  cf := some (fileOf pool8 10 #[] #[{ accessFlags := 1025, nameIndex := 66, descriptorIndex := 30, attributes := #[] }, { accessFlags := 1025, nameIndex := 13, descriptorIndex := 70, attributes := #[] }] 1537 60 #[62] #[])
  fields := #[]
  methods := #[k8m0, k8m1]
  instanceTypes := #[]
  staticTypes := #[]
  resolved := Array.replicate 115 none
  statics := none }

def pool9 : Array CpInfo := pool [(1, .methodref 2 3), (0, .class_ 4), (0, .nameAndType 5 6), (0, u "java/lang/Object"), (0, u "<init>"), (0, u "()V"), (1, .class_ 10), (1, u "java/util/AbstractCollection"), (66, .class_ 78), (0, u "java/util/Collection")] 81

def k9c0 : Code := { maxStack := 1, maxLocals := 1, code := jdk_22_method_1_code, exceptionTable := #[], attributes := #[] }
def k9m0 : Method := { name := "<init>", desc := "()V", sig := { parameters := [], returnType := none }, accessFlags := 4, code := some k9c0 }
/-- java/util/AbstractCollection -/
def k9 : Class := { plain "java/util/AbstractCollection" (some 0) with
  accessFlags := 1057
  interfaces := #[8]
  cf := some (fileOf pool9 8 #[] #[{ accessFlags := 4, nameIndex := 5, descriptorIndex := 6, attributes := #[] }] 1057 2 #[77] #[])
  fields := #[]
  methods := #[k9m0]
  instanceTypes := #[]
  staticTypes := #[]
  resolved := Array.replicate 160 none
  statics := none }

def pool10 : Array CpInfo := pool [(8, .class_ 10), (1, u "java/util/SequencedCollection"), (15, .class_ 27), (0, u "java/lang/Object"), (0, .class_ 29), (0, u "java/util/Collection")] 27

/-- java/util/SequencedCollection -/
def k10 : Class := { plain "java/util/SequencedCollection" (some 0) with
  accessFlags := 1537
  interfaces := #[8]
  cf := some (fileOf pool10 8 #[] #[] 1537 26 #[28] #[])
  fields := #[]
  methods := #[]
  instanceTypes := #[]
  staticTypes := #[]
  resolved := Array.replicate 57 none
  statics := none }

def pool11 : Array CpInfo := pool [(8, .class_ 10), (1, u "java/util/List"), (7, u "()Z"), (12, u "(Ljava/lang/Object;)V"), (16, u "<init>"), (18, u "isEmpty"), (7, u "get"), (0, u "(I)Ljava/lang/Object;"), (11, u "of"), (1, .fieldref 91 92), (0, .class_ 93), (0, .nameAndType 94 95), (0, u "java/util/ImmutableCollections"), (0, u "EMPTY_LIST"), (0, u "Ljava/util/ImmutableCollections$ListN;"), (0, .class_ 97), (0, u "java/util/ImmutableCollections$List12"), (0, .methodref 96 99), (0, .nameAndType 48 31), (0, .methodref 96 101), (0, .nameAndType 48 102), (0, u "(Ljava/lang/Object;Ljava/lang/Object;)V"), (0, .class_ 104), (0, u "java/lang/Object"), (3, u "([Ljava/lang/Object;)Ljava/util/List;"), (0, .methodref 91 110), (0, .nameAndType 111 108), (0, u "listFromArray"), (0, .methodref 91 113), (0, .nameAndType 114 115), (0, u "listCopy"), (0, u "(Ljava/util/Collection;)Ljava/util/List;"), (3, u "()Ljava/util/List;"), (0, .class_ 121), (0, u "java/util/SequencedCollection"), (112, u "copyOf")] 16

def k11m0 : Method := { name := "isEmpty", desc := "()Z", sig := { parameters := [], returnType := some .boolean }, accessFlags := 1025, code := none }
def k11m1 : Method := { name := "get", desc := "(I)Ljava/lang/Object;", sig := { parameters := [.int], returnType := some (.object "java/lang/Object") }, accessFlags := 1025, code := none }
def k11c2 : Code := { maxStack := 1, maxLocals := 0, code := jdk_40_method_36_code, exceptionTable := #[], attributes := #[] }
def k11m2 : Method := { name := "of", desc := "()Ljava/util/List;", sig := { parameters := [], returnType := some (.object "java/util/List") }, accessFlags := 9, code := some k11c2 }
def k11c3 : Code := { maxStack := 5, maxLocals := 2, code := jdk_40_method_47_code, exceptionTable := #[], attributes := #[] }
def k11m3 : Method := { name := "of", desc := "([Ljava/lang/Object;)Ljava/util/List;", sig := { parameters := [(.array (.object "java/lang/Object"))], returnType := some (.object "java/util/List") }, accessFlags := 137, code := some k11c3 }
def k11c4 : Code := { maxStack := 1, maxLocals := 1, code := jdk_40_method_48_code, exceptionTable := #[], attributes := #[] }
def k11m4 : Method := { name := "copyOf", desc := "(Ljava/util/Collection;)Ljava/util/List;", sig := { parameters := [(.object "java/util/Collection")], returnType := some (.object "java/util/List") }, accessFlags := 9, code := some k11c4 }
/-- java/util/List -/
def k11 : Class := { plain "java/util/List" (some 0) with
  accessFlags := 1537
  interfaces := #[10]
  cf := some (fileOf pool11 8 #[] #[{ accessFlags := 1025, nameIndex := 67, descriptorIndex := 18, attributes := #[] }, { accessFlags := 1025, nameIndex := 75, descriptorIndex := 76, attributes := #[] }, { accessFlags := 9, nameIndex := 88, descriptorIndex := 119, attributes := #[] }, { accessFlags := 137, nameIndex := 88, descriptorIndex := 108, attributes := #[] }, { accessFlags := 9, nameIndex := 234, descriptorIndex := 115, attributes := #[] }] 1537 103 #[120] #[])
  fields := #[]
  methods := #[k11m0, k11m1, k11m2, k11m3, k11m4]
  instanceTypes := #[]
  staticTypes := #[]
  resolved := Array.replicate 251 none
  statics := none }

def pool12 : Array CpInfo := pool [(1, .methodref 2 3), (0, .class_ 4), (0, .nameAndType 5 6), (0, u "java/util/AbstractCollection"), (0, u "<init>"), (0, u "()V"), (0, .fieldref 8 9), (0, .class_ 10), (0, .nameAndType 11 12), (0, u "java/util/AbstractList"), (0, u "modCount"), (0, u "I"), (64, .class_ 78), (0, u "java/util/AbstractList$Itr"), (3, .class_ 83), (0, u "java/util/AbstractList$ListItr"), (9, .class_ 94), (0, u "java/util/AbstractList$RandomAccessSubList"), (3, .class_ 99), (0, u "java/util/AbstractList$SubList"), (33, .class_ 134), (0, u "java/util/List"), (73, .class_ 209), (0, u "java/util/AbstractList$SubList$1"), (0, .class_ 211), (0, u "java/util/AbstractList$RandomAccessSpliterator")] 6

def k12c0 : Code := { maxStack := 2, maxLocals := 1, code := jdk_39_method_1_code, exceptionTable := #[], attributes := #[] }
def k12m0 : Method := { name := "<init>", desc := "()V", sig := { parameters := [], returnType := none }, accessFlags := 4, code := some k12c0 }
/-- java/util/AbstractList -/
def k12 : Class := { plain "java/util/AbstractList" (some 9) with
  accessFlags := 1057
  interfaces := #[11]
  cf := some (fileOf pool12 8 #[.nestMembers #[93, 98, 208, 210, 82, 77]] #[{ accessFlags := 4, nameIndex := 5, descriptorIndex := 6, attributes := #[] }] 1057 2 #[133] #[{ accessFlags := 132, nameIndex := 11, descriptorIndex := 12, attributes := #[] }])
  fields := #[{ name := "modCount", type := .int, accessFlags := 132, slot := 0, constantValue := 0 }]
  methods := #[k12m0]
  instanceTypes := #[.int]
  staticTypes := #[]
  resolved := Array.replicate 218 none
  statics := none }

def pool13 : Array CpInfo := pool [(1, .class_ 2), (0, u "java/util/RandomAccess"), (0, .class_ 4), (0, u "java/lang/Object")] 2

/-- java/util/RandomAccess -/
def k13 : Class := { plain "java/util/RandomAccess" (some 0) with
  accessFlags := 1537
  interfaces := #[]
  cf := some (fileOf pool13 1 #[] #[] 1537 3 #[] #[])
  fields := #[]
  methods := #[]
  instanceTypes := #[]
  staticTypes := #[]
  resolved := Array.replicate 7 none
  statics := none }

def pool14 : Array CpInfo := pool [(1, .class_ 2), (0, u "java/lang/Cloneable"), (0, .class_ 4), (0, u "java/lang/Object")] 2

/-- java/lang/Cloneable -/
def k14 : Class := { plain "java/lang/Cloneable" (some 0) with
  accessFlags := 1537
  interfaces := #[]
  cf := some (fileOf pool14 1 #[] #[] 1537 3 #[] #[])
  fields := #[]
  methods := #[]
  instanceTypes := #[]
  staticTypes := #[]
  resolved := Array.replicate 7 none
  statics := none }

def pool15 : Array CpInfo := pool [(1, .methodref 2 3), (0, .class_ 4), (0, .nameAndType 5 6), (0, u "java/util/AbstractList"), (0, u "<init>"), (0, u "()V"), (0, .class_ 8), (0, u "java/lang/Object"), (0, .fieldref 10 11), (0, .class_ 12), (0, .nameAndType 13 14), (0, u "java/util/ArrayList"), (0, u "elementData"), (0, u "[Ljava/lang/Object;"), (2, u "EMPTY_ELEMENTDATA"), (21, .fieldref 10 40), (0, .nameAndType 41 14), (0, u "DEFAULTCAPACITY_EMPTY_ELEMENTDATA"), (4, u "toArray"), (0, u "()[Ljava/lang/Object;"), (0, .fieldref 10 49), (0, .nameAndType 50 51), (0, u "size"), (0, u "I"), (6, .class_ 60), (1, u "java/util/Arrays"), (0, u "copyOf"), (1, .fieldref 10 64), (0, .nameAndType 65 51), (0, u "modCount"), (0, .methodref 58 67), (0, .nameAndType 61 68), (0, u "([Ljava/lang/Object;I)[Ljava/lang/Object;"), (0, .methodref 10 70), (0, .nameAndType 71 72), (0, u "grow"), (0, u "(I)[Ljava/lang/Object;"), (6, .methodref 80 81), (0, .class_ 82), (0, .nameAndType 83 84), (0, u "java/lang/Math"), (0, u "max"), (0, u "(II)I"), (11, u "(Ljava/lang/Object;)Z"), (32, .methodref 10 130), (0, .nameAndType 71 47), (0, .methodref 10 132), (0, .nameAndType 133 134), (0, u "add"), (0, u "(Ljava/lang/Object;[Ljava/lang/Object;I)V"), (13, .class_ 149), (0, u "java/util/List"), (23, u "()Z"), (88, .class_ 263), (0, u "java/util/ArrayList$ListItr"), (3, .class_ 268), (0, u "java/util/ArrayList$Itr"), (7, .class_ 277), (0, u "java/util/ArrayList$SubList"), (12, .class_ 291), (0, u "java/util/ArrayList$ArrayListSpliterator"), (37, .class_ 330), (0, u "java/util/RandomAccess"), (0, .class_ 332), (0, u "java/lang/Cloneable"), (0, .class_ 334), (0, u "java/io/Serializable"), (0, u "serialVersionUID"), (0, u "J"), (3, u "DEFAULT_CAPACITY"), (22, u "isEmpty"), (136, .class_ 501), (0, u "java/util/ArrayList$SubList$2"), (0, .class_ 503), (0, u "java/util/ArrayList$SubList$1")] 5

def k15c0 : Code := { maxStack := 2, maxLocals := 1, code := jdk_38_method_2_code, exceptionTable := #[], attributes := #[] }
def k15m0 : Method := { name := "<init>", desc := "()V", sig := { parameters := [], returnType := none }, accessFlags := 1, code := some k15c0 }
def k15c1 : Code := { maxStack := 4, maxLocals := 4, code := jdk_38_method_6_code, exceptionTable := #[], attributes := #[] }
def k15m1 : Method := { name := "grow", desc := "(I)[Ljava/lang/Object;", sig := { parameters := [.int], returnType := some (.array (.object "java/lang/Object")) }, accessFlags := 2, code := some k15c1 }
def k15c2 : Code := { maxStack := 3, maxLocals := 1, code := jdk_38_method_7_code, exceptionTable := #[], attributes := #[] }
def k15m2 : Method := { name := "grow", desc := "()[Ljava/lang/Object;", sig := { parameters := [], returnType := some (.array (.object "java/lang/Object")) }, accessFlags := 2, code := some k15c2 }
def k15c3 : Code := { maxStack := 1, maxLocals := 1, code := jdk_38_method_9_code, exceptionTable := #[], attributes := #[] }
def k15m3 : Method := { name := "isEmpty", desc := "()Z", sig := { parameters := [], returnType := some .boolean }, accessFlags := 1, code := some k15c3 }
def k15c4 : Code := { maxStack := 2, maxLocals := 1, code := jdk_38_method_16_code, exceptionTable := #[], attributes := #[] }
def k15m4 : Method := { name := "toArray", desc := "()[Ljava/lang/Object;", sig := { parameters := [], returnType := some (.array (.object "java/lang/Object")) }, accessFlags := 1, code := some k15c4 }
def k15c5 : Code := { maxStack := 3, maxLocals := 4, code := jdk_38_method_24_code, exceptionTable := #[], attributes := #[] }
def k15m5 : Method := { name := "add", desc := "(Ljava/lang/Object;[Ljava/lang/Object;I)V", sig := { parameters := [(.object "java/lang/Object"), (.array (.object "java/lang/Object")), .int], returnType := none }, accessFlags := 2, code := some k15c5 }
def k15c6 : Code := { maxStack := 4, maxLocals := 2, code := jdk_38_method_25_code, exceptionTable := #[], attributes := #[] }
def k15m6 : Method := { name := "add", desc := "(Ljava/lang/Object;)Z", sig := { parameters := [(.object "java/lang/Object")], returnType := some .boolean }, accessFlags := 1, code := some k15c6 }
/-- java/util/ArrayList -/
def k15 : Class := { plain "java/util/ArrayList" (some 12) with
  accessFlags := 33
  interfaces := #[11, 13, 14, 4]
  cf := some (fileOf pool15 10 #[.nestMembers #[290, 276, 500, 502, 262, 267]] #[{ accessFlags := 1, nameIndex := 5, descriptorIndex := 6, attributes := #[] }, { accessFlags := 2, nameIndex := 71, descriptorIndex := 72, attributes := #[] }, { accessFlags := 2, nameIndex := 71, descriptorIndex := 47, attributes := #[] }, { accessFlags := 1, nameIndex := 363, descriptorIndex := 173, attributes := #[] }, { accessFlags := 1, nameIndex := 46, descriptorIndex := 47, attributes := #[] }, { accessFlags := 2, nameIndex := 133, descriptorIndex := 134, attributes := #[] }, { accessFlags := 1, nameIndex := 133, descriptorIndex := 96, attributes := #[] }] 33 2 #[148, 329, 331, 333] #[{ accessFlags := 26, nameIndex := 335, descriptorIndex := 336, attributes := #[] }, { accessFlags := 26, nameIndex := 340, descriptorIndex := 51, attributes := #[] }, { accessFlags := 26, nameIndex := 17, descriptorIndex := 14, attributes := #[] }, { accessFlags := 26, nameIndex := 41, descriptorIndex := 14, attributes := #[] }, { accessFlags := 128, nameIndex := 13, descriptorIndex := 14, attributes := #[] }, { accessFlags := 2, nameIndex := 50, descriptorIndex := 51, attributes := #[] }])
  fields := #[{ name := "serialVersionUID", type := .long, accessFlags := 26, slot := 0, constantValue := 0 }, { name := "DEFAULT_CAPACITY", type := .int, accessFlags := 26, slot := 1, constantValue := 0 }, { name := "EMPTY_ELEMENTDATA", type := (.array (.object "java/lang/Object")), accessFlags := 26, slot := 2, constantValue := 0 }, { name := "DEFAULTCAPACITY_EMPTY_ELEMENTDATA", type := (.array (.object "java/lang/Object")), accessFlags := 26, slot := 3, constantValue := 0 }, { name := "elementData", type := (.array (.object "java/lang/Object")), accessFlags := 128, slot := 1, constantValue := 0 }, { name := "size", type := .int, accessFlags := 2, slot := 2, constantValue := 0 }]
  methods := #[k15m0, k15m1, k15m2, k15m3, k15m4, k15m5, k15m6]
  instanceTypes := #[.int, (.array (.object "java/lang/Object")), .int]
  staticTypes := #[.long, .int, (.array (.object "java/lang/Object")), (.array (.object "java/lang/Object"))]
  resolved := Array.replicate 509 none
  statics := some 1 }

def pool16 : Array CpInfo := pool [(1, .methodref 2 3), (0, .class_ 4), (0, .nameAndType 5 6), (0, u "java/lang/Object"), (0, u "<init>"), (0, u "()V"), (0, .class_ 8), (0, u "java/lang/Record")] 13

def k16c0 : Code := { maxStack := 1, maxLocals := 1, code := jdk_30_method_1_code, exceptionTable := #[], attributes := #[] }
def k16m0 : Method := { name := "<init>", desc := "()V", sig := { parameters := [], returnType := none }, accessFlags := 4, code := some k16c0 }
/-- java/lang/Record -/
def k16 : Class := { plain "java/lang/Record" (some 0) with
  accessFlags := 1057
  interfaces := #[]
  cf := some (fileOf pool16 7 #[] #[{ accessFlags := 4, nameIndex := 5, descriptorIndex := 6, attributes := #[] }] 1057 2 #[] #[])
  fields := #[]
  methods := #[k16m0]
  instanceTypes := #[]
  staticTypes := #[]
  resolved := Array.replicate 22 none
  statics := none }

def pool17 : Array CpInfo := pool [(1, .methodref 2 3), (0, .class_ 4), (0, .nameAndType 5 6), (0, u "java/lang/Record"), (0, u "<init>"), (0, u "()V"), (0, .interfaceMethodref 8 9), (0, .class_ 10), (0, .nameAndType 11 12), (0, u "java/util/List"), (0, u "copyOf"), (0, u "(Ljava/util/Collection;)Ljava/util/List;"), (0, .fieldref 14 15), (0, .class_ 16), (0, .nameAndType 17 18), (0, u "com/example/wary_lock/warylock/LockState"), (0, u "holders"), (0, u "Ljava/util/List;"), (0, .fieldref 14 20), (0, .nameAndType 21 22), (0, u "waiting"), (0, u "I"), (0, .interfaceMethodref 8 24), (0, .nameAndType 25 26), (0, u "isEmpty"), (0, u "()Z"), (0, .interfaceMethodref 8 28), (0, .nameAndType 29 30), (0, u "get"), (0, u "(I)Ljava/lang/Object;"), (0, .class_ 32), (0, u "com/example/wary_lock/warylock/Lease"), (0, .methodref 31 34), (0, .nameAndType 35 36), (0, u "limit"), (0, u "()I"), (0, .methodref 38 39), (0, .class_ 40), (0, .nameAndType 41 42), (0, u "java/lang/Integer"), (0, u "valueOf"), (0, u "(I)Ljava/lang/Integer;"), (14, u "(Ljava/util/List;I)V"), (4, u "()Ljava/lang/Integer;")] 26

def k17c0 : Code := { maxStack := 2, maxLocals := 3, code := prog_11_method_1_code, exceptionTable := #[], attributes := #[] }
def k17m0 : Method := { name := "<init>", desc := "(Ljava/util/List;I)V", sig := { parameters := [(.object "java/util/List"), .int], returnType := none }, accessFlags := 1, code := some k17c0 }
def k17c1 : Code := { maxStack := 2, maxLocals := 1, code := prog_11_method_2_code, exceptionTable := #[], attributes := #[] }
def k17m1 : Method := { name := "limit", desc := "()Ljava/lang/Integer;", sig := { parameters := [], returnType := some (.object "java/lang/Integer") }, accessFlags := 1, code := some k17c1 }
/-- com/example/wary_lock/warylock/LockState -/
def k17 : Class := { plain "com/example/wary_lock/warylock/LockState" (some 16) with
  accessFlags := 49
  interfaces := #[]
  cf := some (fileOf pool17 14 #[] #[{ accessFlags := 1, nameIndex := 5, descriptorIndex := 57, attributes := #[] }, { accessFlags := 1, nameIndex := 35, descriptorIndex := 62, attributes := #[] }] 49 2 #[] #[{ accessFlags := 18, nameIndex := 17, descriptorIndex := 18, attributes := #[] }, { accessFlags := 18, nameIndex := 21, descriptorIndex := 22, attributes := #[] }])
  fields := #[{ name := "holders", type := (.object "java/util/List"), accessFlags := 18, slot := 0, constantValue := 0 }, { name := "waiting", type := .int, accessFlags := 18, slot := 1, constantValue := 0 }]
  methods := #[k17m0, k17m1]
  instanceTypes := #[(.object "java/util/List"), .int]
  staticTypes := #[]
  resolved := Array.replicate 89 none
  statics := none }

def pool18 : Array CpInfo := pool [(2, .class_ 4), (1, u "java/lang/Object"), (0, u "<init>"), (0, u "()V"), (3, .class_ 11), (0, u "java/util/ImmutableCollections$List12"), (0, .class_ 13), (0, u "java/util/ImmutableCollections$ListN"), (3, u "Z"), (0, .class_ 19), (0, u "java/util/List"), (0, .interfaceMethodref 21 22), (0, .class_ 23), (0, .nameAndType 24 25), (0, u "java/util/Collection"), (0, u "isEmpty"), (0, u "()Z"), (0, .interfaceMethodref 18 27), (0, .nameAndType 28 29), (0, u "of"), (0, u "()Ljava/util/List;"), (0, .interfaceMethodref 21 31), (0, .nameAndType 32 33), (0, u "toArray"), (0, u "()[Ljava/lang/Object;"), (0, .interfaceMethodref 18 35), (0, .nameAndType 28 36), (0, u "([Ljava/lang/Object;)Ljava/util/List;"), (0, .methodref 38 39), (0, .class_ 40), (0, .nameAndType 41 42), (0, u "java/util/Objects"), (0, u "requireNonNull"), (0, u "(Ljava/lang/Object;)Ljava/lang/Object;"), (0, .methodref 12 44), (0, .nameAndType 5 45), (0, u "([Ljava/lang/Object;Z)V"), (1, .class_ 49), (1, u "java/util/ImmutableCollections"), (0, u "$assertionsDisabled"), (5, u "[Ljava/lang/Object;"), (5, u "EMPTY_LIST"), (0, u "Ljava/util/ImmutableCollections$ListN;"), (8, u "EMPTY_LIST_NULLS"), (22, u "SALT32L"), (0, u "J"), (2, u "REVERSE"), (6, u "archivedObjects"), (2, u "EMPTY"), (0, u "Ljava/lang/Object;"), (0, .class_ 112), (0, u "java/util/ImmutableCollections$SetN"), (5, u "EMPTY_SET"), (0, u "Ljava/util/ImmutableCollections$SetN;"), (0, .class_ 121), (0, u "java/util/ImmutableCollections$MapN"), (3, u "EMPTY_MAP"), (0, u "Ljava/util/ImmutableCollections$MapN;"), (4, u "EXPAND_FACTOR"), (0, u "I"), (9, u "listCopy"), (0, u "(Ljava/util/Collection;)Ljava/util/List;"), (7, u "listFromArray"), (17, .class_ 170), (0, u "java/util/ImmutableCollections$MapN$MapNIterator"), (0, .class_ 172), (0, u "java/util/ImmutableCollections$MapN$1"), (0, .class_ 174), (0, u "java/util/ImmutableCollections$Map1"), (0, .class_ 176), (0, u "java/util/ImmutableCollections$AbstractImmutableMap"), (0, .class_ 178), (0, u "java/util/ImmutableCollections$SetN$SetNIterator"), (0, .class_ 180), (0, u "java/util/ImmutableCollections$Set12"), (0, .class_ 182), (0, u "java/util/ImmutableCollections$Set12$1"), (0, .class_ 184), (0, u "java/util/ImmutableCollections$AbstractImmutableSet"), (0, .class_ 186), (0, u "java/util/ImmutableCollections$SubList"), (0, .class_ 188), (0, u "java/util/ImmutableCollections$ListItr"), (0, .class_ 190), (0, u "java/util/ImmutableCollections$AbstractImmutableList"), (0, .class_ 192), (0, u "java/util/ImmutableCollections$AbstractImmutableCollection"), (0, .class_ 194), (0, u "java/util/ImmutableCollections$Access"), (0, .class_ 196), (0, u "java/util/ImmutableCollections$Access$1")] 16

def k18m0 : Method := { name := "<init>", desc := "()V", sig := { parameters := [], returnType := none }, accessFlags := 2, code := none }
def k18c1 : Code := { maxStack := 1, maxLocals := 2, code := jdk_56_method_3_code, exceptionTable := #[], attributes := #[] }
def k18m1 : Method := { name := "listCopy", desc := "(Ljava/util/Collection;)Ljava/util/List;", sig := { parameters := [(.object "java/util/Collection")], returnType := some (.object "java/util/List") }, accessFlags := 8, code := some k18c1 }
def k18c2 : Code := { maxStack := 4, maxLocals := 3, code := jdk_56_method_4_code, exceptionTable := #[], attributes := #[] }
def k18m2 : Method := { name := "listFromArray", desc := "([Ljava/lang/Object;)Ljava/util/List;", sig := { parameters := [(.array (.object "java/lang/Object"))], returnType := some (.object "java/util/List") }, accessFlags := 136, code := some k18c2 }
/-- java/util/ImmutableCollections -/
def k18 : Class := { plain "java/util/ImmutableCollections" (some 0) with
  accessFlags := 32
  interfaces := #[]
  cf := some (fileOf pool18 47 #[.nestMembers #[120, 169, 171, 173, 175, 111, 177, 179, 181, 183, 12, 10, 185, 187, 189, 191, 193, 195]] #[{ accessFlags := 2, nameIndex := 5, descriptorIndex := 6, attributes := #[] }, { accessFlags := 8, nameIndex := 142, descriptorIndex := 143, attributes := #[] }, { accessFlags := 136, nameIndex := 151, descriptorIndex := 36, attributes := #[] }] 32 2 #[] #[{ accessFlags := 26, nameIndex := 95, descriptorIndex := 96, attributes := #[] }, { accessFlags := 26, nameIndex := 99, descriptorIndex := 17, attributes := #[] }, { accessFlags := 10, nameIndex := 106, descriptorIndex := 56, attributes := #[] }, { accessFlags := 26, nameIndex := 109, descriptorIndex := 110, attributes := #[] }, { accessFlags := 24, nameIndex := 62, descriptorIndex := 63, attributes := #[] }, { accessFlags := 24, nameIndex := 72, descriptorIndex := 63, attributes := #[] }, { accessFlags := 24, nameIndex := 118, descriptorIndex := 119, attributes := #[] }, { accessFlags := 24, nameIndex := 125, descriptorIndex := 126, attributes := #[] }, { accessFlags := 24, nameIndex := 131, descriptorIndex := 132, attributes := #[] }, { accessFlags := 4120, nameIndex := 50, descriptorIndex := 17, attributes := #[] }])
  fields := #[{ name := "SALT32L", type := .long, accessFlags := 26, slot := 0, constantValue := 0 }, { name := "REVERSE", type := .boolean, accessFlags := 26, slot := 1, constantValue := 0 }, { name := "archivedObjects", type := (.array (.object "java/lang/Object")), accessFlags := 10, slot := 2, constantValue := 0 }, { name := "EMPTY", type := (.object "java/lang/Object"), accessFlags := 26, slot := 3, constantValue := 0 }, { name := "EMPTY_LIST", type := (.object "java/util/ImmutableCollections$ListN"), accessFlags := 24, slot := 4, constantValue := 0 }, { name := "EMPTY_LIST_NULLS", type := (.object "java/util/ImmutableCollections$ListN"), accessFlags := 24, slot := 5, constantValue := 0 }, { name := "EMPTY_SET", type := (.object "java/util/ImmutableCollections$SetN"), accessFlags := 24, slot := 6, constantValue := 0 }, { name := "EMPTY_MAP", type := (.object "java/util/ImmutableCollections$MapN"), accessFlags := 24, slot := 7, constantValue := 0 }, { name := "EXPAND_FACTOR", type := .int, accessFlags := 24, slot := 8, constantValue := 0 }, { name := "$assertionsDisabled", type := .boolean, accessFlags := 4120, slot := 9, constantValue := 0 }]
  methods := #[k18m0, k18m1, k18m2]
  instanceTypes := #[]
  staticTypes := #[.long, .boolean, (.array (.object "java/lang/Object")), (.object "java/lang/Object"), (.object "java/util/ImmutableCollections$ListN"), (.object "java/util/ImmutableCollections$ListN"), (.object "java/util/ImmutableCollections$SetN"), (.object "java/util/ImmutableCollections$MapN"), .int, .boolean]
  resolved := Array.replicate 213 none
  statics := some 2 }

def pool19 : Array CpInfo := pool [(1, .methodref 2 3), (0, .class_ 4), (0, .nameAndType 5 6), (0, u "java/util/AbstractCollection"), (0, u "<init>"), (0, u "()V"), (1, .class_ 10), (1, u "java/util/ImmutableCollections"), (2, .class_ 14), (0, u "java/util/ImmutableCollections$AbstractImmutableCollection")] 41

def k19c0 : Code := { maxStack := 1, maxLocals := 1, code := jdk_47_method_1_code, exceptionTable := #[], attributes := #[] }
def k19m0 : Method := { name := "<init>", desc := "()V", sig := { parameters := [], returnType := none }, accessFlags := 0, code := some k19c0 }
/-- java/util/ImmutableCollections$AbstractImmutableCollection -/
def k19 : Class := { plain "java/util/ImmutableCollections$AbstractImmutableCollection" (some 9) with
  accessFlags := 1056
  interfaces := #[]
  cf := some (fileOf pool19 13 #[.nestHost 8] #[{ accessFlags := 0, nameIndex := 5, descriptorIndex := 6, attributes := #[] }] 1056 2 #[] #[])
  fields := #[]
  methods := #[k19m0]
  instanceTypes := #[]
  staticTypes := #[]
  resolved := Array.replicate 56 none
  statics := none }

def pool20 : Array CpInfo := pool [(1, .methodref 2 3), (0, .class_ 4), (0, .nameAndType 5 6), (0, u "java/util/ImmutableCollections$AbstractImmutableCollection"), (0, u "<init>"), (0, u "()V"), (1, .class_ 10), (1, u "java/util/ImmutableCollections"), (3, .class_ 16), (1, u "java/util/ImmutableCollections$AbstractImmutableList"), (60, .class_ 78), (0, u "java/util/List"), (45, .class_ 125), (0, u "java/util/RandomAccess")] 70

def k20c0 : Code := { maxStack := 1, maxLocals := 1, code := jdk_46_method_1_code, exceptionTable := #[], attributes := #[] }
def k20m0 : Method := { name := "<init>", desc := "()V", sig := { parameters := [], returnType := none }, accessFlags := 0, code := some k20c0 }
/-- java/util/ImmutableCollections$AbstractImmutableList -/
def k20 : Class := { plain "java/util/ImmutableCollections$AbstractImmutableList" (some 19) with
  accessFlags := 1056
  interfaces := #[11, 13]
  cf := some (fileOf pool20 14 #[.nestHost 8] #[{ accessFlags := 0, nameIndex := 5, descriptorIndex := 6, attributes := #[] }] 1056 2 #[77, 124] #[])
  fields := #[]
  methods := #[k20m0]
  instanceTypes := #[]
  staticTypes := #[]
  resolved := Array.replicate 196 none
  statics := none }

def pool21 : Array CpInfo := pool [(1, .methodref 2 3), (0, .class_ 4), (0, .nameAndType 5 6), (0, u "java/util/ImmutableCollections$AbstractImmutableList"), (0, u "<init>"), (0, u "()V"), (0, .methodref 8 9), (0, .class_ 10), (0, .nameAndType 11 12), (0, u "java/util/Objects"), (0, u "requireNonNull"), (0, u "(Ljava/lang/Object;)Ljava/lang/Object;"), (0, .fieldref 14 15), (0, .class_ 16), (0, .nameAndType 17 18), (0, u "java/util/ImmutableCollections$List12"), (0, u "e0"), (0, u "Ljava/lang/Object;"), (0, .fieldref 20 21), (0, .class_ 22), (0, .nameAndType 23 18), (0, u "java/util/ImmutableCollections"), (0, u "EMPTY"), (0, .fieldref 14 25), (0, .nameAndType 26 18), (0, u "e1"), (43, .class_ 71), (0, u "java/io/Serializable"), (4, u "(Ljava/lang/Object;)V"), (8, u "(Ljava/lang/Object;Ljava/lang/Object;)V"), (2, u "isEmpty"), (0, u "()Z"), (0, u "get"), (0, u "(I)Ljava/lang/Object;")] 33

def k21c0 : Code := { maxStack := 2, maxLocals := 2, code := jdk_44_method_1_code, exceptionTable := #[], attributes := #[] }
def k21m0 : Method := { name := "<init>", desc := "(Ljava/lang/Object;)V", sig := { parameters := [(.object "java/lang/Object")], returnType := none }, accessFlags := 0, code := some k21c0 }
def k21c1 : Code := { maxStack := 2, maxLocals := 3, code := jdk_44_method_2_code, exceptionTable := #[], attributes := #[] }
def k21m1 : Method := { name := "<init>", desc := "(Ljava/lang/Object;Ljava/lang/Object;)V", sig := { parameters := [(.object "java/lang/Object"), (.object "java/lang/Object")], returnType := none }, accessFlags := 0, code := some k21c1 }
def k21c2 : Code := { maxStack := 1, maxLocals := 1, code := jdk_44_method_4_code, exceptionTable := #[], attributes := #[] }
def k21m2 : Method := { name := "isEmpty", desc := "()Z", sig := { parameters := [], returnType := some .boolean }, accessFlags := 1, code := some k21c2 }
def k21c3 : Code := { maxStack := 2, maxLocals := 2, code := jdk_44_method_5_code, exceptionTable := #[], attributes := #[] }
def k21m3 : Method := { name := "get", desc := "(I)Ljava/lang/Object;", sig := { parameters := [.int], returnType := some (.object "java/lang/Object") }, accessFlags := 1, code := some k21c3 }
/-- java/util/ImmutableCollections$List12 -/
def k21 : Class := { plain "java/util/ImmutableCollections$List12" (some 20) with
  accessFlags := 48
  interfaces := #[4]
  cf := some (fileOf pool21 14 #[.nestHost 20] #[{ accessFlags := 0, nameIndex := 5, descriptorIndex := 76, attributes := #[] }, { accessFlags := 0, nameIndex := 5, descriptorIndex := 85, attributes := #[] }, { accessFlags := 1, nameIndex := 88, descriptorIndex := 89, attributes := #[] }, { accessFlags := 1, nameIndex := 90, descriptorIndex := 91, attributes := #[] }] 48 2 #[70] #[{ accessFlags := 18, nameIndex := 17, descriptorIndex := 18, attributes := #[] }, { accessFlags := 18, nameIndex := 26, descriptorIndex := 18, attributes := #[] }])
  fields := #[{ name := "e0", type := (.object "java/lang/Object"), accessFlags := 18, slot := 0, constantValue := 0 }, { name := "e1", type := (.object "java/lang/Object"), accessFlags := 18, slot := 1, constantValue := 0 }]
  methods := #[k21m0, k21m1, k21m2, k21m3]
  instanceTypes := #[(.object "java/lang/Object"), (.object "java/lang/Object")]
  staticTypes := #[]
  resolved := Array.replicate 125 none
  statics := none }

def pool22 : Array CpInfo := pool [(1, .methodref 2 3), (0, .class_ 4), (0, .nameAndType 5 6), (0, u "java/util/ImmutableCollections$AbstractImmutableList"), (0, u "<init>"), (0, u "()V"), (0, .fieldref 8 9), (0, .class_ 10), (0, .nameAndType 11 12), (0, u "java/util/ImmutableCollections$ListN"), (0, u "elements"), (0, u "[Ljava/lang/Object;"), (0, .fieldref 8 14), (0, .nameAndType 15 16), (0, u "allowNulls"), (0, u "Z"), (42, .class_ 60), (0, u "java/io/Serializable"), (4, u "([Ljava/lang/Object;Z)V"), (8, u "isEmpty"), (0, u "()Z"), (3, u "get"), (0, u "(I)Ljava/lang/Object;"), (33, .class_ 115), (0, u "java/util/ImmutableCollections")] 3

def k22c0 : Code := { maxStack := 2, maxLocals := 3, code := jdk_45_method_1_code, exceptionTable := #[], attributes := #[] }
def k22m0 : Method := { name := "<init>", desc := "([Ljava/lang/Object;Z)V", sig := { parameters := [(.array (.object "java/lang/Object")), .boolean], returnType := none }, accessFlags := 2, code := some k22c0 }
def k22c1 : Code := { maxStack := 1, maxLocals := 1, code := jdk_45_method_2_code, exceptionTable := #[], attributes := #[] }
def k22m1 : Method := { name := "isEmpty", desc := "()Z", sig := { parameters := [], returnType := some .boolean }, accessFlags := 1, code := some k22c1 }
def k22c2 : Code := { maxStack := 2, maxLocals := 2, code := jdk_45_method_4_code, exceptionTable := #[], attributes := #[] }
def k22m2 : Method := { name := "get", desc := "(I)Ljava/lang/Object;", sig := { parameters := [.int], returnType := some (.object "java/lang/Object") }, accessFlags := 1, code := some k22c2 }
/-- java/util/ImmutableCollections$ListN -/
def k22 : Class := { plain "java/util/ImmutableCollections$ListN" (some 20) with
  accessFlags := 48
  interfaces := #[4]
  cf := some (fileOf pool22 8 #[.nestHost 114] #[{ accessFlags := 2, nameIndex := 5, descriptorIndex := 65, attributes := #[] }, { accessFlags := 1, nameIndex := 74, descriptorIndex := 75, attributes := #[] }, { accessFlags := 1, nameIndex := 79, descriptorIndex := 80, attributes := #[] }] 48 2 #[59] #[{ accessFlags := 18, nameIndex := 11, descriptorIndex := 12, attributes := #[] }, { accessFlags := 18, nameIndex := 15, descriptorIndex := 16, attributes := #[] }])
  fields := #[{ name := "elements", type := (.array (.object "java/lang/Object")), accessFlags := 18, slot := 0, constantValue := 0 }, { name := "allowNulls", type := .boolean, accessFlags := 18, slot := 1, constantValue := 0 }]
  methods := #[k22m0, k22m1, k22m2]
  instanceTypes := #[(.array (.object "java/lang/Object")), .boolean]
  staticTypes := #[]
  resolved := Array.replicate 119 none
  statics := none }

def pool23 : Array CpInfo := pool [(1, .methodref 2 3), (0, .class_ 4), (0, .nameAndType 5 6), (0, u "java/lang/Record"), (0, u "<init>"), (0, u "()V"), (0, .fieldref 8 9), (0, .class_ 10), (0, .nameAndType 11 12), (0, u "com/example/wary_lock/warylock/Lease"), (0, u "name"), (0, u "Ljava/lang/String;"), (0, .fieldref 8 14), (0, .nameAndType 15 12), (0, u "owner"), (0, .fieldref 8 17), (0, .nameAndType 18 19), (0, u "token"), (0, u "J"), (0, .fieldref 8 21), (0, .nameAndType 22 19), (0, u "ttlMs"), (0, .fieldref 8 24), (0, .nameAndType 25 26), (0, u "expiresAt"), (0, u "Ljava/time/Instant;"), (0, .fieldref 8 28), (0, .nameAndType 29 19), (0, u "expiresInMs"), (0, .fieldref 8 31), (0, .nameAndType 32 33), (0, u "limit"), (0, u "I"), (0, .fieldref 8 35), (0, .nameAndType 36 37), (0, u "mode"), (0, u "Lcom/example/wary_lock/warylock/LockMode;"), (12, u "(Ljava/lang/String;Ljava/lang/String;JJLjava/time/Instant;JILcom/example/wary_lock/warylock/LockMode;)V"), (4, u "()I")] 31

def k23c0 : Code := { maxStack := 3, maxLocals := 12, code := prog_6_method_1_code, exceptionTable := #[], attributes := #[] }
def k23m0 : Method := { name := "<init>", desc := "(Ljava/lang/String;Ljava/lang/String;JJLjava/time/Instant;JILcom/example/wary_lock/warylock/LockMode;)V", sig := { parameters := [(.object "java/lang/String"), (.object "java/lang/String"), .long, .long, (.object "java/time/Instant"), .long, .int, (.object "com/example/wary_lock/warylock/LockMode")], returnType := none }, accessFlags := 1, code := some k23c0 }
def k23c1 : Code := { maxStack := 1, maxLocals := 1, code := prog_6_method_11_code, exceptionTable := #[], attributes := #[] }
def k23m1 : Method := { name := "limit", desc := "()I", sig := { parameters := [], returnType := some .int }, accessFlags := 1, code := some k23c1 }
/-- com/example/wary_lock/warylock/Lease -/
def k23 : Class := { plain "com/example/wary_lock/warylock/Lease" (some 16) with
  accessFlags := 49
  interfaces := #[]
  cf := some (fileOf pool23 8 #[] #[{ accessFlags := 1, nameIndex := 5, descriptorIndex := 50, attributes := #[] }, { accessFlags := 1, nameIndex := 32, descriptorIndex := 55, attributes := #[] }] 49 2 #[] #[{ accessFlags := 18, nameIndex := 11, descriptorIndex := 12, attributes := #[] }, { accessFlags := 18, nameIndex := 15, descriptorIndex := 12, attributes := #[] }, { accessFlags := 18, nameIndex := 18, descriptorIndex := 19, attributes := #[] }, { accessFlags := 18, nameIndex := 22, descriptorIndex := 19, attributes := #[] }, { accessFlags := 18, nameIndex := 25, descriptorIndex := 26, attributes := #[] }, { accessFlags := 18, nameIndex := 29, descriptorIndex := 19, attributes := #[] }, { accessFlags := 18, nameIndex := 32, descriptorIndex := 33, attributes := #[] }, { accessFlags := 18, nameIndex := 36, descriptorIndex := 37, attributes := #[] }])
  fields := #[{ name := "name", type := (.object "java/lang/String"), accessFlags := 18, slot := 0, constantValue := 0 }, { name := "owner", type := (.object "java/lang/String"), accessFlags := 18, slot := 1, constantValue := 0 }, { name := "token", type := .long, accessFlags := 18, slot := 2, constantValue := 0 }, { name := "ttlMs", type := .long, accessFlags := 18, slot := 3, constantValue := 0 }, { name := "expiresAt", type := (.object "java/time/Instant"), accessFlags := 18, slot := 4, constantValue := 0 }, { name := "expiresInMs", type := .long, accessFlags := 18, slot := 5, constantValue := 0 }, { name := "limit", type := .int, accessFlags := 18, slot := 6, constantValue := 0 }, { name := "mode", type := (.object "com/example/wary_lock/warylock/LockMode"), accessFlags := 18, slot := 7, constantValue := 0 }]
  methods := #[k23m0, k23m1]
  instanceTypes := #[(.object "java/lang/String"), (.object "java/lang/String"), .long, .long, (.object "java/time/Instant"), .long, .int, (.object "com/example/wary_lock/warylock/LockMode")]
  staticTypes := #[]
  resolved := Array.replicate 87 none
  statics := none }

def pool24 : Array CpInfo := pool [(2, .class_ 4), (1, u "java/lang/CharSequence"), (42, .class_ 48), (0, u "java/lang/CharSequence$1CodePointIterator"), (10, .class_ 60), (0, u "java/lang/CharSequence$1CharIterator"), (5, .class_ 67), (0, u "java/lang/Object")] 63

/-- java/lang/CharSequence -/
def k24 : Class := { plain "java/lang/CharSequence" (some 0) with
  accessFlags := 1537
  interfaces := #[]
  cf := some (fileOf pool24 2 #[.nestMembers #[47, 59]] #[] 1537 66 #[] #[])
  fields := #[]
  methods := #[]
  instanceTypes := #[]
  staticTypes := #[]
  resolved := Array.replicate 131 none
  statics := none }

def pool25 : Array CpInfo := pool [(1, .class_ 2), (0, u "java/lang/constant/ConstantDesc"), (0, .class_ 4), (0, u "java/lang/Object")] 32

/-- java/lang/constant/ConstantDesc -/
def k25 : Class := { plain "java/lang/constant/ConstantDesc" (some 0) with
  accessFlags := 1537
  interfaces := #[]
  cf := some (fileOf pool25 1 #[] #[] 1537 3 #[] #[])
  fields := #[]
  methods := #[]
  instanceTypes := #[]
  staticTypes := #[]
  resolved := Array.replicate 37 none
  statics := none }

def pool26 : Array CpInfo := pool [(2, .class_ 4), (1, u "java/lang/Object"), (0, u "<init>"), (0, u "()V"), (3, .class_ 12), (1, u "java/lang/String"), (0, u "value"), (0, u "[B"), (2, u "coder"), (0, u "B"), (2, u "hash"), (0, u "I"), (2, u "hashIsZero"), (0, u "Z"), (13, u "COMPACT_STRINGS"), (534, .class_ 576), (0, u "java/lang/CharSequence"), (22, u "CASE_INSENSITIVE_ORDER"), (0, u "Ljava/util/Comparator;"), (500, u "serialPersistentFields"), (0, u "[Ljava/io/ObjectStreamField;"), (0, .class_ 1104), (0, u "java/lang/String$CaseInsensitiveComparator"), (1, .class_ 1107), (0, u "java/io/Serializable"), (0, .class_ 1109), (0, u "java/lang/Comparable"), (0, .class_ 1111), (0, u "java/lang/constant/Constable"), (0, .class_ 1113), (0, u "java/lang/constant/ConstantDesc"), (2, u "serialVersionUID"), (0, u "J"), (3, u "REPL"), (0, u "C"), (2, u "LATIN1"), (1, u "UTF16")] 323

def k26m0 : Method := { name := "<init>", desc := "()V", sig := { parameters := [], returnType := none }, accessFlags := 1, code := none }
/-- java/lang/String -/
def k26 : Class := { plain "java/lang/String" (some 0) with
  accessFlags := 49
  interfaces := #[4, 3, 24, 2, 25]
  cf := some (fileOf pool26 10 #[.nestMembers #[1103]] #[{ accessFlags := 1, nameIndex := 5, descriptorIndex := 6, attributes := #[] }] 49 2 #[1106, 1108, 575, 1110, 1112] #[{ accessFlags := 18, nameIndex := 13, descriptorIndex := 14, attributes := #[] }, { accessFlags := 18, nameIndex := 17, descriptorIndex := 18, attributes := #[] }, { accessFlags := 2, nameIndex := 21, descriptorIndex := 22, attributes := #[] }, { accessFlags := 2, nameIndex := 25, descriptorIndex := 26, attributes := #[] }, { accessFlags := 26, nameIndex := 1116, descriptorIndex := 1117, attributes := #[] }, { accessFlags := 24, nameIndex := 40, descriptorIndex := 26, attributes := #[] }, { accessFlags := 26, nameIndex := 1101, descriptorIndex := 1102, attributes := #[] }, { accessFlags := 26, nameIndex := 1121, descriptorIndex := 1122, attributes := #[] }, { accessFlags := 25, nameIndex := 599, descriptorIndex := 600, attributes := #[] }, { accessFlags := 24, nameIndex := 1125, descriptorIndex := 18, attributes := #[] }, { accessFlags := 24, nameIndex := 1127, descriptorIndex := 18, attributes := #[] }])
  fields := #[{ name := "value", type := (.array .byte), accessFlags := 18, slot := 0, constantValue := 0 }, { name := "coder", type := .byte, accessFlags := 18, slot := 1, constantValue := 0 }, { name := "hash", type := .int, accessFlags := 2, slot := 2, constantValue := 0 }, { name := "hashIsZero", type := .boolean, accessFlags := 2, slot := 3, constantValue := 0 }, { name := "serialVersionUID", type := .long, accessFlags := 26, slot := 0, constantValue := 0 }, { name := "COMPACT_STRINGS", type := .boolean, accessFlags := 24, slot := 1, constantValue := 0 }, { name := "serialPersistentFields", type := (.array (.object "java/io/ObjectStreamField")), accessFlags := 26, slot := 2, constantValue := 0 }, { name := "REPL", type := .char, accessFlags := 26, slot := 3, constantValue := 0 }, { name := "CASE_INSENSITIVE_ORDER", type := (.object "java/util/Comparator"), accessFlags := 25, slot := 4, constantValue := 0 }, { name := "LATIN1", type := .byte, accessFlags := 24, slot := 5, constantValue := 0 }, { name := "UTF16", type := .byte, accessFlags := 24, slot := 6, constantValue := 0 }]
  methods := #[k26m0]
  instanceTypes := #[(.array .byte), .byte, .int, .boolean]
  staticTypes := #[.long, .boolean, (.array (.object "java/io/ObjectStreamField")), .char, (.object "java/util/Comparator"), .byte, .byte]
  resolved := Array.replicate 1451 none
  statics := none }

def pool27 : Array CpInfo := pool [(1, .class_ 2), (0, u "java/lang/Math"), (1, .class_ 6), (1, u "java/lang/Object"), (0, u "<init>"), (0, u "()V"), (89, .class_ 100), (1, u "java/lang/Math$RandomNumberGeneratorHolder"), (71, u "negativeZeroFloatBits"), (0, u "J"), (2, u "negativeZeroDoubleBits"), (21, u "max"), (2, u "min"), (43, u "$assertionsDisabled"), (0, u "Z"), (88, u "(II)I"), (2, u "twoToTheDoubleScaleDown"), (0, u "D"), (4, u "twoToTheDoubleScaleUp"), (9, u "E"), (3, u "PI"), (2, u "TAU"), (2, u "DEGREES_TO_RADIANS"), (0, u "RADIANS_TO_DEGREES")] 94

def k27m0 : Method := { name := "<init>", desc := "()V", sig := { parameters := [], returnType := none }, accessFlags := 2, code := none }
def k27c1 : Code := { maxStack := 2, maxLocals := 2, code := jdk_29_method_65_code, exceptionTable := #[], attributes := #[] }
def k27m1 : Method := { name := "max", desc := "(II)I", sig := { parameters := [.int, .int], returnType := some .int }, accessFlags := 9, code := some k27c1 }
def k27c2 : Code := { maxStack := 2, maxLocals := 2, code := jdk_29_method_69_code, exceptionTable := #[], attributes := #[] }
def k27m2 : Method := { name := "min", desc := "(II)I", sig := { parameters := [.int, .int], returnType := some .int }, accessFlags := 9, code := some k27c2 }
/-- java/lang/Math -/
def k27 : Class := { plain "java/lang/Math" (some 0) with
  accessFlags := 49
  interfaces := #[]
  cf := some (fileOf pool27 1 #[.nestMembers #[98]] #[{ accessFlags := 2, nameIndex := 7, descriptorIndex := 8, attributes := #[] }, { accessFlags := 9, nameIndex := 198, descriptorIndex := 335, attributes := #[] }, { accessFlags := 9, nameIndex := 201, descriptorIndex := 335, attributes := #[] }] 49 4 #[] #[{ accessFlags := 25, nameIndex := 354, descriptorIndex := 339, attributes := #[] }, { accessFlags := 25, nameIndex := 358, descriptorIndex := 339, attributes := #[] }, { accessFlags := 25, nameIndex := 361, descriptorIndex := 339, attributes := #[] }, { accessFlags := 26, nameIndex := 364, descriptorIndex := 339, attributes := #[] }, { accessFlags := 26, nameIndex := 365, descriptorIndex := 339, attributes := #[] }, { accessFlags := 26, nameIndex := 172, descriptorIndex := 173, attributes := #[] }, { accessFlags := 26, nameIndex := 176, descriptorIndex := 173, attributes := #[] }, { accessFlags := 8, nameIndex := 344, descriptorIndex := 339, attributes := #[] }, { accessFlags := 8, nameIndex := 338, descriptorIndex := 339, attributes := #[] }, { accessFlags := 4120, nameIndex := 245, descriptorIndex := 246, attributes := #[] }])
  fields := #[{ name := "E", type := .double, accessFlags := 25, slot := 0, constantValue := 0 }, { name := "PI", type := .double, accessFlags := 25, slot := 1, constantValue := 0 }, { name := "TAU", type := .double, accessFlags := 25, slot := 2, constantValue := 0 }, { name := "DEGREES_TO_RADIANS", type := .double, accessFlags := 26, slot := 3, constantValue := 0 }, { name := "RADIANS_TO_DEGREES", type := .double, accessFlags := 26, slot := 4, constantValue := 0 }, { name := "negativeZeroFloatBits", type := .long, accessFlags := 26, slot := 5, constantValue := 0 }, { name := "negativeZeroDoubleBits", type := .long, accessFlags := 26, slot := 6, constantValue := 0 }, { name := "twoToTheDoubleScaleUp", type := .double, accessFlags := 8, slot := 7, constantValue := 0 }, { name := "twoToTheDoubleScaleDown", type := .double, accessFlags := 8, slot := 8, constantValue := 0 }, { name := "$assertionsDisabled", type := .boolean, accessFlags := 4120, slot := 9, constantValue := 0 }]
  methods := #[k27m0, k27m1, k27m2]
  instanceTypes := #[]
  staticTypes := #[.double, .double, .double, .double, .double, .long, .long, .double, .double, .boolean]
  resolved := Array.replicate 460 none
  statics := none }

def pool28 : Array CpInfo := pool [(2, .class_ 4), (1, u "java/lang/Object"), (0, u "<init>"), (0, u "()V"), (7, .class_ 16), (1, u "java/util/Arrays"), (57, .class_ 76), (1, u "java/util/Arrays$NaturalOrder"), (9, .methodref 2 87), (0, .nameAndType 88 89), (0, u "getClass"), (0, u "()Ljava/lang/Class;"), (20, .class_ 111), (0, u "[Ljava/lang/Object;"), (1, .class_ 115), (1, u "java/util/Arrays$LegacyMergeSort"), (1, u "Z"), (32, .methodref 151 152), (0, .class_ 153), (0, .nameAndType 154 155), (0, u "java/lang/System"), (0, u "arraycopy"), (0, u "(Ljava/lang/Object;ILjava/lang/Object;II)V"), (144, .methodref 14 301), (0, .nameAndType 302 303), (0, u "copyOf"), (0, u "([Ljava/lang/Object;ILjava/lang/Class;)[Ljava/lang/Object;"), (0, .methodref 305 306), (0, .class_ 307), (0, .nameAndType 308 309), (0, u "java/lang/Math"), (0, u "min"), (0, u "(II)I"), (65, .class_ 376), (0, u "java/util/Arrays$ArrayList"), (68, u "$assertionsDisabled"), (269, u "MIN_ARRAY_SORT_GRAN"), (0, u "I"), (2, u "INSERTIONSORT_THRESHOLD"), (140, u "([Ljava/lang/Object;I)[Ljava/lang/Object;"), (114, .class_ 976), (0, u "java/util/Arrays$ArrayItr")] 52

def k28m0 : Method := { name := "<init>", desc := "()V", sig := { parameters := [], returnType := none }, accessFlags := 2, code := none }
def k28c1 : Code := { maxStack := 3, maxLocals := 2, code := jdk_65_method_119_code, exceptionTable := #[], attributes := #[] }
def k28m1 : Method := { name := "copyOf", desc := "([Ljava/lang/Object;I)[Ljava/lang/Object;", sig := { parameters := [(.array (.object "java/lang/Object")), .int], returnType := some (.array (.object "java/lang/Object")) }, accessFlags := 9, code := some k28c1 }
def k28c2 : Code := { maxStack := 6, maxLocals := 4, code := jdk_65_method_120_code, exceptionTable := #[], attributes := #[] }
def k28m2 : Method := { name := "copyOf", desc := "([Ljava/lang/Object;ILjava/lang/Class;)[Ljava/lang/Object;", sig := { parameters := [(.array (.object "java/lang/Object")), .int, (.object "java/lang/Class")], returnType := some (.array (.object "java/lang/Object")) }, accessFlags := 9, code := some k28c2 }
/-- java/util/Arrays -/
def k28 : Class := { plain "java/util/Arrays" (some 0) with
  accessFlags := 49
  interfaces := #[]
  cf := some (fileOf pool28 14 #[.nestMembers #[975, 375, 113, 74]] #[{ accessFlags := 2, nameIndex := 5, descriptorIndex := 6, attributes := #[] }, { accessFlags := 9, nameIndex := 302, descriptorIndex := 860, attributes := #[] }, { accessFlags := 9, nameIndex := 302, descriptorIndex := 303, attributes := #[] }] 49 2 #[] #[{ accessFlags := 26, nameIndex := 715, descriptorIndex := 716, attributes := #[] }, { accessFlags := 26, nameIndex := 719, descriptorIndex := 716, attributes := #[] }, { accessFlags := 4120, nameIndex := 445, descriptorIndex := 117, attributes := #[] }])
  fields := #[{ name := "MIN_ARRAY_SORT_GRAN", type := .int, accessFlags := 26, slot := 0, constantValue := 0 }, { name := "INSERTIONSORT_THRESHOLD", type := .int, accessFlags := 26, slot := 1, constantValue := 0 }, { name := "$assertionsDisabled", type := .boolean, accessFlags := 4120, slot := 2, constantValue := 0 }]
  methods := #[k28m0, k28m1, k28m2]
  instanceTypes := #[]
  staticTypes := #[.int, .int, .boolean]
  resolved := Array.replicate 1029 none
  statics := none }

def pool29 : Array CpInfo := pool [(2, .class_ 4), (1, u "java/lang/Object"), (0, u "<init>"), (0, u "()V"), (1, .class_ 10), (1, u "java/lang/System"), (0, u "allowSecurityManager"), (0, u "I"), (16, u "cons"), (0, u "Ljava/io/Console;"), (77, .class_ 110), (1, u "java/lang/System$CallersHolder"), (43, u "initialErrStream"), (0, u "Ljava/io/PrintStream;"), (19, u "security"), (0, u "Ljava/lang/SecurityManager;"), (31, .class_ 209), (0, u "java/lang/System$1"), (7, u "props"), (0, u "Ljava/util/Properties;"), (2, u "lineSeparator"), (0, u "Ljava/lang/String;"), (96, .class_ 321), (1, u "java/lang/System$LoggerFinder"), (5, .class_ 328), (0, u "java/lang/System$Logger"), (67, u "err"), (2, u "out"), (91, u "notSupportedJnuEncoding"), (15, u "in"), (17, u "initialIn"), (0, u "Ljava/io/InputStream;"), (35, u "bootLayer"), (0, u "Ljava/lang/ModuleLayer;"), (99, .class_ 664), (0, u "java/lang/System$2"), (9, u "NEVER"), (2, u "MAYBE"), (49, u "arraycopy"), (0, u "(Ljava/lang/Object;ILjava/lang/Object;II)V"), (72, .class_ 802), (0, u "java/lang/System$Logger$Level")] 31

def k29m0 : Method := { name := "<init>", desc := "()V", sig := { parameters := [], returnType := none }, accessFlags := 2, code := none }
def k29m1 : Method := { name := "arraycopy", desc := "(Ljava/lang/Object;ILjava/lang/Object;II)V", sig := { parameters := [(.object "java/lang/Object"), .int, (.object "java/lang/Object"), .int, .int], returnType := none }, accessFlags := 265, code := none }
/-- java/lang/System -/
def k29 : Class := { plain "java/lang/System" (some 0) with
  accessFlags := 49
  interfaces := #[]
  cf := some (fileOf pool29 8 #[.nestMembers #[319, 327, 801, 108, 663, 208]] #[{ accessFlags := 2, nameIndex := 5, descriptorIndex := 6, attributes := #[] }, { accessFlags := 265, nameIndex := 727, descriptorIndex := 728, attributes := #[] }] 49 2 #[] #[{ accessFlags := 25, nameIndex := 507, descriptorIndex := 526, attributes := #[] }, { accessFlags := 25, nameIndex := 399, descriptorIndex := 155, attributes := #[] }, { accessFlags := 25, nameIndex := 396, descriptorIndex := 155, attributes := #[] }, { accessFlags := 10, nameIndex := 525, descriptorIndex := 526, attributes := #[] }, { accessFlags := 26, nameIndex := 674, descriptorIndex := 12, attributes := #[] }, { accessFlags := 26, nameIndex := 677, descriptorIndex := 12, attributes := #[] }, { accessFlags := 10, nameIndex := 11, descriptorIndex := 12, attributes := #[] }, { accessFlags := 74, nameIndex := 175, descriptorIndex := 176, attributes := #[] }, { accessFlags := 10, nameIndex := 491, descriptorIndex := 222, attributes := #[] }, { accessFlags := 74, nameIndex := 29, descriptorIndex := 30, attributes := #[] }, { accessFlags := 74, nameIndex := 154, descriptorIndex := 155, attributes := #[] }, { accessFlags := 10, nameIndex := 217, descriptorIndex := 218, attributes := #[] }, { accessFlags := 10, nameIndex := 221, descriptorIndex := 222, attributes := #[] }, { accessFlags := 8, nameIndex := 562, descriptorIndex := 563, attributes := #[] }])
  fields := #[{ name := "in", type := (.object "java/io/InputStream"), accessFlags := 25, slot := 0, constantValue := 0 }, { name := "out", type := (.object "java/io/PrintStream"), accessFlags := 25, slot := 1, constantValue := 0 }, { name := "err", type := (.object "java/io/PrintStream"), accessFlags := 25, slot := 2, constantValue := 0 }, { name := "initialIn", type := (.object "java/io/InputStream"), accessFlags := 10, slot := 3, constantValue := 0 }, { name := "NEVER", type := .int, accessFlags := 26, slot := 4, constantValue := 0 }, { name := "MAYBE", type := .int, accessFlags := 26, slot := 5, constantValue := 0 }, { name := "allowSecurityManager", type := .int, accessFlags := 10, slot := 6, constantValue := 0 }, { name := "security", type := (.object "java/lang/SecurityManager"), accessFlags := 74, slot := 7, constantValue := 0 }, { name := "notSupportedJnuEncoding", type := (.object "java/lang/String"), accessFlags := 10, slot := 8, constantValue := 0 }, { name := "cons", type := (.object "java/io/Console"), accessFlags := 74, slot := 9, constantValue := 0 }, { name := "initialErrStream", type := (.object "java/io/PrintStream"), accessFlags := 74, slot := 10, constantValue := 0 }, { name := "props", type := (.object "java/util/Properties"), accessFlags := 10, slot := 11, constantValue := 0 }, { name := "lineSeparator", type := (.object "java/lang/String"), accessFlags := 10, slot := 12, constantValue := 0 }, { name := "bootLayer", type := (.object "java/lang/ModuleLayer"), accessFlags := 8, slot := 13, constantValue := 0 }]
  methods := #[k29m0, k29m1]
  instanceTypes := #[]
  staticTypes := #[(.object "java/io/InputStream"), (.object "java/io/PrintStream"), (.object "java/io/PrintStream"), (.object "java/io/InputStream"), .int, .int, .int, (.object "java/lang/SecurityManager"), (.object "java/lang/String"), (.object "java/io/Console"), (.object "java/io/PrintStream"), (.object "java/util/Properties"), (.object "java/lang/String"), (.object "java/lang/ModuleLayer")]
  resolved := Array.replicate 834 none
  statics := none }

def pool30 : Array CpInfo := pool [(2, .class_ 4), (1, u "java/lang/Object"), (0, u "<init>"), (0, u "()V"), (35, .class_ 44), (1, u "java/util/Objects"), (0, u "requireNonNull"), (0, u "(Ljava/lang/Object;)Ljava/lang/Object;")] 137

def k30m0 : Method := { name := "<init>", desc := "()V", sig := { parameters := [], returnType := none }, accessFlags := 2, code := none }
def k30c1 : Code := { maxStack := 2, maxLocals := 1, code := jdk_31_method_10_code, exceptionTable := #[], attributes := #[] }
def k30m1 : Method := { name := "requireNonNull", desc := "(Ljava/lang/Object;)Ljava/lang/Object;", sig := { parameters := [(.object "java/lang/Object")], returnType := some (.object "java/lang/Object") }, accessFlags := 9, code := some k30c1 }
/-- java/util/Objects -/
def k30 : Class := { plain "java/util/Objects" (some 0) with
  accessFlags := 49
  interfaces := #[]
  cf := some (fileOf pool30 42 #[] #[{ accessFlags := 2, nameIndex := 5, descriptorIndex := 6, attributes := #[] }, { accessFlags := 9, nameIndex := 45, descriptorIndex := 46, attributes := #[] }] 49 2 #[] #[])
  fields := #[]
  methods := #[k30m0, k30m1]
  instanceTypes := #[]
  staticTypes := #[]
  resolved := Array.replicate 184 none
  statics := none }

def pool31 : Array CpInfo := pool [(1, .methodref 2 3), (0, .class_ 4), (0, .nameAndType 5 6), (0, u "java/lang/Object"), (0, u "<init>"), (0, u "()V"), (1, .class_ 10), (1, u "java/lang/Number"), (2, .class_ 14), (0, u "java/io/Serializable"), (0, u "serialVersionUID"), (0, u "J")] 20

def k31c0 : Code := { maxStack := 1, maxLocals := 1, code := jdk_18_method_1_code, exceptionTable := #[], attributes := #[] }
def k31m0 : Method := { name := "<init>", desc := "()V", sig := { parameters := [], returnType := none }, accessFlags := 1, code := some k31c0 }
/-- java/lang/Number -/
def k31 : Class := { plain "java/lang/Number" (some 0) with
  accessFlags := 1057
  interfaces := #[4]
  cf := some (fileOf pool31 8 #[] #[{ accessFlags := 1, nameIndex := 5, descriptorIndex := 6, attributes := #[] }] 1057 2 #[13] #[{ accessFlags := 26, nameIndex := 15, descriptorIndex := 16, attributes := #[] }])
  fields := #[{ name := "serialVersionUID", type := .long, accessFlags := 26, slot := 0, constantValue := 0 }]
  methods := #[k31m0]
  instanceTypes := #[]
  staticTypes := #[.long]
  resolved := Array.replicate 37 none
  statics := none }

def pool32 : Array CpInfo := pool [(1, .class_ 2), (0, u "java/lang/Integer"), (16, u "digits"), (0, u "[C"), (46, u "<init>"), (17, u "DigitOnes"), (0, u "[B"), (2, u "DigitTens"), (10, .nameAndType 67 101), (0, u "()V"), (19, u "()I"), (65, u "valueOf"), (0, u "(I)Ljava/lang/Integer;"), (0, .class_ 190), (0, u "java/lang/Integer$IntegerCache"), (0, .fieldref 189 192), (0, .nameAndType 193 194), (0, u "high"), (0, u "I"), (0, .fieldref 189 196), (0, .nameAndType 197 198), (0, u "cache"), (0, u "[Ljava/lang/Integer;"), (0, .methodref 1 200), (0, .nameAndType 67 201), (0, u "(I)V"), (0, .methodref 203 100), (0, .class_ 204), (0, u "java/lang/Number"), (0, .fieldref 1 206), (0, .nameAndType 207 194), (0, u "value"), (5, u "intValue"), (88, u "TYPE"), (0, u "Ljava/lang/Class;"), (0, .class_ 305), (0, u "java/lang/Comparable"), (0, .class_ 307), (0, u "java/lang/constant/Constable"), (0, .class_ 309), (0, u "java/lang/constant/ConstantDesc"), (0, u "MIN_VALUE"), (1, u "MAX_VALUE"), (3, u "SIZE"), (1, u "BYTES"), (1, u "serialVersionUID"), (0, u "J")] 131

def k32c0 : Code := { maxStack := 3, maxLocals := 1, code := jdk_33_method_22_code, exceptionTable := #[], attributes := #[] }
def k32m0 : Method := { name := "valueOf", desc := "(I)Ljava/lang/Integer;", sig := { parameters := [.int], returnType := some (.object "java/lang/Integer") }, accessFlags := 9, code := some k32c0 }
def k32c1 : Code := { maxStack := 2, maxLocals := 2, code := jdk_33_method_23_code, exceptionTable := #[], attributes := #[] }
def k32m1 : Method := { name := "<init>", desc := "(I)V", sig := { parameters := [.int], returnType := none }, accessFlags := 1, code := some k32c1 }
def k32c2 : Code := { maxStack := 1, maxLocals := 1, code := jdk_33_method_27_code, exceptionTable := #[], attributes := #[] }
def k32m2 : Method := { name := "intValue", desc := "()I", sig := { parameters := [], returnType := some .int }, accessFlags := 1, code := some k32c2 }
/-- java/lang/Integer -/
def k32 : Class := { plain "java/lang/Integer" (some 31) with
  accessFlags := 49
  interfaces := #[3, 2, 25]
  cf := some (fileOf pool32 1 #[.nestMembers #[189]] #[{ accessFlags := 9, nameIndex := 187, descriptorIndex := 188, attributes := #[] }, { accessFlags := 1, nameIndex := 67, descriptorIndex := 201, attributes := #[] }, { accessFlags := 1, nameIndex := 213, descriptorIndex := 121, attributes := #[] }] 49 203 #[304, 306, 308] #[{ accessFlags := 25, nameIndex := 310, descriptorIndex := 194, attributes := #[] }, { accessFlags := 25, nameIndex := 312, descriptorIndex := 194, attributes := #[] }, { accessFlags := 25, nameIndex := 302, descriptorIndex := 303, attributes := #[] }, { accessFlags := 24, nameIndex := 19, descriptorIndex := 20, attributes := #[] }, { accessFlags := 24, nameIndex := 89, descriptorIndex := 86, attributes := #[] }, { accessFlags := 24, nameIndex := 85, descriptorIndex := 86, attributes := #[] }, { accessFlags := 18, nameIndex := 207, descriptorIndex := 194, attributes := #[] }, { accessFlags := 25, nameIndex := 316, descriptorIndex := 194, attributes := #[] }, { accessFlags := 25, nameIndex := 318, descriptorIndex := 194, attributes := #[] }, { accessFlags := 26, nameIndex := 320, descriptorIndex := 321, attributes := #[] }])
  fields := #[{ name := "MIN_VALUE", type := .int, accessFlags := 25, slot := 0, constantValue := 0 }, { name := "MAX_VALUE", type := .int, accessFlags := 25, slot := 1, constantValue := 0 }, { name := "TYPE", type := (.object "java/lang/Class"), accessFlags := 25, slot := 2, constantValue := 0 }, { name := "digits", type := (.array .char), accessFlags := 24, slot := 3, constantValue := 0 }, { name := "DigitTens", type := (.array .byte), accessFlags := 24, slot := 4, constantValue := 0 }, { name := "DigitOnes", type := (.array .byte), accessFlags := 24, slot := 5, constantValue := 0 }, { name := "value", type := .int, accessFlags := 18, slot := 0, constantValue := 0 }, { name := "SIZE", type := .int, accessFlags := 25, slot := 6, constantValue := 0 }, { name := "BYTES", type := .int, accessFlags := 25, slot := 7, constantValue := 0 }, { name := "serialVersionUID", type := .long, accessFlags := 26, slot := 8, constantValue := 0 }]
  methods := #[k32m0, k32m1, k32m2]
  instanceTypes := #[.int]
  staticTypes := #[.int, .int, (.object "java/lang/Class"), (.array .char), (.array .byte), (.array .byte), .int, .int, .long]
  resolved := Array.replicate 453 none
  statics := none }

def pool33 : Array CpInfo := pool [(2, .class_ 4), (1, u "java/lang/Object"), (0, u "<init>"), (0, u "()V"), (0, .class_ 8), (0, u "java/lang/Integer"), (7, .class_ 18), (1, u "java/lang/Integer$IntegerCache"), (0, u "$assertionsDisabled"), (0, u "Z"), (26, u "high"), (0, u "I"), (8, u "archivedCache"), (0, u "[Ljava/lang/Integer;"), (12, u "cache"), (0, u "low")] 27

def k33m0 : Method := { name := "<init>", desc := "()V", sig := { parameters := [], returnType := none }, accessFlags := 2, code := none }
/-- java/lang/Integer$IntegerCache -/
def k33 : Class := { plain "java/lang/Integer$IntegerCache" (some 0) with
  accessFlags := 48
  interfaces := #[]
  cf := some (fileOf pool33 16 #[.nestHost 7] #[{ accessFlags := 2, nameIndex := 5, descriptorIndex := 6, attributes := #[] }] 48 2 #[] #[{ accessFlags := 24, nameIndex := 72, descriptorIndex := 48, attributes := #[] }, { accessFlags := 24, nameIndex := 47, descriptorIndex := 48, attributes := #[] }, { accessFlags := 24, nameIndex := 71, descriptorIndex := 58, attributes := #[] }, { accessFlags := 8, nameIndex := 57, descriptorIndex := 58, attributes := #[] }, { accessFlags := 4120, nameIndex := 19, descriptorIndex := 20, attributes := #[] }])
  fields := #[{ name := "low", type := .int, accessFlags := 24, slot := 0, constantValue := 0 }, { name := "high", type := .int, accessFlags := 24, slot := 1, constantValue := 0 }, { name := "cache", type := (.array (.object "java/lang/Integer")), accessFlags := 24, slot := 2, constantValue := 0 }, { name := "archivedCache", type := (.array (.object "java/lang/Integer")), accessFlags := 8, slot := 3, constantValue := 0 }, { name := "$assertionsDisabled", type := .boolean, accessFlags := 4120, slot := 4, constantValue := 0 }]
  methods := #[k33m0]
  instanceTypes := #[]
  staticTypes := #[.int, .int, (.array (.object "java/lang/Integer")), (.array (.object "java/lang/Integer")), .boolean]
  resolved := Array.replicate 100 none
  statics := some 3 }

def pool34 : Array CpInfo := pool [(1, u "java/lang/Class"), (0, .class_ 1), (0, u "java/lang/Object"), (0, .class_ 3)] 0

/-- java/lang/Class -/
def k34 : Class := { plain "java/lang/Class" (some 0) with
  accessFlags := 49
  interfaces := #[]
  cf := some (fileOf pool34 2 #[] #[] 49 4 #[] #[])
  fields := #[]
  methods := #[]
  instanceTypes := #[]
  staticTypes := #[]
  resolved := Array.replicate 5 none
  statics := none }

/-- the primitive byte -/
def k35 : Class := { plain "byte" none with kind := .primitive 'B', accessFlags := 0x411 }
/-- [B -/
def k36 : Class := { plain "[B" (some 0) with kind := .array 35 .byte, interfaces := #[14, 4], accessFlags := 1041 }

/-- the primitive int -/
def k37 : Class := { plain "int" none with kind := .primitive 'I', accessFlags := 0x411 }
/-- [I -/
def k38 : Class := { plain "[I" (some 0) with kind := .array 37 .int, interfaces := #[14, 4], accessFlags := 1041 }

/-- [Ljava/lang/Integer; -/
def k39 : Class := { plain "[Ljava/lang/Integer;" (some 0) with kind := .array 32 (.object "java/lang/Integer"), interfaces := #[14, 4], accessFlags := 1041 }

/-- [Ljava/lang/Object; -/
def k40 : Class := { plain "[Ljava/lang/Object;" (some 0) with kind := .array 0 (.object "java/lang/Object"), interfaces := #[14, 4], accessFlags := 1041, mirror := some 4 }

def heap : Heap := #[{ cls := 6, slots := #[.ref 7, .ref 8, .null], vm := .statics 6 },
  { cls := 15, slots := #[.long 0, .int 0, .ref 266, .ref 267], vm := .statics 15 },
  { cls := 18, slots := #[.long 0, .int 0, .null, .ref 268, .ref 9, .null, .null, .null, .int 0, .int 1], vm := .statics 18 },
  { cls := 33, slots := #[.int 0, .int 127, .ref 5, .null, .int 0], vm := .statics 33 },
  { cls := 34, slots := #[], vm := .mirror 40 },
  { cls := 39, slots := #[.ref 10, .ref 11, .ref 12, .ref 13, .ref 14, .ref 15, .ref 16, .ref 17, .ref 18, .ref 19, .ref 20, .ref 21, .ref 22, .ref 23, .ref 24, .ref 25, .ref 26, .ref 27, .ref 28, .ref 29, .ref 30, .ref 31, .ref 32, .ref 33, .ref 34, .ref 35, .ref 36, .ref 37, .ref 38, .ref 39, .ref 40, .ref 41, .ref 42, .ref 43, .ref 44, .ref 45, .ref 46, .ref 47, .ref 48, .ref 49, .ref 50, .ref 51, .ref 52, .ref 53, .ref 54, .ref 55, .ref 56, .ref 57, .ref 58, .ref 59, .ref 60, .ref 61, .ref 62, .ref 63, .ref 64, .ref 65, .ref 66, .ref 67, .ref 68, .ref 69, .ref 70, .ref 71, .ref 72, .ref 73, .ref 74, .ref 75, .ref 76, .ref 77, .ref 78, .ref 79, .ref 80, .ref 81, .ref 82, .ref 83, .ref 84, .ref 85, .ref 86, .ref 87, .ref 88, .ref 89, .ref 90, .ref 91, .ref 92, .ref 93, .ref 94, .ref 95, .ref 96, .ref 97, .ref 98, .ref 99, .ref 100, .ref 101, .ref 102, .ref 103, .ref 104, .ref 105, .ref 106, .ref 107, .ref 108, .ref 109, .ref 110, .ref 111, .ref 112, .ref 113, .ref 114, .ref 115, .ref 116, .ref 117, .ref 118, .ref 119, .ref 120, .ref 121, .ref 122, .ref 123, .ref 124, .ref 125, .ref 126, .ref 127, .ref 128, .ref 129, .ref 130, .ref 131, .ref 132, .ref 133, .ref 134, .ref 135, .ref 136, .ref 137, .ref 138, .ref 139, .ref 140, .ref 141, .ref 142, .ref 143, .ref 144, .ref 145, .ref 146, .ref 147, .ref 148, .ref 149, .ref 150, .ref 151, .ref 152, .ref 153, .ref 154, .ref 155, .ref 156, .ref 157, .ref 158, .ref 159, .ref 160, .ref 161, .ref 162, .ref 163, .ref 164, .ref 165, .ref 166, .ref 167, .ref 168, .ref 169, .ref 170, .ref 171, .ref 172, .ref 173, .ref 174, .ref 175, .ref 176, .ref 177, .ref 178, .ref 179, .ref 180, .ref 181, .ref 182, .ref 183, .ref 184, .ref 185, .ref 186, .ref 187, .ref 188, .ref 189, .ref 190, .ref 191, .ref 192, .ref 193, .ref 194, .ref 195, .ref 196, .ref 197, .ref 198, .ref 199, .ref 200, .ref 201, .ref 202, .ref 203, .ref 204, .ref 205, .ref 206, .ref 207, .ref 208, .ref 209, .ref 210, .ref 211, .ref 212, .ref 213, .ref 214, .ref 215, .ref 216, .ref 217, .ref 218, .ref 219, .ref 220, .ref 221, .ref 222, .ref 223, .ref 224, .ref 225, .ref 226, .ref 227, .ref 228, .ref 229, .ref 230, .ref 231, .ref 232, .ref 233, .ref 234, .ref 235, .ref 236, .ref 237, .ref 238, .ref 239, .ref 240, .ref 241, .ref 242, .ref 243, .ref 244, .ref 245, .ref 246, .ref 247, .ref 248, .ref 249, .ref 250, .ref 251, .ref 252, .ref 253, .ref 254, .ref 255, .ref 256, .ref 257, .ref 258, .ref 259, .ref 260, .ref 261, .ref 262, .ref 263, .ref 264, .ref 265], vm := .none },
  { cls := 40, slots := #[], vm := .none },
  { cls := 6, slots := #[.null, .int 0, .int 0], vm := .none },
  { cls := 6, slots := #[.null, .int 1, .int 0], vm := .none },
  { cls := 22, slots := #[.ref 6, .int 0], vm := .none },
  { cls := 32, slots := #[.int (-128)], vm := .none },
  { cls := 32, slots := #[.int (-127)], vm := .none },
  { cls := 32, slots := #[.int (-126)], vm := .none },
  { cls := 32, slots := #[.int (-125)], vm := .none },
  { cls := 32, slots := #[.int (-124)], vm := .none },
  { cls := 32, slots := #[.int (-123)], vm := .none },
  { cls := 32, slots := #[.int (-122)], vm := .none },
  { cls := 32, slots := #[.int (-121)], vm := .none },
  { cls := 32, slots := #[.int (-120)], vm := .none },
  { cls := 32, slots := #[.int (-119)], vm := .none },
  { cls := 32, slots := #[.int (-118)], vm := .none },
  { cls := 32, slots := #[.int (-117)], vm := .none },
  { cls := 32, slots := #[.int (-116)], vm := .none },
  { cls := 32, slots := #[.int (-115)], vm := .none },
  { cls := 32, slots := #[.int (-114)], vm := .none },
  { cls := 32, slots := #[.int (-113)], vm := .none },
  { cls := 32, slots := #[.int (-112)], vm := .none },
  { cls := 32, slots := #[.int (-111)], vm := .none },
  { cls := 32, slots := #[.int (-110)], vm := .none },
  { cls := 32, slots := #[.int (-109)], vm := .none },
  { cls := 32, slots := #[.int (-108)], vm := .none },
  { cls := 32, slots := #[.int (-107)], vm := .none },
  { cls := 32, slots := #[.int (-106)], vm := .none },
  { cls := 32, slots := #[.int (-105)], vm := .none },
  { cls := 32, slots := #[.int (-104)], vm := .none },
  { cls := 32, slots := #[.int (-103)], vm := .none },
  { cls := 32, slots := #[.int (-102)], vm := .none },
  { cls := 32, slots := #[.int (-101)], vm := .none },
  { cls := 32, slots := #[.int (-100)], vm := .none },
  { cls := 32, slots := #[.int (-99)], vm := .none },
  { cls := 32, slots := #[.int (-98)], vm := .none },
  { cls := 32, slots := #[.int (-97)], vm := .none },
  { cls := 32, slots := #[.int (-96)], vm := .none },
  { cls := 32, slots := #[.int (-95)], vm := .none },
  { cls := 32, slots := #[.int (-94)], vm := .none },
  { cls := 32, slots := #[.int (-93)], vm := .none },
  { cls := 32, slots := #[.int (-92)], vm := .none },
  { cls := 32, slots := #[.int (-91)], vm := .none },
  { cls := 32, slots := #[.int (-90)], vm := .none },
  { cls := 32, slots := #[.int (-89)], vm := .none },
  { cls := 32, slots := #[.int (-88)], vm := .none },
  { cls := 32, slots := #[.int (-87)], vm := .none },
  { cls := 32, slots := #[.int (-86)], vm := .none },
  { cls := 32, slots := #[.int (-85)], vm := .none },
  { cls := 32, slots := #[.int (-84)], vm := .none },
  { cls := 32, slots := #[.int (-83)], vm := .none },
  { cls := 32, slots := #[.int (-82)], vm := .none },
  { cls := 32, slots := #[.int (-81)], vm := .none },
  { cls := 32, slots := #[.int (-80)], vm := .none },
  { cls := 32, slots := #[.int (-79)], vm := .none },
  { cls := 32, slots := #[.int (-78)], vm := .none },
  { cls := 32, slots := #[.int (-77)], vm := .none },
  { cls := 32, slots := #[.int (-76)], vm := .none },
  { cls := 32, slots := #[.int (-75)], vm := .none },
  { cls := 32, slots := #[.int (-74)], vm := .none },
  { cls := 32, slots := #[.int (-73)], vm := .none },
  { cls := 32, slots := #[.int (-72)], vm := .none },
  { cls := 32, slots := #[.int (-71)], vm := .none },
  { cls := 32, slots := #[.int (-70)], vm := .none },
  { cls := 32, slots := #[.int (-69)], vm := .none },
  { cls := 32, slots := #[.int (-68)], vm := .none },
  { cls := 32, slots := #[.int (-67)], vm := .none },
  { cls := 32, slots := #[.int (-66)], vm := .none },
  { cls := 32, slots := #[.int (-65)], vm := .none },
  { cls := 32, slots := #[.int (-64)], vm := .none },
  { cls := 32, slots := #[.int (-63)], vm := .none },
  { cls := 32, slots := #[.int (-62)], vm := .none },
  { cls := 32, slots := #[.int (-61)], vm := .none },
  { cls := 32, slots := #[.int (-60)], vm := .none },
  { cls := 32, slots := #[.int (-59)], vm := .none },
  { cls := 32, slots := #[.int (-58)], vm := .none },
  { cls := 32, slots := #[.int (-57)], vm := .none },
  { cls := 32, slots := #[.int (-56)], vm := .none },
  { cls := 32, slots := #[.int (-55)], vm := .none },
  { cls := 32, slots := #[.int (-54)], vm := .none },
  { cls := 32, slots := #[.int (-53)], vm := .none },
  { cls := 32, slots := #[.int (-52)], vm := .none },
  { cls := 32, slots := #[.int (-51)], vm := .none },
  { cls := 32, slots := #[.int (-50)], vm := .none },
  { cls := 32, slots := #[.int (-49)], vm := .none },
  { cls := 32, slots := #[.int (-48)], vm := .none },
  { cls := 32, slots := #[.int (-47)], vm := .none },
  { cls := 32, slots := #[.int (-46)], vm := .none },
  { cls := 32, slots := #[.int (-45)], vm := .none },
  { cls := 32, slots := #[.int (-44)], vm := .none },
  { cls := 32, slots := #[.int (-43)], vm := .none },
  { cls := 32, slots := #[.int (-42)], vm := .none },
  { cls := 32, slots := #[.int (-41)], vm := .none },
  { cls := 32, slots := #[.int (-40)], vm := .none },
  { cls := 32, slots := #[.int (-39)], vm := .none },
  { cls := 32, slots := #[.int (-38)], vm := .none },
  { cls := 32, slots := #[.int (-37)], vm := .none },
  { cls := 32, slots := #[.int (-36)], vm := .none },
  { cls := 32, slots := #[.int (-35)], vm := .none },
  { cls := 32, slots := #[.int (-34)], vm := .none },
  { cls := 32, slots := #[.int (-33)], vm := .none },
  { cls := 32, slots := #[.int (-32)], vm := .none },
  { cls := 32, slots := #[.int (-31)], vm := .none },
  { cls := 32, slots := #[.int (-30)], vm := .none },
  { cls := 32, slots := #[.int (-29)], vm := .none },
  { cls := 32, slots := #[.int (-28)], vm := .none },
  { cls := 32, slots := #[.int (-27)], vm := .none },
  { cls := 32, slots := #[.int (-26)], vm := .none },
  { cls := 32, slots := #[.int (-25)], vm := .none },
  { cls := 32, slots := #[.int (-24)], vm := .none },
  { cls := 32, slots := #[.int (-23)], vm := .none },
  { cls := 32, slots := #[.int (-22)], vm := .none },
  { cls := 32, slots := #[.int (-21)], vm := .none },
  { cls := 32, slots := #[.int (-20)], vm := .none },
  { cls := 32, slots := #[.int (-19)], vm := .none },
  { cls := 32, slots := #[.int (-18)], vm := .none },
  { cls := 32, slots := #[.int (-17)], vm := .none },
  { cls := 32, slots := #[.int (-16)], vm := .none },
  { cls := 32, slots := #[.int (-15)], vm := .none },
  { cls := 32, slots := #[.int (-14)], vm := .none },
  { cls := 32, slots := #[.int (-13)], vm := .none },
  { cls := 32, slots := #[.int (-12)], vm := .none },
  { cls := 32, slots := #[.int (-11)], vm := .none },
  { cls := 32, slots := #[.int (-10)], vm := .none },
  { cls := 32, slots := #[.int (-9)], vm := .none },
  { cls := 32, slots := #[.int (-8)], vm := .none },
  { cls := 32, slots := #[.int (-7)], vm := .none },
  { cls := 32, slots := #[.int (-6)], vm := .none },
  { cls := 32, slots := #[.int (-5)], vm := .none },
  { cls := 32, slots := #[.int (-4)], vm := .none },
  { cls := 32, slots := #[.int (-3)], vm := .none },
  { cls := 32, slots := #[.int (-2)], vm := .none },
  { cls := 32, slots := #[.int (-1)], vm := .none },
  { cls := 32, slots := #[.int 0], vm := .none },
  { cls := 32, slots := #[.int 1], vm := .none },
  { cls := 32, slots := #[.int 2], vm := .none },
  { cls := 32, slots := #[.int 3], vm := .none },
  { cls := 32, slots := #[.int 4], vm := .none },
  { cls := 32, slots := #[.int 5], vm := .none },
  { cls := 32, slots := #[.int 6], vm := .none },
  { cls := 32, slots := #[.int 7], vm := .none },
  { cls := 32, slots := #[.int 8], vm := .none },
  { cls := 32, slots := #[.int 9], vm := .none },
  { cls := 32, slots := #[.int 10], vm := .none },
  { cls := 32, slots := #[.int 11], vm := .none },
  { cls := 32, slots := #[.int 12], vm := .none },
  { cls := 32, slots := #[.int 13], vm := .none },
  { cls := 32, slots := #[.int 14], vm := .none },
  { cls := 32, slots := #[.int 15], vm := .none },
  { cls := 32, slots := #[.int 16], vm := .none },
  { cls := 32, slots := #[.int 17], vm := .none },
  { cls := 32, slots := #[.int 18], vm := .none },
  { cls := 32, slots := #[.int 19], vm := .none },
  { cls := 32, slots := #[.int 20], vm := .none },
  { cls := 32, slots := #[.int 21], vm := .none },
  { cls := 32, slots := #[.int 22], vm := .none },
  { cls := 32, slots := #[.int 23], vm := .none },
  { cls := 32, slots := #[.int 24], vm := .none },
  { cls := 32, slots := #[.int 25], vm := .none },
  { cls := 32, slots := #[.int 26], vm := .none },
  { cls := 32, slots := #[.int 27], vm := .none },
  { cls := 32, slots := #[.int 28], vm := .none },
  { cls := 32, slots := #[.int 29], vm := .none },
  { cls := 32, slots := #[.int 30], vm := .none },
  { cls := 32, slots := #[.int 31], vm := .none },
  { cls := 32, slots := #[.int 32], vm := .none },
  { cls := 32, slots := #[.int 33], vm := .none },
  { cls := 32, slots := #[.int 34], vm := .none },
  { cls := 32, slots := #[.int 35], vm := .none },
  { cls := 32, slots := #[.int 36], vm := .none },
  { cls := 32, slots := #[.int 37], vm := .none },
  { cls := 32, slots := #[.int 38], vm := .none },
  { cls := 32, slots := #[.int 39], vm := .none },
  { cls := 32, slots := #[.int 40], vm := .none },
  { cls := 32, slots := #[.int 41], vm := .none },
  { cls := 32, slots := #[.int 42], vm := .none },
  { cls := 32, slots := #[.int 43], vm := .none },
  { cls := 32, slots := #[.int 44], vm := .none },
  { cls := 32, slots := #[.int 45], vm := .none },
  { cls := 32, slots := #[.int 46], vm := .none },
  { cls := 32, slots := #[.int 47], vm := .none },
  { cls := 32, slots := #[.int 48], vm := .none },
  { cls := 32, slots := #[.int 49], vm := .none },
  { cls := 32, slots := #[.int 50], vm := .none },
  { cls := 32, slots := #[.int 51], vm := .none },
  { cls := 32, slots := #[.int 52], vm := .none },
  { cls := 32, slots := #[.int 53], vm := .none },
  { cls := 32, slots := #[.int 54], vm := .none },
  { cls := 32, slots := #[.int 55], vm := .none },
  { cls := 32, slots := #[.int 56], vm := .none },
  { cls := 32, slots := #[.int 57], vm := .none },
  { cls := 32, slots := #[.int 58], vm := .none },
  { cls := 32, slots := #[.int 59], vm := .none },
  { cls := 32, slots := #[.int 60], vm := .none },
  { cls := 32, slots := #[.int 61], vm := .none },
  { cls := 32, slots := #[.int 62], vm := .none },
  { cls := 32, slots := #[.int 63], vm := .none },
  { cls := 32, slots := #[.int 64], vm := .none },
  { cls := 32, slots := #[.int 65], vm := .none },
  { cls := 32, slots := #[.int 66], vm := .none },
  { cls := 32, slots := #[.int 67], vm := .none },
  { cls := 32, slots := #[.int 68], vm := .none },
  { cls := 32, slots := #[.int 69], vm := .none },
  { cls := 32, slots := #[.int 70], vm := .none },
  { cls := 32, slots := #[.int 71], vm := .none },
  { cls := 32, slots := #[.int 72], vm := .none },
  { cls := 32, slots := #[.int 73], vm := .none },
  { cls := 32, slots := #[.int 74], vm := .none },
  { cls := 32, slots := #[.int 75], vm := .none },
  { cls := 32, slots := #[.int 76], vm := .none },
  { cls := 32, slots := #[.int 77], vm := .none },
  { cls := 32, slots := #[.int 78], vm := .none },
  { cls := 32, slots := #[.int 79], vm := .none },
  { cls := 32, slots := #[.int 80], vm := .none },
  { cls := 32, slots := #[.int 81], vm := .none },
  { cls := 32, slots := #[.int 82], vm := .none },
  { cls := 32, slots := #[.int 83], vm := .none },
  { cls := 32, slots := #[.int 84], vm := .none },
  { cls := 32, slots := #[.int 85], vm := .none },
  { cls := 32, slots := #[.int 86], vm := .none },
  { cls := 32, slots := #[.int 87], vm := .none },
  { cls := 32, slots := #[.int 88], vm := .none },
  { cls := 32, slots := #[.int 89], vm := .none },
  { cls := 32, slots := #[.int 90], vm := .none },
  { cls := 32, slots := #[.int 91], vm := .none },
  { cls := 32, slots := #[.int 92], vm := .none },
  { cls := 32, slots := #[.int 93], vm := .none },
  { cls := 32, slots := #[.int 94], vm := .none },
  { cls := 32, slots := #[.int 95], vm := .none },
  { cls := 32, slots := #[.int 96], vm := .none },
  { cls := 32, slots := #[.int 97], vm := .none },
  { cls := 32, slots := #[.int 98], vm := .none },
  { cls := 32, slots := #[.int 99], vm := .none },
  { cls := 32, slots := #[.int 100], vm := .none },
  { cls := 32, slots := #[.int 101], vm := .none },
  { cls := 32, slots := #[.int 102], vm := .none },
  { cls := 32, slots := #[.int 103], vm := .none },
  { cls := 32, slots := #[.int 104], vm := .none },
  { cls := 32, slots := #[.int 105], vm := .none },
  { cls := 32, slots := #[.int 106], vm := .none },
  { cls := 32, slots := #[.int 107], vm := .none },
  { cls := 32, slots := #[.int 108], vm := .none },
  { cls := 32, slots := #[.int 109], vm := .none },
  { cls := 32, slots := #[.int 110], vm := .none },
  { cls := 32, slots := #[.int 111], vm := .none },
  { cls := 32, slots := #[.int 112], vm := .none },
  { cls := 32, slots := #[.int 113], vm := .none },
  { cls := 32, slots := #[.int 114], vm := .none },
  { cls := 32, slots := #[.int 115], vm := .none },
  { cls := 32, slots := #[.int 116], vm := .none },
  { cls := 32, slots := #[.int 117], vm := .none },
  { cls := 32, slots := #[.int 118], vm := .none },
  { cls := 32, slots := #[.int 119], vm := .none },
  { cls := 32, slots := #[.int 120], vm := .none },
  { cls := 32, slots := #[.int 121], vm := .none },
  { cls := 32, slots := #[.int 122], vm := .none },
  { cls := 32, slots := #[.int 123], vm := .none },
  { cls := 32, slots := #[.int 124], vm := .none },
  { cls := 32, slots := #[.int 125], vm := .none },
  { cls := 32, slots := #[.int 126], vm := .none },
  { cls := 32, slots := #[.int 127], vm := .none },
  { cls := 40, slots := #[], vm := .none },
  { cls := 40, slots := #[], vm := .none },
  { cls := 0, slots := #[], vm := .none }]
def classes : Array Class := #[k0, k1, k2, k3, k4, k5, k6, k7, k8, k9, k10, k11, k12, k13, k14, k15, k16, k17, k18, k19, k20, k21, k22, k23, k24, k25, k26, k27, k28, k29, k30, k31, k32, k33, k34, k35, k36, k37, k38, k39, k40]
def interned : List (Array UInt16 × Addr) := []
def slotsUsed : Nat := 542
def theMethod : MethodId := ⟨1, 1⟩
def args0 : Array Value := #[.int 5, .int 7, .int 9, .long 1, .long 2, .int 3]
def aboutOver (below : List Frame) : State where
  vm := { classes := classes, interned := interned.toArray }
  heap := heap
  slotsUsed := slotsUsed
  threads := #[{ frames := .invoking theMethod args0 :: below }]
def below0 : List Frame := [.native { method := ⟨0, 0⟩, args := #[] }]
def about1 : State := aboutOver below0
def p0 : Program := .bare "" "" ""
def e0 : Env := launch0.env 0 0 0
theorem w_frames : about1.frames = Frame.invoking theMethod args0 :: below0 := rfl
set_option maxRecDepth 65536 in
theorem w_args : argsFit about1.vm theMethod args0 = true := by decide +kernel
set_option maxRecDepth 65536 in
theorem w_heap : heapFits about1 = true := by decide +kernel
set_option maxRecDepth 65536 in
theorem w_runnable : about1.curStatus? = some .runnable := by decide +kernel
set_option maxRecDepth 65536 in
theorem w_alone : about1.alone = true := by decide +kernel
set_option maxRecDepth 65536 in
theorem w_named : about1.methodNamed? x = some theMethod := by decide +kernel
set_option maxRecDepth 65536 in
theorem w_hears : about1.hears theMethod below0 = true := by decide +kernel
set_option maxRecDepth 65536 in
theorem w_ripe : about1.ripe theMethod args0 below0 = true := by decide +kernel
theorem w_running : about1.status = .running := rfl
set_option maxRecDepth 65536 in
theorem w_room : about1.hasRoom e0.platform room_1 = true :=
  launch0.hasRoom_least _ room_1 (by decide +kernel) (by decide +kernel) (by decide +kernel) (by decide +kernel) (by decide +kernel) (by decide +kernel)
theorem allAtoms_all (ts : List Jvm.Cond) (a : Array Jvm.Value) (st : Jvm.State) : (allAtoms ts).before a st = ts.all (fun c => c.before a st) := by
  induction ts with
  | nil => rfl
  | cons c t ih =>
    show (Jvm.Cond.and c (allAtoms t)).before a st = _
    rw [Jvm.Cond.before_and, ih, List.all_cons]
def words1 : List Jvm.Cond := Jvm.Cond.code x code maxLocals ret :: tables_1
/-- a 'code' word, met by the world's own term for the bytes: nothing is compared byte by byte -/
theorem code_word {y : MethodName} {bytes : ByteArray} {mx : Nat} {rt : Option FieldType} {a : Array Value} {s : State} {m : MethodId} {meth : Method} {c : Code} (h1 : s.methodNamed? y = some m) (h2 : s.vm.method? m = some meth) (h3 : meth.code = some c) (h4 : c.code = bytes)
    (h5 : (c.maxLocals == mx && c.exceptionTable.isEmpty && decide (c.maxStack ≤ mostOperands) && decide (meth.sig.returnType = rt) && !meth.locks && decide (parseMethodDescriptor y.desc = some meth.sig)) = true) : (Jvm.Cond.code y bytes mx rt).before a s = true := by
  simp only [Bool.and_eq_true, beq_iff_eq, Bool.not_eq_true', decide_eq_true_eq] at h5
  obtain ⟨⟨⟨⟨⟨g1, g2⟩, g3⟩, g4⟩, g5⟩, g6⟩ := h5
  simp [Cond.before, Cond.holds, Cond.value, h1, h2, h3, h4, g1, g2, g3, g4, g5, g6]
def isCode : Jvm.Cond → Bool
  | .code _ _ _ _ => true
  | _ => false
theorem all_split {L : List Jvm.Cond} {P : Jvm.Cond → Bool} (h1 : L.all (fun c => isCode c || P c) = true) (h2 : ∀ c ∈ L.filter isCode, P c = true) : L.all P = true := by
  refine List.all_eq_true.mpr fun c hc => ?_
  have h := List.all_eq_true.mp h1 c hc
  rcases Bool.eq_false_or_eq_true (isCode c) with hi | hi
  · exact h2 c (List.mem_filter.mpr ⟨hc, hi⟩)
  · simpa [hi] using h
set_option maxRecDepth 65536 in
theorem w_c0 : (Jvm.Cond.code x code maxLocals ret).before args0 about1 = true := code_word (m := ⟨1, 1⟩) (meth := k1m1) (c := k1c1) (by decide +kernel) rfl rfl rfl (by decide +kernel)
set_option maxRecDepth 65536 in
theorem w_c1 : (Jvm.Cond.code ({ cls := "java/util/ArrayList", name := "<init>", desc := "()V" } : Jvm.MethodName) jdk_38_method_2_code (1 : Nat) (Option.none : Option Jvm.ClassFile.FieldType)).before args0 about1 = true := code_word (m := ⟨15, 0⟩) (meth := k15m0) (c := k15c0) (by decide +kernel) rfl rfl rfl (by decide +kernel)
set_option maxRecDepth 65536 in
theorem w_c2 : (Jvm.Cond.code ({ cls := "java/util/AbstractList", name := "<init>", desc := "()V" } : Jvm.MethodName) jdk_39_method_1_code (1 : Nat) (Option.none : Option Jvm.ClassFile.FieldType)).before args0 about1 = true := code_word (m := ⟨12, 0⟩) (meth := k12m0) (c := k12c0) (by decide +kernel) rfl rfl rfl (by decide +kernel)
set_option maxRecDepth 65536 in
theorem w_c3 : (Jvm.Cond.code ({ cls := "java/util/AbstractCollection", name := "<init>", desc := "()V" } : Jvm.MethodName) jdk_22_method_1_code (1 : Nat) (Option.none : Option Jvm.ClassFile.FieldType)).before args0 about1 = true := code_word (m := ⟨9, 0⟩) (meth := k9m0) (c := k9c0) (by decide +kernel) rfl rfl rfl (by decide +kernel)
set_option maxRecDepth 65536 in
theorem w_c4 : (Jvm.Cond.code ({ cls := "java/lang/Object", name := "<init>", desc := "()V" } : Jvm.MethodName) object_method_1_code (1 : Nat) (Option.none : Option Jvm.ClassFile.FieldType)).before args0 about1 = true := code_word (m := ⟨0, 0⟩) (meth := k0m0) (c := k0c0) (by decide +kernel) rfl rfl rfl (by decide +kernel)
set_option maxRecDepth 65536 in
theorem w_c5 : (Jvm.Cond.code ({ cls := "com/example/wary_lock/warylock/LockState", name := "<init>", desc := "(Ljava/util/List;I)V" } : Jvm.MethodName) prog_11_method_1_code (3 : Nat) (Option.none : Option Jvm.ClassFile.FieldType)).before args0 about1 = true := code_word (m := ⟨17, 0⟩) (meth := k17m0) (c := k17c0) (by decide +kernel) rfl rfl rfl (by decide +kernel)
set_option maxRecDepth 65536 in
theorem w_c6 : (Jvm.Cond.code ({ cls := "java/lang/Record", name := "<init>", desc := "()V" } : Jvm.MethodName) jdk_30_method_1_code (1 : Nat) (Option.none : Option Jvm.ClassFile.FieldType)).before args0 about1 = true := code_word (m := ⟨16, 0⟩) (meth := k16m0) (c := k16c0) (by decide +kernel) rfl rfl rfl (by decide +kernel)
set_option maxRecDepth 65536 in
theorem w_c7 : (Jvm.Cond.code ({ cls := "java/util/List", name := "copyOf", desc := "(Ljava/util/Collection;)Ljava/util/List;" } : Jvm.MethodName) jdk_40_method_48_code (1 : Nat) (Option.some (Jvm.ClassFile.FieldType.object "java/util/List"))).before args0 about1 = true := code_word (m := ⟨11, 4⟩) (meth := k11m4) (c := k11c4) (by decide +kernel) rfl rfl rfl (by decide +kernel)
set_option maxRecDepth 65536 in
theorem w_c8 : (Jvm.Cond.code ({ cls := "java/util/ImmutableCollections", name := "listCopy", desc := "(Ljava/util/Collection;)Ljava/util/List;" } : Jvm.MethodName) jdk_56_method_3_code (2 : Nat) (Option.some (Jvm.ClassFile.FieldType.object "java/util/List"))).before args0 about1 = true := code_word (m := ⟨18, 1⟩) (meth := k18m1) (c := k18c1) (by decide +kernel) rfl rfl rfl (by decide +kernel)
set_option maxRecDepth 65536 in
theorem w_c9 : (Jvm.Cond.code ({ cls := "java/util/ArrayList", name := "isEmpty", desc := "()Z" } : Jvm.MethodName) jdk_38_method_9_code (1 : Nat) (Option.some Jvm.ClassFile.FieldType.boolean)).before args0 about1 = true := code_word (m := ⟨15, 3⟩) (meth := k15m3) (c := k15c3) (by decide +kernel) rfl rfl rfl (by decide +kernel)
set_option maxRecDepth 65536 in
theorem w_c10 : (Jvm.Cond.code ({ cls := "java/util/List", name := "of", desc := "()Ljava/util/List;" } : Jvm.MethodName) jdk_40_method_36_code (0 : Nat) (Option.some (Jvm.ClassFile.FieldType.object "java/util/List"))).before args0 about1 = true := code_word (m := ⟨11, 2⟩) (meth := k11m2) (c := k11c2) (by decide +kernel) rfl rfl rfl (by decide +kernel)
set_option maxRecDepth 65536 in
theorem w_c11 : (Jvm.Cond.code ({ cls := "com/example/wary_lock/warylock/LockState", name := "limit", desc := "()Ljava/lang/Integer;" } : Jvm.MethodName) prog_11_method_2_code (1 : Nat) (Option.some (Jvm.ClassFile.FieldType.object "java/lang/Integer"))).before args0 about1 = true := code_word (m := ⟨17, 1⟩) (meth := k17m1) (c := k17c1) (by decide +kernel) rfl rfl rfl (by decide +kernel)
set_option maxRecDepth 65536 in
theorem w_c12 : (Jvm.Cond.code ({ cls := "java/util/ImmutableCollections$ListN", name := "isEmpty", desc := "()Z" } : Jvm.MethodName) jdk_45_method_2_code (1 : Nat) (Option.some Jvm.ClassFile.FieldType.boolean)).before args0 about1 = true := code_word (m := ⟨22, 1⟩) (meth := k22m1) (c := k22c1) (by decide +kernel) rfl rfl rfl (by decide +kernel)
set_option maxRecDepth 65536 in
theorem w_c13 : (Jvm.Cond.code ({ cls := "com/example/wary_lock/warylock/Lease", name := "<init>", desc := "(Ljava/lang/String;Ljava/lang/String;JJLjava/time/Instant;JILcom/example/wary_lock/warylock/LockMode;)V" } : Jvm.MethodName) prog_6_method_1_code (12 : Nat) (Option.none : Option Jvm.ClassFile.FieldType)).before args0 about1 = true := code_word (m := ⟨23, 0⟩) (meth := k23m0) (c := k23c0) (by decide +kernel) rfl rfl rfl (by decide +kernel)
set_option maxRecDepth 65536 in
theorem w_c14 : (Jvm.Cond.code ({ cls := "java/util/ArrayList", name := "add", desc := "(Ljava/lang/Object;)Z" } : Jvm.MethodName) jdk_38_method_25_code (2 : Nat) (Option.some Jvm.ClassFile.FieldType.boolean)).before args0 about1 = true := code_word (m := ⟨15, 6⟩) (meth := k15m6) (c := k15c6) (by decide +kernel) rfl rfl rfl (by decide +kernel)
set_option maxRecDepth 65536 in
theorem w_c15 : (Jvm.Cond.code ({ cls := "java/util/ArrayList", name := "add", desc := "(Ljava/lang/Object;[Ljava/lang/Object;I)V" } : Jvm.MethodName) jdk_38_method_24_code (4 : Nat) (Option.none : Option Jvm.ClassFile.FieldType)).before args0 about1 = true := code_word (m := ⟨15, 5⟩) (meth := k15m5) (c := k15c5) (by decide +kernel) rfl rfl rfl (by decide +kernel)
set_option maxRecDepth 65536 in
theorem w_c16 : (Jvm.Cond.code ({ cls := "java/util/ArrayList", name := "grow", desc := "()[Ljava/lang/Object;" } : Jvm.MethodName) jdk_38_method_7_code (1 : Nat) (Option.some (Jvm.ClassFile.FieldType.array (Jvm.ClassFile.FieldType.object "java/lang/Object")))).before args0 about1 = true := code_word (m := ⟨15, 2⟩) (meth := k15m2) (c := k15c2) (by decide +kernel) rfl rfl rfl (by decide +kernel)
set_option maxRecDepth 65536 in
theorem w_c17 : (Jvm.Cond.code ({ cls := "java/util/ArrayList", name := "grow", desc := "(I)[Ljava/lang/Object;" } : Jvm.MethodName) jdk_38_method_6_code (4 : Nat) (Option.some (Jvm.ClassFile.FieldType.array (Jvm.ClassFile.FieldType.object "java/lang/Object")))).before args0 about1 = true := code_word (m := ⟨15, 1⟩) (meth := k15m1) (c := k15c1) (by decide +kernel) rfl rfl rfl (by decide +kernel)
set_option maxRecDepth 65536 in
theorem w_c18 : (Jvm.Cond.code ({ cls := "java/lang/Math", name := "max", desc := "(II)I" } : Jvm.MethodName) jdk_29_method_65_code (2 : Nat) (Option.some Jvm.ClassFile.FieldType.int)).before args0 about1 = true := code_word (m := ⟨27, 1⟩) (meth := k27m1) (c := k27c1) (by decide +kernel) rfl rfl rfl (by decide +kernel)
set_option maxRecDepth 65536 in
theorem w_c19 : (Jvm.Cond.code ({ cls := "java/util/ArrayList", name := "toArray", desc := "()[Ljava/lang/Object;" } : Jvm.MethodName) jdk_38_method_16_code (1 : Nat) (Option.some (Jvm.ClassFile.FieldType.array (Jvm.ClassFile.FieldType.object "java/lang/Object")))).before args0 about1 = true := code_word (m := ⟨15, 4⟩) (meth := k15m4) (c := k15c4) (by decide +kernel) rfl rfl rfl (by decide +kernel)
set_option maxRecDepth 65536 in
theorem w_c20 : (Jvm.Cond.code ({ cls := "java/util/Arrays", name := "copyOf", desc := "([Ljava/lang/Object;I)[Ljava/lang/Object;" } : Jvm.MethodName) jdk_65_method_119_code (2 : Nat) (Option.some (Jvm.ClassFile.FieldType.array (Jvm.ClassFile.FieldType.object "java/lang/Object")))).before args0 about1 = true := code_word (m := ⟨28, 1⟩) (meth := k28m1) (c := k28c1) (by decide +kernel) rfl rfl rfl (by decide +kernel)
set_option maxRecDepth 65536 in
theorem w_c21 : (Jvm.Cond.code ({ cls := "java/util/Arrays", name := "copyOf", desc := "([Ljava/lang/Object;ILjava/lang/Class;)[Ljava/lang/Object;" } : Jvm.MethodName) jdk_65_method_120_code (4 : Nat) (Option.some (Jvm.ClassFile.FieldType.array (Jvm.ClassFile.FieldType.object "java/lang/Object")))).before args0 about1 = true := code_word (m := ⟨28, 2⟩) (meth := k28m2) (c := k28c2) (by decide +kernel) rfl rfl rfl (by decide +kernel)
set_option maxRecDepth 65536 in
theorem w_c22 : (Jvm.Cond.code ({ cls := "java/lang/Math", name := "min", desc := "(II)I" } : Jvm.MethodName) jdk_29_method_69_code (2 : Nat) (Option.some Jvm.ClassFile.FieldType.int)).before args0 about1 = true := code_word (m := ⟨27, 2⟩) (meth := k27m2) (c := k27c2) (by decide +kernel) rfl rfl rfl (by decide +kernel)
set_option maxRecDepth 65536 in
theorem w_c23 : (Jvm.Cond.code ({ cls := "java/util/List", name := "of", desc := "([Ljava/lang/Object;)Ljava/util/List;" } : Jvm.MethodName) jdk_40_method_47_code (2 : Nat) (Option.some (Jvm.ClassFile.FieldType.object "java/util/List"))).before args0 about1 = true := code_word (m := ⟨11, 3⟩) (meth := k11m3) (c := k11c3) (by decide +kernel) rfl rfl rfl (by decide +kernel)
set_option maxRecDepth 65536 in
theorem w_c24 : (Jvm.Cond.code ({ cls := "java/util/ImmutableCollections", name := "listFromArray", desc := "([Ljava/lang/Object;)Ljava/util/List;" } : Jvm.MethodName) jdk_56_method_4_code (3 : Nat) (Option.some (Jvm.ClassFile.FieldType.object "java/util/List"))).before args0 about1 = true := code_word (m := ⟨18, 2⟩) (meth := k18m2) (c := k18c2) (by decide +kernel) rfl rfl rfl (by decide +kernel)
set_option maxRecDepth 65536 in
theorem w_c25 : (Jvm.Cond.code ({ cls := "java/util/Objects", name := "requireNonNull", desc := "(Ljava/lang/Object;)Ljava/lang/Object;" } : Jvm.MethodName) jdk_31_method_10_code (1 : Nat) (Option.some (Jvm.ClassFile.FieldType.object "java/lang/Object"))).before args0 about1 = true := code_word (m := ⟨30, 1⟩) (meth := k30m1) (c := k30c1) (by decide +kernel) rfl rfl rfl (by decide +kernel)
set_option maxRecDepth 65536 in
theorem w_c26 : (Jvm.Cond.code ({ cls := "java/util/ImmutableCollections$ListN", name := "<init>", desc := "([Ljava/lang/Object;Z)V" } : Jvm.MethodName) jdk_45_method_1_code (3 : Nat) (Option.none : Option Jvm.ClassFile.FieldType)).before args0 about1 = true := code_word (m := ⟨22, 0⟩) (meth := k22m0) (c := k22c0) (by decide +kernel) rfl rfl rfl (by decide +kernel)
set_option maxRecDepth 65536 in
theorem w_c27 : (Jvm.Cond.code ({ cls := "java/util/ImmutableCollections$AbstractImmutableList", name := "<init>", desc := "()V" } : Jvm.MethodName) jdk_46_method_1_code (1 : Nat) (Option.none : Option Jvm.ClassFile.FieldType)).before args0 about1 = true := code_word (m := ⟨20, 0⟩) (meth := k20m0) (c := k20c0) (by decide +kernel) rfl rfl rfl (by decide +kernel)
set_option maxRecDepth 65536 in
theorem w_c28 : (Jvm.Cond.code ({ cls := "java/util/ImmutableCollections$AbstractImmutableCollection", name := "<init>", desc := "()V" } : Jvm.MethodName) jdk_47_method_1_code (1 : Nat) (Option.none : Option Jvm.ClassFile.FieldType)).before args0 about1 = true := code_word (m := ⟨19, 0⟩) (meth := k19m0) (c := k19c0) (by decide +kernel) rfl rfl rfl (by decide +kernel)
set_option maxRecDepth 65536 in
theorem w_c29 : (Jvm.Cond.code ({ cls := "java/util/ImmutableCollections$ListN", name := "get", desc := "(I)Ljava/lang/Object;" } : Jvm.MethodName) jdk_45_method_4_code (2 : Nat) (Option.some (Jvm.ClassFile.FieldType.object "java/lang/Object"))).before args0 about1 = true := code_word (m := ⟨22, 2⟩) (meth := k22m2) (c := k22c2) (by decide +kernel) rfl rfl rfl (by decide +kernel)
set_option maxRecDepth 65536 in
theorem w_c30 : (Jvm.Cond.code ({ cls := "com/example/wary_lock/warylock/Lease", name := "limit", desc := "()I" } : Jvm.MethodName) prog_6_method_11_code (1 : Nat) (Option.some Jvm.ClassFile.FieldType.int)).before args0 about1 = true := code_word (m := ⟨23, 1⟩) (meth := k23m1) (c := k23c1) (by decide +kernel) rfl rfl rfl (by decide +kernel)
set_option maxRecDepth 65536 in
theorem w_c31 : (Jvm.Cond.code ({ cls := "java/lang/Integer", name := "valueOf", desc := "(I)Ljava/lang/Integer;" } : Jvm.MethodName) jdk_33_method_22_code (1 : Nat) (Option.some (Jvm.ClassFile.FieldType.object "java/lang/Integer"))).before args0 about1 = true := code_word (m := ⟨32, 0⟩) (meth := k32m0) (c := k32c0) (by decide +kernel) rfl rfl rfl (by decide +kernel)
set_option maxRecDepth 65536 in
theorem w_c32 : (Jvm.Cond.code ({ cls := "java/lang/Integer", name := "intValue", desc := "()I" } : Jvm.MethodName) jdk_33_method_27_code (1 : Nat) (Option.some Jvm.ClassFile.FieldType.int)).before args0 about1 = true := code_word (m := ⟨32, 2⟩) (meth := k32m2) (c := k32c2) (by decide +kernel) rfl rfl rfl (by decide +kernel)
set_option maxRecDepth 65536 in
theorem w_c33 : (Jvm.Cond.code ({ cls := "java/util/ImmutableCollections$List12", name := "<init>", desc := "(Ljava/lang/Object;Ljava/lang/Object;)V" } : Jvm.MethodName) jdk_44_method_2_code (3 : Nat) (Option.none : Option Jvm.ClassFile.FieldType)).before args0 about1 = true := code_word (m := ⟨21, 1⟩) (meth := k21m1) (c := k21c1) (by decide +kernel) rfl rfl rfl (by decide +kernel)
set_option maxRecDepth 65536 in
theorem w_c34 : (Jvm.Cond.code ({ cls := "java/util/ImmutableCollections$List12", name := "isEmpty", desc := "()Z" } : Jvm.MethodName) jdk_44_method_4_code (1 : Nat) (Option.some Jvm.ClassFile.FieldType.boolean)).before args0 about1 = true := code_word (m := ⟨21, 2⟩) (meth := k21m2) (c := k21c2) (by decide +kernel) rfl rfl rfl (by decide +kernel)
set_option maxRecDepth 65536 in
theorem w_c35 : (Jvm.Cond.code ({ cls := "java/util/ImmutableCollections$List12", name := "get", desc := "(I)Ljava/lang/Object;" } : Jvm.MethodName) jdk_44_method_5_code (2 : Nat) (Option.some (Jvm.ClassFile.FieldType.object "java/lang/Object"))).before args0 about1 = true := code_word (m := ⟨21, 3⟩) (meth := k21m3) (c := k21c3) (by decide +kernel) rfl rfl rfl (by decide +kernel)
set_option maxRecDepth 65536 in
theorem w_c36 : (Jvm.Cond.code ({ cls := "java/lang/Integer", name := "<init>", desc := "(I)V" } : Jvm.MethodName) jdk_33_method_23_code (2 : Nat) (Option.none : Option Jvm.ClassFile.FieldType)).before args0 about1 = true := code_word (m := ⟨32, 1⟩) (meth := k32m1) (c := k32c1) (by decide +kernel) rfl rfl rfl (by decide +kernel)
set_option maxRecDepth 65536 in
theorem w_c37 : (Jvm.Cond.code ({ cls := "java/lang/Number", name := "<init>", desc := "()V" } : Jvm.MethodName) jdk_18_method_1_code (1 : Nat) (Option.none : Option Jvm.ClassFile.FieldType)).before args0 about1 = true := code_word (m := ⟨31, 0⟩) (meth := k31m0) (c := k31c0) (by decide +kernel) rfl rfl rfl (by decide +kernel)
set_option maxRecDepth 65536 in
theorem w_c38 : (Jvm.Cond.code ({ cls := "java/util/ImmutableCollections$List12", name := "<init>", desc := "(Ljava/lang/Object;)V" } : Jvm.MethodName) jdk_44_method_1_code (2 : Nat) (Option.none : Option Jvm.ClassFile.FieldType)).before args0 about1 = true := code_word (m := ⟨21, 0⟩) (meth := k21m0) (c := k21c0) (by decide +kernel) rfl rfl rfl (by decide +kernel)
def codes1 : List Jvm.Cond := [Jvm.Cond.code x code maxLocals ret, Jvm.Cond.code ({ cls := "java/util/ArrayList", name := "<init>", desc := "()V" } : Jvm.MethodName) jdk_38_method_2_code (1 : Nat) (Option.none : Option Jvm.ClassFile.FieldType), Jvm.Cond.code ({ cls := "java/util/AbstractList", name := "<init>", desc := "()V" } : Jvm.MethodName) jdk_39_method_1_code (1 : Nat) (Option.none : Option Jvm.ClassFile.FieldType), Jvm.Cond.code ({ cls := "java/util/AbstractCollection", name := "<init>", desc := "()V" } : Jvm.MethodName) jdk_22_method_1_code (1 : Nat) (Option.none : Option Jvm.ClassFile.FieldType), Jvm.Cond.code ({ cls := "java/lang/Object", name := "<init>", desc := "()V" } : Jvm.MethodName) object_method_1_code (1 : Nat) (Option.none : Option Jvm.ClassFile.FieldType), Jvm.Cond.code ({ cls := "com/example/wary_lock/warylock/LockState", name := "<init>", desc := "(Ljava/util/List;I)V" } : Jvm.MethodName) prog_11_method_1_code (3 : Nat) (Option.none : Option Jvm.ClassFile.FieldType), Jvm.Cond.code ({ cls := "java/lang/Record", name := "<init>", desc := "()V" } : Jvm.MethodName) jdk_30_method_1_code (1 : Nat) (Option.none : Option Jvm.ClassFile.FieldType), Jvm.Cond.code ({ cls := "java/util/List", name := "copyOf", desc := "(Ljava/util/Collection;)Ljava/util/List;" } : Jvm.MethodName) jdk_40_method_48_code (1 : Nat) (Option.some (Jvm.ClassFile.FieldType.object "java/util/List")), Jvm.Cond.code ({ cls := "java/util/ImmutableCollections", name := "listCopy", desc := "(Ljava/util/Collection;)Ljava/util/List;" } : Jvm.MethodName) jdk_56_method_3_code (2 : Nat) (Option.some (Jvm.ClassFile.FieldType.object "java/util/List")), Jvm.Cond.code ({ cls := "java/util/ArrayList", name := "isEmpty", desc := "()Z" } : Jvm.MethodName) jdk_38_method_9_code (1 : Nat) (Option.some Jvm.ClassFile.FieldType.boolean), Jvm.Cond.code ({ cls := "java/util/List", name := "of", desc := "()Ljava/util/List;" } : Jvm.MethodName) jdk_40_method_36_code (0 : Nat) (Option.some (Jvm.ClassFile.FieldType.object "java/util/List")), Jvm.Cond.code ({ cls := "com/example/wary_lock/warylock/LockState", name := "limit", desc := "()Ljava/lang/Integer;" } : Jvm.MethodName) prog_11_method_2_code (1 : Nat) (Option.some (Jvm.ClassFile.FieldType.object "java/lang/Integer")), Jvm.Cond.code ({ cls := "java/util/ImmutableCollections$ListN", name := "isEmpty", desc := "()Z" } : Jvm.MethodName) jdk_45_method_2_code (1 : Nat) (Option.some Jvm.ClassFile.FieldType.boolean), Jvm.Cond.code ({ cls := "com/example/wary_lock/warylock/Lease", name := "<init>", desc := "(Ljava/lang/String;Ljava/lang/String;JJLjava/time/Instant;JILcom/example/wary_lock/warylock/LockMode;)V" } : Jvm.MethodName) prog_6_method_1_code (12 : Nat) (Option.none : Option Jvm.ClassFile.FieldType), Jvm.Cond.code ({ cls := "java/util/ArrayList", name := "add", desc := "(Ljava/lang/Object;)Z" } : Jvm.MethodName) jdk_38_method_25_code (2 : Nat) (Option.some Jvm.ClassFile.FieldType.boolean), Jvm.Cond.code ({ cls := "java/util/ArrayList", name := "add", desc := "(Ljava/lang/Object;[Ljava/lang/Object;I)V" } : Jvm.MethodName) jdk_38_method_24_code (4 : Nat) (Option.none : Option Jvm.ClassFile.FieldType), Jvm.Cond.code ({ cls := "java/util/ArrayList", name := "grow", desc := "()[Ljava/lang/Object;" } : Jvm.MethodName) jdk_38_method_7_code (1 : Nat) (Option.some (Jvm.ClassFile.FieldType.array (Jvm.ClassFile.FieldType.object "java/lang/Object"))), Jvm.Cond.code ({ cls := "java/util/ArrayList", name := "grow", desc := "(I)[Ljava/lang/Object;" } : Jvm.MethodName) jdk_38_method_6_code (4 : Nat) (Option.some (Jvm.ClassFile.FieldType.array (Jvm.ClassFile.FieldType.object "java/lang/Object"))), Jvm.Cond.code ({ cls := "java/lang/Math", name := "max", desc := "(II)I" } : Jvm.MethodName) jdk_29_method_65_code (2 : Nat) (Option.some Jvm.ClassFile.FieldType.int), Jvm.Cond.code ({ cls := "java/util/ArrayList", name := "toArray", desc := "()[Ljava/lang/Object;" } : Jvm.MethodName) jdk_38_method_16_code (1 : Nat) (Option.some (Jvm.ClassFile.FieldType.array (Jvm.ClassFile.FieldType.object "java/lang/Object"))), Jvm.Cond.code ({ cls := "java/util/Arrays", name := "copyOf", desc := "([Ljava/lang/Object;I)[Ljava/lang/Object;" } : Jvm.MethodName) jdk_65_method_119_code (2 : Nat) (Option.some (Jvm.ClassFile.FieldType.array (Jvm.ClassFile.FieldType.object "java/lang/Object"))), Jvm.Cond.code ({ cls := "java/util/Arrays", name := "copyOf", desc := "([Ljava/lang/Object;ILjava/lang/Class;)[Ljava/lang/Object;" } : Jvm.MethodName) jdk_65_method_120_code (4 : Nat) (Option.some (Jvm.ClassFile.FieldType.array (Jvm.ClassFile.FieldType.object "java/lang/Object"))), Jvm.Cond.code ({ cls := "java/lang/Math", name := "min", desc := "(II)I" } : Jvm.MethodName) jdk_29_method_69_code (2 : Nat) (Option.some Jvm.ClassFile.FieldType.int), Jvm.Cond.code ({ cls := "java/util/List", name := "of", desc := "([Ljava/lang/Object;)Ljava/util/List;" } : Jvm.MethodName) jdk_40_method_47_code (2 : Nat) (Option.some (Jvm.ClassFile.FieldType.object "java/util/List")), Jvm.Cond.code ({ cls := "java/util/ImmutableCollections", name := "listFromArray", desc := "([Ljava/lang/Object;)Ljava/util/List;" } : Jvm.MethodName) jdk_56_method_4_code (3 : Nat) (Option.some (Jvm.ClassFile.FieldType.object "java/util/List")), Jvm.Cond.code ({ cls := "java/util/Objects", name := "requireNonNull", desc := "(Ljava/lang/Object;)Ljava/lang/Object;" } : Jvm.MethodName) jdk_31_method_10_code (1 : Nat) (Option.some (Jvm.ClassFile.FieldType.object "java/lang/Object")), Jvm.Cond.code ({ cls := "java/util/ImmutableCollections$ListN", name := "<init>", desc := "([Ljava/lang/Object;Z)V" } : Jvm.MethodName) jdk_45_method_1_code (3 : Nat) (Option.none : Option Jvm.ClassFile.FieldType), Jvm.Cond.code ({ cls := "java/util/ImmutableCollections$AbstractImmutableList", name := "<init>", desc := "()V" } : Jvm.MethodName) jdk_46_method_1_code (1 : Nat) (Option.none : Option Jvm.ClassFile.FieldType), Jvm.Cond.code ({ cls := "java/util/ImmutableCollections$AbstractImmutableCollection", name := "<init>", desc := "()V" } : Jvm.MethodName) jdk_47_method_1_code (1 : Nat) (Option.none : Option Jvm.ClassFile.FieldType), Jvm.Cond.code ({ cls := "java/util/ImmutableCollections$ListN", name := "get", desc := "(I)Ljava/lang/Object;" } : Jvm.MethodName) jdk_45_method_4_code (2 : Nat) (Option.some (Jvm.ClassFile.FieldType.object "java/lang/Object")), Jvm.Cond.code ({ cls := "com/example/wary_lock/warylock/Lease", name := "limit", desc := "()I" } : Jvm.MethodName) prog_6_method_11_code (1 : Nat) (Option.some Jvm.ClassFile.FieldType.int), Jvm.Cond.code ({ cls := "java/lang/Integer", name := "valueOf", desc := "(I)Ljava/lang/Integer;" } : Jvm.MethodName) jdk_33_method_22_code (1 : Nat) (Option.some (Jvm.ClassFile.FieldType.object "java/lang/Integer")), Jvm.Cond.code ({ cls := "java/lang/Integer", name := "intValue", desc := "()I" } : Jvm.MethodName) jdk_33_method_27_code (1 : Nat) (Option.some Jvm.ClassFile.FieldType.int), Jvm.Cond.code ({ cls := "java/util/ImmutableCollections$List12", name := "<init>", desc := "(Ljava/lang/Object;Ljava/lang/Object;)V" } : Jvm.MethodName) jdk_44_method_2_code (3 : Nat) (Option.none : Option Jvm.ClassFile.FieldType), Jvm.Cond.code ({ cls := "java/util/ImmutableCollections$List12", name := "isEmpty", desc := "()Z" } : Jvm.MethodName) jdk_44_method_4_code (1 : Nat) (Option.some Jvm.ClassFile.FieldType.boolean), Jvm.Cond.code ({ cls := "java/util/ImmutableCollections$List12", name := "get", desc := "(I)Ljava/lang/Object;" } : Jvm.MethodName) jdk_44_method_5_code (2 : Nat) (Option.some (Jvm.ClassFile.FieldType.object "java/lang/Object")), Jvm.Cond.code ({ cls := "java/lang/Integer", name := "<init>", desc := "(I)V" } : Jvm.MethodName) jdk_33_method_23_code (2 : Nat) (Option.none : Option Jvm.ClassFile.FieldType), Jvm.Cond.code ({ cls := "java/lang/Number", name := "<init>", desc := "()V" } : Jvm.MethodName) jdk_18_method_1_code (1 : Nat) (Option.none : Option Jvm.ClassFile.FieldType), Jvm.Cond.code ({ cls := "java/util/ImmutableCollections$List12", name := "<init>", desc := "(Ljava/lang/Object;)V" } : Jvm.MethodName) jdk_44_method_1_code (2 : Nat) (Option.none : Option Jvm.ClassFile.FieldType)]
set_option maxRecDepth 65536 in
theorem codes_eq : words1.filter isCode = codes1 := rfl
theorem w_codes : ∀ c ∈ words1.filter isCode, c.before args0 about1 = true := by
  rw [codes_eq]
  intro c hc
  simp only [codes1, List.mem_cons, List.not_mem_nil, or_false] at hc
  rcases hc with rfl | rfl | rfl | rfl | rfl | rfl | rfl | rfl | rfl | rfl | rfl | rfl | rfl | rfl | rfl | rfl | rfl | rfl | rfl | rfl | rfl | rfl | rfl | rfl | rfl | rfl | rfl | rfl | rfl | rfl | rfl | rfl | rfl | rfl | rfl | rfl | rfl | rfl | rfl
  · exact w_c0
  · exact w_c1
  · exact w_c2
  · exact w_c3
  · exact w_c4
  · exact w_c5
  · exact w_c6
  · exact w_c7
  · exact w_c8
  · exact w_c9
  · exact w_c10
  · exact w_c11
  · exact w_c12
  · exact w_c13
  · exact w_c14
  · exact w_c15
  · exact w_c16
  · exact w_c17
  · exact w_c18
  · exact w_c19
  · exact w_c20
  · exact w_c21
  · exact w_c22
  · exact w_c23
  · exact w_c24
  · exact w_c25
  · exact w_c26
  · exact w_c27
  · exact w_c28
  · exact w_c29
  · exact w_c30
  · exact w_c31
  · exact w_c32
  · exact w_c33
  · exact w_c34
  · exact w_c35
  · exact w_c36
  · exact w_c37
  · exact w_c38
set_option maxRecDepth 65536 in
theorem w_t1 : (words1.take 24).all (fun c => isCode c || c.before args0 about1) = true := by decide +kernel
set_option maxRecDepth 65536 in
theorem w_t2 : ((words1.drop 24).take 24).all (fun c => isCode c || c.before args0 about1) = true := by decide +kernel
set_option maxRecDepth 65536 in
theorem w_t3 : (((words1.drop 24).drop 24).take 24).all (fun c => isCode c || c.before args0 about1) = true := by decide +kernel
set_option maxRecDepth 65536 in
theorem w_t4 : ((((words1.drop 24).drop 24).drop 24).take 24).all (fun c => isCode c || c.before args0 about1) = true := by decide +kernel
set_option maxRecDepth 65536 in
theorem w_t5 : (((((words1.drop 24).drop 24).drop 24).drop 24).take 24).all (fun c => isCode c || c.before args0 about1) = true := by decide +kernel
set_option maxRecDepth 65536 in
theorem w_t6 : ((((((words1.drop 24).drop 24).drop 24).drop 24).drop 24).take 24).all (fun c => isCode c || c.before args0 about1) = true := by decide +kernel
set_option maxRecDepth 65536 in
theorem w_t7 : (((((((words1.drop 24).drop 24).drop 24).drop 24).drop 24).drop 24).take 24).all (fun c => isCode c || c.before args0 about1) = true := by decide +kernel
set_option maxRecDepth 65536 in
theorem w_t8 : ((((((((words1.drop 24).drop 24).drop 24).drop 24).drop 24).drop 24).drop 24).take 24).all (fun c => isCode c || c.before args0 about1) = true := by decide +kernel
set_option maxRecDepth 65536 in
theorem w_t9 : (((((((((words1.drop 24).drop 24).drop 24).drop 24).drop 24).drop 24).drop 24).drop 24).take 24).all (fun c => isCode c || c.before args0 about1) = true := by decide +kernel
set_option maxRecDepth 65536 in
theorem w_t10 : ((((((((((words1.drop 24).drop 24).drop 24).drop 24).drop 24).drop 24).drop 24).drop 24).drop 24).take 24).all (fun c => isCode c || c.before args0 about1) = true := by decide +kernel
set_option maxRecDepth 65536 in
theorem w_t11 : (((((((((((words1.drop 24).drop 24).drop 24).drop 24).drop 24).drop 24).drop 24).drop 24).drop 24).drop 24).take 24).all (fun c => isCode c || c.before args0 about1) = true := by decide +kernel
set_option maxRecDepth 65536 in
theorem w_t12 : ((((((((((((words1.drop 24).drop 24).drop 24).drop 24).drop 24).drop 24).drop 24).drop 24).drop 24).drop 24).drop 24).take 24).all (fun c => isCode c || c.before args0 about1) = true := by decide +kernel
set_option maxRecDepth 65536 in
theorem w_t13 : ((((((((((((words1.drop 24).drop 24).drop 24).drop 24).drop 24).drop 24).drop 24).drop 24).drop 24).drop 24).drop 24).drop 24).all (fun c => isCode c || c.before args0 about1) = true := by decide +kernel
theorem w_tables : (allAtoms (Jvm.Cond.code x code maxLocals ret :: tables_1)).before args0 about1 = true := by
  rw [allAtoms_all]
  show words1.all (fun c => c.before args0 about1) = true
  refine all_split ?_ w_codes
  rw [← List.take_append_drop 24 words1, List.all_append, w_t1, ← List.take_append_drop 24 (words1.drop 24), List.all_append, w_t2, ← List.take_append_drop 24 ((words1.drop 24).drop 24), List.all_append, w_t3, ← List.take_append_drop 24 (((words1.drop 24).drop 24).drop 24), List.all_append, w_t4, ← List.take_append_drop 24 ((((words1.drop 24).drop 24).drop 24).drop 24), List.all_append, w_t5, ← List.take_append_drop 24 (((((words1.drop 24).drop 24).drop 24).drop 24).drop 24), List.all_append, w_t6, ← List.take_append_drop 24 ((((((words1.drop 24).drop 24).drop 24).drop 24).drop 24).drop 24), List.all_append, w_t7, ← List.take_append_drop 24 (((((((words1.drop 24).drop 24).drop 24).drop 24).drop 24).drop 24).drop 24), List.all_append, w_t8, ← List.take_append_drop 24 ((((((((words1.drop 24).drop 24).drop 24).drop 24).drop 24).drop 24).drop 24).drop 24), List.all_append, w_t9, ← List.take_append_drop 24 (((((((((words1.drop 24).drop 24).drop 24).drop 24).drop 24).drop 24).drop 24).drop 24).drop 24), List.all_append, w_t10, ← List.take_append_drop 24 ((((((((((words1.drop 24).drop 24).drop 24).drop 24).drop 24).drop 24).drop 24).drop 24).drop 24).drop 24), List.all_append, w_t11, ← List.take_append_drop 24 (((((((((((words1.drop 24).drop 24).drop 24).drop 24).drop 24).drop 24).drop 24).drop 24).drop 24).drop 24).drop 24), List.all_append, w_t12, w_t13]
  rfl
set_option maxRecDepth 65536 in
theorem w_rest : rest_1_c.before args0 about1 = true := by decide +kernel
set_option maxRecDepth 65536 in
theorem w_case : (Jvm.Cond.and given_1 narrow_1).before args0 about1 = true := by decide +kernel
theorem w_applies : (headSpec (Jvm.Cond.code x code maxLocals ret :: tables_1) room_1).applies x e0.platform about1 = true :=
  (Spec.applies_iff w_frames).mpr ⟨w_running, w_runnable, w_alone, w_named, w_hears, w_ripe, w_room, w_tables⟩
set_option maxRecDepth 65536 in
theorem atStart : AtStart classFile x code maxLocals ret World_1 tables_1 room_1 Calls_1 rest_1 Pre_1 launch0 p0 e0 about1 theMethod args0 below0 :=
  ⟨lists_1, trivial, launch0.admits_env _ _ _, launch0.least_env, fairChoices_fair.cas, fairChoices_fair.clock, w_frames, w_args, w_heap, w_applies, ⟨⟨40, k40, 4, by decide +kernel, rfl, rfl, _, rfl, rfl⟩, trivial⟩, w_rest, w_case⟩
end start1
theorem witness_1 : WitnessClaimed_1 := ⟨start1.p0, start1.e0, start1.about1, start1.theMethod, start1.args0, start1.below0, start1.atStart⟩
end Jvm.Pilot.@@N@@
