import JvmDerived
import JvmDerived.Pilot.@@N@@Statement
import JvmDerived.Pilot.@@N@@Code
set_option linter.unusedVariables false
set_option linter.unusedSimpArgs false
namespace Jvm.Pilot.@@N@@
open Jvm Jvm.ClassFile Sem Op Lib Jvm.Free Jvm.Stand Jvm.LawKit Jvm.RoadKit Bundle Jvm.Pilot.@@N@@.Jvm.D
set_option maxRecDepth 65536
set_option maxHeartbeats 40000000
abbrev HW (Z : State) (a0 : Array Value) : Prop := ∀ d ∈ tables_1, d.before a0 Z = true
theorem mg {α : Type} {L : List α} {i : Nat} {a : α} (h : L[i]? = some a) : a ∈ L := List.mem_of_getElem? h
theorem wd {Z : State} {a0 : Array Value} (hw : HW Z a0) (i : Nat) {d : Jvm.Cond} (h : tables_1[i]? = some d) : d.before a0 Z = true := hw d (mg h)
/-! the walk in continuation form: 'Go' says that from here the body comes to its end with Q -/
def Go (EN : State → Outcome → State → List Loc → Nat → Nat → Prop) (p : Program) (e : Env) (below : List Frame) (s : State) (kc ks : Nat) (Q : Option Value → Heap → List Loc → Prop) (T : State) (g : JFrame) : Prop :=
  ∃ s₂ o, Steps p.tables e below (T.setTop g) s₂ ∧ s₂.status = .running ∧ Ended s₂ below o ∧ ∃ v L, o = .returned v ∧ Q v s₂.heap L ∧ EN s o s₂ L kc ks
section GoLaws
variable {p : Program} {l : Launch} {e : Env} {R : Room} {s : State} {m : MethodId} {args : Array Value} {below : List Frame} {meth : Method} {c : Code} {T T' : State} {locs : List Loc} {cells slots kc ks : Nat} {Q : Option Value → Heap → List Loc → Prop} {g g' : JFrame} {EN : State → Outcome → State → List Loc → Nat → Nat → Prop}
theorem Go.step (st : ∀ t, Steps p.tables e below (T'.setTop g') t → Steps p.tables e below (T.setTop g) t) (k : Go EN p e below s kc ks Q T' g') : Go EN p e below s kc ks Q T g := by
  obtain ⟨a, b, h1, h2⟩ := k
  exact ⟨a, b, st _ h1, h2⟩
theorem Go.trans (st : Steps p.tables e below (T.setTop g) (T'.setTop g')) (k : Go EN p e below s kc ks Q T' g') : Go EN p e below s kc ks Q T g := by
  obtain ⟨a, b, h1, h2⟩ := k
  exact ⟨a, b, st.trans h1, h2⟩
theorem Go.cast (q : g = g') (k : Go EN p e below s kc ks Q T g') : Go EN p e below s kc ks Q T g := q ▸ k
theorem Go.retN (X : Stand p l e R s m args below meth c T locs cells slots) (hx : p.tables.exec = Jvm.exec) {pc : Nat} {Ls : Array Slot} {z : Int32} {t : FieldType} {rest : List Value} (hret : meth.sig.returnType = some t) (ht : t = .boolean ∨ t = .byte ∨ t = .char ∨ t = .short) (hlk : meth.locks = false)
    (hd : decode c.code pc = .ok (.ireturn, 1)) (hc : cells ≤ kc) (hs : slots ≤ ks) (q : Q (some (.int (nar t z))) T.heap locs) : Go FrameEnd p e below s kc ks Q T (mkF m pc Ls (.int z :: rest)) := by
  obtain ⟨fs, hr, hrun, hended, hW, hsame⟩ := X.leave (v := some (.int (nar t z))) (fun h => by rw [hret] at h; cases h) hlk
  exact ⟨_, _, RoadKit.retN X hx hret ht hd hr, hrun, hended, _, _, rfl, q, ⟨_, rfl⟩, hW, hsame.mono hc hs⟩
theorem Go.retI (X : Stand p l e R s m args below meth c T locs cells slots) (hx : p.tables.exec = Jvm.exec) {pc : Nat} {Ls : Array Slot} {z : Int32} {rest : List Value} (hret : meth.sig.returnType = some .int) (hlk : meth.locks = false)
    (hd : decode c.code pc = .ok (.ireturn, 1)) (hc : cells ≤ kc) (hs : slots ≤ ks) (q : Q (some (.int z)) T.heap locs) : Go FrameEnd p e below s kc ks Q T (mkF m pc Ls (.int z :: rest)) := by
  obtain ⟨fs, hr, hrun, hended, hW, hsame⟩ := X.leave (v := some (.int z)) (fun h => by rw [hret] at h; cases h) hlk
  exact ⟨_, _, RoadKit.retOut X hx hret rfl (Or.inl ⟨rfl, Or.inl rfl, _, rfl⟩) hd hr, hrun, hended, _, _, rfl, q, ⟨_, rfl⟩, hW, hsame.mono hc hs⟩
theorem Go.retJ (X : Stand p l e R s m args below meth c T locs cells slots) (hx : p.tables.exec = Jvm.exec) {pc : Nat} {Ls : Array Slot} {z : Int64} {rest : List Value} (hret : meth.sig.returnType = some .long) (hlk : meth.locks = false)
    (hd : decode c.code pc = .ok (.lreturn, 1)) (hc : cells ≤ kc) (hs : slots ≤ ks) (q : Q (some (.long z)) T.heap locs) : Go FrameEnd p e below s kc ks Q T (mkF m pc Ls (.long z :: rest)) := by
  obtain ⟨fs, hr, hrun, hended, hW, hsame⟩ := X.leave (v := some (.long z)) (fun h => by rw [hret] at h; cases h) hlk
  exact ⟨_, _, RoadKit.retOut X hx hret rfl (Or.inr (Or.inl ⟨rfl, rfl, _, rfl⟩)) hd hr, hrun, hended, _, _, rfl, q, ⟨_, rfl⟩, hW, hsame.mono hc hs⟩
theorem Go.retA (X : Stand p l e R s m args below meth c T locs cells slots) (hx : p.tables.exec = Jvm.exec) {pc : Nat} {Ls : Array Slot} {z : Value} {t : FieldType} {rest : List Value} (hret : meth.sig.returnType = some t) (ht : t.isReference = true) (hz : z.isRef = true) (hlk : meth.locks = false)
    (hd : decode c.code pc = .ok (.areturn, 1)) (hc : cells ≤ kc) (hs : slots ≤ ks) (q : Q (some z) T.heap locs) : Go FrameEnd p e below s kc ks Q T (mkF m pc Ls (z :: rest)) := by
  obtain ⟨fs, hr, hrun, hended, hW, hsame⟩ := X.leave (v := some z) (fun h => by rw [hret] at h; cases h) hlk
  exact ⟨_, _, RoadKit.retOut X hx hret (by cases t <;> cases z <;> first | rfl | (cases ht; done) | (cases hz; done)) (Or.inr (Or.inr (Or.inr (Or.inr ⟨rfl, ht, hz⟩)))) hd hr, hrun, hended, _, _, rfl, q, ⟨_, rfl⟩, hW, hsame.mono hc hs⟩
theorem Go.retV (X : Stand p l e R s m args below meth c T locs cells slots) (hx : p.tables.exec = Jvm.exec) {pc : Nat} {Ls : Array Slot} (hret : meth.sig.returnType = none) (hlk : meth.locks = false)
    (hd : decode c.code pc = .ok (.return_, 1)) (hc : cells ≤ kc) (hs : slots ≤ ks) (q : Q none T.heap locs) : Go FrameEnd p e below s kc ks Q T (mkF m pc Ls []) := by
  obtain ⟨fs, hr, hrun, hended, hW, hsame⟩ := X.leave (v := none) (fun _ => rfl) hlk
  exact ⟨_, _, X.returnOut hx hret hd hr, hrun, hended, _, _, rfl, q, ⟨_, rfl⟩, hW, hsame.mono hc hs⟩
abbrev Met (EN : State → Outcome → State → List Loc → Nat → Nat → Prop) (l : Launch) (y : MethodName) (bytes : ByteArray) (ml : Nat) (rt : Option FieldType) (ws : List Jvm.Cond) (R : Room) (Z : State) (h0 : Heap) (A : Array Value) (Q : Option Value → Heap → List Loc → Prop) : Prop :=
  MetFree l y (head1 (Jvm.Cond.code y bytes ml rt :: ws) R) (fun a U => a = A ∧ Z.Warmed39 U.vm ∧ U.heap = h0) (fun _ _ _ _ _ => True) (fun _ U o U' => ∃ v L, o = .returned v ∧ Q v U'.heap L ∧ EN U o U' L R.cells R.slots)
theorem own_met {y : MethodName} {bytes : ByteArray} {ml : Nat} {rt : Option FieldType} {ws : List Jvm.Cond} {Z : State} {h0 : Heap} {A : Array Value} (own : String) (hpl : plainFor y = true) (hc : y.cls = own) (Ls : Array Slot) (ef : ∀ m, entryFrame m A ml = mkF m 0 Ls [])
    (k : ∀ (p : Program) (e : Env) (s : State) (m : MethodId) (below : List Frame) (meth : Method) (c : Code) (s₁ : State), p.tables.exec = Jvm.exec → c.code = bytes → meth.locks = false → meth.sig.returnType = rt → c.maxLocals = ml → Z.Warmed39 s.vm → s.vm.findClass own = some m.cls → meth.name = y.name → Stand p l e R s m A below meth c s₁ [] 0 0 → s₁.heap = h0 → Go EN p e below s R.cells R.slots Q s₁ (mkF m 0 Ls [])) :
    Met EN l y bytes ml rt ws R Z h0 A Q := by
  refine MetFree.of_bodySF hpl hisR ?_
  intro p e s m args below meth c s₁ Bd hml0 hP hK
  obtain ⟨rfl, hZ, hh⟩ := hP
  exact Go.cast (ef m) (k p e s m below meth c s₁ Bd.exec Bd.bytes Bd.notSynchronized Bd.returns hml0 hZ (hc ▸ findClass_of_methodNamed Bd.named) (name_of_methodNamed Bd.named Bd.method).1 (Stand.of_body Bd) (by rw [← hh, Bd.state]; rfl))
abbrev MetC (EN : State → Outcome → State → List Loc → Nat → Nat → Prop) (l : Launch) (y : MethodName) (bytes : ByteArray) (ml : Nat) (rt : Option FieldType) (hs : List (Nat × Nat × Nat × Nat)) (ws : List Jvm.Cond) (R : Room) (Z : State) (h0 : Heap) (A : Array Value) (Q : Option Value → Heap → List Loc → Prop) : Prop :=
  MetFree l y (head1 (Jvm.Cond.codeWith y bytes ml rt hs :: ws) R) (fun a U => a = A ∧ Z.Warmed39 U.vm ∧ U.heap = h0) (fun _ _ _ _ _ => True) (fun _ U o U' => ∃ v L, o = .returned v ∧ Q v U'.heap L ∧ EN U o U' L R.cells R.slots)
theorem own_metC {y : MethodName} {bytes : ByteArray} {ml : Nat} {rt : Option FieldType} {hs : List (Nat × Nat × Nat × Nat)} {ws : List Jvm.Cond} {Z : State} {h0 : Heap} {A : Array Value} (own : String) (hpl : plainFor y = true) (hc : y.cls = own) (Ls : Array Slot) (ef : ∀ m, entryFrame m A ml = mkF m 0 Ls [])
    (k : ∀ (p : Program) (e : Env) (s : State) (m : MethodId) (below : List Frame) (meth : Method) (c : Code) (s₁ : State), p.tables.exec = Jvm.exec → c.code = bytes → meth.locks = false → meth.sig.returnType = rt → c.maxLocals = ml → Z.Warmed39 s.vm → s.vm.findClass own = some m.cls → meth.name = y.name → Stand p l e R s m A below meth c s₁ [] 0 0 → s₁.heap = h0 → Go EN p e below s R.cells R.slots Q s₁ (mkF m 0 Ls [])) :
    MetC EN l y bytes ml rt hs ws R Z h0 A Q := by
  refine MetFree.of_bodySF hpl hisWith ?_
  intro p e s m args below meth c s₁ Bd hml0 hP hK
  obtain ⟨rfl, hZ, hh⟩ := hP
  exact Go.cast (ef m) (k p e s m below meth c s₁ Bd.exec Bd.bytes Bd.notSynchronized Bd.returns hml0 hZ (hc ▸ findClass_of_methodNamed Bd.named) (name_of_methodNamed Bd.named Bd.method).1 (Stand.of_body Bd) (by rw [← hh, Bd.state]; rfl))
theorem extRfl (h : Heap) : Ext h h := ⟨Nat.le_refl _, fun _ _ q => q⟩
theorem extTr {h1 h2 h3 : Heap} (A : Ext h1 h2) (B : Ext h2 h3) : Ext h1 h3 := ⟨Nat.le_trans A.1 B.1, fun a c q => B.2 a c (A.2 a c q)⟩
theorem extKeep {h1 h2 h3 : Heap} {ws : List Addr} (A : Ext h1 h2) (K : Keep h2 h3 ws) (q : ∀ x ∈ ws, h1.size ≤ x) : Ext h1 h3 := ⟨Nat.le_trans A.1 K.1, fun a c r => K.2.1 a c (A.2 a c r) fun z => absurd (Array.getElem?_eq_some_iff.mp r).1 (Nat.not_lt.mpr (q a z))⟩
theorem extWr {h1 h2 h3 : Heap} {a : Addr} {sl : Nat} {v : Value} (A : Ext h1 h2) (W : Wr h2 h3 a sl v) (q : h1.size ≤ a) : Ext h1 h3 := extKeep A (Keep.of_wr W) (allS q all0)
end GoLaws
theorem fldStart {Z : State} {args : Array Value} {t : Jvm.Term} {a : Addr} {C n d : String} {k : Int32} (ev : t.eval args Z none [] Z = some (.ref a)) (h : (Jvm.Cond.eq (.field t C n d) (.int k)).value args Z none Z [] = some true) : Fld Z Z.heap a C n d (.int k) :=
  Fld.start ((fld_at ev).symm.trans (eqv_i (Term.int_eval k) h))
/-! single steps, calls and ends in continuation form; 'u': what every step asks of the body -/
abbrev UB (p : Program) (c : Code) (b : ByteArray) (nl : Nat) : Prop := p.tables.exec = Jvm.exec ∧ c.code = b ∧ c.maxLocals = nl
abbrev Dl (b : ByteArray) (L : List (Nat × Instr × Nat)) : Prop := ∀ z ∈ L, decode b z.1 = .ok z.2
theorem dA {b : ByteArray} {L : List (Nat × Instr × Nat)} (h : Dl b L) (i : Nat) {pc n : Nat} {x : Instr} (hi : L[i]? = some (pc, x, n)) : decode b pc = .ok (x, n) := by
  have q := h (pc, x, n) (List.mem_of_getElem? hi)
  exact q
def Qp (val : Option Value) (Z : State) (h0 : Heap) (v : Option Value) (h : Heap) (L : List Loc) : Prop := v = val ∧ Fr Z.heap.size L ∧ h = h0
theorem neL {a b n : Nat} (h : a < n) (g : n ≤ b) : a ≠ b := Nat.ne_of_lt (Nat.lt_of_lt_of_le h g)
theorem neE {a b n : Nat} (h : a < n) (g : b = n) : a ≠ b := neL h (Nat.le_of_eq g.symm)
theorem leE {n k b : Nat} (h : n ≤ k) (g : b = k) : n ≤ b := Nat.le_trans h (Nat.le_of_eq g.symm)
theorem k0 {a : Addr} {ws : List Addr} {q : Prop} : a ∈ a :: ws ∨ q := Or.inl (List.mem_cons_self ..)
theorem k1 {a c : Addr} {ws : List Addr} {q : Prop} : a ∈ c :: a :: ws ∨ q := Or.inl (List.mem_cons_of_mem _ (List.mem_cons_self ..))
theorem frA {n : Nat} {L A B : List Loc} (h : L = A ++ B) (x : Fr n A) (y : Fr n B) : Fr n L := by rw [h]; exact Fr.app x y
section Fo
variable {Z : State} {h h' : Heap} {a x : Addr} {O n d O' n' d' : String} {v w : Value}
theorem fL {sl : Nat} (W : Wr h h' x sl w) (F : Fld Z h a O n d v) (q : a ≠ x) : Fld Z h' a O n d v := Fld.other W F (Or.inl q)
theorem fR (W : Wr h h' x (Jvm.RoadKit.slotOf Z O' n' d') w) (F : Fld Z h a O n d v) (q : Jvm.RoadKit.slotOf Z O n d ≠ Jvm.RoadKit.slotOf Z O' n' d') : Fld Z h' a O n d v := Fld.other W F (Or.inr q)
theorem fS (W : Wr h h' x (Jvm.RoadKit.slotOf Z O' n' d') w) (F : Fld Z h a O n d v) (q : Jvm.RoadKit.slotOf Z O' n' d' ≠ Jvm.RoadKit.slotOf Z O n d) : Fld Z h' a O n d v := Fld.other W F (Or.inr (Ne.symm q))
end Fo
section Tiny
variable {p : Program} {l : Launch} {e : Env} {R : Room} {s s' : State} {m : MethodId} {args : Array Value} {below : List Frame} {meth : Method} {c : Code} {T : State} {locs : List Loc} {cells slots kc ks nl : Nat} {Q : Option Value → Heap → List Loc → Prop} {EN : State → Outcome → State → List Loc → Nat → Nat → Prop} {b : ByteArray} {pc : Nat} {Ls l' : Array Slot} {S : List Value} {v : Value} {x y : Int32} {i j : Int64} {k : Nat} {n : Fin 4} {o : Int} {cd : ClassFile.Cond}
theorem t_aN (X : Stand p l e R s' m args below meth c T locs cells slots) (u : UB p c b nl) (d : decode b pc = .ok (.aload_n n, 1)) (h : Ls[n.val]? = some (.val v)) (r : v.isRef = true) (K : Go EN p e below s kc ks Q T (mkF m (pc + 1) Ls (v :: S))) : Go EN p e below s kc ks Q T (mkF m pc Ls (S)) := Go.step (fun _ kt => XS.aloadN X.here u.1 rfl (hb u.2.1 d) h r kt) K
theorem t_aL (X : Stand p l e R s' m args below meth c T locs cells slots) (u : UB p c b nl) (d : decode b pc = .ok (.aload k, 2)) (h : Ls[k]? = some (.val v)) (r : v.isRef = true) (K : Go EN p e below s kc ks Q T (mkF m (pc + 2) Ls (v :: S))) : Go EN p e below s kc ks Q T (mkF m pc Ls (S)) := Go.step (fun _ kt => XS.aload X.here u.1 rfl (hb u.2.1 d) h r kt) K
theorem t_iN (X : Stand p l e R s' m args below meth c T locs cells slots) (u : UB p c b nl) (d : decode b pc = .ok (.iload_n n, 1)) (h : Ls[n.val]? = some (.val (.int x))) (K : Go EN p e below s kc ks Q T (mkF m (pc + 1) Ls (.int x :: S))) : Go EN p e below s kc ks Q T (mkF m pc Ls (S)) := Go.step (fun _ kt => XS.iloadN X.here u.1 rfl (hb u.2.1 d) h kt) K
theorem t_iL (X : Stand p l e R s' m args below meth c T locs cells slots) (u : UB p c b nl) (d : decode b pc = .ok (.iload k, 2)) (h : Ls[k]? = some (.val (.int x))) (K : Go EN p e below s kc ks Q T (mkF m (pc + 2) Ls (.int x :: S))) : Go EN p e below s kc ks Q T (mkF m pc Ls (S)) := Go.step (fun _ kt => XS.iload X.here u.1 rfl (hb u.2.1 d) h kt) K
theorem t_lN (X : Stand p l e R s' m args below meth c T locs cells slots) (u : UB p c b nl) (d : decode b pc = .ok (.lload_n n, 1)) (h : Ls[n.val]? = some (.val (.long i))) (K : Go EN p e below s kc ks Q T (mkF m (pc + 1) Ls (.long i :: S))) : Go EN p e below s kc ks Q T (mkF m pc Ls (S)) := Go.step (fun _ kt => XS.lloadN X.here u.1 rfl (hb u.2.1 d) h kt) K
theorem t_lL (X : Stand p l e R s' m args below meth c T locs cells slots) (u : UB p c b nl) (d : decode b pc = .ok (.lload k, 2)) (h : Ls[k]? = some (.val (.long i))) (K : Go EN p e below s kc ks Q T (mkF m (pc + 2) Ls (.long i :: S))) : Go EN p e below s kc ks Q T (mkF m pc Ls (S)) := Go.step (fun _ kt => XS.lload X.here u.1 rfl (hb u.2.1 d) h kt) K
theorem t_iC (X : Stand p l e R s' m args below meth c T locs cells slots) (u : UB p c b nl) (d : decode b pc = .ok (.iconst o, 1)) (K : Go EN p e below s kc ks Q T (mkF m (pc + 1) Ls (.int (Int32.ofInt o) :: S))) : Go EN p e below s kc ks Q T (mkF m pc Ls (S)) := Go.step (fun _ kt => XS.iconst X.here u.1 rfl (hb u.2.1 d)  kt) K
theorem t_bP (X : Stand p l e R s' m args below meth c T locs cells slots) (u : UB p c b nl) (d : decode b pc = .ok (.bipush o, 2)) (K : Go EN p e below s kc ks Q T (mkF m (pc + 2) Ls (.int (Int8.ofInt o).toInt32 :: S))) : Go EN p e below s kc ks Q T (mkF m pc Ls (S)) := Go.step (fun _ kt => XS.bipush X.here u.1 rfl (hb u.2.1 d)  kt) K
theorem t_nl (X : Stand p l e R s' m args below meth c T locs cells slots) (u : UB p c b nl) (d : decode b pc = .ok (.aconst_null, 1)) (K : Go EN p e below s kc ks Q T (mkF m (pc + 1) Ls (.null :: S))) : Go EN p e below s kc ks Q T (mkF m pc Ls (S)) := Go.step (fun _ kt => XS.aconstNull X.here u.1 rfl (hb u.2.1 d)  kt) K
theorem t_dup (X : Stand p l e R s' m args below meth c T locs cells slots) (u : UB p c b nl) (d : decode b pc = .ok (.dup, 1)) (h : v.category = 1) (K : Go EN p e below s kc ks Q T (mkF m (pc + 1) Ls (v :: v :: S))) : Go EN p e below s kc ks Q T (mkF m pc Ls (v :: S)) := Go.step (fun _ kt => XS.dup X.here u.1 rfl (hb u.2.1 d) rfl h kt) K
theorem t_pop (X : Stand p l e R s' m args below meth c T locs cells slots) (u : UB p c b nl) (d : decode b pc = .ok (.pop, 1)) (h : v.category = 1) (K : Go EN p e below s kc ks Q T (mkF m (pc + 1) Ls (S))) : Go EN p e below s kc ks Q T (mkF m pc Ls (v :: S)) := Go.step (fun _ kt => XS.pop X.here u.1 rfl (hb u.2.1 d) rfl h kt) K
theorem t_isN (X : Stand p l e R s' m args below meth c T locs cells slots) (u : UB p c b nl) (d : decode b pc = .ok (.istore_n n, 1)) (h : storeLocals Ls n.val (.int x) = some l') (K : Go EN p e below s kc ks Q T (mkF m (pc + 1) l' (S))) : Go EN p e below s kc ks Q T (mkF m pc Ls (.int x :: S)) := Go.step (fun _ kt => XS.istoreN X.here u.1 rfl (hb u.2.1 d) rfl h kt) K
theorem t_isL (X : Stand p l e R s' m args below meth c T locs cells slots) (u : UB p c b nl) (d : decode b pc = .ok (.istore k, 2)) (h : storeLocals Ls k (.int x) = some l') (K : Go EN p e below s kc ks Q T (mkF m (pc + 2) l' (S))) : Go EN p e below s kc ks Q T (mkF m pc Ls (.int x :: S)) := Go.step (fun _ kt => XS.istore X.here u.1 rfl (hb u.2.1 d) rfl h kt) K
theorem t_asN (X : Stand p l e R s' m args below meth c T locs cells slots) (u : UB p c b nl) (d : decode b pc = .ok (.astore_n n, 1)) (r : v.isRef = true) (h : storeLocals Ls n.val v = some l') (K : Go EN p e below s kc ks Q T (mkF m (pc + 1) l' (S))) : Go EN p e below s kc ks Q T (mkF m pc Ls (v :: S)) := Go.step (fun _ kt => XS.astoreN X.here u.1 rfl (hb u.2.1 d) rfl r h kt) K
theorem t_asL (X : Stand p l e R s' m args below meth c T locs cells slots) (u : UB p c b nl) (d : decode b pc = .ok (.astore k, 2)) (r : v.isRef = true) (h : storeLocals Ls k v = some l') (K : Go EN p e below s kc ks Q T (mkF m (pc + 2) l' (S))) : Go EN p e below s kc ks Q T (mkF m pc Ls (v :: S)) := Go.step (fun _ kt => XS.astore X.here u.1 rfl (hb u.2.1 d) rfl r h kt) K
theorem t_iadd (X : Stand p l e R s' m args below meth c T locs cells slots) (u : UB p c b nl) (d : decode b pc = .ok (.iadd, 1)) (K : Go EN p e below s kc ks Q T (mkF m (pc + 1) Ls (.int (x + y) :: S))) : Go EN p e below s kc ks Q T (mkF m pc Ls (.int y :: .int x :: S)) := Go.step (fun _ kt => XS.iadd X.here u.1 rfl (hb u.2.1 d) rfl kt) K
theorem t_isub (X : Stand p l e R s' m args below meth c T locs cells slots) (u : UB p c b nl) (d : decode b pc = .ok (.isub, 1)) (K : Go EN p e below s kc ks Q T (mkF m (pc + 1) Ls (.int (x - y) :: S))) : Go EN p e below s kc ks Q T (mkF m pc Ls (.int y :: .int x :: S)) := Go.step (fun _ kt => XS.isub X.here u.1 rfl (hb u.2.1 d) rfl kt) K
theorem t_iand (X : Stand p l e R s' m args below meth c T locs cells slots) (u : UB p c b nl) (d : decode b pc = .ok (.iand, 1)) (K : Go EN p e below s kc ks Q T (mkF m (pc + 1) Ls (.int (x &&& y) :: S))) : Go EN p e below s kc ks Q T (mkF m pc Ls (.int y :: .int x :: S)) := Go.step (fun _ kt => XS.iand X.here u.1 rfl (hb u.2.1 d) rfl kt) K
theorem t_go (pc0 pc' : Nat) (X : Stand p l e R s' m args below meth c T locs cells slots) (u : UB p c b nl) (hpc : pc = pc0) (d : decode b pc0 = .ok (.goto o, 3)) (hp : 0 ≤ (pc0 : Int) + o ∧ ((pc0 : Int) + o).toNat = pc') (K : Go EN p e below s kc ks Q T (mkF m pc' Ls (S))) : Go EN p e below s kc ks Q T (mkF m pc Ls (S)) := by
  subst hpc
  exact Go.step (fun _ kt => XS.goto X.here u.1 rfl (pc0 := pc) rfl (hb u.2.1 d)  hp.1 hp.2 kt) K
theorem t_ifY (pc0 pc' : Nat) (X : Stand p l e R s' m args below meth c T locs cells slots) (u : UB p c b nl) (hpc : pc = pc0) (d : decode b pc0 = .ok (.ifCond cd o, 3)) (h : ifCond.holds cd x = true) (hp : 0 ≤ (pc0 : Int) + o ∧ ((pc0 : Int) + o).toNat = pc') (K : Go EN p e below s kc ks Q T (mkF m pc' Ls (S))) : Go EN p e below s kc ks Q T (mkF m pc Ls (.int x :: S)) := by
  subst hpc
  exact Go.step (fun _ kt => XS.ifYes X.here u.1 rfl (pc0 := pc) rfl (hb u.2.1 d) rfl h hp.1 hp.2 kt) K
theorem t_icY (pc0 pc' : Nat) (X : Stand p l e R s' m args below meth c T locs cells slots) (u : UB p c b nl) (hpc : pc = pc0) (d : decode b pc0 = .ok (.if_icmp cd o, 3)) (h : if_icmp.holds cd x y = true) (hp : 0 ≤ (pc0 : Int) + o ∧ ((pc0 : Int) + o).toNat = pc') (K : Go EN p e below s kc ks Q T (mkF m pc' Ls (S))) : Go EN p e below s kc ks Q T (mkF m pc Ls (.int y :: .int x :: S)) := by
  subst hpc
  exact Go.step (fun _ kt => XS.icmpYes X.here u.1 rfl (pc0 := pc) rfl (hb u.2.1 d) rfl h hp.1 hp.2 kt) K
theorem t_ifN (X : Stand p l e R s' m args below meth c T locs cells slots) (u : UB p c b nl) (d : decode b pc = .ok (.ifCond cd o, 3)) (h : ifCond.holds cd x = false) (K : Go EN p e below s kc ks Q T (mkF m (pc + 3) Ls (S))) : Go EN p e below s kc ks Q T (mkF m pc Ls (.int x :: S)) := Go.step (fun _ kt => XS.ifNo X.here u.1 rfl (hb u.2.1 d) rfl h kt) K
theorem t_icN (X : Stand p l e R s' m args below meth c T locs cells slots) (u : UB p c b nl) (d : decode b pc = .ok (.if_icmp cd o, 3)) (h : if_icmp.holds cd x y = false) (K : Go EN p e below s kc ks Q T (mkF m (pc + 3) Ls (S))) : Go EN p e below s kc ks Q T (mkF m pc Ls (.int y :: .int x :: S)) := Go.step (fun _ kt => XS.icmpNo X.here u.1 rfl (hb u.2.1 d) rfl h kt) K
end Tiny
section TinyC
variable {p : Program} {l : Launch} {e : Env} {R : Room} {s s' : State} {m : MethodId} {args : Array Value} {below : List Frame} {meth : Method} {c : Code} {T : State} {locs : List Loc} {cells slots kc ks nl : Nat} {Q : Option Value → Heap → List Loc → Prop} {EN : State → Outcome → State → List Loc → Nat → Nat → Prop} {b : ByteArray} {pc : Nat} {Ls : Array Slot} {S : List Value} {Z : State} {a0 : Array Value} {h h0 : Heap} {a : Addr} {v old : Value} {own C O n d : String} {index kk count : Nat} {y z : MethodName} {bytes : ByteArray} {maxL : Nat} {ret rt : Option FieldType} {rm : Room} {Q' : Option Value → Heap → List Loc → Prop} {val : Option Value} {ps : List FieldType} {ty : FieldType}
theorem t_gF (X : Stand p l e R s' m args below meth c T locs cells slots) (u : UB p c b nl) (hZ : Z.Warmed39 s'.vm) (hown : s'.vm.findClass own = some m.cls) (w : (Jvm.Cond.fieldLink own index O n d).before a0 Z = true) (eT : T.heap = h) (F : Fld Z h a O n d v) (dd : decode b pc = .ok (.getfield index, 3)) (K : ∀ T', Stand p l e R s' m args below meth c T' locs cells slots → T'.heap = h → Go EN p e below s kc ks Q T' (mkF m (pc + 3) Ls (v :: S))) : Go EN p e below s kc ks Q T (mkF m pc Ls (.ref a :: S)) := by
  obtain ⟨T', X', e', st⟩ := getF X u.1 hZ hown (host := "") (Or.inl w) Via.refl eT F (g := mkF m pc Ls (.ref a :: S)) rfl rfl (hb u.2.1 dd)
  exact Go.step st (K T' X' e')
theorem t_gS (X : Stand p l e R s' m args below meth c T locs cells slots) (u : UB p c b nl) (hZ : Z.Warmed39 s'.vm) (hown : s'.vm.findClass own = some m.cls) (w : (Jvm.Cond.fieldLink own index O n d).before a0 Z = true) (eT : T.heap = h) (F : Sta Z h O n d v) (dd : decode b pc = .ok (.getstatic index, 3)) (K : ∀ T', Stand p l e R s' m args below meth c T' locs cells slots → T'.heap = h → Go EN p e below s kc ks Q T' (mkF m (pc + 3) Ls (v :: S))) : Go EN p e below s kc ks Q T (mkF m pc Ls S) := by
  obtain ⟨T', X', e', st⟩ := getS2 X u.1 hZ hown (host := "") (Or.inl w) Via.refl eT F (g := mkF m pc Ls S) rfl (hb u.2.1 dd)
  exact Go.step st (K T' X' e')
theorem t_pF (X : Stand p l e R s' m args below meth c T locs cells slots) (u : UB p c b nl) (hZ : Z.Warmed39 s'.vm) (hown : s'.vm.findClass own = some m.cls) (w : (Jvm.Cond.fieldLink own index O n d).before a0 Z = true) (eT : T.heap = h) (F : Fld Z h a O n d old) (E : Exa Z h a C) (L : (Jvm.Cond.lays C O n d).before a0 Z = true ∨ ((Jvm.Cond.laysFinal C O n d).before a0 Z = true ∧ own = O ∧ meth.name = "<init>")) (wi : (Jvm.Cond.instantiable C kk).before a0 Z = true) (hty : parseFieldDescriptor d = some ty) (hn : narrow ty v = v) (hf : fits ty v = true) (dd : decode b pc = .ok (.putfield index, 3)) (K : ∀ T' h', Stand p l e R s' m args below meth c T' (locs ++ [⟨a, Jvm.RoadKit.slotOf Z O n d⟩]) cells slots → T'.heap = h' → Wr h h' a (Jvm.RoadKit.slotOf Z O n d) v → Go EN p e below s kc ks Q T' (mkF m (pc + 3) Ls S)) : Go EN p e below s kc ks Q T (mkF m pc Ls (v :: .ref a :: S)) := by
  obtain ⟨T', h', X', e', W, st⟩ := putF X u.1 hZ hown (host := "") (Or.inl w) Via.refl eT F E L wi hty hn hf (g := mkF m pc Ls (v :: .ref a :: S)) rfl rfl (hb u.2.1 dd)
  exact Go.step st (K T' h' X' e' W)
theorem t_pN (X : Stand p l e R s' m args below meth c T locs cells slots) (u : UB p c b nl) (hZ : Z.Warmed39 s'.vm) (hown : s'.vm.findClass own = some m.cls) (w : (Jvm.Cond.fieldLink own index O n d).before a0 Z = true) (eT : T.heap = h) (F : Fld Z h a O n d old) (E : Exa Z h a C) (L : (Jvm.Cond.lays C O n d).before a0 Z = true ∨ ((Jvm.Cond.laysFinal C O n d).before a0 Z = true ∧ own = O ∧ meth.name = "<init>")) (wi : (Jvm.Cond.instantiable C kk).before a0 Z = true) (v' : Value) (hty : parseFieldDescriptor d = some ty) (hn : narrow ty v = v') (hf : fits ty v' = true) (dd : decode b pc = .ok (.putfield index, 3)) (K : ∀ T' h', Stand p l e R s' m args below meth c T' (locs ++ [⟨a, Jvm.RoadKit.slotOf Z O n d⟩]) cells slots → T'.heap = h' → Wr h h' a (Jvm.RoadKit.slotOf Z O n d) v' → Go EN p e below s kc ks Q T' (mkF m (pc + 3) Ls S)) : Go EN p e below s kc ks Q T (mkF m pc Ls (v :: .ref a :: S)) := by
  obtain ⟨T', h', X', e', W, st⟩ := putFN X u.1 hZ hown w Via.refl eT F E L wi hty hn hf (g := mkF m pc Ls (v :: .ref a :: S)) rfl rfl (hb u.2.1 dd)
  exact Go.step st (K T' h' X' e' W)
theorem t_new (X : Stand p l e R s' m args below meth c T locs cells slots) (u : UB p c b nl) (hZ : Z.Warmed39 s'.vm) (hown : s'.vm.findClass own = some m.cls) {q : Nat} (w : (Jvm.Cond.classLink own index C).before a0 Z = true) (wi : (Jvm.Cond.instantiable C q).before a0 Z = true) (wz : (Jvm.Cond.initialized C).before a0 Z = true) (eT : T.heap = h) (dd : decode b pc = .ok (.new index, 3)) (rr : cells + 1 ≤ R.cells ∧ slots + q ≤ R.slots) (K : ∀ T' h' b', Stand p l e R s' m args below meth c T' locs (cells + 1) (slots + q) → T'.heap = h' → Ext h h' → b' = h.size → Exa Z h' b' C → (∀ {O nm d : String} {ty : FieldType}, Laid Z a0 C O nm d → parseFieldDescriptor d = some ty → Fld Z h' b' O nm d (defaultValue ty)) → Go EN p e below s kc ks Q T' (mkF m (pc + 3) Ls (.ref b' :: S))) : Go EN p e below s kc ks Q T (mkF m pc Ls S) := by
  obtain ⟨T', h', X', e', E, A', D, U, st⟩ := newO X u.1 hZ hown w wi wz eT (g := mkF m pc Ls S) rfl (hb u.2.1 dd) rr.1 rr.2
  exact Go.step st (K T' h' _ X' e' E rfl A' D)
theorem t_in (W : Nat) (X : Stand p l e R s' m args below meth c T locs cells slots) (u : UB p c b nl) (hZ : Z.Warmed39 s'.vm) (hown : s'.vm.findClass own = some m.cls) (w1 : (Jvm.Cond.methodLink own index Lib.objectInit).before a0 Z = true) (w2 : (Jvm.Cond.instanceMethod Lib.objectInit).before a0 Z = true) (w3 : (Jvm.Cond.code Lib.objectInit ⟨#[0xb1]⟩ 1 none).before a0 Z = true) (eT : T.heap = h) (hsz : Ls.size = nl) (dd : decode b pc = .ok (.invokespecial index, 3)) (hW : (S.map fun v => v.category).sum = W) (rr : 1 ≤ R.frames ∧ W + 12 ≤ R.locals) (K : ∀ T', Stand p l e R s' m args below meth c T' locs cells slots → T'.heap = h → Go EN p e below s kc ks Q T' (mkF m (pc + 3) Ls S)) : Go EN p e below s kc ks Q T (mkF m pc Ls (.ref a :: S)) := by
  obtain ⟨T', X', e', st⟩ := initO X u.1 hZ hown w1 w2 w3 eT (g := mkF m pc Ls (.ref a :: S)) rfl (hsz.trans u.2.2.symm) rfl (hb u.2.1 dd) rr.1 (W := W) (by show 2 * 0 + _ ≤ _; omega) rr.2
  exact Go.step st (K T' X' e')
abbrev VW (Z : State) (a0 : Array Value) (C : String) (z : MethodName) (bytes : ByteArray) (maxL : Nat) (ret : Option FieldType) (ps : List FieldType) (rt : Option FieldType) : Prop := (Jvm.Cond.declares z).before a0 Z = true ∧ (Jvm.Cond.selects C z z).before a0 Z = true ∧ (Jvm.Cond.instanceMethod z).before a0 Z = true ∧ (Jvm.Cond.code z bytes maxL ret).before a0 Z = true ∧ (Jvm.Cond.initialized z.cls).before a0 Z = true ∧ (z.cls ≠ "java/lang/invoke/MethodHandle" ∧ z.cls ≠ "java/lang/invoke/VarHandle") ∧ parseMethodDescriptor z.desc = some ⟨ps, rt⟩
theorem mk_VW (h0 : (Jvm.Cond.declares z).before a0 Z = true) (h1 : (Jvm.Cond.selects C z z).before a0 Z = true) (h2 : (Jvm.Cond.instanceMethod z).before a0 Z = true) (h3 : (Jvm.Cond.code z bytes maxL ret).before a0 Z = true) (h4 : (Jvm.Cond.initialized z.cls).before a0 Z = true) (h5 : (z.cls ≠ "java/lang/invoke/MethodHandle" ∧ z.cls ≠ "java/lang/invoke/VarHandle")) (h6 : parseMethodDescriptor z.desc = some ⟨ps, rt⟩) : VW Z a0 C z bytes maxL ret ps rt := ⟨h0, h1, h2, h3, h4, h5, h6⟩
abbrev IW (Z : State) (a0 : Array Value) (C : String) (y : MethodName) (z : MethodName) (bytes : ByteArray) (maxL : Nat) (ret : Option FieldType) (ps : List FieldType) (rt : Option FieldType) : Prop := (Jvm.Cond.declares y).before a0 Z = true ∧ (Jvm.Cond.interfaceMethod y.cls y.cls y.name y.desc).before a0 Z = true ∧ (Jvm.Cond.selects C y z).before a0 Z = true ∧ (Jvm.Cond.instanceMethod z).before a0 Z = true ∧ (Jvm.Cond.publicMethod z).before a0 Z = true ∧ (Jvm.Cond.unhidden C y.name y.desc).before a0 Z = true ∧ (Jvm.Cond.castable C y.cls).before a0 Z = true ∧ (Jvm.Cond.code z bytes maxL ret).before a0 Z = true ∧ (Jvm.Cond.initialized z.cls).before a0 Z = true ∧ (y.cls ≠ "java/lang/invoke/MethodHandle" ∧ y.cls ≠ "java/lang/invoke/VarHandle") ∧ parseMethodDescriptor y.desc = some ⟨ps, rt⟩
theorem mk_IW (h0 : (Jvm.Cond.declares y).before a0 Z = true) (h1 : (Jvm.Cond.interfaceMethod y.cls y.cls y.name y.desc).before a0 Z = true) (h2 : (Jvm.Cond.selects C y z).before a0 Z = true) (h3 : (Jvm.Cond.instanceMethod z).before a0 Z = true) (h4 : (Jvm.Cond.publicMethod z).before a0 Z = true) (h5 : (Jvm.Cond.unhidden C y.name y.desc).before a0 Z = true) (h6 : (Jvm.Cond.castable C y.cls).before a0 Z = true) (h7 : (Jvm.Cond.code z bytes maxL ret).before a0 Z = true) (h8 : (Jvm.Cond.initialized z.cls).before a0 Z = true) (h9 : (y.cls ≠ "java/lang/invoke/MethodHandle" ∧ y.cls ≠ "java/lang/invoke/VarHandle")) (h10 : parseMethodDescriptor y.desc = some ⟨ps, rt⟩) : IW Z a0 C y z bytes maxL ret ps rt := ⟨h0, h1, h2, h3, h4, h5, h6, h7, h8, h9, h10⟩
abbrev PW (Z : State) (a0 : Array Value) (z : MethodName) (bytes : ByteArray) (maxL : Nat) (ret : Option FieldType) (ps : List FieldType) (rt : Option FieldType) : Prop := (Jvm.Cond.instanceMethod z).before a0 Z = true ∧ (Jvm.Cond.selects z.cls z z).before a0 Z = true ∧ (Jvm.Cond.privateMethod z).before a0 Z = true ∧ (Jvm.Cond.code z bytes maxL ret).before a0 Z = true ∧ (Jvm.Cond.initialized z.cls).before a0 Z = true ∧ (z.cls ≠ "java/lang/invoke/MethodHandle" ∧ z.cls ≠ "java/lang/invoke/VarHandle") ∧ parseMethodDescriptor z.desc = some ⟨ps, rt⟩
theorem mk_PW (h0 : (Jvm.Cond.instanceMethod z).before a0 Z = true) (h1 : (Jvm.Cond.selects z.cls z z).before a0 Z = true) (h2 : (Jvm.Cond.privateMethod z).before a0 Z = true) (h3 : (Jvm.Cond.code z bytes maxL ret).before a0 Z = true) (h4 : (Jvm.Cond.initialized z.cls).before a0 Z = true) (h5 : (z.cls ≠ "java/lang/invoke/MethodHandle" ∧ z.cls ≠ "java/lang/invoke/VarHandle")) (h6 : parseMethodDescriptor z.desc = some ⟨ps, rt⟩) : PW Z a0 z bytes maxL ret ps rt := ⟨h0, h1, h2, h3, h4, h5, h6⟩
abbrev UW (Z : State) (a0 : Array Value) (C : String) (O : String) (y : MethodName) (z : MethodName) (bytes : ByteArray) (maxL : Nat) (ret : Option FieldType) (ps : List FieldType) (rt : Option FieldType) : Prop := (Jvm.Cond.sameMethod y.cls O y.name y.desc).before a0 Z = true ∧ (Jvm.Cond.declares ⟨O, y.name, y.desc⟩).before a0 Z = true ∧ (Jvm.Cond.selects C y z).before a0 Z = true ∧ (Jvm.Cond.instanceMethod z).before a0 Z = true ∧ (Jvm.Cond.code z bytes maxL ret).before a0 Z = true ∧ (Jvm.Cond.initialized z.cls).before a0 Z = true ∧ (O ≠ "java/lang/invoke/MethodHandle" ∧ O ≠ "java/lang/invoke/VarHandle") ∧ parseMethodDescriptor y.desc = some ⟨ps, rt⟩
theorem mk_UW (h0 : (Jvm.Cond.sameMethod y.cls O y.name y.desc).before a0 Z = true) (h1 : (Jvm.Cond.declares ⟨O, y.name, y.desc⟩).before a0 Z = true) (h2 : (Jvm.Cond.selects C y z).before a0 Z = true) (h3 : (Jvm.Cond.instanceMethod z).before a0 Z = true) (h4 : (Jvm.Cond.code z bytes maxL ret).before a0 Z = true) (h5 : (Jvm.Cond.initialized z.cls).before a0 Z = true) (h6 : (O ≠ "java/lang/invoke/MethodHandle" ∧ O ≠ "java/lang/invoke/VarHandle")) (h7 : parseMethodDescriptor y.desc = some ⟨ps, rt⟩) : UW Z a0 C O y z bytes maxL ret ps rt := ⟨h0, h1, h2, h3, h4, h5, h6, h7⟩
abbrev NW (Z : State) (a0 : Array Value) (z : MethodName) (bytes : ByteArray) (maxL : Nat) (ret : Option FieldType) (ps : List FieldType) (rt : Option FieldType) : Prop := (Jvm.Cond.instanceMethod z).before a0 Z = true ∧ (Jvm.Cond.code z bytes maxL ret).before a0 Z = true ∧ (Jvm.Cond.initialized z.cls).before a0 Z = true ∧ (z.cls ≠ "java/lang/invoke/MethodHandle" ∧ z.cls ≠ "java/lang/invoke/VarHandle") ∧ parseMethodDescriptor z.desc = some ⟨ps, rt⟩
theorem mk_NW (h0 : (Jvm.Cond.instanceMethod z).before a0 Z = true) (h1 : (Jvm.Cond.code z bytes maxL ret).before a0 Z = true) (h2 : (Jvm.Cond.initialized z.cls).before a0 Z = true) (h3 : (z.cls ≠ "java/lang/invoke/MethodHandle" ∧ z.cls ≠ "java/lang/invoke/VarHandle")) (h4 : parseMethodDescriptor z.desc = some ⟨ps, rt⟩) : NW Z a0 z bytes maxL ret ps rt := ⟨h0, h1, h2, h3, h4⟩
abbrev SW (Z : State) (a0 : Array Value) (z : MethodName) (bytes : ByteArray) (maxL : Nat) (ret : Option FieldType) (ps : List FieldType) (rt : Option FieldType) : Prop := (Jvm.Cond.static z).before a0 Z = true ∧ (Jvm.Cond.code z bytes maxL ret).before a0 Z = true ∧ (Jvm.Cond.initialized z.cls).before a0 Z = true ∧ (z.cls ≠ "java/lang/invoke/MethodHandle" ∧ z.cls ≠ "java/lang/invoke/VarHandle") ∧ parseMethodDescriptor z.desc = some ⟨ps, rt⟩
theorem mk_SW (h0 : (Jvm.Cond.static z).before a0 Z = true) (h1 : (Jvm.Cond.code z bytes maxL ret).before a0 Z = true) (h2 : (Jvm.Cond.initialized z.cls).before a0 Z = true) (h3 : (z.cls ≠ "java/lang/invoke/MethodHandle" ∧ z.cls ≠ "java/lang/invoke/VarHandle")) (h4 : parseMethodDescriptor z.desc = some ⟨ps, rt⟩) : SW Z a0 z bytes maxL ret ps rt := ⟨h0, h1, h2, h3, h4⟩
theorem t_cV (argsL rest : List Value) (W : Nat) (X : Stand p l e R s' m args below meth c T locs cells slots) (u : UB p c b nl) (hZ : Z.Warmed39 s'.vm) (hown : s'.vm.findClass own = some m.cls) (w1 : (Jvm.Cond.methodLink own index z).before a0 Z = true) (ww : VW Z a0 C z bytes maxL ret ps rt) (eT : T.heap = h) (E : Exa Z h a C) (hM : Met FrameEnd l z bytes maxL ret [] rm Z h (.ref a :: argsL).toArray Q') (hsz : Ls.size = nl) (d : decode b pc = .ok (.invokevirtual index, 3)) (hl : argsL.length = ps.length) (hW : (rest.map fun v => v.category).sum = W) (rr : (rm.frames + 1 ≤ R.frames ∧ W + (maxL + 11) + rm.locals ≤ R.locals) ∧ cells + rm.cells ≤ R.cells ∧ slots + rm.slots ≤ R.slots) (K : ∀ (v : Option Value) (T' : State) (L' Lc : List Loc), Stand p l e R s' m args below meth c T' L' (cells + rm.cells) (slots + rm.slots) → Q' v T'.heap Lc → L' = locs ++ Lc → Go EN p e below s kc ks Q T' (mkF m (pc + 3) Ls (v.toList ++ rest))) : Go EN p e below s kc ks Q T (mkF m pc Ls (argsL.reverse ++ .ref a :: rest)) := by
  obtain ⟨hd, hs, hi, hcode, hini, hy, hp⟩ := ww
  obtain ⟨cB, kB, i1, i2, i3⟩ := isOf hZ eT E
  obtain ⟨v, _, ⟨T', L', k', n'⟩, -, X', ⟨Lc, hQ, l1, y1, z1⟩, st⟩ := X.virtualBack u.1 (y := z) (z := z) hown (mvT hZ w1) (mvT hZ hd) (notFace_of_selects (args := #[]) (mvT hZ hs)) (mvT hZ hs) (mvT hZ hi) hy (backOf (W := W) hM hZ hcode hini rr.1.1 rr.1.2) i1 i3 (g := mkF m pc Ls (argsL.reverse ++ .ref a :: rest)) rfl (hsz.trans u.2.2.symm) (Steps.refl _) (argsL := argsL) (rest := rest) (lenOf hp hl) rfl (by show 2 * 0 + _ ≤ _; omega) (hb u.2.1 d) (fun _ _ => ⟨rfl, eT, rr.2.1, rr.2.2⟩)
  dsimp only [Pt.U, Pt.locs, Pt.cells, Pt.slots] at X' l1 y1 z1 st hQ
  subst y1 z1
  exact Go.trans st (K v T' L' Lc X' hQ l1)
theorem pt_cV (argsL rest : List Value) (W : Nat) (X : Stand p l e R s' m args below meth c T locs cells slots) (u : UB p c b nl) (hZ : Z.Warmed39 s'.vm) (hown : s'.vm.findClass own = some m.cls) (w1 : (Jvm.Cond.methodLink own index z).before a0 Z = true) (ww : VW Z a0 C z bytes maxL ret ps rt) (eT : T.heap = h) (E : Exa Z h a C) (hM : Met FrameEnd l z bytes maxL ret [] rm Z h (.ref a :: argsL).toArray (Qp val Z h)) (hsz : Ls.size = nl) (d : decode b pc = .ok (.invokevirtual index, 3)) (hl : argsL.length = ps.length) (hW : (rest.map fun v => v.category).sum = W) (rr : (rm.frames + 1 ≤ R.frames ∧ W + (maxL + 11) + rm.locals ≤ R.locals) ∧ cells + rm.cells ≤ R.cells ∧ slots + rm.slots ≤ R.slots) (N : Fr Z.heap.size locs) (K : ∀ (T' : State) (L' : List Loc), Stand p l e R s' m args below meth c T' L' (cells + rm.cells) (slots + rm.slots) → T'.heap = h → Fr Z.heap.size L' → Go EN p e below s kc ks Q T' (mkF m (pc + 3) Ls (val.toList ++ rest))) : Go EN p e below s kc ks Q T (mkF m pc Ls (argsL.reverse ++ .ref a :: rest)) := by
  obtain ⟨hd, hs, hi, hcode, hini, hy, hp⟩ := ww
  obtain ⟨cB, kB, i1, i2, i3⟩ := isOf hZ eT E
  obtain ⟨v, _, ⟨T', L', k', n'⟩, -, X', ⟨Lc, hQ, l1, y1, z1⟩, st⟩ := X.virtualBack u.1 (y := z) (z := z) hown (mvT hZ w1) (mvT hZ hd) (notFace_of_selects (args := #[]) (mvT hZ hs)) (mvT hZ hs) (mvT hZ hi) hy (backOf (W := W) hM hZ hcode hini rr.1.1 rr.1.2) i1 i3 (g := mkF m pc Ls (argsL.reverse ++ .ref a :: rest)) rfl (hsz.trans u.2.2.symm) (Steps.refl _) (argsL := argsL) (rest := rest) (lenOf hp hl) rfl (by show 2 * 0 + _ ≤ _; omega) (hb u.2.1 d) (fun _ _ => ⟨rfl, eT, rr.2.1, rr.2.2⟩)
  dsimp only [Pt.U, Pt.locs, Pt.cells, Pt.slots] at X' l1 y1 z1 st hQ
  subst y1 z1
  obtain ⟨rfl, Nq, eq⟩ := hQ
  exact Go.trans st (K T' L' X' eq (by rw [l1]; exact Fr.app N Nq))
theorem t_cI (argsL rest : List Value) (W : Nat) (X : Stand p l e R s' m args below meth c T locs cells slots) (u : UB p c b nl) (hZ : Z.Warmed39 s'.vm) (hown : s'.vm.findClass own = some m.cls) (w1 : (Jvm.Cond.methodLink own index y).before a0 Z = true) (ww : IW Z a0 C y z bytes maxL ret ps rt) (eT : T.heap = h) (E : Exa Z h a C) (hM : Met FrameEnd l z bytes maxL ret [] rm Z h (.ref a :: argsL).toArray Q') (hsz : Ls.size = nl) (d : decode b pc = .ok (.invokeinterface index count, 5)) (hl : argsL.length = ps.length) (hW : (rest.map fun v => v.category).sum = W) (rr : (rm.frames + 1 ≤ R.frames ∧ W + (maxL + 11) + rm.locals ≤ R.locals) ∧ cells + rm.cells ≤ R.cells ∧ slots + rm.slots ≤ R.slots) (K : ∀ (v : Option Value) (T' : State) (L' Lc : List Loc), Stand p l e R s' m args below meth c T' L' (cells + rm.cells) (slots + rm.slots) → Q' v T'.heap Lc → L' = locs ++ Lc → Go EN p e below s kc ks Q T' (mkF m (pc + 5) Ls (v.toList ++ rest))) : Go EN p e below s kc ks Q T (mkF m pc Ls (argsL.reverse ++ .ref a :: rest)) := by
  obtain ⟨hd, hf, hs, hi, hpu, hun, hca, hcode, hini, hy, hp⟩ := ww
  obtain ⟨cB, kB, i1, i2, i3⟩ := isOf hZ eT E
  obtain ⟨v, _, ⟨T', L', k', n'⟩, -, X', ⟨Lc, hQ, l1, y1, z1⟩, st⟩ := X.interfaceBack u.1 (xi := y) (y := z) hown (mvT hZ w1) (mvT hZ hd) (mvT hZ hf (by simp [Cond.onTables, Cond.keepsFace, Cond.keeps, Cond.steady, Cond.faceAtom, hy.1, hy.2])) (mvT hZ hs) (mvT hZ hi) (mvT hZ hpu) (mvT hZ hun) (mvT hZ hca) hy (backOf (W := W) hM hZ hcode hini rr.1.1 rr.1.2) i1 i2 i3 (g := mkF m pc Ls (argsL.reverse ++ .ref a :: rest)) rfl (hsz.trans u.2.2.symm) (Steps.refl _) (argsL := argsL) (rest := rest) (lenOf hp hl) rfl (by show 2 * 0 + _ ≤ _; omega) (hb u.2.1 d) (fun _ _ => ⟨rfl, eT, rr.2.1, rr.2.2⟩)
  dsimp only [Pt.U, Pt.locs, Pt.cells, Pt.slots] at X' l1 y1 z1 st hQ
  subst y1 z1
  exact Go.trans st (K v T' L' Lc X' hQ l1)
theorem pt_cI (argsL rest : List Value) (W : Nat) (X : Stand p l e R s' m args below meth c T locs cells slots) (u : UB p c b nl) (hZ : Z.Warmed39 s'.vm) (hown : s'.vm.findClass own = some m.cls) (w1 : (Jvm.Cond.methodLink own index y).before a0 Z = true) (ww : IW Z a0 C y z bytes maxL ret ps rt) (eT : T.heap = h) (E : Exa Z h a C) (hM : Met FrameEnd l z bytes maxL ret [] rm Z h (.ref a :: argsL).toArray (Qp val Z h)) (hsz : Ls.size = nl) (d : decode b pc = .ok (.invokeinterface index count, 5)) (hl : argsL.length = ps.length) (hW : (rest.map fun v => v.category).sum = W) (rr : (rm.frames + 1 ≤ R.frames ∧ W + (maxL + 11) + rm.locals ≤ R.locals) ∧ cells + rm.cells ≤ R.cells ∧ slots + rm.slots ≤ R.slots) (N : Fr Z.heap.size locs) (K : ∀ (T' : State) (L' : List Loc), Stand p l e R s' m args below meth c T' L' (cells + rm.cells) (slots + rm.slots) → T'.heap = h → Fr Z.heap.size L' → Go EN p e below s kc ks Q T' (mkF m (pc + 5) Ls (val.toList ++ rest))) : Go EN p e below s kc ks Q T (mkF m pc Ls (argsL.reverse ++ .ref a :: rest)) := by
  obtain ⟨hd, hf, hs, hi, hpu, hun, hca, hcode, hini, hy, hp⟩ := ww
  obtain ⟨cB, kB, i1, i2, i3⟩ := isOf hZ eT E
  obtain ⟨v, _, ⟨T', L', k', n'⟩, -, X', ⟨Lc, hQ, l1, y1, z1⟩, st⟩ := X.interfaceBack u.1 (xi := y) (y := z) hown (mvT hZ w1) (mvT hZ hd) (mvT hZ hf (by simp [Cond.onTables, Cond.keepsFace, Cond.keeps, Cond.steady, Cond.faceAtom, hy.1, hy.2])) (mvT hZ hs) (mvT hZ hi) (mvT hZ hpu) (mvT hZ hun) (mvT hZ hca) hy (backOf (W := W) hM hZ hcode hini rr.1.1 rr.1.2) i1 i2 i3 (g := mkF m pc Ls (argsL.reverse ++ .ref a :: rest)) rfl (hsz.trans u.2.2.symm) (Steps.refl _) (argsL := argsL) (rest := rest) (lenOf hp hl) rfl (by show 2 * 0 + _ ≤ _; omega) (hb u.2.1 d) (fun _ _ => ⟨rfl, eT, rr.2.1, rr.2.2⟩)
  dsimp only [Pt.U, Pt.locs, Pt.cells, Pt.slots] at X' l1 y1 z1 st hQ
  subst y1 z1
  obtain ⟨rfl, Nq, eq⟩ := hQ
  exact Go.trans st (K T' L' X' eq (by rw [l1]; exact Fr.app N Nq))
theorem t_cN (argsL rest : List Value) (W : Nat) (X : Stand p l e R s' m args below meth c T locs cells slots) (u : UB p c b nl) (hZ : Z.Warmed39 s'.vm) (hown : s'.vm.findClass own = some m.cls) (hn : z.name = "<init>") (w1 : (Jvm.Cond.methodLink own index z).before a0 Z = true) (ww : NW Z a0 z bytes maxL none ps rt) (eT : T.heap = h) (hM : Met FrameEnd l z bytes maxL none [] rm Z h (.ref a :: argsL).toArray Q') (hsz : Ls.size = nl) (d : decode b pc = .ok (.invokespecial index, 3)) (hl : argsL.length = ps.length) (hW : (rest.map fun v => v.category).sum = W) (rr : (rm.frames + 1 ≤ R.frames ∧ W + (maxL + 11) + rm.locals ≤ R.locals) ∧ cells + rm.cells ≤ R.cells ∧ slots + rm.slots ≤ R.slots) (K : ∀ (v : Option Value) (T' : State) (L' Lc : List Loc), Stand p l e R s' m args below meth c T' L' (cells + rm.cells) (slots + rm.slots) → Q' v T'.heap Lc → L' = locs ++ Lc → Go EN p e below s kc ks Q T' (mkF m (pc + 3) Ls (v.toList ++ rest))) : Go EN p e below s kc ks Q T (mkF m pc Ls (argsL.reverse ++ .ref a :: rest)) := by
  obtain ⟨hi, hcode, hini, hy, hp⟩ := ww
  obtain ⟨v, _, ⟨T', L', k', n'⟩, -, X', ⟨Lc, hQ, l1, y1, z1⟩, st⟩ := X.specialBack u.1 (y := z) hn hown (mvT hZ w1) (mvT hZ hi) (mvT hZ hcode) hy (backOf (W := W) hM hZ hcode hini rr.1.1 rr.1.2) (g := mkF m pc Ls (argsL.reverse ++ .ref a :: rest)) rfl (hsz.trans u.2.2.symm) (Steps.refl _) (a := a) (argsL := argsL) (rest := rest) (lenOf hp hl) rfl (by show 2 * 0 + _ ≤ _; omega) (hb u.2.1 d) (fun _ _ => ⟨rfl, eT, rr.2.1, rr.2.2⟩)
  dsimp only [Pt.U, Pt.locs, Pt.cells, Pt.slots] at X' l1 y1 z1 st hQ
  subst y1 z1
  exact Go.trans st (K v T' L' Lc X' hQ l1)
theorem pt_cN (argsL rest : List Value) (W : Nat) (X : Stand p l e R s' m args below meth c T locs cells slots) (u : UB p c b nl) (hZ : Z.Warmed39 s'.vm) (hown : s'.vm.findClass own = some m.cls) (hn : z.name = "<init>") (w1 : (Jvm.Cond.methodLink own index z).before a0 Z = true) (ww : NW Z a0 z bytes maxL none ps rt) (eT : T.heap = h) (hM : Met FrameEnd l z bytes maxL none [] rm Z h (.ref a :: argsL).toArray (Qp val Z h)) (hsz : Ls.size = nl) (d : decode b pc = .ok (.invokespecial index, 3)) (hl : argsL.length = ps.length) (hW : (rest.map fun v => v.category).sum = W) (rr : (rm.frames + 1 ≤ R.frames ∧ W + (maxL + 11) + rm.locals ≤ R.locals) ∧ cells + rm.cells ≤ R.cells ∧ slots + rm.slots ≤ R.slots) (N : Fr Z.heap.size locs) (K : ∀ (T' : State) (L' : List Loc), Stand p l e R s' m args below meth c T' L' (cells + rm.cells) (slots + rm.slots) → T'.heap = h → Fr Z.heap.size L' → Go EN p e below s kc ks Q T' (mkF m (pc + 3) Ls (val.toList ++ rest))) : Go EN p e below s kc ks Q T (mkF m pc Ls (argsL.reverse ++ .ref a :: rest)) := by
  obtain ⟨hi, hcode, hini, hy, hp⟩ := ww
  obtain ⟨v, _, ⟨T', L', k', n'⟩, -, X', ⟨Lc, hQ, l1, y1, z1⟩, st⟩ := X.specialBack u.1 (y := z) hn hown (mvT hZ w1) (mvT hZ hi) (mvT hZ hcode) hy (backOf (W := W) hM hZ hcode hini rr.1.1 rr.1.2) (g := mkF m pc Ls (argsL.reverse ++ .ref a :: rest)) rfl (hsz.trans u.2.2.symm) (Steps.refl _) (a := a) (argsL := argsL) (rest := rest) (lenOf hp hl) rfl (by show 2 * 0 + _ ≤ _; omega) (hb u.2.1 d) (fun _ _ => ⟨rfl, eT, rr.2.1, rr.2.2⟩)
  dsimp only [Pt.U, Pt.locs, Pt.cells, Pt.slots] at X' l1 y1 z1 st hQ
  subst y1 z1
  obtain ⟨rfl, Nq, eq⟩ := hQ
  exact Go.trans st (K T' L' X' eq (by rw [l1]; exact Fr.app N Nq))
theorem t_cS (argsL rest : List Value) (W : Nat) (X : Stand p l e R s' m args below meth c T locs cells slots) (u : UB p c b nl) (hZ : Z.Warmed39 s'.vm) (hown : s'.vm.findClass own = some m.cls) (w1 : (Jvm.Cond.methodLink own index z).before a0 Z = true) (ww : SW Z a0 z bytes maxL ret ps rt) (eT : T.heap = h) (hM : Met FrameEnd l z bytes maxL ret [] rm Z h argsL.toArray Q') (hsz : Ls.size = nl) (d : decode b pc = .ok (.invokestatic index, 3)) (hl : argsL.length = ps.length) (hW : (rest.map fun v => v.category).sum = W) (rr : (rm.frames + 1 ≤ R.frames ∧ W + (maxL + 11) + rm.locals ≤ R.locals) ∧ cells + rm.cells ≤ R.cells ∧ slots + rm.slots ≤ R.slots) (K : ∀ (v : Option Value) (T' : State) (L' Lc : List Loc), Stand p l e R s' m args below meth c T' L' (cells + rm.cells) (slots + rm.slots) → Q' v T'.heap Lc → L' = locs ++ Lc → Go EN p e below s kc ks Q T' (mkF m (pc + 3) Ls (v.toList ++ rest))) : Go EN p e below s kc ks Q T (mkF m pc Ls (argsL.reverse ++ rest)) := by
  obtain ⟨hs, hcode, hini, hy, hp⟩ := ww
  obtain ⟨v, _, ⟨T', L', k', n'⟩, -, X', ⟨Lc, hQ, l1, y1, z1⟩, st⟩ := Jvm.LawKit.callS X u.1 (y := z) hown (mvT hZ w1) (mvT hZ hs) (mvT hZ hini) (mvT hZ hcode) hy (backOf (W := W) hM hZ hcode hini rr.1.1 rr.1.2) (g := mkF m pc Ls (argsL.reverse ++ rest)) rfl (hsz.trans u.2.2.symm) (argsL := argsL) (rest := rest) (lenOf hp hl) rfl (by show 2 * 0 + _ ≤ _; omega) (hb u.2.1 d) (fun _ _ => ⟨rfl, eT, rr.2.1, rr.2.2⟩)
  dsimp only [Pt.U, Pt.locs, Pt.cells, Pt.slots] at X' l1 y1 z1 st hQ
  subst y1 z1
  exact Go.step st (K v T' L' Lc X' hQ l1)
theorem pt_cS (argsL rest : List Value) (W : Nat) (X : Stand p l e R s' m args below meth c T locs cells slots) (u : UB p c b nl) (hZ : Z.Warmed39 s'.vm) (hown : s'.vm.findClass own = some m.cls) (w1 : (Jvm.Cond.methodLink own index z).before a0 Z = true) (ww : SW Z a0 z bytes maxL ret ps rt) (eT : T.heap = h) (hM : Met FrameEnd l z bytes maxL ret [] rm Z h argsL.toArray (Qp val Z h)) (hsz : Ls.size = nl) (d : decode b pc = .ok (.invokestatic index, 3)) (hl : argsL.length = ps.length) (hW : (rest.map fun v => v.category).sum = W) (rr : (rm.frames + 1 ≤ R.frames ∧ W + (maxL + 11) + rm.locals ≤ R.locals) ∧ cells + rm.cells ≤ R.cells ∧ slots + rm.slots ≤ R.slots) (N : Fr Z.heap.size locs) (K : ∀ (T' : State) (L' : List Loc), Stand p l e R s' m args below meth c T' L' (cells + rm.cells) (slots + rm.slots) → T'.heap = h → Fr Z.heap.size L' → Go EN p e below s kc ks Q T' (mkF m (pc + 3) Ls (val.toList ++ rest))) : Go EN p e below s kc ks Q T (mkF m pc Ls (argsL.reverse ++ rest)) := by
  obtain ⟨hs, hcode, hini, hy, hp⟩ := ww
  obtain ⟨v, _, ⟨T', L', k', n'⟩, -, X', ⟨Lc, hQ, l1, y1, z1⟩, st⟩ := Jvm.LawKit.callS X u.1 (y := z) hown (mvT hZ w1) (mvT hZ hs) (mvT hZ hini) (mvT hZ hcode) hy (backOf (W := W) hM hZ hcode hini rr.1.1 rr.1.2) (g := mkF m pc Ls (argsL.reverse ++ rest)) rfl (hsz.trans u.2.2.symm) (argsL := argsL) (rest := rest) (lenOf hp hl) rfl (by show 2 * 0 + _ ≤ _; omega) (hb u.2.1 d) (fun _ _ => ⟨rfl, eT, rr.2.1, rr.2.2⟩)
  dsimp only [Pt.U, Pt.locs, Pt.cells, Pt.slots] at X' l1 y1 z1 st hQ
  subst y1 z1
  obtain ⟨rfl, Nq, eq⟩ := hQ
  exact Go.step st (K T' L' X' eq (by rw [l1]; exact Fr.app N Nq))
theorem t_cP (argsL rest : List Value) (W : Nat) (X : Stand p l e R s' m args below meth c T locs cells slots) (u : UB p c b nl) (hZ : Z.Warmed39 s'.vm) (hown : s'.vm.findClass own = some m.cls) (E : Exa Z h a C) (w1 : (Jvm.Cond.methodLink own index z).before a0 Z = true) (ww : PW Z a0 z bytes maxL ret ps rt) (eT : T.heap = h) (hM : Met FrameEnd l z bytes maxL ret [] rm Z h (.ref a :: argsL).toArray Q') (hsz : Ls.size = nl) (d : decode b pc = .ok (.invokevirtual index, 3)) (hl : argsL.length = ps.length) (hW : (rest.map fun v => v.category).sum = W) (rr : (rm.frames + 1 ≤ R.frames ∧ W + (maxL + 11) + rm.locals ≤ R.locals) ∧ cells + rm.cells ≤ R.cells ∧ slots + rm.slots ≤ R.slots) (K : ∀ (v : Option Value) (T' : State) (L' Lc : List Loc), Stand p l e R s' m args below meth c T' L' (cells + rm.cells) (slots + rm.slots) → Q' v T'.heap Lc → L' = locs ++ Lc → Go EN p e below s kc ks Q T' (mkF m (pc + 3) Ls (v.toList ++ rest))) : Go EN p e below s kc ks Q T (mkF m pc Ls (argsL.reverse ++ .ref a :: rest)) := by
  obtain ⟨hi, hs, hpr, hcode, hini, hy, hp⟩ := ww
  obtain ⟨cq, j1, j2⟩ := E.cell
  obtain ⟨v, _, ⟨T', L', k', n'⟩, -, X', ⟨Lc, hQ, l1, y1, z1⟩, st⟩ := X.privateBack u.1 (y := z) hown (mvT hZ w1) (mvT hZ hi) (mvT hZ hs) (Cond.privateMethod_at (mvP hZ hpr (args := #[]))) (mvT hZ hcode) hy (backOf (W := W) hM hZ hcode hini rr.1.1 rr.1.2) (g := mkF m pc Ls (argsL.reverse ++ .ref a :: rest)) rfl (hsz.trans u.2.2.symm) (Steps.refl _) (a := a) (by rw [eT]; exact j1) j2 (argsL := argsL) (rest := rest) (lenOf hp hl) rfl (by show 2 * 0 + _ ≤ _; omega) (hb u.2.1 d) (fun _ _ => ⟨rfl, eT, rr.2.1, rr.2.2⟩)
  dsimp only [Pt.U, Pt.locs, Pt.cells, Pt.slots] at X' l1 y1 z1 st hQ
  subst y1 z1
  exact Go.trans st (K v T' L' Lc X' hQ l1)
theorem pt_cU (argsL rest : List Value) (W : Nat) (X : Stand p l e R s' m args below meth c T locs cells slots) (u : UB p c b nl) (hZ : Z.Warmed39 s'.vm) (hown : s'.vm.findClass own = some m.cls) (w1 : (Jvm.Cond.methodLink own index y).before a0 Z = true) (ww : UW Z a0 C O y z bytes maxL ret ps rt) (eT : T.heap = h) (E : Exa Z h a C) (hM : Met FrameEnd l z bytes maxL ret [] rm Z h (.ref a :: argsL).toArray (Qp val Z h)) (hsz : Ls.size = nl) (d : decode b pc = .ok (.invokevirtual index, 3)) (hl : argsL.length = ps.length) (hW : (rest.map fun v => v.category).sum = W) (rr : (rm.frames + 1 ≤ R.frames ∧ W + (maxL + 11) + rm.locals ≤ R.locals) ∧ cells + rm.cells ≤ R.cells ∧ slots + rm.slots ≤ R.slots) (N : Fr Z.heap.size locs) (K : ∀ (T' : State) (L' : List Loc), Stand p l e R s' m args below meth c T' L' (cells + rm.cells) (slots + rm.slots) → T'.heap = h → Fr Z.heap.size L' → Go EN p e below s kc ks Q T' (mkF m (pc + 3) Ls (val.toList ++ rest))) : Go EN p e below s kc ks Q T (mkF m pc Ls (argsL.reverse ++ .ref a :: rest)) := by
  obtain ⟨hsm, hd, hs, hi, hcode, hini, hy, hp⟩ := ww
  obtain ⟨cB, kB, i1, i2, i3⟩ := isOf hZ eT E
  obtain ⟨v, _, ⟨T', L', k', n'⟩, -, X', ⟨Lc, hQ, l1, y1, z1⟩, st⟩ := X.virtualBackUp u.1 (x := y) (y := z) hown (mvT hZ w1) (mvT hZ hsm) (mvT hZ hd) hy (mvT hZ hs) (mvT hZ hi) (backOf (W := W) hM hZ hcode hini rr.1.1 rr.1.2) i1 i3 (g := mkF m pc Ls (argsL.reverse ++ .ref a :: rest)) rfl (hsz.trans u.2.2.symm) (Steps.refl _) (argsL := argsL) (rest := rest) (lenOf hp hl) rfl (by show 2 * 0 + _ ≤ _; omega) (hb u.2.1 d) (fun _ _ => ⟨rfl, eT, rr.2.1, rr.2.2⟩)
  dsimp only [Pt.U, Pt.locs, Pt.cells, Pt.slots] at X' l1 y1 z1 st hQ
  subst y1 z1
  obtain ⟨rfl, Nq, eq⟩ := hQ
  exact Go.trans st (K T' L' X' eq (by rw [l1]; exact Fr.app N Nq))
theorem t_rI (X : Stand p l e R s m args below meth c T locs cells slots) (u : UB p c b nl) {x : Int32} (hret : meth.sig.returnType = some .int) (hlk : meth.locks = false) (d : decode b pc = .ok (.ireturn, 1)) (eT : T.heap = h0) (N : Fr Z.heap.size locs) (cc : cells ≤ kc ∧ slots ≤ ks) : Go FrameEnd p e below s kc ks (Qp (some (.int x)) Z h0) T (mkF m pc Ls (.int x :: S)) := Go.retI X u.1 hret hlk (hb u.2.1 d) cc.1 cc.2 ⟨rfl, N, eT⟩
theorem t_rJ (X : Stand p l e R s m args below meth c T locs cells slots) (u : UB p c b nl) {x : Int64} (hret : meth.sig.returnType = some .long) (hlk : meth.locks = false) (d : decode b pc = .ok (.lreturn, 1)) (eT : T.heap = h0) (N : Fr Z.heap.size locs) (cc : cells ≤ kc ∧ slots ≤ ks) : Go FrameEnd p e below s kc ks (Qp (some (.long x)) Z h0) T (mkF m pc Ls (.long x :: S)) := Go.retJ X u.1 hret hlk (hb u.2.1 d) cc.1 cc.2 ⟨rfl, N, eT⟩
theorem t_rN (X : Stand p l e R s m args below meth c T locs cells slots) (u : UB p c b nl) {x : Int32} {t : FieldType} (hret : meth.sig.returnType = some t) (hlk : meth.locks = false) (ht : t = .boolean ∨ t = .byte ∨ t = .char ∨ t = .short) (hv : val = some (.int (nar t x))) (d : decode b pc = .ok (.ireturn, 1)) (eT : T.heap = h0) (N : Fr Z.heap.size locs) (cc : cells ≤ kc ∧ slots ≤ ks) : Go FrameEnd p e below s kc ks (Qp val Z h0) T (mkF m pc Ls (.int x :: S)) := Go.retN X u.1 hret ht hlk (hb u.2.1 d) cc.1 cc.2 ⟨hv.symm, N, eT⟩
theorem t_rA (X : Stand p l e R s m args below meth c T locs cells slots) (u : UB p c b nl) {t : FieldType} (hret : meth.sig.returnType = some t) (hlk : meth.locks = false) (ht : t.isReference = true) (hv : v.isRef = true) (d : decode b pc = .ok (.areturn, 1)) (eT : T.heap = h0) (N : Fr Z.heap.size locs) (cc : cells ≤ kc ∧ slots ≤ ks) : Go FrameEnd p e below s kc ks (Qp (some v) Z h0) T (mkF m pc Ls (v :: S)) := Go.retA X u.1 hret ht hv hlk (hb u.2.1 d) cc.1 cc.2 ⟨rfl, N, eT⟩
theorem t_rV (X : Stand p l e R s m args below meth c T locs cells slots) (u : UB p c b nl) (hret : meth.sig.returnType = none) (hlk : meth.locks = false) (d : decode b pc = .ok (.return_, 1)) (eT : T.heap = h0) (N : Fr Z.heap.size locs) (cc : cells ≤ kc ∧ slots ≤ ks) : Go FrameEnd p e below s kc ks (Qp none Z h0) T (mkF m pc Ls []) := Go.retV X u.1 hret hlk (hb u.2.1 d) cc.1 cc.2 ⟨rfl, N, eT⟩
end TinyC
/-- the Class object of the class C, by the tables alone -/
def MirO (Z : State) (C : String) (mr : Addr) : Prop := ∃ (c : ClassId) (k : Class), Z.vm.findClass C = some c ∧ Z.vm.classes[c]? = some k ∧ k.mirror = some mr
section More
variable {p : Program} {l : Launch} {e : Env} {R : Room} {s : State} {m : MethodId} {args : Array Value} {below : List Frame} {meth : Method} {c : Code} {T : State} {locs : List Loc} {cells slots : Nat} {Z : State} {a0 : Array Value} {h : Heap} {a : Addr}
theorem own_gcls (X : Stand p l e R s m args below meth c T locs cells slots) (hx : p.tables.exec = Jvm.exec) (hZ : Z.Warmed39 s.vm) {own C : String} {index : Nat} (hown : s.vm.findClass own = some m.cls)
    (w1 : (Jvm.Cond.methodLink own index ⟨"java/lang/Object", "getClass", "()Ljava/lang/Class;"⟩).before a0 Z = true) (w2 : (Jvm.Cond.declares ⟨"java/lang/Object", "getClass", "()Ljava/lang/Class;"⟩).before a0 Z = true) (w3 : (Jvm.Cond.noSuperclass "java/lang/Object").before a0 Z = true) (w4 : (Jvm.Cond.selects C ⟨"java/lang/Object", "getClass", "()Ljava/lang/Class;"⟩ ⟨"java/lang/Object", "getClass", "()Ljava/lang/Class;"⟩).before a0 Z = true)
    (w5 : (Jvm.Cond.instanceMethod ⟨"java/lang/Object", "getClass", "()Ljava/lang/Class;"⟩).before a0 Z = true) (w6 : (Jvm.Cond.native ⟨"java/lang/Object", "getClass", "()Ljava/lang/Class;"⟩).before a0 Z = true) (eT : T.heap = h) (E : Exa Z h a C) {mr : Addr} (M : MirO Z C mr)
    {g : JFrame} (hg : g.method = m) (hsize : g.locals.size = c.maxLocals) {rest : List Value} (hs : g.stack = .ref a :: rest) (hd : decode c.code g.pc = .ok (.invokevirtual index, 3)) (hf : 1 ≤ R.frames) {W : Nat} (hW : 2 * g.monitorRoom + (rest.map fun v => v.category).sum ≤ W) (hl : W + (nativeFrameWords "java/lang/Object" "getClass" 1 + 11) ≤ R.locals) :
    ∃ T', Stand p l e R s m args below meth c T' locs cells slots ∧ T'.heap = h ∧ ∀ target, Steps p.tables e below (T'.setTop { g with pc := g.pc + 3, stack := .ref mr :: rest }) target → Steps p.tables e below (T.setTop g) target := by
  obtain ⟨cB, kB, i1, i2, i3⟩ := isOf hZ eT E
  obtain ⟨cc, kc, m1, m2, m3⟩ := M
  have i1' := i1
  rw [hZ.alike.findClass] at i1'
  cases i1'.symm.trans m1
  obtain ⟨k', q, ek⟩ := hZ.alike.2.2 _ _ m2
  obtain ⟨vm', X', st⟩ := X.getClassOf hx hown (mvT hZ w1) (mvT hZ w2) (nf_top (args := #[]) (mvT hZ w3)) (mvT hZ w4) (mvT hZ w5) (mvT hZ w6) i1 i3 q (by rw [ek]; exact m3) hg hsize hs hd hf (by omega)
  exact ⟨_, X', eT, st⟩
theorem own_gclsI (X : Stand p l e R s m args below meth c T locs cells slots) (hx : p.tables.exec = Jvm.exec) (hZ : Z.Warmed39 s.vm) {own C I : String} {index count : Nat} (hown : s.vm.findClass own = some m.cls)
    (w1 : (Jvm.Cond.methodLink own index ⟨I, "getClass", "()Ljava/lang/Class;"⟩).before a0 Z = true) (w2 : (Jvm.Cond.declares ⟨"java/lang/Object", "getClass", "()Ljava/lang/Class;"⟩).before a0 Z = true) (w3 : (Jvm.Cond.interfaceMethod I "java/lang/Object" "getClass" "()Ljava/lang/Class;").before a0 Z = true) (w4 : (Jvm.Cond.selects C ⟨I, "getClass", "()Ljava/lang/Class;"⟩ ⟨"java/lang/Object", "getClass", "()Ljava/lang/Class;"⟩).before a0 Z = true)
    (w5 : (Jvm.Cond.instanceMethod ⟨"java/lang/Object", "getClass", "()Ljava/lang/Class;"⟩).before a0 Z = true) (w7 : (Jvm.Cond.publicMethod ⟨"java/lang/Object", "getClass", "()Ljava/lang/Class;"⟩).before a0 Z = true) (w8 : (Jvm.Cond.unhidden C "getClass" "()Ljava/lang/Class;").before a0 Z = true) (w9 : (Jvm.Cond.castable C I).before a0 Z = true) (w6 : (Jvm.Cond.native ⟨"java/lang/Object", "getClass", "()Ljava/lang/Class;"⟩).before a0 Z = true) (hI : I ≠ "java/lang/invoke/MethodHandle" ∧ I ≠ "java/lang/invoke/VarHandle") (hO : I ≠ "java/lang/Object") (eT : T.heap = h) (E : Exa Z h a C) {mr : Addr} (M : MirO Z C mr)
    {g : JFrame} (hg : g.method = m) (hsize : g.locals.size = c.maxLocals) {rest : List Value} (hs : g.stack = .ref a :: rest) (hd : decode c.code g.pc = .ok (.invokeinterface index count, 5)) (hf : 1 ≤ R.frames) {W : Nat} (hW : 2 * g.monitorRoom + (rest.map fun v => v.category).sum ≤ W) (hl : W + (nativeFrameWords "java/lang/Object" "getClass" 1 + 11) ≤ R.locals) :
    ∃ T', Stand p l e R s m args below meth c T' locs cells slots ∧ T'.heap = h ∧ ∀ target, Steps p.tables e below (T'.setTop { g with pc := g.pc + 5, stack := .ref mr :: rest }) target → Steps p.tables e below (T.setTop g) target := by
  obtain ⟨cB, kB, i1, i2, i3⟩ := isOf hZ eT E
  obtain ⟨cc, kc, m1, m2, m3⟩ := M
  have i1' := i1
  rw [hZ.alike.findClass] at i1'
  cases i1'.symm.trans m1
  obtain ⟨k', q, ek⟩ := hZ.alike.2.2 _ _ m2
  obtain ⟨vm', X', st⟩ := X.getClassOfI hx (xi := ⟨I, "getClass", "()Ljava/lang/Class;"⟩) hown (mvT hZ w1) (mvT hZ w2) (Jvm.Free.ULB.iface_rides hZ.alike w3) (mvT hZ w4) (mvT hZ w5) (mvT hZ w7) (mvT hZ w8) (mvT hZ w9) (mvT hZ w6) hI hO rfl rfl i1 q i3 (by rw [ek]; exact m3) hg hsize hs hd hf (by omega)
  exact ⟨_, X', eT, st⟩
theorem own_ldcMir (X : Stand p l e R s m args below meth c T locs cells slots) (hx : p.tables.exec = Jvm.exec) (hZ : Z.Warmed39 s.vm) {own C : String} {index : Nat} (hown : s.vm.findClass own = some m.cls) (w : (Jvm.Cond.classLink own index C).before a0 Z = true) (eT : T.heap = h) {mr : Addr} (M : MirO Z C mr)
    {g : JFrame} (hg : g.method = m) (hd : decode c.code g.pc = .ok (.ldc index, 2)) : ∃ T', Stand p l e R s m args below meth c T' locs cells slots ∧ T'.heap = h ∧ ∀ target, Steps p.tables e below (T'.setTop { g with pc := g.pc + 2, stack := .ref mr :: g.stack }) target → Steps p.tables e below (T.setTop g) target := by
  obtain ⟨cc, kc, m1, m2, m3⟩ := M
  obtain ⟨k', q, ek⟩ := hZ.alike.2.2 _ _ m2
  have hev : (Jvm.Term.mirror C).eval args s none [] s = some (.ref mr) := by
    have q1 : s.vm.findClass C = some cc := by rw [hZ.alike.findClass]; exact m1
    have q2 : k'.mirror = some mr := by rw [ek]; exact m3
    simp [Jvm.Term.eval, q1, q, q2]
  obtain ⟨vm', X', st⟩ := X.ldcMirror hx hown (mvT hZ w) hev hg hd
  exact ⟨_, X', eT, st⟩
theorem own_nsRoot {O K : String} {n : Nat} (w : (Jvm.Cond.noSuperclass O).before a0 Z = true) (wk : (Jvm.Cond.instantiable K n).before a0 Z = true) (hn : O ≠ K) : NS Z O K := by
  obtain ⟨c, k, h1, h2, h3, -, -⟩ := Cond.noSuperclass_spec w
  obtain ⟨t, kt, g1, -⟩ := Cond.instantiable_spec wk
  have ne := ids_ne h1 g1 hn
  refine ⟨c, t, h1, g1, fun fuel => ?_⟩
  match fuel with
  | 0 => rfl
  | f + 1 => simp [Vm.isSubclassAux, ne, h2, h3]
theorem own_nsNo {C S K : String} {n : Nat} (w : (Jvm.Cond.superclass C S).before a0 Z = true) (wk : (Jvm.Cond.instantiable K n).before a0 Z = true) (N : NS Z C K) (hn : C ≠ K) : ∃ c t, Z.vm.findClass C = some c ∧ Z.vm.findClass K = some t ∧ Z.vm.assignable c t = false := by
  obtain ⟨c, t, h0, g0, n3⟩ := N
  obtain ⟨p, k, kp, h1, h2, h3, h4, h5, -, h7⟩ := Cond.superclass_spec h0 w
  obtain ⟨t', kt, g1, g2, g3, g4, -⟩ := Cond.instantiable_spec wk
  cases g0.symm.trans g1
  have g5 : kt.isInterface = false := by
    rw [Bool.or_eq_false_iff] at g4; exact g4.1
  have ne := ids_ne h0 g0 hn
  refine ⟨c, t, h0, g0, ?_⟩
  show Z.vm.assignableAux (255 + 1) c t = false
  simp [Vm.assignableAux, ne, h2, g2, h5, g3, g5, Vm.isSubclass, n3]
end More
theorem own_face {K K' n d : String} {x : MethodName} {Z : State} {a0 : Array Value} (w : (Jvm.Cond.selects K' x ⟨K, n, d⟩).before a0 Z = true) : ∃ t kt, Z.vm.findClass K = some t ∧ Z.vm.classes[t]? = some kt ∧ kt.isInterface = false := by
  obtain ⟨c, r, m, -, -, h3, -, mk, h5, h6⟩ := Cond.selects_spec w
  exact ⟨m.cls, mk, findClass_of_methodNamed h3, h5, h6⟩
theorem own_nsRoot2 {O K : String} {Z : State} {a0 : Array Value} (w : (Jvm.Cond.noSuperclass O).before a0 Z = true) (F : ∃ t kt, Z.vm.findClass K = some t ∧ Z.vm.classes[t]? = some kt ∧ kt.isInterface = false) (hn : O ≠ K) : NS Z O K := by
  obtain ⟨c, k, h1, h2, h3, -, -⟩ := Cond.noSuperclass_spec w
  obtain ⟨t, kt, g1, -⟩ := F
  have ne := ids_ne h1 g1 hn
  refine ⟨c, t, h1, g1, fun fuel => ?_⟩
  match fuel with
  | 0 => rfl
  | f + 1 => simp [Vm.isSubclassAux, ne, h2, h3]
theorem own_nsNo2 {C S K : String} {Z : State} {a0 : Array Value} (w : (Jvm.Cond.superclass C S).before a0 Z = true) (F : ∃ t kt, Z.vm.findClass K = some t ∧ Z.vm.classes[t]? = some kt ∧ kt.isInterface = false) (N : NS Z C K) (hn : C ≠ K) : ∃ c t, Z.vm.findClass C = some c ∧ Z.vm.findClass K = some t ∧ Z.vm.assignable c t = false := by
  obtain ⟨c, t, h0, g0, n3⟩ := N
  obtain ⟨p, k, kp, h1, h2, h3, h4, h5, -, h7⟩ := Cond.superclass_spec h0 w
  obtain ⟨t', kt, g1, g2, g5⟩ := F
  cases g0.symm.trans g1
  have ne := ids_ne h0 g0 hn
  refine ⟨c, t, h0, g0, ?_⟩
  show Z.vm.assignableAux (255 + 1) c t = false
  cases hk : kt.kind <;> simp [Vm.assignableAux, ne, h2, g2, h5, hk, g5, Vm.isSubclass, n3]
theorem own_len {Z : State} {args : Array Value} {t : Jvm.Term} {a : Addr} {cl : Cell} {ty : FieldType} {k : Int32} (ev : t.eval args Z none [] Z = some (.ref a)) (A : Arr Z Z.heap a cl ty) (h : (Jvm.Cond.eq (.length t) (.int k)).value args Z none Z [] = some true) : cl.slots.size < 2 ^ 31 ∧ cl.slots.size.toInt32 = k := by
  obtain ⟨x, y, h1, h2, h3, h4⟩ := cmp_v (Or.inl h)
  have ha : Z.arrayAt? a = some cl := A.fin (Vm.Alike.refl _)
  by_cases hl : cl.slots.size < 2 ^ 31
  · refine ⟨hl, ?_⟩
    have h5 := len_f ev ha hl
    exact gotT (Cond.eq_ints h5 (Term.int_eval k)) h
  · exfalso
    simp [Jvm.Term.eval, ev, ha, hl] at h1
theorem own_arv0 {Z : State} {args : Array Value} {t : Jvm.Term} {a : Addr} {ty : FieldType} {dv : Value} (hf : Fit Z) (ev : t.eval args Z none [] Z = some (.ref a)) (h1 : (Jvm.Cond.arrayOf t ty).value args Z none Z [] = some true) (h2 : (Jvm.Cond.eq (.length t) (.int 0)).value args Z none Z [] = some true) : ∃ k, Arv Z Z.heap a k ty (0 : Int32) [] dv := by
  obtain ⟨cl, A⟩ := Arr.start ev h1
  obtain ⟨q1, q2⟩ := own_len ev A h2
  exact ⟨cl.cls, Arv.start hf A q1 q2 (by decide) rfl trivial⟩
abbrev fl_0 (Z : State) (h : Heap) (a : Addr) (v : Value) : Prop := Fld Z h a "java/util/ImmutableCollections$ListN" "elements" "[Ljava/lang/Object;" v
abbrev fl_1 (Z : State) (h : Heap) (a : Addr) (v : Value) : Prop := Fld Z h a "com/example/clean_epoch/cleanepoch/log/EpochEnd" "epoch" "I" v
abbrev fl_2 (Z : State) (h : Heap) (a : Addr) (v : Value) : Prop := Fld Z h a "com/example/clean_epoch/cleanepoch/log/Lineage" "entries" "Ljava/util/List;" v
abbrev fl_3 (Z : State) (h : Heap) (a : Addr) (v : Value) : Prop := Fld Z h a "java/util/ImmutableCollections$List12" "e0" "Ljava/lang/Object;" v
abbrev fl_4 (Z : State) (h : Heap) (a : Addr) (v : Value) : Prop := Fld Z h a "java/util/ImmutableCollections$List12" "e1" "Ljava/lang/Object;" v
abbrev fl_5 (Z : State) (h : Heap) (a : Addr) (v : Value) : Prop := Fld Z h a "com/example/clean_epoch/cleanepoch/log/Lineage$Entry" "epoch" "I" v
abbrev fl_6 (Z : State) (h : Heap) (a : Addr) (v : Value) : Prop := Fld Z h a "com/example/clean_epoch/cleanepoch/log/Lineage$Entry" "startOffset" "J" v
abbrev fl_7 (Z : State) (h : Heap) (a : Addr) (v : Value) : Prop := Fld Z h a "com/example/clean_epoch/cleanepoch/log/DivergenceWalk" "firstEpoch" "I" v
abbrev fl_8 (Z : State) (h : Heap) (a : Addr) (v : Value) : Prop := Fld Z h a "com/example/clean_epoch/cleanepoch/log/DivergenceWalk" "left" "Lcom/example/clean_epoch/cleanepoch/log/Lineage;" v
abbrev fl_9 (Z : State) (h : Heap) (a : Addr) (v : Value) : Prop := Fld Z h a "com/example/clean_epoch/cleanepoch/log/DivergenceWalk" "reached" "J" v
abbrev fl_10 (Z : State) (h : Heap) (a : Addr) (v : Value) : Prop := Fld Z h a "com/example/clean_epoch/cleanepoch/log/DivergenceWalk" "diverged" "Z" v
abbrev fl_11 (Z : State) (h : Heap) (a : Addr) (v : Value) : Prop := Fld Z h a "com/example/clean_epoch/cleanepoch/log/DivergenceWalk" "named" "I" v
abbrev fl_12 (Z : State) (h : Heap) (a : Addr) (v : Value) : Prop := Fld Z h a "com/example/clean_epoch/cleanepoch/log/DivergenceWalk" "leaderLogStartDue" "Z" v
abbrev fl_13 (Z : State) (h : Heap) (a : Addr) (v : Value) : Prop := Fld Z h a "com/example/clean_epoch/cleanepoch/log/DivergenceWalk" "exact" "Z" v
abbrev fl_14 (Z : State) (h : Heap) (a : Addr) (v : Value) : Prop := Fld Z h a "com/example/clean_epoch/cleanepoch/log/DivergenceWalk" "bounded" "Z" v
abbrev fl_15 (Z : State) (h : Heap) (a : Addr) (v : Value) : Prop := Fld Z h a "java/util/AbstractList" "modCount" "I" v
abbrev fl_16 (Z : State) (h : Heap) (a : Addr) (v : Value) : Prop := Fld Z h a "java/util/ArrayList" "size" "I" v
abbrev fl_17 (Z : State) (h : Heap) (a : Addr) (v : Value) : Prop := Fld Z h a "java/util/ArrayList" "elementData" "[Ljava/lang/Object;" v
abbrev fl_18 (Z : State) (h : Heap) (a : Addr) (v : Value) : Prop := Fld Z h a "java/util/ImmutableCollections$ListItr" "list" "Ljava/util/List;" v
abbrev fl_19 (Z : State) (h : Heap) (a : Addr) (v : Value) : Prop := Fld Z h a "java/util/ImmutableCollections$ListItr" "size" "I" v
abbrev fl_20 (Z : State) (h : Heap) (a : Addr) (v : Value) : Prop := Fld Z h a "java/util/ImmutableCollections$ListItr" "cursor" "I" v
abbrev fl_21 (Z : State) (h : Heap) (a : Addr) (v : Value) : Prop := Fld Z h a "java/util/ImmutableCollections$ListItr" "isListIterator" "Z" v
abbrev fl_22 (Z : State) (h : Heap) (a : Addr) (v : Value) : Prop := Fld Z h a "java/util/ArrayList$Itr" "this$0" "Ljava/util/ArrayList;" v
abbrev fl_23 (Z : State) (h : Heap) (a : Addr) (v : Value) : Prop := Fld Z h a "java/util/ArrayList$Itr" "lastRet" "I" v
abbrev fl_24 (Z : State) (h : Heap) (a : Addr) (v : Value) : Prop := Fld Z h a "java/util/ArrayList$Itr" "expectedModCount" "I" v
abbrev fl_25 (Z : State) (h : Heap) (a : Addr) (v : Value) : Prop := Fld Z h a "java/util/ArrayList$Itr" "cursor" "I" v
abbrev fl_26 (Z : State) (h : Heap) (a : Addr) (v : Value) : Prop := Fld Z h a "com/example/clean_epoch/cleanepoch/log/EpochEnd" "endOffset" "J" v
abbrev ex_0 (Z : State) (h : Heap) (a : Addr) : Prop := Exa Z h a "[Ljava/lang/Object;"
abbrev ex_1 (Z : State) (h : Heap) (a : Addr) : Prop := Exa Z h a "java/util/ImmutableCollections$ListN"
abbrev ex_2 (Z : State) (h : Heap) (a : Addr) : Prop := Exa Z h a "com/example/clean_epoch/cleanepoch/log/EpochEnd"
abbrev ex_3 (Z : State) (h : Heap) (a : Addr) : Prop := Exa Z h a "com/example/clean_epoch/cleanepoch/log/Lineage"
abbrev ex_4 (Z : State) (h : Heap) (a : Addr) : Prop := Exa Z h a "java/util/ImmutableCollections$List12"
abbrev ex_5 (Z : State) (h : Heap) (a : Addr) : Prop := Exa Z h a "com/example/clean_epoch/cleanepoch/log/Lineage$Entry"
abbrev ex_6 (Z : State) (h : Heap) (a : Addr) : Prop := Exa Z h a "com/example/clean_epoch/cleanepoch/log/DivergenceWalk"
abbrev ex_7 (Z : State) (h : Heap) (a : Addr) : Prop := Exa Z h a "java/util/ArrayList"
abbrev ex_8 (Z : State) (h : Heap) (a : Addr) : Prop := Exa Z h a "java/util/ImmutableCollections$ListItr"
abbrev ex_9 (Z : State) (h : Heap) (a : Addr) : Prop := Exa Z h a "java/util/ArrayList$Itr"
theorem D1 : Dl prog_15_method_1_code [(0, .aload_n 0, 1), (1, .invokespecial 1, 3), (4, .aload_n 0, 1), (5, .getstatic 7, 3), (8, .invokevirtual 13, 3), (11, .putfield 17, 3), (14, .aload_n 0, 1), (15, .aload_n 1, 1), (16, .invokevirtual 23, 3), (19, .ifCond .eq 12, 3), (22, .getstatic 7, 3), (25, .invokevirtual 13, 3), (28, .goto 19, 3), (31, .aload_n 1, 1), (32, .invokevirtual 29, 3), (35, .iconst 0, 1), (36, .invokeinterface 33 2, 5), (41, .checkcast 39, 3), (44, .invokevirtual 41, 3), (47, .putfield 42, 3), (50, .aload_n 0, 1), (51, .aload_n 1, 1), (52, .putfield 45, 3), (55, .aload_n 0, 1), (56, .lload_n 2, 1), (57, .putfield 49, 3), (60, .aload_n 0, 1), (61, .aload_n 1, 1), (62, .invokevirtual 23, 3), (65, .putfield 53, 3), (68, .return_, 1)] := by decide +kernel
def d1_0 := dA D1 0 rfl
def d1_1 := dA D1 1 rfl
def d1_4 := dA D1 2 rfl
def d1_5 := dA D1 3 rfl
def d1_8 := dA D1 4 rfl
def d1_11 := dA D1 5 rfl
def d1_14 := dA D1 6 rfl
def d1_15 := dA D1 7 rfl
def d1_16 := dA D1 8 rfl
def d1_19 := dA D1 9 rfl
def d1_22 := dA D1 10 rfl
def d1_25 := dA D1 11 rfl
def d1_28 := dA D1 12 rfl
def d1_31 := dA D1 13 rfl
def d1_32 := dA D1 14 rfl
def d1_35 := dA D1 15 rfl
def d1_36 := dA D1 16 rfl
def d1_41 := dA D1 17 rfl
def d1_44 := dA D1 18 rfl
def d1_47 := dA D1 19 rfl
def d1_50 := dA D1 20 rfl
def d1_51 := dA D1 21 rfl
def d1_52 := dA D1 22 rfl
def d1_55 := dA D1 23 rfl
def d1_56 := dA D1 24 rfl
def d1_57 := dA D1 25 rfl
def d1_60 := dA D1 26 rfl
def d1_61 := dA D1 27 rfl
def d1_62 := dA D1 28 rfl
def d1_65 := dA D1 29 rfl
def d1_68 := dA D1 30 rfl
theorem D3 : Dl prog_19_method_6_code [(0, .aload_n 0, 1), (1, .getfield 7, 3), (4, .ireturn, 1)] := by decide +kernel
def d3_0 := dA D3 0 rfl
def d3_1 := dA D3 1 rfl
def d3_4 := dA D3 2 rfl
theorem D4 : Dl prog_22_method_2_code [(0, .aload_n 0, 1), (1, .getfield 57, 3), (4, .invokeinterface 61 1, 5), (9, .ireturn, 1)] := by decide +kernel
def d4_0 := dA D4 0 rfl
def d4_1 := dA D4 1 rfl
def d4_4 := dA D4 2 rfl
def d4_9 := dA D4 3 rfl
theorem D5 : Dl jdk_45_method_2_code [(0, .aload_n 0, 1), (1, .getfield 7, 3), (4, .arraylength, 1), (5, .ifCond .ne 7, 3), (8, .iconst 1, 1), (9, .goto 4, 3), (13, .ireturn, 1)] := by decide +kernel
def d5_0 := dA D5 0 rfl
def d5_1 := dA D5 1 rfl
def d5_4 := dA D5 2 rfl
def d5_5 := dA D5 3 rfl
def d5_8 := dA D5 4 rfl
def d5_9 := dA D5 5 rfl
def d5_13 := dA D5 6 rfl
theorem D6 : Dl prog_15_method_2_code [(0, .aload_n 0, 1), (1, .getfield 53, 3), (4, .ifCond .ne 10, 3), (7, .aload_n 0, 1), (8, .getfield 57, 3), (11, .ifCond .eq 7, 3), (14, .iconst 1, 1), (15, .goto 4, 3), (18, .iconst 0, 1), (19, .ireturn, 1)] := by decide +kernel
def d6_0 := dA D6 0 rfl
def d6_1 := dA D6 1 rfl
def d6_4 := dA D6 2 rfl
def d6_7 := dA D6 3 rfl
def d6_8 := dA D6 4 rfl
def d6_11 := dA D6 5 rfl
def d6_14 := dA D6 6 rfl
def d6_15 := dA D6 7 rfl
def d6_18 := dA D6 8 rfl
def d6_19 := dA D6 9 rfl
theorem D7 : Dl method_3_code [(0, .aload_n 0, 1), (1, .invokevirtual 33, 3), (4, .ifCond .eq 32, 3), (7, .aload_n 0, 1), (8, .invokevirtual 23, 3), (11, .istore 4, 2), (13, .aload_n 0, 1), (14, .lload_n 2, 1), (15, .invokevirtual 36, 3), (18, .iload 4, 2), (20, .ifCond .ne 14, 3), (23, .aload_n 0, 1), (24, .invokevirtual 23, 3), (27, .ifCond .eq 7, 3), (30, .iconst 1, 1), (31, .goto 4, 3), (35, .ireturn, 1), (36, .aload_n 0, 1), (37, .invokevirtual 23, 3), (40, .ifCond .eq 5, 3), (43, .iconst 1, 1), (44, .ireturn, 1), (45, .aload_n 0, 1), (46, .invokevirtual 40, 3), (49, .invokevirtual 44, 3), (52, .istore 4, 2), (54, .aload_n 0, 1), (55, .invokevirtual 47, 3), (58, .istore 5, 2), (60, .iconst (-1), 1), (61, .iload 5, 2), (63, .iload_n 1, 1), (64, .iconst 3, 1), (65, .iand, 1), (66, .isub, 1), (67, .invokestatic 51, 3), (70, .istore 6, 2), (72, .iload 6, 2), (74, .ifCond .ge 9, 3), (77, .ldc2_w 57, 3), (80, .goto 10, 3), (83, .iload_n 1, 1), (84, .iconst 2, 1), (85, .iushr, 1), (86, .bipush 31, 2), (88, .iand, 1), (89, .i2l, 1), (90, .lstore 7, 2), (92, .aload_n 0, 1), (93, .new 59, 3), (96, .dup, 1), (97, .iload 6, 2), (99, .lload 7, 2), (101, .invokespecial 61, 3), (104, .invokevirtual 64, 3), (107, .iload 6, 2), (109, .iload 5, 2), (111, .if_icmp .eq 13, 3), (114, .iload 6, 2), (116, .ifCond .lt 12, 3), (119, .iload 4, 2), (121, .ifCond .eq 7, 3), (124, .iconst 1, 1), (125, .goto 4, 3), (128, .iconst 0, 1), (129, .istore 9, 2), (131, .aload_n 0, 1), (132, .invokevirtual 23, 3), (135, .iload 9, 2), (137, .if_icmp .ne 24, 3), (140, .aload_n 0, 1), (141, .invokevirtual 33, 3), (144, .iload 6, 2), (146, .ifCond .ge 7, 3), (149, .iconst 1, 1), (150, .goto 4, 3), (153, .iconst 0, 1), (154, .if_icmp .ne 7, 3), (157, .iconst 1, 1), (158, .goto 4, 3), (162, .ireturn, 1)] := by decide +kernel
def d7_0 := dA D7 0 rfl
def d7_1 := dA D7 1 rfl
def d7_4 := dA D7 2 rfl
def d7_7 := dA D7 3 rfl
def d7_8 := dA D7 4 rfl
def d7_11 := dA D7 5 rfl
def d7_13 := dA D7 6 rfl
def d7_14 := dA D7 7 rfl
def d7_15 := dA D7 8 rfl
def d7_18 := dA D7 9 rfl
def d7_20 := dA D7 10 rfl
def d7_23 := dA D7 11 rfl
def d7_24 := dA D7 12 rfl
def d7_27 := dA D7 13 rfl
def d7_30 := dA D7 14 rfl
def d7_31 := dA D7 15 rfl
def d7_35 := dA D7 16 rfl
def d7_36 := dA D7 17 rfl
def d7_37 := dA D7 18 rfl
def d7_40 := dA D7 19 rfl
def d7_43 := dA D7 20 rfl
def d7_44 := dA D7 21 rfl
def d7_45 := dA D7 22 rfl
def d7_46 := dA D7 23 rfl
def d7_49 := dA D7 24 rfl
def d7_52 := dA D7 25 rfl
def d7_54 := dA D7 26 rfl
def d7_55 := dA D7 27 rfl
def d7_58 := dA D7 28 rfl
def d7_60 := dA D7 29 rfl
def d7_61 := dA D7 30 rfl
def d7_63 := dA D7 31 rfl
def d7_64 := dA D7 32 rfl
def d7_65 := dA D7 33 rfl
def d7_66 := dA D7 34 rfl
def d7_67 := dA D7 35 rfl
def d7_70 := dA D7 36 rfl
def d7_72 := dA D7 37 rfl
def d7_74 := dA D7 38 rfl
def d7_77 := dA D7 39 rfl
def d7_80 := dA D7 40 rfl
def d7_83 := dA D7 41 rfl
def d7_84 := dA D7 42 rfl
def d7_85 := dA D7 43 rfl
def d7_86 := dA D7 44 rfl
def d7_88 := dA D7 45 rfl
def d7_89 := dA D7 46 rfl
def d7_90 := dA D7 47 rfl
def d7_92 := dA D7 48 rfl
def d7_93 := dA D7 49 rfl
def d7_96 := dA D7 50 rfl
def d7_97 := dA D7 51 rfl
def d7_99 := dA D7 52 rfl
def d7_101 := dA D7 53 rfl
def d7_104 := dA D7 54 rfl
def d7_107 := dA D7 55 rfl
def d7_109 := dA D7 56 rfl
def d7_111 := dA D7 57 rfl
def d7_114 := dA D7 58 rfl
def d7_116 := dA D7 59 rfl
def d7_119 := dA D7 60 rfl
def d7_121 := dA D7 61 rfl
def d7_124 := dA D7 62 rfl
def d7_125 := dA D7 63 rfl
def d7_128 := dA D7 64 rfl
def d7_129 := dA D7 65 rfl
def d7_131 := dA D7 66 rfl
def d7_132 := dA D7 67 rfl
def d7_135 := dA D7 68 rfl
def d7_137 := dA D7 69 rfl
def d7_140 := dA D7 70 rfl
def d7_141 := dA D7 71 rfl
def d7_144 := dA D7 72 rfl
def d7_146 := dA D7 73 rfl
def d7_149 := dA D7 74 rfl
def d7_150 := dA D7 75 rfl
def d7_153 := dA D7 76 rfl
def d7_154 := dA D7 77 rfl
def d7_157 := dA D7 78 rfl
def d7_158 := dA D7 79 rfl
def d7_162 := dA D7 80 rfl
theorem D8 : Dl prog_15_method_3_code [(0, .aload_n 0, 1), (1, .getfield 60, 3), (4, .ireturn, 1)] := by decide +kernel
def d8_0 := dA D8 0 rfl
def d8_1 := dA D8 1 rfl
def d8_4 := dA D8 2 rfl
theorem D9 : Dl prog_22_method_8_code [(0, .new 7, 3), (3, .dup, 1), (4, .aload_n 0, 1), (5, .getfield 57, 3), (8, .invokespecial 101, 3), (11, .astore 4, 2), (13, .aload 4, 2), (15, .invokeinterface 61 1, 5), (20, .ifCond .eq 7, 3), (23, .aconst_null, 1), (24, .goto 22, 3), (27, .aload 4, 2), (29, .aload 4, 2), (31, .invokeinterface 64 1, 5), (36, .iconst 1, 1), (37, .isub, 1), (38, .invokeinterface 68 2, 5), (43, .checkcast 26, 3), (46, .astore 5, 2), (48, .aload 5, 2), (50, .ifnull 32, 3), (53, .aload 5, 2), (55, .invokevirtual 81, 3), (58, .lload_n 2, 1), (59, .lcmp, 1), (60, .ifCond .ne 22, 3), (82, .aload 4, 2), (84, .new 26, 3), (87, .dup, 1), (88, .iload_n 1, 1), (89, .lload_n 2, 1), (90, .invokespecial 107, 3), (93, .invokeinterface 49 2, 5), (98, .pop, 1), (99, .new 29, 3), (102, .dup, 1), (103, .aload 4, 2), (105, .invokespecial 110, 3), (108, .areturn, 1)] := by decide +kernel
def d9_0 := dA D9 0 rfl
def d9_3 := dA D9 1 rfl
def d9_4 := dA D9 2 rfl
def d9_5 := dA D9 3 rfl
def d9_8 := dA D9 4 rfl
def d9_11 := dA D9 5 rfl
def d9_13 := dA D9 6 rfl
def d9_15 := dA D9 7 rfl
def d9_20 := dA D9 8 rfl
def d9_23 := dA D9 9 rfl
def d9_24 := dA D9 10 rfl
def d9_27 := dA D9 11 rfl
def d9_29 := dA D9 12 rfl
def d9_31 := dA D9 13 rfl
def d9_36 := dA D9 14 rfl
def d9_37 := dA D9 15 rfl
def d9_38 := dA D9 16 rfl
def d9_43 := dA D9 17 rfl
def d9_46 := dA D9 18 rfl
def d9_48 := dA D9 19 rfl
def d9_50 := dA D9 20 rfl
def d9_53 := dA D9 21 rfl
def d9_55 := dA D9 22 rfl
def d9_58 := dA D9 23 rfl
def d9_59 := dA D9 24 rfl
def d9_60 := dA D9 25 rfl
def d9_82 := dA D9 26 rfl
def d9_84 := dA D9 27 rfl
def d9_87 := dA D9 28 rfl
def d9_88 := dA D9 29 rfl
def d9_89 := dA D9 30 rfl
def d9_90 := dA D9 31 rfl
def d9_93 := dA D9 32 rfl
def d9_98 := dA D9 33 rfl
def d9_99 := dA D9 34 rfl
def d9_102 := dA D9 35 rfl
def d9_103 := dA D9 36 rfl
def d9_105 := dA D9 37 rfl
def d9_108 := dA D9 38 rfl
theorem D10 : Dl jdk_38_method_3_code [(0, .aload_n 0, 1), (1, .invokespecial 1, 3), (4, .aload_n 1, 1), (5, .invokeinterface 42 1, 5), (10, .astore_n 2, 1), (11, .aload_n 0, 1), (12, .aload_n 2, 1), (13, .arraylength, 1), (14, .dup_x1, 1), (15, .putfield 48, 3), (18, .ifCond .eq 39, 3), (21, .aload_n 1, 1), (22, .invokeinterface 52 1, 5), (27, .ldc 10, 2), (29, .if_acmp .ne 11, 3), (32, .aload_n 0, 1), (33, .aload_n 2, 1), (34, .putfield 9, 3), (37, .goto 27, 3), (40, .aload_n 0, 1), (41, .aload_n 2, 1), (42, .aload_n 0, 1), (43, .getfield 48, 3), (46, .ldc 56, 2), (48, .invokestatic 57, 3), (51, .putfield 9, 3), (54, .goto 10, 3), (57, .aload_n 0, 1), (58, .getstatic 15, 3), (61, .putfield 9, 3), (64, .return_, 1)] := by decide +kernel
def d10_0 := dA D10 0 rfl
def d10_1 := dA D10 1 rfl
def d10_4 := dA D10 2 rfl
def d10_5 := dA D10 3 rfl
def d10_10 := dA D10 4 rfl
def d10_11 := dA D10 5 rfl
def d10_12 := dA D10 6 rfl
def d10_13 := dA D10 7 rfl
def d10_14 := dA D10 8 rfl
def d10_15 := dA D10 9 rfl
def d10_18 := dA D10 10 rfl
def d10_21 := dA D10 11 rfl
def d10_22 := dA D10 12 rfl
def d10_27 := dA D10 13 rfl
def d10_29 := dA D10 14 rfl
def d10_32 := dA D10 15 rfl
def d10_33 := dA D10 16 rfl
def d10_34 := dA D10 17 rfl
def d10_37 := dA D10 18 rfl
def d10_40 := dA D10 19 rfl
def d10_41 := dA D10 20 rfl
def d10_42 := dA D10 21 rfl
def d10_43 := dA D10 22 rfl
def d10_46 := dA D10 23 rfl
def d10_48 := dA D10 24 rfl
def d10_51 := dA D10 25 rfl
def d10_54 := dA D10 26 rfl
def d10_57 := dA D10 27 rfl
def d10_58 := dA D10 28 rfl
def d10_61 := dA D10 29 rfl
def d10_64 := dA D10 30 rfl
theorem D11 : Dl jdk_39_method_1_code [(0, .aload_n 0, 1), (1, .invokespecial 1, 3), (4, .aload_n 0, 1), (5, .iconst 0, 1), (6, .putfield 7, 3), (9, .return_, 1)] := by decide +kernel
def d11_0 := dA D11 0 rfl
def d11_1 := dA D11 1 rfl
def d11_4 := dA D11 2 rfl
def d11_5 := dA D11 3 rfl
def d11_6 := dA D11 4 rfl
def d11_9 := dA D11 5 rfl
theorem D12 : Dl jdk_22_method_1_code [(0, .aload_n 0, 1), (1, .invokespecial 1, 3), (4, .return_, 1)] := by decide +kernel
def d12_0 := dA D12 0 rfl
def d12_1 := dA D12 1 rfl
def d12_4 := dA D12 2 rfl
theorem D13 : Dl jdk_45_method_7_code [(0, .aload_n 0, 1), (1, .getfield 7, 3), (4, .aload_n 0, 1), (5, .getfield 7, 3), (8, .arraylength, 1), (9, .invokestatic 29, 3), (12, .areturn, 1)] := by decide +kernel
def d13_0 := dA D13 0 rfl
def d13_1 := dA D13 1 rfl
def d13_4 := dA D13 2 rfl
def d13_5 := dA D13 3 rfl
def d13_8 := dA D13 4 rfl
def d13_9 := dA D13 5 rfl
def d13_12 := dA D13 6 rfl
theorem D14 : Dl jdk_65_method_119_code [(0, .aload_n 0, 1), (1, .iload_n 1, 1), (2, .aload_n 0, 1), (3, .invokevirtual 86, 3), (6, .invokestatic 300, 3), (9, .areturn, 1)] := by decide +kernel
def d14_0 := dA D14 0 rfl
def d14_1 := dA D14 1 rfl
def d14_2 := dA D14 2 rfl
def d14_3 := dA D14 3 rfl
def d14_6 := dA D14 4 rfl
def d14_9 := dA D14 5 rfl
theorem D15 : Dl jdk_65_method_120_code [(0, .aload_n 2, 1), (1, .ldc 110, 2), (3, .if_acmp .ne 10, 3), (6, .iload_n 1, 1), (7, .anewarray 2, 3), (10, .goto 14, 3), (24, .astore_n 3, 1), (25, .aload_n 0, 1), (26, .iconst 0, 1), (27, .aload_n 3, 1), (28, .iconst 0, 1), (29, .aload_n 0, 1), (30, .arraylength, 1), (31, .iload_n 1, 1), (32, .invokestatic 304, 3), (35, .invokestatic 150, 3), (38, .aload_n 3, 1), (39, .areturn, 1)] := by decide +kernel
def d15_0 := dA D15 0 rfl
def d15_1 := dA D15 1 rfl
def d15_3 := dA D15 2 rfl
def d15_6 := dA D15 3 rfl
def d15_7 := dA D15 4 rfl
def d15_10 := dA D15 5 rfl
def d15_24 := dA D15 6 rfl
def d15_25 := dA D15 7 rfl
def d15_26 := dA D15 8 rfl
def d15_27 := dA D15 9 rfl
def d15_28 := dA D15 10 rfl
def d15_29 := dA D15 11 rfl
def d15_30 := dA D15 12 rfl
def d15_31 := dA D15 13 rfl
def d15_32 := dA D15 14 rfl
def d15_35 := dA D15 15 rfl
def d15_38 := dA D15 16 rfl
def d15_39 := dA D15 17 rfl
theorem D16 : Dl jdk_29_method_69_code [(0, .iload_n 0, 1), (1, .iload_n 1, 1), (2, .if_icmp .gt 7, 3), (5, .iload_n 0, 1), (6, .goto 4, 3), (9, .iload_n 1, 1), (10, .ireturn, 1)] := by decide +kernel
def d16_0 := dA D16 0 rfl
def d16_1 := dA D16 1 rfl
def d16_2 := dA D16 2 rfl
def d16_5 := dA D16 3 rfl
def d16_6 := dA D16 4 rfl
def d16_9 := dA D16 5 rfl
def d16_10 := dA D16 6 rfl
theorem D17 : Dl jdk_38_method_9_code [(0, .aload_n 0, 1), (1, .getfield 48, 3), (4, .ifCond .ne 7, 3), (7, .iconst 1, 1), (8, .goto 4, 3), (11, .iconst 0, 1), (12, .ireturn, 1)] := by decide +kernel
def d17_0 := dA D17 0 rfl
def d17_1 := dA D17 1 rfl
def d17_4 := dA D17 2 rfl
def d17_7 := dA D17 3 rfl
def d17_8 := dA D17 4 rfl
def d17_11 := dA D17 5 rfl
def d17_12 := dA D17 6 rfl
theorem D18 : Dl prog_23_method_1_code [(0, .aload_n 0, 1), (1, .invokespecial 1, 3), (4, .aload_n 0, 1), (5, .iload_n 1, 1), (6, .putfield 7, 3), (9, .aload_n 0, 1), (10, .lload_n 2, 1), (11, .putfield 13, 3), (14, .return_, 1)] := by decide +kernel
def d18_0 := dA D18 0 rfl
def d18_1 := dA D18 1 rfl
def d18_4 := dA D18 2 rfl
def d18_5 := dA D18 3 rfl
def d18_6 := dA D18 4 rfl
def d18_9 := dA D18 5 rfl
def d18_10 := dA D18 6 rfl
def d18_11 := dA D18 7 rfl
def d18_14 := dA D18 8 rfl
theorem D19 : Dl jdk_30_method_1_code [(0, .aload_n 0, 1), (1, .invokespecial 1, 3), (4, .return_, 1)] := by decide +kernel
def d19_0 := dA D19 0 rfl
def d19_1 := dA D19 1 rfl
def d19_4 := dA D19 2 rfl
theorem D20 : Dl jdk_38_method_25_code [(0, .aload_n 0, 1), (1, .dup, 1), (2, .getfield 63, 3), (5, .iconst 1, 1), (6, .iadd, 1), (7, .putfield 63, 3), (10, .aload_n 0, 1), (11, .aload_n 1, 1), (12, .aload_n 0, 1), (13, .getfield 9, 3), (16, .aload_n 0, 1), (17, .getfield 48, 3), (20, .invokevirtual 131, 3), (23, .iconst 1, 1), (24, .ireturn, 1)] := by decide +kernel
def d20_0 := dA D20 0 rfl
def d20_1 := dA D20 1 rfl
def d20_2 := dA D20 2 rfl
def d20_5 := dA D20 3 rfl
def d20_6 := dA D20 4 rfl
def d20_7 := dA D20 5 rfl
def d20_10 := dA D20 6 rfl
def d20_11 := dA D20 7 rfl
def d20_12 := dA D20 8 rfl
def d20_13 := dA D20 9 rfl
def d20_16 := dA D20 10 rfl
def d20_17 := dA D20 11 rfl
def d20_20 := dA D20 12 rfl
def d20_23 := dA D20 13 rfl
def d20_24 := dA D20 14 rfl
theorem D21 : Dl jdk_38_method_24_code [(0, .iload_n 3, 1), (1, .aload_n 2, 1), (2, .arraylength, 1), (3, .if_icmp .ne 8, 3), (6, .aload_n 0, 1), (7, .invokevirtual 129, 3), (10, .astore_n 2, 1), (11, .aload_n 2, 1), (12, .iload_n 3, 1), (13, .aload_n 1, 1), (14, .aastore, 1), (15, .aload_n 0, 1), (16, .iload_n 3, 1), (17, .iconst 1, 1), (18, .iadd, 1), (19, .putfield 48, 3), (22, .return_, 1)] := by decide +kernel
def d21_0 := dA D21 0 rfl
def d21_1 := dA D21 1 rfl
def d21_2 := dA D21 2 rfl
def d21_3 := dA D21 3 rfl
def d21_6 := dA D21 4 rfl
def d21_7 := dA D21 5 rfl
def d21_10 := dA D21 6 rfl
def d21_11 := dA D21 7 rfl
def d21_12 := dA D21 8 rfl
def d21_13 := dA D21 9 rfl
def d21_14 := dA D21 10 rfl
def d21_15 := dA D21 11 rfl
def d21_16 := dA D21 12 rfl
def d21_17 := dA D21 13 rfl
def d21_18 := dA D21 14 rfl
def d21_19 := dA D21 15 rfl
def d21_22 := dA D21 16 rfl
theorem D22 : Dl jdk_38_method_7_code [(0, .aload_n 0, 1), (1, .aload_n 0, 1), (2, .getfield 48, 3), (5, .iconst 1, 1), (6, .iadd, 1), (7, .invokevirtual 69, 3), (10, .areturn, 1)] := by decide +kernel
def d22_0 := dA D22 0 rfl
def d22_1 := dA D22 1 rfl
def d22_2 := dA D22 2 rfl
def d22_5 := dA D22 3 rfl
def d22_6 := dA D22 4 rfl
def d22_7 := dA D22 5 rfl
def d22_10 := dA D22 6 rfl
theorem D23 : Dl jdk_38_method_6_code [(0, .aload_n 0, 1), (1, .getfield 9, 3), (4, .arraylength, 1), (5, .istore_n 2, 1), (6, .iload_n 2, 1), (7, .ifCond .gt 13, 3), (10, .aload_n 0, 1), (11, .getfield 9, 3), (14, .getstatic 39, 3), (17, .if_acmp .eq 28, 3), (20, .iload_n 2, 1), (21, .iload_n 1, 1), (22, .iload_n 2, 1), (23, .isub, 1), (24, .iload_n 2, 1), (25, .iconst 1, 1), (26, .ishr, 1), (27, .invokestatic 73, 3), (30, .istore_n 3, 1), (31, .aload_n 0, 1), (32, .aload_n 0, 1), (33, .getfield 9, 3), (36, .iload_n 3, 1), (37, .invokestatic 66, 3), (40, .dup_x1, 1), (41, .putfield 9, 3), (44, .areturn, 1), (45, .aload_n 0, 1), (46, .bipush 10, 2), (48, .iload_n 1, 1), (49, .invokestatic 79, 3), (52, .anewarray 7, 3), (55, .dup_x1, 1), (56, .putfield 9, 3), (59, .areturn, 1)] := by decide +kernel
def d23_0 := dA D23 0 rfl
def d23_1 := dA D23 1 rfl
def d23_4 := dA D23 2 rfl
def d23_5 := dA D23 3 rfl
def d23_6 := dA D23 4 rfl
def d23_7 := dA D23 5 rfl
def d23_10 := dA D23 6 rfl
def d23_11 := dA D23 7 rfl
def d23_14 := dA D23 8 rfl
def d23_17 := dA D23 9 rfl
def d23_20 := dA D23 10 rfl
def d23_21 := dA D23 11 rfl
def d23_22 := dA D23 12 rfl
def d23_23 := dA D23 13 rfl
def d23_24 := dA D23 14 rfl
def d23_25 := dA D23 15 rfl
def d23_26 := dA D23 16 rfl
def d23_27 := dA D23 17 rfl
def d23_30 := dA D23 18 rfl
def d23_31 := dA D23 19 rfl
def d23_32 := dA D23 20 rfl
def d23_33 := dA D23 21 rfl
def d23_36 := dA D23 22 rfl
def d23_37 := dA D23 23 rfl
def d23_40 := dA D23 24 rfl
def d23_41 := dA D23 25 rfl
def d23_44 := dA D23 26 rfl
def d23_45 := dA D23 27 rfl
def d23_46 := dA D23 28 rfl
def d23_48 := dA D23 29 rfl
def d23_49 := dA D23 30 rfl
def d23_52 := dA D23 31 rfl
def d23_55 := dA D23 32 rfl
def d23_56 := dA D23 33 rfl
def d23_59 := dA D23 34 rfl
theorem D24 : Dl jdk_48_method_27_code [(0, .iload_n 0, 1), (1, .iload_n 1, 1), (2, .iload_n 2, 1), (3, .invokestatic 194, 3), (6, .iadd, 1), (7, .istore_n 3, 1), (8, .iconst 0, 1), (9, .iload_n 3, 1), (10, .if_icmp .ge 11, 3), (13, .iload_n 3, 1), (14, .ldc 200, 2), (16, .if_icmp .gt 5, 3), (19, .iload_n 3, 1), (20, .ireturn, 1)] := by decide +kernel
def d24_0 := dA D24 0 rfl
def d24_1 := dA D24 1 rfl
def d24_2 := dA D24 2 rfl
def d24_3 := dA D24 3 rfl
def d24_6 := dA D24 4 rfl
def d24_7 := dA D24 5 rfl
def d24_8 := dA D24 6 rfl
def d24_9 := dA D24 7 rfl
def d24_10 := dA D24 8 rfl
def d24_13 := dA D24 9 rfl
def d24_14 := dA D24 10 rfl
def d24_16 := dA D24 11 rfl
def d24_19 := dA D24 12 rfl
def d24_20 := dA D24 13 rfl
theorem D25 : Dl jdk_29_method_65_code [(0, .iload_n 0, 1), (1, .iload_n 1, 1), (2, .if_icmp .lt 7, 3), (5, .iload_n 0, 1), (6, .goto 4, 3), (9, .iload_n 1, 1), (10, .ireturn, 1)] := by decide +kernel
def d25_0 := dA D25 0 rfl
def d25_1 := dA D25 1 rfl
def d25_2 := dA D25 2 rfl
def d25_5 := dA D25 3 rfl
def d25_6 := dA D25 4 rfl
def d25_9 := dA D25 5 rfl
def d25_10 := dA D25 6 rfl
theorem D26 : Dl prog_22_method_1_code [(0, .aload_n 0, 1), (1, .invokespecial 1, 3), (4, .new 7, 3), (7, .dup, 1), (8, .invokespecial 9, 3), (11, .astore_n 2, 1), (12, .aload_n 1, 1), (13, .invokeinterface 10 1, 5), (18, .astore_n 3, 1), (19, .aload_n 3, 1), (20, .invokeinterface 16 1, 5), (25, .ifCond .eq 61, 3), (28, .aload_n 3, 1), (29, .invokeinterface 22 1, 5), (34, .checkcast 26, 3), (37, .astore 4, 2), (39, .aload_n 2, 1), (40, .aload 4, 2), (42, .invokestatic 28, 3), (45, .ifCond .ne 29, 3), (74, .aload_n 2, 1), (75, .aload 4, 2), (77, .invokeinterface 49 2, 5), (82, .pop, 1), (83, .goto (-64), 3), (86, .aload_n 2, 1), (87, .invokestatic 53, 3), (90, .astore_n 1, 1), (91, .aload_n 0, 1), (92, .aload_n 1, 1), (93, .putfield 57, 3), (96, .return_, 1)] := by decide +kernel
def d26_0 := dA D26 0 rfl
def d26_1 := dA D26 1 rfl
def d26_4 := dA D26 2 rfl
def d26_7 := dA D26 3 rfl
def d26_8 := dA D26 4 rfl
def d26_11 := dA D26 5 rfl
def d26_12 := dA D26 6 rfl
def d26_13 := dA D26 7 rfl
def d26_18 := dA D26 8 rfl
def d26_19 := dA D26 9 rfl
def d26_20 := dA D26 10 rfl
def d26_25 := dA D26 11 rfl
def d26_28 := dA D26 12 rfl
def d26_29 := dA D26 13 rfl
def d26_34 := dA D26 14 rfl
def d26_37 := dA D26 15 rfl
def d26_39 := dA D26 16 rfl
def d26_40 := dA D26 17 rfl
def d26_42 := dA D26 18 rfl
def d26_45 := dA D26 19 rfl
def d26_74 := dA D26 20 rfl
def d26_75 := dA D26 21 rfl
def d26_77 := dA D26 22 rfl
def d26_82 := dA D26 23 rfl
def d26_83 := dA D26 24 rfl
def d26_86 := dA D26 25 rfl
def d26_87 := dA D26 26 rfl
def d26_90 := dA D26 27 rfl
def d26_91 := dA D26 28 rfl
def d26_92 := dA D26 29 rfl
def d26_93 := dA D26 30 rfl
def d26_96 := dA D26 31 rfl
theorem D27 : Dl jdk_38_method_2_code [(0, .aload_n 0, 1), (1, .invokespecial 1, 3), (4, .aload_n 0, 1), (5, .getstatic 39, 3), (8, .putfield 9, 3), (11, .return_, 1)] := by decide +kernel
def d27_0 := dA D27 0 rfl
def d27_1 := dA D27 1 rfl
def d27_4 := dA D27 2 rfl
def d27_5 := dA D27 3 rfl
def d27_8 := dA D27 4 rfl
def d27_11 := dA D27 5 rfl
theorem D28 : Dl jdk_38_method_55_code [(0, .new 267, 3), (3, .dup, 1), (4, .aload_n 0, 1), (5, .invokespecial 269, 3), (8, .areturn, 1)] := by decide +kernel
def d28_0 := dA D28 0 rfl
def d28_3 := dA D28 1 rfl
def d28_4 := dA D28 2 rfl
def d28_5 := dA D28 3 rfl
def d28_8 := dA D28 4 rfl
theorem D29 : Dl jdk_49_method_1_code [(0, .aload_n 0, 1), (1, .aload_n 1, 1), (2, .putfield 1, 3), (5, .aload_n 0, 1), (6, .invokespecial 7, 3), (9, .aload_n 0, 1), (10, .iconst (-1), 1), (11, .putfield 13, 3), (14, .aload_n 0, 1), (15, .aload_n 0, 1), (16, .getfield 1, 3), (19, .getfield 17, 3), (22, .putfield 22, 3), (25, .return_, 1)] := by decide +kernel
def d29_0 := dA D29 0 rfl
def d29_1 := dA D29 1 rfl
def d29_2 := dA D29 2 rfl
def d29_5 := dA D29 3 rfl
def d29_6 := dA D29 4 rfl
def d29_9 := dA D29 5 rfl
def d29_10 := dA D29 6 rfl
def d29_11 := dA D29 7 rfl
def d29_14 := dA D29 8 rfl
def d29_15 := dA D29 9 rfl
def d29_16 := dA D29 10 rfl
def d29_19 := dA D29 11 rfl
def d29_22 := dA D29 12 rfl
def d29_25 := dA D29 13 rfl
theorem D30 : Dl jdk_49_method_2_code [(0, .aload_n 0, 1), (1, .getfield 25, 3), (4, .aload_n 0, 1), (5, .getfield 1, 3), (8, .getfield 28, 3), (11, .if_icmp .eq 7, 3), (14, .iconst 1, 1), (15, .goto 4, 3), (18, .iconst 0, 1), (19, .ireturn, 1)] := by decide +kernel
def d30_0 := dA D30 0 rfl
def d30_1 := dA D30 1 rfl
def d30_4 := dA D30 2 rfl
def d30_5 := dA D30 3 rfl
def d30_8 := dA D30 4 rfl
def d30_11 := dA D30 5 rfl
def d30_14 := dA D30 6 rfl
def d30_15 := dA D30 7 rfl
def d30_18 := dA D30 8 rfl
def d30_19 := dA D30 9 rfl
theorem D31 : Dl jdk_49_method_3_code [(0, .aload_n 0, 1), (1, .invokevirtual 31, 3), (4, .aload_n 0, 1), (5, .getfield 25, 3), (8, .istore_n 1, 1), (9, .iload_n 1, 1), (10, .aload_n 0, 1), (11, .getfield 1, 3), (14, .getfield 28, 3), (17, .if_icmp .lt 11, 3), (28, .aload_n 0, 1), (29, .getfield 1, 3), (32, .getfield 37, 3), (35, .astore_n 2, 1), (36, .iload_n 1, 1), (37, .aload_n 2, 1), (38, .arraylength, 1), (39, .if_icmp .lt 11, 3), (50, .aload_n 0, 1), (51, .iload_n 1, 1), (52, .iconst 1, 1), (53, .iadd, 1), (54, .putfield 25, 3), (57, .aload_n 2, 1), (58, .aload_n 0, 1), (59, .iload_n 1, 1), (60, .dup_x1, 1), (61, .putfield 13, 3), (64, .aaload, 1), (65, .areturn, 1)] := by decide +kernel
def d31_0 := dA D31 0 rfl
def d31_1 := dA D31 1 rfl
def d31_4 := dA D31 2 rfl
def d31_5 := dA D31 3 rfl
def d31_8 := dA D31 4 rfl
def d31_9 := dA D31 5 rfl
def d31_10 := dA D31 6 rfl
def d31_11 := dA D31 7 rfl
def d31_14 := dA D31 8 rfl
def d31_17 := dA D31 9 rfl
def d31_28 := dA D31 10 rfl
def d31_29 := dA D31 11 rfl
def d31_32 := dA D31 12 rfl
def d31_35 := dA D31 13 rfl
def d31_36 := dA D31 14 rfl
def d31_37 := dA D31 15 rfl
def d31_38 := dA D31 16 rfl
def d31_39 := dA D31 17 rfl
def d31_50 := dA D31 18 rfl
def d31_51 := dA D31 19 rfl
def d31_52 := dA D31 20 rfl
def d31_53 := dA D31 21 rfl
def d31_54 := dA D31 22 rfl
def d31_57 := dA D31 23 rfl
def d31_58 := dA D31 24 rfl
def d31_59 := dA D31 25 rfl
def d31_60 := dA D31 26 rfl
def d31_61 := dA D31 27 rfl
def d31_64 := dA D31 28 rfl
def d31_65 := dA D31 29 rfl
theorem D32 : Dl jdk_49_method_6_code [(0, .aload_n 0, 1), (1, .getfield 1, 3), (4, .getfield 17, 3), (7, .aload_n 0, 1), (8, .getfield 22, 3), (11, .if_icmp .eq 11, 3), (22, .return_, 1)] := by decide +kernel
def d32_0 := dA D32 0 rfl
def d32_1 := dA D32 1 rfl
def d32_4 := dA D32 2 rfl
def d32_7 := dA D32 3 rfl
def d32_8 := dA D32 4 rfl
def d32_11 := dA D32 5 rfl
def d32_22 := dA D32 6 rfl
theorem D33 : Dl prog_22_method_11_code [(0, .aload_n 0, 1), (1, .invokeinterface 61 1, 5), (6, .ifCond .eq 7, 3), (9, .aconst_null, 1), (10, .goto 20, 3), (13, .aload_n 0, 1), (14, .aload_n 0, 1), (15, .invokeinterface 64 1, 5), (20, .iconst 1, 1), (21, .isub, 1), (22, .invokeinterface 68 2, 5), (27, .checkcast 26, 3), (30, .astore_n 2, 1), (31, .aload_n 1, 1), (32, .invokevirtual 72, 3), (35, .ifCond .lt 43, 3), (38, .aload_n 1, 1), (39, .invokevirtual 81, 3), (42, .lconst 0, 1), (43, .lcmp, 1), (44, .ifCond .lt 34, 3), (47, .aload_n 2, 1), (48, .ifnull 26, 3), (51, .aload_n 1, 1), (52, .invokevirtual 72, 3), (55, .aload_n 2, 1), (56, .invokevirtual 72, 3), (59, .if_icmp .le 19, 3), (62, .aload_n 1, 1), (63, .invokevirtual 81, 3), (66, .aload_n 2, 1), (67, .invokevirtual 81, 3), (70, .lcmp, 1), (71, .ifCond .le 7, 3), (74, .iconst 1, 1), (75, .goto 4, 3), (79, .ireturn, 1)] := by decide +kernel
def d33_0 := dA D33 0 rfl
def d33_1 := dA D33 1 rfl
def d33_6 := dA D33 2 rfl
def d33_9 := dA D33 3 rfl
def d33_10 := dA D33 4 rfl
def d33_13 := dA D33 5 rfl
def d33_14 := dA D33 6 rfl
def d33_15 := dA D33 7 rfl
def d33_20 := dA D33 8 rfl
def d33_21 := dA D33 9 rfl
def d33_22 := dA D33 10 rfl
def d33_27 := dA D33 11 rfl
def d33_30 := dA D33 12 rfl
def d33_31 := dA D33 13 rfl
def d33_32 := dA D33 14 rfl
def d33_35 := dA D33 15 rfl
def d33_38 := dA D33 16 rfl
def d33_39 := dA D33 17 rfl
def d33_42 := dA D33 18 rfl
def d33_43 := dA D33 19 rfl
def d33_44 := dA D33 20 rfl
def d33_47 := dA D33 21 rfl
def d33_48 := dA D33 22 rfl
def d33_51 := dA D33 23 rfl
def d33_52 := dA D33 24 rfl
def d33_55 := dA D33 25 rfl
def d33_56 := dA D33 26 rfl
def d33_59 := dA D33 27 rfl
def d33_62 := dA D33 28 rfl
def d33_63 := dA D33 29 rfl
def d33_66 := dA D33 30 rfl
def d33_67 := dA D33 31 rfl
def d33_70 := dA D33 32 rfl
def d33_71 := dA D33 33 rfl
def d33_74 := dA D33 34 rfl
def d33_75 := dA D33 35 rfl
def d33_79 := dA D33 36 rfl
theorem D34 : Dl prog_23_method_5_code [(0, .aload_n 0, 1), (1, .getfield 7, 3), (4, .ireturn, 1)] := by decide +kernel
def d34_0 := dA D34 0 rfl
def d34_1 := dA D34 1 rfl
def d34_4 := dA D34 2 rfl
theorem D35 : Dl prog_23_method_6_code [(0, .aload_n 0, 1), (1, .getfield 13, 3), (4, .lreturn, 1)] := by decide +kernel
def d35_0 := dA D35 0 rfl
def d35_1 := dA D35 1 rfl
def d35_4 := dA D35 2 rfl
theorem D36 : Dl jdk_40_method_48_code [(0, .aload_n 0, 1), (1, .invokestatic 112, 3), (4, .areturn, 1)] := by decide +kernel
def d36_0 := dA D36 0 rfl
def d36_1 := dA D36 1 rfl
def d36_4 := dA D36 2 rfl
theorem D37 : Dl jdk_56_method_3_code [(0, .aload_n 0, 1), (1, .instanceof 10, 3), (4, .ifCond .ne 22, 3), (7, .aload_n 0, 1), (8, .instanceof 12, 3), (11, .ifCond .eq 20, 3), (31, .aload_n 0, 1), (32, .invokeinterface 20 1, 5), (37, .ifCond .eq 7, 3), (40, .invokestatic 26, 3), (43, .areturn, 1), (44, .aload_n 0, 1), (45, .invokeinterface 30 1, 5), (50, .invokestatic 34, 3), (53, .areturn, 1)] := by decide +kernel
def d37_0 := dA D37 0 rfl
def d37_1 := dA D37 1 rfl
def d37_4 := dA D37 2 rfl
def d37_7 := dA D37 3 rfl
def d37_8 := dA D37 4 rfl
def d37_11 := dA D37 5 rfl
def d37_31 := dA D37 6 rfl
def d37_32 := dA D37 7 rfl
def d37_37 := dA D37 8 rfl
def d37_40 := dA D37 9 rfl
def d37_43 := dA D37 10 rfl
def d37_44 := dA D37 11 rfl
def d37_45 := dA D37 12 rfl
def d37_50 := dA D37 13 rfl
def d37_53 := dA D37 14 rfl
theorem D38 : Dl jdk_38_method_16_code [(0, .aload_n 0, 1), (1, .getfield 9, 3), (4, .aload_n 0, 1), (5, .getfield 48, 3), (8, .invokestatic 66, 3), (11, .areturn, 1)] := by decide +kernel
def d38_0 := dA D38 0 rfl
def d38_1 := dA D38 1 rfl
def d38_4 := dA D38 2 rfl
def d38_5 := dA D38 3 rfl
def d38_8 := dA D38 4 rfl
def d38_11 := dA D38 5 rfl
theorem D39 : Dl jdk_40_method_47_code [(0, .aload_n 0, 1), (1, .arraylength, 1), (2, .tableswitch 57 0 2 #[26, 32, 43], 26), (34, .new 96, 3), (37, .dup, 1), (38, .aload_n 0, 1), (39, .iconst 0, 1), (40, .aaload, 1), (41, .invokespecial 98, 3), (44, .areturn, 1), (45, .new 96, 3), (48, .dup, 1), (49, .aload_n 0, 1), (50, .iconst 0, 1), (51, .aaload, 1), (52, .aload_n 0, 1), (53, .iconst 1, 1), (54, .aaload, 1), (55, .invokespecial 100, 3), (58, .areturn, 1)] := by decide +kernel
def d39_0 := dA D39 0 rfl
def d39_1 := dA D39 1 rfl
def d39_2 := dA D39 2 rfl
def d39_34 := dA D39 3 rfl
def d39_37 := dA D39 4 rfl
def d39_38 := dA D39 5 rfl
def d39_39 := dA D39 6 rfl
def d39_40 := dA D39 7 rfl
def d39_41 := dA D39 8 rfl
def d39_44 := dA D39 9 rfl
def d39_45 := dA D39 10 rfl
def d39_48 := dA D39 11 rfl
def d39_49 := dA D39 12 rfl
def d39_50 := dA D39 13 rfl
def d39_51 := dA D39 14 rfl
def d39_52 := dA D39 15 rfl
def d39_53 := dA D39 16 rfl
def d39_54 := dA D39 17 rfl
def d39_55 := dA D39 18 rfl
def d39_58 := dA D39 19 rfl
theorem D40 : Dl jdk_44_method_1_code [(0, .aload_n 0, 1), (1, .invokespecial 1, 3), (4, .aload_n 0, 1), (5, .aload_n 1, 1), (6, .invokestatic 7, 3), (9, .putfield 13, 3), (12, .aload_n 0, 1), (13, .getstatic 19, 3), (16, .putfield 24, 3), (19, .return_, 1)] := by decide +kernel
def d40_0 := dA D40 0 rfl
def d40_1 := dA D40 1 rfl
def d40_4 := dA D40 2 rfl
def d40_5 := dA D40 3 rfl
def d40_6 := dA D40 4 rfl
def d40_9 := dA D40 5 rfl
def d40_12 := dA D40 6 rfl
def d40_13 := dA D40 7 rfl
def d40_16 := dA D40 8 rfl
def d40_19 := dA D40 9 rfl
theorem D41 : Dl jdk_46_method_1_code [(0, .aload_n 0, 1), (1, .invokespecial 1, 3), (4, .return_, 1)] := by decide +kernel
def d41_0 := dA D41 0 rfl
def d41_1 := dA D41 1 rfl
def d41_4 := dA D41 2 rfl
theorem D42 : Dl jdk_47_method_1_code [(0, .aload_n 0, 1), (1, .invokespecial 1, 3), (4, .return_, 1)] := by decide +kernel
def d42_0 := dA D42 0 rfl
def d42_1 := dA D42 1 rfl
def d42_4 := dA D42 2 rfl
theorem D43 : Dl jdk_31_method_10_code [(0, .aload_n 0, 1), (1, .ifnonnull 11, 3), (12, .aload_n 0, 1), (13, .areturn, 1)] := by decide +kernel
def d43_0 := dA D43 0 rfl
def d43_1 := dA D43 1 rfl
def d43_12 := dA D43 2 rfl
def d43_13 := dA D43 3 rfl
theorem D44 : Dl jdk_44_method_10_code [(0, .aload_n 0, 1), (1, .getfield 24, 3), (4, .getstatic 19, 3), (7, .if_acmp .ne 15, 3), (10, .iconst 1, 1), (11, .anewarray 32, 3), (14, .dup, 1), (15, .iconst 0, 1), (16, .aload_n 0, 1), (17, .getfield 13, 3), (20, .aastore, 1), (21, .areturn, 1)] := by decide +kernel
def d44_0 := dA D44 0 rfl
def d44_1 := dA D44 1 rfl
def d44_4 := dA D44 2 rfl
def d44_7 := dA D44 3 rfl
def d44_10 := dA D44 4 rfl
def d44_11 := dA D44 5 rfl
def d44_14 := dA D44 6 rfl
def d44_15 := dA D44 7 rfl
def d44_16 := dA D44 8 rfl
def d44_17 := dA D44 9 rfl
def d44_20 := dA D44 10 rfl
def d44_21 := dA D44 11 rfl
theorem D45 : Dl jdk_38_method_8_code [(0, .aload_n 0, 1), (1, .getfield 48, 3), (4, .ireturn, 1)] := by decide +kernel
def d45_0 := dA D45 0 rfl
def d45_1 := dA D45 1 rfl
def d45_4 := dA D45 2 rfl
theorem D46 : Dl jdk_38_method_20_code [(0, .iload_n 1, 1), (1, .aload_n 0, 1), (2, .getfield 48, 3), (5, .invokestatic 118, 3), (8, .pop, 1), (9, .aload_n 0, 1), (10, .iload_n 1, 1), (11, .invokevirtual 123, 3), (14, .areturn, 1)] := by decide +kernel
def d46_0 := dA D46 0 rfl
def d46_1 := dA D46 1 rfl
def d46_2 := dA D46 2 rfl
def d46_5 := dA D46 3 rfl
def d46_8 := dA D46 4 rfl
def d46_9 := dA D46 5 rfl
def d46_10 := dA D46 6 rfl
def d46_11 := dA D46 7 rfl
def d46_14 := dA D46 8 rfl
theorem D47 : Dl jdk_31_method_17_code [(0, .iload_n 0, 1), (1, .iload_n 1, 1), (2, .aconst_null, 1), (3, .invokestatic 105, 3), (6, .ireturn, 1)] := by decide +kernel
def d47_0 := dA D47 0 rfl
def d47_1 := dA D47 1 rfl
def d47_2 := dA D47 2 rfl
def d47_3 := dA D47 3 rfl
def d47_6 := dA D47 4 rfl
theorem D48 : Dl jdk_41_method_11_code [(0, .iload_n 0, 1), (1, .ifCond .lt 8, 3), (4, .iload_n 0, 1), (5, .iload_n 1, 1), (6, .if_icmp .lt 10, 3), (16, .iload_n 0, 1), (17, .ireturn, 1)] := by decide +kernel
def d48_0 := dA D48 0 rfl
def d48_1 := dA D48 1 rfl
def d48_4 := dA D48 2 rfl
def d48_5 := dA D48 3 rfl
def d48_6 := dA D48 4 rfl
def d48_16 := dA D48 5 rfl
def d48_17 := dA D48 6 rfl
theorem D49 : Dl jdk_38_method_18_code [(0, .aload_n 0, 1), (1, .getfield 9, 3), (4, .iload_n 1, 1), (5, .aaload, 1), (6, .areturn, 1)] := by decide +kernel
def d49_0 := dA D49 0 rfl
def d49_1 := dA D49 1 rfl
def d49_4 := dA D49 2 rfl
def d49_5 := dA D49 3 rfl
def d49_6 := dA D49 4 rfl
theorem D50 : Dl jdk_44_method_2_code [(0, .aload_n 0, 1), (1, .invokespecial 1, 3), (4, .aload_n 0, 1), (5, .aload_n 1, 1), (6, .invokestatic 7, 3), (9, .putfield 13, 3), (12, .aload_n 0, 1), (13, .aload_n 2, 1), (14, .invokestatic 7, 3), (17, .putfield 24, 3), (20, .return_, 1)] := by decide +kernel
def d50_0 := dA D50 0 rfl
def d50_1 := dA D50 1 rfl
def d50_4 := dA D50 2 rfl
def d50_5 := dA D50 3 rfl
def d50_6 := dA D50 4 rfl
def d50_9 := dA D50 5 rfl
def d50_12 := dA D50 6 rfl
def d50_13 := dA D50 7 rfl
def d50_14 := dA D50 8 rfl
def d50_17 := dA D50 9 rfl
def d50_20 := dA D50 10 rfl
theorem D51 : Dl jdk_44_method_4_code [(0, .iconst 0, 1), (1, .ireturn, 1)] := by decide +kernel
def d51_0 := dA D51 0 rfl
def d51_1 := dA D51 1 rfl
theorem D52 : Dl prog_22_method_15_code [(0, .aload_n 0, 1), (1, .getfield 57, 3), (4, .areturn, 1)] := by decide +kernel
def d52_0 := dA D52 0 rfl
def d52_1 := dA D52 1 rfl
def d52_4 := dA D52 2 rfl
theorem D53 : Dl jdk_44_method_5_code [(0, .iload_n 1, 1), (1, .ifCond .ne 8, 3), (4, .aload_n 0, 1), (5, .getfield 13, 3), (8, .areturn, 1), (9, .iload_n 1, 1), (10, .iconst 1, 1), (11, .if_icmp .ne 18, 3), (14, .aload_n 0, 1), (15, .getfield 24, 3), (18, .getstatic 19, 3), (21, .if_acmp .eq 8, 3), (24, .aload_n 0, 1), (25, .getfield 24, 3), (28, .areturn, 1)] := by decide +kernel
def d53_0 := dA D53 0 rfl
def d53_1 := dA D53 1 rfl
def d53_4 := dA D53 2 rfl
def d53_5 := dA D53 3 rfl
def d53_8 := dA D53 4 rfl
def d53_9 := dA D53 5 rfl
def d53_10 := dA D53 6 rfl
def d53_11 := dA D53 7 rfl
def d53_14 := dA D53 8 rfl
def d53_15 := dA D53 9 rfl
def d53_18 := dA D53 10 rfl
def d53_21 := dA D53 11 rfl
def d53_24 := dA D53 12 rfl
def d53_25 := dA D53 13 rfl
def d53_28 := dA D53 14 rfl
theorem D54 : Dl prog_15_method_11_code [(0, .aload_n 0, 1), (1, .getfield 45, 3), (4, .areturn, 1)] := by decide +kernel
def d54_0 := dA D54 0 rfl
def d54_1 := dA D54 1 rfl
def d54_4 := dA D54 2 rfl
theorem D55 : Dl prog_15_method_4_code [(0, .aload_n 0, 1), (1, .invokevirtual 63, 3), (4, .ifCond .ne 10, 3), (7, .aload_n 0, 1), (8, .getfield 60, 3), (11, .ifCond .eq 13, 3), (24, .aload_n 0, 1), (25, .getfield 45, 3), (28, .invokevirtual 23, 3), (31, .ifCond .eq 10, 3), (34, .aload_n 0, 1), (35, .getfield 42, 3), (38, .goto 10, 3), (41, .aload_n 0, 1), (42, .getfield 45, 3), (45, .invokevirtual 73, 3), (48, .ireturn, 1)] := by decide +kernel
def d55_0 := dA D55 0 rfl
def d55_1 := dA D55 1 rfl
def d55_4 := dA D55 2 rfl
def d55_7 := dA D55 3 rfl
def d55_8 := dA D55 4 rfl
def d55_11 := dA D55 5 rfl
def d55_24 := dA D55 6 rfl
def d55_25 := dA D55 7 rfl
def d55_28 := dA D55 8 rfl
def d55_31 := dA D55 9 rfl
def d55_34 := dA D55 10 rfl
def d55_35 := dA D55 11 rfl
def d55_38 := dA D55 12 rfl
def d55_41 := dA D55 13 rfl
def d55_42 := dA D55 14 rfl
def d55_45 := dA D55 15 rfl
def d55_48 := dA D55 16 rfl
theorem D56 : Dl prog_22_method_3_code [(0, .aload_n 0, 1), (1, .getfield 57, 3), (4, .invokeinterface 61 1, 5), (9, .ifCond .eq 7, 3), (16, .aload_n 0, 1), (17, .getfield 57, 3), (20, .aload_n 0, 1), (21, .getfield 57, 3), (24, .invokeinterface 64 1, 5), (29, .iconst 1, 1), (30, .isub, 1), (31, .invokeinterface 68 2, 5), (36, .checkcast 26, 3), (39, .invokevirtual 72, 3), (42, .ireturn, 1)] := by decide +kernel
def d56_0 := dA D56 0 rfl
def d56_1 := dA D56 1 rfl
def d56_4 := dA D56 2 rfl
def d56_9 := dA D56 3 rfl
def d56_16 := dA D56 4 rfl
def d56_17 := dA D56 5 rfl
def d56_20 := dA D56 6 rfl
def d56_21 := dA D56 7 rfl
def d56_24 := dA D56 8 rfl
def d56_29 := dA D56 9 rfl
def d56_30 := dA D56 10 rfl
def d56_31 := dA D56 11 rfl
def d56_36 := dA D56 12 rfl
def d56_39 := dA D56 13 rfl
def d56_42 := dA D56 14 rfl
theorem D57 : Dl jdk_44_method_3_code [(0, .aload_n 0, 1), (1, .getfield 24, 3), (4, .getstatic 19, 3), (7, .if_acmp .eq 7, 3), (10, .iconst 2, 1), (11, .goto 4, 3), (14, .iconst 1, 1), (15, .ireturn, 1)] := by decide +kernel
def d57_0 := dA D57 0 rfl
def d57_1 := dA D57 1 rfl
def d57_4 := dA D57 2 rfl
def d57_7 := dA D57 3 rfl
def d57_10 := dA D57 4 rfl
def d57_11 := dA D57 5 rfl
def d57_14 := dA D57 6 rfl
def d57_15 := dA D57 7 rfl
theorem D58 : Dl prog_19_method_1_code [(0, .aload_n 0, 1), (1, .invokespecial 1, 3), (4, .aload_n 0, 1), (5, .iload_n 1, 1), (6, .putfield 7, 3), (9, .aload_n 0, 1), (10, .lload_n 2, 1), (11, .putfield 13, 3), (14, .return_, 1)] := by decide +kernel
def d58_0 := dA D58 0 rfl
def d58_1 := dA D58 1 rfl
def d58_4 := dA D58 2 rfl
def d58_5 := dA D58 3 rfl
def d58_6 := dA D58 4 rfl
def d58_9 := dA D58 5 rfl
def d58_10 := dA D58 6 rfl
def d58_11 := dA D58 7 rfl
def d58_14 := dA D58 8 rfl
theorem D59 : Dl prog_15_method_5_code [(0, .aload_n 0, 1), (1, .invokevirtual 76, 3), (4, .istore_n 2, 1), (5, .aload_n 1, 1), (6, .iload_n 2, 1), (7, .invokevirtual 79, 3), (10, .ifCond .ne 31, 3), (41, .aload_n 0, 1), (42, .aload_n 1, 1), (43, .invokevirtual 13, 3), (46, .putfield 17, 3), (49, .aload_n 0, 1), (50, .getfield 17, 3), (53, .getstatic 7, 3), (56, .invokevirtual 13, 3), (59, .if_icmp .ne 11, 3), (62, .aload_n 0, 1), (63, .iconst 1, 1), (64, .putfield 60, 3), (67, .goto 93, 3), (70, .aload_n 0, 1), (71, .getfield 45, 3), (74, .aload_n 1, 1), (75, .aload_n 0, 1), (76, .getfield 49, 3), (79, .invokevirtual 100, 3), (82, .lstore_n 3, 1), (83, .lload_n 3, 1), (84, .aload_n 0, 1), (85, .getfield 49, 3), (88, .lcmp, 1), (89, .ifCond .ge 13, 3), (92, .aload_n 0, 1), (93, .lload_n 3, 1), (94, .putfield 49, 3), (97, .aload_n 0, 1), (98, .iconst 1, 1), (99, .putfield 104, 3), (102, .aload_n 0, 1), (103, .aload_n 0, 1), (104, .getfield 17, 3), (107, .iload_n 2, 1), (108, .if_icmp .ne 7, 3), (111, .iconst 1, 1), (112, .goto 4, 3), (115, .iconst 0, 1), (116, .putfield 53, 3), (119, .aload_n 0, 1), (120, .aload_n 0, 1), (121, .getfield 53, 3), (124, .ifCond .ne 17, 3), (127, .aload_n 0, 1), (128, .getfield 45, 3), (131, .invokevirtual 23, 3), (134, .ifCond .eq 7, 3), (137, .iconst 1, 1), (138, .goto 4, 3), (141, .iconst 0, 1), (142, .putfield 57, 3), (145, .aload_n 0, 1), (146, .aload_n 0, 1), (147, .getfield 45, 3), (150, .aload_n 0, 1), (151, .getfield 49, 3), (154, .invokevirtual 107, 3), (157, .putfield 45, 3), (160, .return_, 1)] := by decide +kernel
def d59_0 := dA D59 0 rfl
def d59_1 := dA D59 1 rfl
def d59_4 := dA D59 2 rfl
def d59_5 := dA D59 3 rfl
def d59_6 := dA D59 4 rfl
def d59_7 := dA D59 5 rfl
def d59_10 := dA D59 6 rfl
def d59_41 := dA D59 7 rfl
def d59_42 := dA D59 8 rfl
def d59_43 := dA D59 9 rfl
def d59_46 := dA D59 10 rfl
def d59_49 := dA D59 11 rfl
def d59_50 := dA D59 12 rfl
def d59_53 := dA D59 13 rfl
def d59_56 := dA D59 14 rfl
def d59_59 := dA D59 15 rfl
def d59_62 := dA D59 16 rfl
def d59_63 := dA D59 17 rfl
def d59_64 := dA D59 18 rfl
def d59_67 := dA D59 19 rfl
def d59_70 := dA D59 20 rfl
def d59_71 := dA D59 21 rfl
def d59_74 := dA D59 22 rfl
def d59_75 := dA D59 23 rfl
def d59_76 := dA D59 24 rfl
def d59_79 := dA D59 25 rfl
def d59_82 := dA D59 26 rfl
def d59_83 := dA D59 27 rfl
def d59_84 := dA D59 28 rfl
def d59_85 := dA D59 29 rfl
def d59_88 := dA D59 30 rfl
def d59_89 := dA D59 31 rfl
def d59_92 := dA D59 32 rfl
def d59_93 := dA D59 33 rfl
def d59_94 := dA D59 34 rfl
def d59_97 := dA D59 35 rfl
def d59_98 := dA D59 36 rfl
def d59_99 := dA D59 37 rfl
def d59_102 := dA D59 38 rfl
def d59_103 := dA D59 39 rfl
def d59_104 := dA D59 40 rfl
def d59_107 := dA D59 41 rfl
def d59_108 := dA D59 42 rfl
def d59_111 := dA D59 43 rfl
def d59_112 := dA D59 44 rfl
def d59_115 := dA D59 45 rfl
def d59_116 := dA D59 46 rfl
def d59_119 := dA D59 47 rfl
def d59_120 := dA D59 48 rfl
def d59_121 := dA D59 49 rfl
def d59_124 := dA D59 50 rfl
def d59_127 := dA D59 51 rfl
def d59_128 := dA D59 52 rfl
def d59_131 := dA D59 53 rfl
def d59_134 := dA D59 54 rfl
def d59_137 := dA D59 55 rfl
def d59_138 := dA D59 56 rfl
def d59_141 := dA D59 57 rfl
def d59_142 := dA D59 58 rfl
def d59_145 := dA D59 59 rfl
def d59_146 := dA D59 60 rfl
def d59_147 := dA D59 61 rfl
def d59_150 := dA D59 62 rfl
def d59_151 := dA D59 63 rfl
def d59_154 := dA D59 64 rfl
def d59_157 := dA D59 65 rfl
def d59_160 := dA D59 66 rfl
theorem D60 : Dl prog_19_method_2_code [(0, .aload_n 0, 1), (1, .getfield 7, 3), (4, .getstatic 17, 3), (7, .getfield 7, 3), (10, .if_icmp .eq 27, 3), (13, .aload_n 0, 1), (14, .getfield 7, 3), (17, .ifCond .lt 24, 3), (20, .aload_n 0, 1), (21, .getfield 7, 3), (24, .iload_n 1, 1), (25, .if_icmp .gt 16, 3), (28, .aload_n 0, 1), (29, .getfield 13, 3), (32, .lconst 0, 1), (33, .lcmp, 1), (34, .ifCond .lt 7, 3), (37, .iconst 1, 1), (38, .goto 4, 3), (42, .ireturn, 1)] := by decide +kernel
def d60_0 := dA D60 0 rfl
def d60_1 := dA D60 1 rfl
def d60_4 := dA D60 2 rfl
def d60_7 := dA D60 3 rfl
def d60_10 := dA D60 4 rfl
def d60_13 := dA D60 5 rfl
def d60_14 := dA D60 6 rfl
def d60_17 := dA D60 7 rfl
def d60_20 := dA D60 8 rfl
def d60_21 := dA D60 9 rfl
def d60_24 := dA D60 10 rfl
def d60_25 := dA D60 11 rfl
def d60_28 := dA D60 12 rfl
def d60_29 := dA D60 13 rfl
def d60_32 := dA D60 14 rfl
def d60_33 := dA D60 15 rfl
def d60_34 := dA D60 16 rfl
def d60_37 := dA D60 17 rfl
def d60_38 := dA D60 18 rfl
def d60_42 := dA D60 19 rfl
theorem D61 : Dl prog_22_method_7_code [(0, .aload_n 1, 1), (1, .invokevirtual 85, 3), (4, .aload_n 0, 1), (5, .aload_n 1, 1), (6, .invokevirtual 90, 3), (9, .lload_n 2, 1), (10, .invokevirtual 91, 3), (13, .invokestatic 95, 3), (16, .lreturn, 1)] := by decide +kernel
def d61_0 := dA D61 0 rfl
def d61_1 := dA D61 1 rfl
def d61_4 := dA D61 2 rfl
def d61_5 := dA D61 3 rfl
def d61_6 := dA D61 4 rfl
def d61_9 := dA D61 5 rfl
def d61_10 := dA D61 6 rfl
def d61_13 := dA D61 7 rfl
def d61_16 := dA D61 8 rfl
theorem D62 : Dl prog_19_method_7_code [(0, .aload_n 0, 1), (1, .getfield 13, 3), (4, .lreturn, 1)] := by decide +kernel
def d62_0 := dA D62 0 rfl
def d62_1 := dA D62 1 rfl
def d62_4 := dA D62 2 rfl
theorem D63 : Dl prog_22_method_6_code [(0, .aload_n 0, 1), (1, .getfield 57, 3), (4, .invokeinterface 10 1, 5), (9, .astore 4, 2), (11, .aload 4, 2), (13, .invokeinterface 16 1, 5), (18, .ifCond .eq 33, 3), (21, .aload 4, 2), (23, .invokeinterface 22 1, 5), (28, .checkcast 26, 3), (31, .astore 5, 2), (33, .aload 5, 2), (35, .invokevirtual 72, 3), (38, .iload_n 1, 1), (39, .if_icmp .le 9, 3), (42, .aload 5, 2), (44, .invokevirtual 81, 3), (47, .lreturn, 1), (48, .goto (-37), 3), (51, .lload_n 2, 1), (52, .lreturn, 1)] := by decide +kernel
def d63_0 := dA D63 0 rfl
def d63_1 := dA D63 1 rfl
def d63_4 := dA D63 2 rfl
def d63_9 := dA D63 3 rfl
def d63_11 := dA D63 4 rfl
def d63_13 := dA D63 5 rfl
def d63_18 := dA D63 6 rfl
def d63_21 := dA D63 7 rfl
def d63_23 := dA D63 8 rfl
def d63_28 := dA D63 9 rfl
def d63_31 := dA D63 10 rfl
def d63_33 := dA D63 11 rfl
def d63_35 := dA D63 12 rfl
def d63_38 := dA D63 13 rfl
def d63_39 := dA D63 14 rfl
def d63_42 := dA D63 15 rfl
def d63_44 := dA D63 16 rfl
def d63_47 := dA D63 17 rfl
def d63_48 := dA D63 18 rfl
def d63_51 := dA D63 19 rfl
def d63_52 := dA D63 20 rfl
theorem D64 : Dl jdk_46_method_10_code [(0, .new 61, 3), (3, .dup, 1), (4, .aload_n 0, 1), (5, .aload_n 0, 1), (6, .invokevirtual 13, 3), (9, .invokespecial 63, 3), (12, .areturn, 1)] := by decide +kernel
def d64_0 := dA D64 0 rfl
def d64_3 := dA D64 1 rfl
def d64_4 := dA D64 2 rfl
def d64_5 := dA D64 3 rfl
def d64_6 := dA D64 4 rfl
def d64_9 := dA D64 5 rfl
def d64_12 := dA D64 6 rfl
theorem D65 : Dl jdk_53_method_1_code [(0, .aload_n 0, 1), (1, .invokespecial 1, 3), (4, .aload_n 0, 1), (5, .aload_n 1, 1), (6, .putfield 7, 3), (9, .aload_n 0, 1), (10, .iload_n 2, 1), (11, .putfield 13, 3), (14, .aload_n 0, 1), (15, .iconst 0, 1), (16, .putfield 17, 3), (19, .aload_n 0, 1), (20, .iconst 0, 1), (21, .putfield 20, 3), (24, .return_, 1)] := by decide +kernel
def d65_0 := dA D65 0 rfl
def d65_1 := dA D65 1 rfl
def d65_4 := dA D65 2 rfl
def d65_5 := dA D65 3 rfl
def d65_6 := dA D65 4 rfl
def d65_9 := dA D65 5 rfl
def d65_10 := dA D65 6 rfl
def d65_11 := dA D65 7 rfl
def d65_14 := dA D65 8 rfl
def d65_15 := dA D65 9 rfl
def d65_16 := dA D65 10 rfl
def d65_19 := dA D65 11 rfl
def d65_20 := dA D65 12 rfl
def d65_21 := dA D65 13 rfl
def d65_24 := dA D65 14 rfl
theorem D66 : Dl jdk_53_method_3_code [(0, .aload_n 0, 1), (1, .getfield 17, 3), (4, .aload_n 0, 1), (5, .getfield 13, 3), (8, .if_icmp .eq 7, 3), (11, .iconst 1, 1), (12, .goto 4, 3), (15, .iconst 0, 1), (16, .ireturn, 1)] := by decide +kernel
def d66_0 := dA D66 0 rfl
def d66_1 := dA D66 1 rfl
def d66_4 := dA D66 2 rfl
def d66_5 := dA D66 3 rfl
def d66_8 := dA D66 4 rfl
def d66_11 := dA D66 5 rfl
def d66_12 := dA D66 6 rfl
def d66_15 := dA D66 7 rfl
def d66_16 := dA D66 8 rfl
theorem D67 : Dl jdk_53_method_4_code [(0, .aload_n 0, 1), (1, .getfield 17, 3), (4, .istore_n 1, 1), (5, .aload_n 0, 1), (6, .getfield 7, 3), (9, .iload_n 1, 1), (10, .invokeinterface 24 2, 5), (15, .astore_n 2, 1), (16, .aload_n 0, 1), (17, .iload_n 1, 1), (18, .iconst 1, 1), (19, .iadd, 1), (20, .putfield 17, 3), (23, .aload_n 2, 1), (24, .areturn, 1)] := by decide +kernel
def d67_0 := dA D67 0 rfl
def d67_1 := dA D67 1 rfl
def d67_4 := dA D67 2 rfl
def d67_5 := dA D67 3 rfl
def d67_6 := dA D67 4 rfl
def d67_9 := dA D67 5 rfl
def d67_10 := dA D67 6 rfl
def d67_15 := dA D67 7 rfl
def d67_16 := dA D67 8 rfl
def d67_17 := dA D67 9 rfl
def d67_18 := dA D67 10 rfl
def d67_19 := dA D67 11 rfl
def d67_20 := dA D67 12 rfl
def d67_23 := dA D67 13 rfl
def d67_24 := dA D67 14 rfl
theorem D68 : Dl jdk_29_method_70_code [(0, .lload_n 0, 1), (1, .lload_n 2, 1), (2, .lcmp, 1), (3, .ifCond .gt 7, 3), (6, .lload_n 0, 1), (7, .goto 4, 3), (10, .lload_n 2, 1), (11, .lreturn, 1)] := by decide +kernel
def d68_0 := dA D68 0 rfl
def d68_1 := dA D68 1 rfl
def d68_2 := dA D68 2 rfl
def d68_3 := dA D68 3 rfl
def d68_6 := dA D68 4 rfl
def d68_7 := dA D68 5 rfl
def d68_10 := dA D68 6 rfl
def d68_11 := dA D68 7 rfl
theorem D69 : Dl prog_22_method_9_code [(0, .new 7, 3), (3, .dup, 1), (4, .invokespecial 9, 3), (7, .astore_n 3, 1), (8, .aload_n 0, 1), (9, .getfield 57, 3), (12, .invokeinterface 10 1, 5), (17, .astore 4, 2), (19, .aload 4, 2), (21, .invokeinterface 16 1, 5), (26, .ifCond .eq 37, 3), (29, .aload 4, 2), (31, .invokeinterface 22 1, 5), (36, .checkcast 26, 3), (39, .astore 5, 2), (41, .aload 5, 2), (43, .invokevirtual 81, 3), (46, .lload_n 1, 1), (47, .lcmp, 1), (48, .ifCond .ge 12, 3), (51, .aload_n 3, 1), (52, .aload 5, 2), (54, .invokeinterface 49 2, 5), (59, .pop, 1), (60, .goto (-41), 3), (63, .new 29, 3), (66, .dup, 1), (67, .aload_n 3, 1), (68, .invokespecial 110, 3), (71, .areturn, 1)] := by decide +kernel
def d69_0 := dA D69 0 rfl
def d69_3 := dA D69 1 rfl
def d69_4 := dA D69 2 rfl
def d69_7 := dA D69 3 rfl
def d69_8 := dA D69 4 rfl
def d69_9 := dA D69 5 rfl
def d69_12 := dA D69 6 rfl
def d69_17 := dA D69 7 rfl
def d69_19 := dA D69 8 rfl
def d69_21 := dA D69 9 rfl
def d69_26 := dA D69 10 rfl
def d69_29 := dA D69 11 rfl
def d69_31 := dA D69 12 rfl
def d69_36 := dA D69 13 rfl
def d69_39 := dA D69 14 rfl
def d69_41 := dA D69 15 rfl
def d69_43 := dA D69 16 rfl
def d69_46 := dA D69 17 rfl
def d69_47 := dA D69 18 rfl
def d69_48 := dA D69 19 rfl
def d69_51 := dA D69 20 rfl
def d69_52 := dA D69 21 rfl
def d69_54 := dA D69 22 rfl
def d69_59 := dA D69 23 rfl
def d69_60 := dA D69 24 rfl
def d69_63 := dA D69 25 rfl
def d69_66 := dA D69 26 rfl
def d69_67 := dA D69 27 rfl
def d69_68 := dA D69 28 rfl
def d69_71 := dA D69 29 rfl
theorem D70 : Dl jdk_40_method_36_code [(0, .getstatic 90, 3), (3, .areturn, 1)] := by decide +kernel
def d70_0 := dA D70 0 rfl
def d70_3 := dA D70 1 rfl
theorem D71 : Dl jdk_45_method_3_code [(0, .aload_n 0, 1), (1, .getfield 7, 3), (4, .arraylength, 1), (5, .ireturn, 1)] := by decide +kernel
def d71_0 := dA D71 0 rfl
def d71_1 := dA D71 1 rfl
def d71_4 := dA D71 2 rfl
def d71_5 := dA D71 3 rfl
theorem D72 : Dl prog_15_method_6_code [(0, .aload_n 0, 1), (1, .getfield 60, 3), (4, .ifCond .ne 13, 3), (17, .aload_n 0, 1), (18, .aload_n 0, 1), (19, .getfield 104, 3), (22, .ifCond .eq 14, 3), (25, .aload_n 0, 1), (26, .getfield 49, 3), (29, .lload_n 1, 1), (30, .invokestatic 113, 3), (33, .goto 4, 3), (36, .lload_n 1, 1), (37, .putfield 49, 3), (40, .aload_n 0, 1), (41, .iconst 1, 1), (42, .putfield 104, 3), (45, .aload_n 0, 1), (46, .aload_n 0, 1), (47, .getfield 45, 3), (50, .aload_n 0, 1), (51, .getfield 49, 3), (54, .invokevirtual 107, 3), (57, .putfield 45, 3), (60, .aload_n 0, 1), (61, .iconst 0, 1), (62, .putfield 60, 3), (65, .aload_n 0, 1), (66, .iconst 1, 1), (67, .putfield 53, 3), (70, .return_, 1)] := by decide +kernel
def d72_0 := dA D72 0 rfl
def d72_1 := dA D72 1 rfl
def d72_4 := dA D72 2 rfl
def d72_17 := dA D72 3 rfl
def d72_18 := dA D72 4 rfl
def d72_19 := dA D72 5 rfl
def d72_22 := dA D72 6 rfl
def d72_25 := dA D72 7 rfl
def d72_26 := dA D72 8 rfl
def d72_29 := dA D72 9 rfl
def d72_30 := dA D72 10 rfl
def d72_33 := dA D72 11 rfl
def d72_36 := dA D72 12 rfl
def d72_37 := dA D72 13 rfl
def d72_40 := dA D72 14 rfl
def d72_41 := dA D72 15 rfl
def d72_42 := dA D72 16 rfl
def d72_45 := dA D72 17 rfl
def d72_46 := dA D72 18 rfl
def d72_47 := dA D72 19 rfl
def d72_50 := dA D72 20 rfl
def d72_51 := dA D72 21 rfl
def d72_54 := dA D72 22 rfl
def d72_57 := dA D72 23 rfl
def d72_60 := dA D72 24 rfl
def d72_61 := dA D72 25 rfl
def d72_62 := dA D72 26 rfl
def d72_65 := dA D72 27 rfl
def d72_66 := dA D72 28 rfl
def d72_67 := dA D72 29 rfl
def d72_70 := dA D72 30 rfl
abbrev y_12 : MethodName := ⟨"java/util/AbstractCollection", "<init>", "()V"⟩
theorem pd_LRV : parseMethodDescriptor "()V" = some ⟨[], none⟩ := by decide +kernel
def m_0 {Z : State} {a0 : Array Value} (hw : HW Z a0) := mk_NW (wd hw 86 rfl) (wd hw 90 rfl) (wd hw 89 rfl) (by decide) pd_LRV
abbrev y_11 : MethodName := ⟨"java/util/AbstractList", "<init>", "()V"⟩
def m_1 {Z : State} {a0 : Array Value} (hw : HW Z a0) := mk_NW (wd hw 80 rfl) (wd hw 84 rfl) (wd hw 83 rfl) (by decide) pd_LRV
abbrev y_27 : MethodName := ⟨"java/util/ArrayList", "<init>", "()V"⟩
def m_2 {Z : State} {a0 : Array Value} (hw : HW Z a0) := mk_NW (wd hw 197 rfl) (wd hw 198 rfl) (wd hw 75 rfl) (by decide) pd_LRV
abbrev y_71 : MethodName := ⟨"java/util/ImmutableCollections$ListN", "size", "()I"⟩
theorem pd_LRI : parseMethodDescriptor "()I" = some ⟨[], some .int⟩ := by decide +kernel
def m_3 {Z : State} {a0 : Array Value} (hw : HW Z a0) := mk_UW (wd hw 458 rfl) (wd hw 459 rfl) (wd hw 500 rfl) (wd hw 501 rfl) (wd hw 502 rfl) (wd hw 40 rfl) (by decide) pd_LRI
abbrev y_65 : MethodName := ⟨"java/util/ImmutableCollections$ListItr", "<init>", "(Ljava/util/List;I)V"⟩
theorem pd_LLjava_util_List_IRV : parseMethodDescriptor "(Ljava/util/List;I)V" = some ⟨[(.object "java/util/List"), .int], none⟩ := by decide +kernel
def m_4 {Z : State} {a0 : Array Value} (hw : HW Z a0) := mk_NW (wd hw 462 rfl) (wd hw 464 rfl) (wd hw 456 rfl) (by decide) pd_LLjava_util_List_IRV
abbrev y_64 : MethodName := ⟨"java/util/ImmutableCollections$AbstractImmutableList", "iterator", "()Ljava/util/Iterator;"⟩
theorem pd_LRLjava_util_Iterator_ : parseMethodDescriptor "()Ljava/util/Iterator;" = some ⟨[], some (.object "java/util/Iterator")⟩ := by decide +kernel
def m_5 {Z : State} {a0 : Array Value} (hw : HW Z a0) := mk_IW (wd hw 200 rfl) (wd hw 201 rfl) (wd hw 498 rfl) (wd hw 450 rfl) (wd hw 451 rfl) (wd hw 499 rfl) (wd hw 39 rfl) (wd hw 453 rfl) (wd hw 303 rfl) (by decide) pd_LRLjava_util_Iterator_
abbrev y_66 : MethodName := ⟨"java/util/ImmutableCollections$ListItr", "hasNext", "()Z"⟩
theorem pd_LRZ : parseMethodDescriptor "()Z" = some ⟨[], some .boolean⟩ := by decide +kernel
def m_6 {Z : State} {a0 : Array Value} (hw : HW Z a0) := mk_IW (wd hw 223 rfl) (wd hw 224 rfl) (wd hw 474 rfl) (wd hw 475 rfl) (wd hw 476 rfl) (wd hw 477 rfl) (wd hw 478 rfl) (wd hw 479 rfl) (wd hw 456 rfl) (by decide) pd_LRZ
abbrev y_19 : MethodName := ⟨"java/lang/Record", "<init>", "()V"⟩
def m_7 {Z : State} {a0 : Array Value} (hw : HW Z a0) := mk_NW (wd hw 145 rfl) (wd hw 148 rfl) (wd hw 147 rfl) (by decide) pd_LRV
abbrev y_29 : MethodName := ⟨"java/util/ArrayList$Itr", "<init>", "(Ljava/util/ArrayList;)V"⟩
theorem pd_LLjava_util_ArrayList_RV : parseMethodDescriptor "(Ljava/util/ArrayList;)V" = some ⟨[(.object "java/util/ArrayList")], none⟩ := by decide +kernel
def m_8 {Z : State} {a0 : Array Value} (hw : HW Z a0) := mk_NW (wd hw 211 rfl) (wd hw 213 rfl) (wd hw 209 rfl) (by decide) pd_LLjava_util_ArrayList_RV
abbrev y_28 : MethodName := ⟨"java/util/ArrayList", "iterator", "()Ljava/util/Iterator;"⟩
def m_9 {Z : State} {a0 : Array Value} (hw : HW Z a0) := mk_IW (wd hw 200 rfl) (wd hw 201 rfl) (wd hw 202 rfl) (wd hw 203 rfl) (wd hw 204 rfl) (wd hw 205 rfl) (wd hw 136 rfl) (wd hw 206 rfl) (wd hw 75 rfl) (by decide) pd_LRLjava_util_Iterator_
abbrev y_30 : MethodName := ⟨"java/util/ArrayList$Itr", "hasNext", "()Z"⟩
def m_10 {Z : State} {a0 : Array Value} (hw : HW Z a0) := mk_IW (wd hw 223 rfl) (wd hw 224 rfl) (wd hw 225 rfl) (wd hw 226 rfl) (wd hw 227 rfl) (wd hw 228 rfl) (wd hw 229 rfl) (wd hw 230 rfl) (wd hw 209 rfl) (by decide) pd_LRZ
abbrev y_17 : MethodName := ⟨"java/util/ArrayList", "isEmpty", "()Z"⟩
def m_11 {Z : State} {a0 : Array Value} (hw : HW Z a0) := mk_IW (wd hw 279 rfl) (wd hw 280 rfl) (wd hw 281 rfl) (wd hw 133 rfl) (wd hw 134 rfl) (wd hw 135 rfl) (wd hw 282 rfl) (wd hw 137 rfl) (wd hw 75 rfl) (by decide) pd_LRZ
abbrev y_70 : MethodName := ⟨"java/util/List", "of", "()Ljava/util/List;"⟩
theorem pd_LRLjava_util_List_ : parseMethodDescriptor "()Ljava/util/List;" = some ⟨[], some (.object "java/util/List")⟩ := by decide +kernel
def m_12 {Z : State} {a0 : Array Value} (hw : HW Z a0) := mk_SW (wd hw 495 rfl) (wd hw 496 rfl) (wd hw 266 rfl) (by decide) pd_LRLjava_util_List_
abbrev y_37 : MethodName := ⟨"java/util/ImmutableCollections", "listCopy", "(Ljava/util/Collection;)Ljava/util/List;"⟩
theorem pd_LLjava_util_Collection_RLjava_util_List_ : parseMethodDescriptor "(Ljava/util/Collection;)Ljava/util/List;" = some ⟨[(.object "java/util/Collection")], some (.object "java/util/List")⟩ := by decide +kernel
def m_13 {Z : State} {a0 : Array Value} (hw : HW Z a0) := mk_SW (wd hw 269 rfl) (wd hw 271 rfl) (wd hw 270 rfl) (by decide) pd_LLjava_util_Collection_RLjava_util_List_
abbrev y_36 : MethodName := ⟨"java/util/List", "copyOf", "(Ljava/util/Collection;)Ljava/util/List;"⟩
def m_14 {Z : State} {a0 : Array Value} (hw : HW Z a0) := mk_SW (wd hw 265 rfl) (wd hw 267 rfl) (wd hw 266 rfl) (by decide) pd_LLjava_util_Collection_RLjava_util_List_
abbrev y_26 : MethodName := ⟨"com/example/clean_epoch/cleanepoch/log/Lineage", "<init>", "(Ljava/util/List;)V"⟩
theorem pd_LLjava_util_List_RV : parseMethodDescriptor "(Ljava/util/List;)V" = some ⟨[(.object "java/util/List")], none⟩ := by decide +kernel
def m_15 {Z : State} {a0 : Array Value} (hw : HW Z a0) := mk_NW (wd hw 193 rfl) (wd hw 194 rfl) (wd hw 2 rfl) (by decide) pd_LLjava_util_List_RV
abbrev y_57 : MethodName := ⟨"java/util/ImmutableCollections$List12", "size", "()I"⟩
def m_16 {Z : State} {a0 : Array Value} (hw : HW Z a0) := mk_UW (wd hw 458 rfl) (wd hw 459 rfl) (wd hw 460 rfl) (wd hw 408 rfl) (wd hw 411 rfl) (wd hw 294 rfl) (by decide) pd_LRI
def m_17 {Z : State} {a0 : Array Value} (hw : HW Z a0) := mk_IW (wd hw 200 rfl) (wd hw 201 rfl) (wd hw 449 rfl) (wd hw 450 rfl) (wd hw 451 rfl) (wd hw 452 rfl) (wd hw 373 rfl) (wd hw 453 rfl) (wd hw 303 rfl) (by decide) pd_LRLjava_util_Iterator_
abbrev y_53 : MethodName := ⟨"java/util/ImmutableCollections$List12", "get", "(I)Ljava/lang/Object;"⟩
theorem pd_LIRLjava_lang_Object_ : parseMethodDescriptor "(I)Ljava/lang/Object;" = some ⟨[.int], some (.object "java/lang/Object")⟩ := by decide +kernel
def m_18 {Z : State} {a0 : Array Value} (hw : HW Z a0) := mk_IW (wd hw 347 rfl) (wd hw 348 rfl) (wd hw 381 rfl) (wd hw 382 rfl) (wd hw 383 rfl) (wd hw 384 rfl) (wd hw 373 rfl) (wd hw 385 rfl) (wd hw 294 rfl) (by decide) pd_LIRLjava_lang_Object_
abbrev y_67 : MethodName := ⟨"java/util/ImmutableCollections$ListItr", "next", "()Ljava/lang/Object;"⟩
theorem pd_LRLjava_lang_Object_ : parseMethodDescriptor "()Ljava/lang/Object;" = some ⟨[], some (.object "java/lang/Object")⟩ := by decide +kernel
abbrev y_35 : MethodName := ⟨"com/example/clean_epoch/cleanepoch/log/Lineage$Entry", "startOffset", "()J"⟩
theorem pd_LRJ : parseMethodDescriptor "()J" = some ⟨[], some .long⟩ := by decide +kernel
def m_19 {Z : State} {a0 : Array Value} (hw : HW Z a0) := mk_VW (wd hw 258 rfl) (wd hw 260 rfl) (wd hw 259 rfl) (wd hw 261 rfl) (wd hw 140 rfl) (by decide) pd_LRJ
abbrev y_25 : MethodName := ⟨"java/lang/Math", "max", "(II)I"⟩
theorem pd_LIIRI : parseMethodDescriptor "(II)I" = some ⟨[.int, .int], some .int⟩ := by decide +kernel
def m_20 {Z : State} {a0 : Array Value} (hw : HW Z a0) := mk_SW (wd hw 185 rfl) (wd hw 186 rfl) (wd hw 121 rfl) (by decide) pd_LIIRI
abbrev y_23 : MethodName := ⟨"java/util/ArrayList", "grow", "(I)[Ljava/lang/Object;"⟩
theorem pd_LIRALjava_lang_Object_ : parseMethodDescriptor "(I)[Ljava/lang/Object;" = some ⟨[.int], some (.array (.object "java/lang/Object"))⟩ := by decide +kernel
def m_21 {Z : State} {a0 : Array Value} (hw : HW Z a0) := mk_PW (wd hw 175 rfl) (wd hw 177 rfl) (wd hw 176 rfl) (wd hw 178 rfl) (wd hw 75 rfl) (by decide) pd_LIRALjava_lang_Object_
abbrev y_22 : MethodName := ⟨"java/util/ArrayList", "grow", "()[Ljava/lang/Object;"⟩
theorem pd_LRALjava_lang_Object_ : parseMethodDescriptor "()[Ljava/lang/Object;" = some ⟨[], some (.array (.object "java/lang/Object"))⟩ := by decide +kernel
def m_22 {Z : State} {a0 : Array Value} (hw : HW Z a0) := mk_PW (wd hw 170 rfl) (wd hw 172 rfl) (wd hw 171 rfl) (wd hw 173 rfl) (wd hw 75 rfl) (by decide) pd_LRALjava_lang_Object_
abbrev y_21 : MethodName := ⟨"java/util/ArrayList", "add", "(Ljava/lang/Object;[Ljava/lang/Object;I)V"⟩
theorem pd_LLjava_lang_Object_ALjava_lang_Object_IRV : parseMethodDescriptor "(Ljava/lang/Object;[Ljava/lang/Object;I)V" = some ⟨[(.object "java/lang/Object"), (.array (.object "java/lang/Object")), .int], none⟩ := by decide +kernel
def m_23 {Z : State} {a0 : Array Value} (hw : HW Z a0) := mk_PW (wd hw 165 rfl) (wd hw 167 rfl) (wd hw 166 rfl) (wd hw 168 rfl) (wd hw 75 rfl) (by decide) pd_LLjava_lang_Object_ALjava_lang_Object_IRV
abbrev y_20 : MethodName := ⟨"java/util/ArrayList", "add", "(Ljava/lang/Object;)Z"⟩
theorem pd_LLjava_lang_Object_RZ : parseMethodDescriptor "(Ljava/lang/Object;)Z" = some ⟨[(.object "java/lang/Object")], some .boolean⟩ := by decide +kernel
def m_24 {Z : State} {a0 : Array Value} (hw : HW Z a0) := mk_IW (wd hw 155 rfl) (wd hw 156 rfl) (wd hw 157 rfl) (wd hw 158 rfl) (wd hw 159 rfl) (wd hw 160 rfl) (wd hw 136 rfl) (wd hw 161 rfl) (wd hw 75 rfl) (by decide) pd_LLjava_lang_Object_RZ
abbrev y_32 : MethodName := ⟨"java/util/ArrayList$Itr", "checkForComodification", "()V"⟩
def m_25 {Z : State} {a0 : Array Value} (hw : HW Z a0) := mk_VW (wd hw 243 rfl) (wd hw 245 rfl) (wd hw 244 rfl) (wd hw 246 rfl) (wd hw 209 rfl) (by decide) pd_LRV
abbrev y_31 : MethodName := ⟨"java/util/ArrayList$Itr", "next", "()Ljava/lang/Object;"⟩
def m_26 {Z : State} {a0 : Array Value} (hw : HW Z a0) := mk_IW (wd hw 235 rfl) (wd hw 236 rfl) (wd hw 237 rfl) (wd hw 238 rfl) (wd hw 239 rfl) (wd hw 240 rfl) (wd hw 229 rfl) (wd hw 241 rfl) (wd hw 209 rfl) (by decide) pd_LRLjava_lang_Object_
def m_27 {Z : State} {a0 : Array Value} (hw : HW Z a0) := mk_IW (wd hw 33 rfl) (wd hw 34 rfl) (wd hw 132 rfl) (wd hw 133 rfl) (wd hw 134 rfl) (wd hw 135 rfl) (wd hw 136 rfl) (wd hw 137 rfl) (wd hw 75 rfl) (by decide) pd_LRZ
abbrev y_34 : MethodName := ⟨"com/example/clean_epoch/cleanepoch/log/Lineage$Entry", "epoch", "()I"⟩
def m_28 {Z : State} {a0 : Array Value} (hw : HW Z a0) := mk_VW (wd hw 253 rfl) (wd hw 255 rfl) (wd hw 254 rfl) (wd hw 256 rfl) (wd hw 140 rfl) (by decide) pd_LRI
abbrev y_33 : MethodName := ⟨"com/example/clean_epoch/cleanepoch/log/Lineage", "follows", "(Ljava/util/List;Lcom/example/clean_epoch/cleanepoch/log/Lineage$Entry;)Z"⟩
theorem pd_LLjava_util_List_Lcom_example_clean_epoch_cleanepoch_log_LineageSEntry_RZ : parseMethodDescriptor "(Ljava/util/List;Lcom/example/clean_epoch/cleanepoch/log/Lineage$Entry;)Z" = some ⟨[(.object "java/util/List"), (.object "com/example/clean_epoch/cleanepoch/log/Lineage$Entry")], some .boolean⟩ := by decide +kernel
def m_29 {Z : State} {a0 : Array Value} (hw : HW Z a0) := mk_SW (wd hw 250 rfl) (wd hw 251 rfl) (wd hw 2 rfl) (by decide) pd_LLjava_util_List_Lcom_example_clean_epoch_cleanepoch_log_LineageSEntry_RZ
abbrev y_16 : MethodName := ⟨"java/lang/Math", "min", "(II)I"⟩
def m_30 {Z : State} {a0 : Array Value} (hw : HW Z a0) := mk_SW (wd hw 120 rfl) (wd hw 122 rfl) (wd hw 121 rfl) (by decide) pd_LIIRI
abbrev y_15 : MethodName := ⟨"java/util/Arrays", "copyOf", "([Ljava/lang/Object;ILjava/lang/Class;)[Ljava/lang/Object;"⟩
theorem pd_LALjava_lang_Object_ILjava_lang_Class_RALjava_lang_Object_ : parseMethodDescriptor "([Ljava/lang/Object;ILjava/lang/Class;)[Ljava/lang/Object;" = some ⟨[(.array (.object "java/lang/Object")), .int, (.object "java/lang/Class")], some (.array (.object "java/lang/Object"))⟩ := by decide +kernel
def m_31 {Z : State} {a0 : Array Value} (hw : HW Z a0) := mk_SW (wd hw 114 rfl) (wd hw 115 rfl) (wd hw 105 rfl) (by decide) pd_LALjava_lang_Object_ILjava_lang_Class_RALjava_lang_Object_
abbrev y_14 : MethodName := ⟨"java/util/Arrays", "copyOf", "([Ljava/lang/Object;I)[Ljava/lang/Object;"⟩
theorem pd_LALjava_lang_Object_IRALjava_lang_Object_ : parseMethodDescriptor "([Ljava/lang/Object;I)[Ljava/lang/Object;" = some ⟨[(.array (.object "java/lang/Object")), .int], some (.array (.object "java/lang/Object"))⟩ := by decide +kernel
def m_32 {Z : State} {a0 : Array Value} (hw : HW Z a0) := mk_SW (wd hw 104 rfl) (wd hw 106 rfl) (wd hw 105 rfl) (by decide) pd_LALjava_lang_Object_IRALjava_lang_Object_
abbrev y_38 : MethodName := ⟨"java/util/ArrayList", "toArray", "()[Ljava/lang/Object;"⟩
def m_33 {Z : State} {a0 : Array Value} (hw : HW Z a0) := mk_IW (wd hw 95 rfl) (wd hw 96 rfl) (wd hw 284 rfl) (wd hw 285 rfl) (wd hw 286 rfl) (wd hw 287 rfl) (wd hw 282 rfl) (wd hw 288 rfl) (wd hw 75 rfl) (by decide) pd_LRALjava_lang_Object_
abbrev y_42 : MethodName := ⟨"java/util/ImmutableCollections$AbstractImmutableCollection", "<init>", "()V"⟩
def m_34 {Z : State} {a0 : Array Value} (hw : HW Z a0) := mk_NW (wd hw 306 rfl) (wd hw 310 rfl) (wd hw 309 rfl) (by decide) pd_LRV
abbrev y_41 : MethodName := ⟨"java/util/ImmutableCollections$AbstractImmutableList", "<init>", "()V"⟩
def m_35 {Z : State} {a0 : Array Value} (hw : HW Z a0) := mk_NW (wd hw 300 rfl) (wd hw 304 rfl) (wd hw 303 rfl) (by decide) pd_LRV
abbrev y_43 : MethodName := ⟨"java/util/Objects", "requireNonNull", "(Ljava/lang/Object;)Ljava/lang/Object;"⟩
theorem pd_LLjava_lang_Object_RLjava_lang_Object_ : parseMethodDescriptor "(Ljava/lang/Object;)Ljava/lang/Object;" = some ⟨[(.object "java/lang/Object")], some (.object "java/lang/Object")⟩ := by decide +kernel
def m_36 {Z : State} {a0 : Array Value} (hw : HW Z a0) := mk_SW (wd hw 314 rfl) (wd hw 316 rfl) (wd hw 315 rfl) (by decide) pd_LLjava_lang_Object_RLjava_lang_Object_
abbrev y_40 : MethodName := ⟨"java/util/ImmutableCollections$List12", "<init>", "(Ljava/lang/Object;)V"⟩
theorem pd_LLjava_lang_Object_RV : parseMethodDescriptor "(Ljava/lang/Object;)V" = some ⟨[(.object "java/lang/Object")], none⟩ := by decide +kernel
def m_37 {Z : State} {a0 : Array Value} (hw : HW Z a0) := mk_NW (wd hw 296 rfl) (wd hw 298 rfl) (wd hw 294 rfl) (by decide) pd_LLjava_lang_Object_RV
abbrev y_39 : MethodName := ⟨"java/util/List", "of", "([Ljava/lang/Object;)Ljava/util/List;"⟩
theorem pd_LALjava_lang_Object_RLjava_util_List_ : parseMethodDescriptor "([Ljava/lang/Object;)Ljava/util/List;" = some ⟨[(.array (.object "java/lang/Object"))], some (.object "java/util/List")⟩ := by decide +kernel
def m_38 {Z : State} {a0 : Array Value} (hw : HW Z a0) := mk_SW (wd hw 290 rfl) (wd hw 291 rfl) (wd hw 266 rfl) (by decide) pd_LALjava_lang_Object_RLjava_util_List_
abbrev y_45 : MethodName := ⟨"java/util/ArrayList", "size", "()I"⟩
def m_39 {Z : State} {a0 : Array Value} (hw : HW Z a0) := mk_IW (wd hw 339 rfl) (wd hw 340 rfl) (wd hw 341 rfl) (wd hw 342 rfl) (wd hw 343 rfl) (wd hw 344 rfl) (wd hw 136 rfl) (wd hw 345 rfl) (wd hw 75 rfl) (by decide) pd_LRI
abbrev y_48 : MethodName := ⟨"jdk/internal/util/Preconditions", "checkIndex", "(IILjava/util/function/BiFunction;)I"⟩
theorem pd_LIILjava_util_function_BiFunction_RI : parseMethodDescriptor "(IILjava/util/function/BiFunction;)I" = some ⟨[.int, .int, (.object "java/util/function/BiFunction")], some .int⟩ := by decide +kernel
def m_40 {Z : State} {a0 : Array Value} (hw : HW Z a0) := mk_SW (wd hw 358 rfl) (wd hw 360 rfl) (wd hw 359 rfl) (by decide) pd_LIILjava_util_function_BiFunction_RI
abbrev y_47 : MethodName := ⟨"java/util/Objects", "checkIndex", "(II)I"⟩
def m_41 {Z : State} {a0 : Array Value} (hw : HW Z a0) := mk_SW (wd hw 355 rfl) (wd hw 356 rfl) (wd hw 315 rfl) (by decide) pd_LIIRI
abbrev y_49 : MethodName := ⟨"java/util/ArrayList", "elementData", "(I)Ljava/lang/Object;"⟩
def m_42 {Z : State} {a0 : Array Value} (hw : HW Z a0) := mk_VW (wd hw 362 rfl) (wd hw 364 rfl) (wd hw 363 rfl) (wd hw 365 rfl) (wd hw 75 rfl) (by decide) pd_LIRLjava_lang_Object_
abbrev y_46 : MethodName := ⟨"java/util/ArrayList", "get", "(I)Ljava/lang/Object;"⟩
def m_43 {Z : State} {a0 : Array Value} (hw : HW Z a0) := mk_IW (wd hw 347 rfl) (wd hw 348 rfl) (wd hw 349 rfl) (wd hw 350 rfl) (wd hw 351 rfl) (wd hw 352 rfl) (wd hw 136 rfl) (wd hw 353 rfl) (wd hw 75 rfl) (by decide) pd_LIRLjava_lang_Object_
abbrev y_50 : MethodName := ⟨"java/util/ImmutableCollections$List12", "<init>", "(Ljava/lang/Object;Ljava/lang/Object;)V"⟩
theorem pd_LLjava_lang_Object_Ljava_lang_Object_RV : parseMethodDescriptor "(Ljava/lang/Object;Ljava/lang/Object;)V" = some ⟨[(.object "java/lang/Object"), (.object "java/lang/Object")], none⟩ := by decide +kernel
def m_44 {Z : State} {a0 : Array Value} (hw : HW Z a0) := mk_NW (wd hw 367 rfl) (wd hw 368 rfl) (wd hw 294 rfl) (by decide) pd_LLjava_lang_Object_Ljava_lang_Object_RV
abbrev y_69 : MethodName := ⟨"com/example/clean_epoch/cleanepoch/log/Lineage", "withoutEntriesFrom", "(J)Lcom/example/clean_epoch/cleanepoch/log/Lineage;"⟩
abbrev y_62 : MethodName := ⟨"com/example/clean_epoch/cleanepoch/log/EpochEnd", "endOffset", "()J"⟩
def m_45 {Z : State} {a0 : Array Value} (hw : HW Z a0) := mk_VW (wd hw 439 rfl) (wd hw 441 rfl) (wd hw 440 rfl) (wd hw 442 rfl) (wd hw 14 rfl) (by decide) pd_LRJ
abbrev y_3 : MethodName := ⟨"com/example/clean_epoch/cleanepoch/log/EpochEnd", "epoch", "()I"⟩
def m_46 {Z : State} {a0 : Array Value} (hw : HW Z a0) := mk_VW (wd hw 17 rfl) (wd hw 19 rfl) (wd hw 18 rfl) (wd hw 20 rfl) (wd hw 14 rfl) (by decide) pd_LRI
abbrev y_63 : MethodName := ⟨"com/example/clean_epoch/cleanepoch/log/Lineage", "endOf", "(IJ)J"⟩
theorem pd_LIJRJ : parseMethodDescriptor "(IJ)J" = some ⟨[.int, .long], some .long⟩ := by decide +kernel
def m_47 {Z : State} {a0 : Array Value} (hw : HW Z a0) := mk_VW (wd hw 445 rfl) (wd hw 447 rfl) (wd hw 446 rfl) (wd hw 448 rfl) (wd hw 2 rfl) (by decide) pd_LIJRJ
abbrev y_68 : MethodName := ⟨"java/lang/Math", "min", "(JJ)J"⟩
theorem pd_LJJRJ : parseMethodDescriptor "(JJ)J" = some ⟨[.long, .long], some .long⟩ := by decide +kernel
def m_48 {Z : State} {a0 : Array Value} (hw : HW Z a0) := mk_SW (wd hw 487 rfl) (wd hw 488 rfl) (wd hw 121 rfl) (by decide) pd_LJJRJ
abbrev y_61 : MethodName := ⟨"com/example/clean_epoch/cleanepoch/log/Lineage", "divergenceFrom", "(Lcom/example/clean_epoch/cleanepoch/log/EpochEnd;J)J"⟩
abbrev y_8 : MethodName := ⟨"com/example/clean_epoch/cleanepoch/log/DivergenceWalk", "leaderLogStartDue", "()Z"⟩
def m_49 {Z : State} {a0 : Array Value} (hw : HW Z a0) := mk_VW (wd hw 62 rfl) (wd hw 64 rfl) (wd hw 63 rfl) (wd hw 65 rfl) (wd hw 6 rfl) (by decide) pd_LRZ
abbrev y_6 : MethodName := ⟨"com/example/clean_epoch/cleanepoch/log/DivergenceWalk", "done", "()Z"⟩
def m_50 {Z : State} {a0 : Array Value} (hw : HW Z a0) := mk_VW (wd hw 53 rfl) (wd hw 55 rfl) (wd hw 54 rfl) (wd hw 56 rfl) (wd hw 6 rfl) (by decide) pd_LRZ
theorem pd_LJRLcom_example_clean_epoch_cleanepoch_log_Lineage_ : parseMethodDescriptor "(J)Lcom/example/clean_epoch/cleanepoch/log/Lineage;" = some ⟨[.long], some (.object "com/example/clean_epoch/cleanepoch/log/Lineage")⟩ := by decide +kernel
def m_51 {Z : State} {a0 : Array Value} (hw : HW Z a0) := mk_VW (wd hw 490 rfl) (wd hw 492 rfl) (wd hw 491 rfl) (wd hw 493 rfl) (wd hw 2 rfl) (by decide) pd_LJRLcom_example_clean_epoch_cleanepoch_log_Lineage_
abbrev y_72 : MethodName := ⟨"com/example/clean_epoch/cleanepoch/log/DivergenceWalk", "takeLeaderLogStart", "(J)V"⟩
theorem pd_LJRV : parseMethodDescriptor "(J)V" = some ⟨[.long], none⟩ := by decide +kernel
def m_52 {Z : State} {a0 : Array Value} (hw : HW Z a0) := mk_VW (wd hw 507 rfl) (wd hw 509 rfl) (wd hw 508 rfl) (wd hw 510 rfl) (wd hw 6 rfl) (by decide) pd_LJRV
abbrev y_54 : MethodName := ⟨"com/example/clean_epoch/cleanepoch/log/DivergenceWalk", "held", "()Lcom/example/clean_epoch/cleanepoch/log/Lineage;"⟩
theorem pd_LRLcom_example_clean_epoch_cleanepoch_log_Lineage_ : parseMethodDescriptor "()Lcom/example/clean_epoch/cleanepoch/log/Lineage;" = some ⟨[], some (.object "com/example/clean_epoch/cleanepoch/log/Lineage")⟩ := by decide +kernel
def m_53 {Z : State} {a0 : Array Value} (hw : HW Z a0) := mk_VW (wd hw 391 rfl) (wd hw 393 rfl) (wd hw 392 rfl) (wd hw 394 rfl) (wd hw 6 rfl) (by decide) pd_LRLcom_example_clean_epoch_cleanepoch_log_Lineage_
abbrev y_5 : MethodName := ⟨"java/util/ImmutableCollections$ListN", "isEmpty", "()Z"⟩
def m_54 {Z : State} {a0 : Array Value} (hw : HW Z a0) := mk_IW (wd hw 33 rfl) (wd hw 34 rfl) (wd hw 35 rfl) (wd hw 36 rfl) (wd hw 37 rfl) (wd hw 38 rfl) (wd hw 39 rfl) (wd hw 41 rfl) (wd hw 40 rfl) (by decide) pd_LRZ
abbrev y_4 : MethodName := ⟨"com/example/clean_epoch/cleanepoch/log/Lineage", "isEmpty", "()Z"⟩
def m_55 {Z : State} {a0 : Array Value} (hw : HW Z a0) := mk_VW (wd hw 26 rfl) (wd hw 28 rfl) (wd hw 27 rfl) (wd hw 29 rfl) (wd hw 2 rfl) (by decide) pd_LRZ
abbrev y_55 : MethodName := ⟨"com/example/clean_epoch/cleanepoch/log/DivergenceWalk", "epochToAsk", "()I"⟩
def m_56 {Z : State} {a0 : Array Value} (hw : HW Z a0) := mk_VW (wd hw 397 rfl) (wd hw 399 rfl) (wd hw 398 rfl) (wd hw 400 rfl) (wd hw 6 rfl) (by decide) pd_LRI
abbrev y_58 : MethodName := ⟨"com/example/clean_epoch/cleanepoch/log/EpochEnd", "<init>", "(IJ)V"⟩
theorem pd_LIJRV : parseMethodDescriptor "(IJ)V" = some ⟨[.int, .long], none⟩ := by decide +kernel
def m_57 {Z : State} {a0 : Array Value} (hw : HW Z a0) := mk_NW (wd hw 416 rfl) (wd hw 417 rfl) (wd hw 14 rfl) (by decide) pd_LIJRV
abbrev y_60 : MethodName := ⟨"com/example/clean_epoch/cleanepoch/log/EpochEnd", "answers", "(I)Z"⟩
theorem pd_LIRZ : parseMethodDescriptor "(I)Z" = some ⟨[.int], some .boolean⟩ := by decide +kernel
def m_58 {Z : State} {a0 : Array Value} (hw : HW Z a0) := mk_VW (wd hw 428 rfl) (wd hw 430 rfl) (wd hw 429 rfl) (wd hw 431 rfl) (wd hw 14 rfl) (by decide) pd_LIRZ
theorem pd_LLcom_example_clean_epoch_cleanepoch_log_EpochEnd_JRJ : parseMethodDescriptor "(Lcom/example/clean_epoch/cleanepoch/log/EpochEnd;J)J" = some ⟨[(.object "com/example/clean_epoch/cleanepoch/log/EpochEnd"), .long], some .long⟩ := by decide +kernel
def m_59 {Z : State} {a0 : Array Value} (hw : HW Z a0) := mk_VW (wd hw 434 rfl) (wd hw 436 rfl) (wd hw 435 rfl) (wd hw 437 rfl) (wd hw 2 rfl) (by decide) pd_LLcom_example_clean_epoch_cleanepoch_log_EpochEnd_JRJ
abbrev y_59 : MethodName := ⟨"com/example/clean_epoch/cleanepoch/log/DivergenceWalk", "take", "(Lcom/example/clean_epoch/cleanepoch/log/EpochEnd;)V"⟩
theorem pd_LLcom_example_clean_epoch_cleanepoch_log_EpochEnd_RV : parseMethodDescriptor "(Lcom/example/clean_epoch/cleanepoch/log/EpochEnd;)V" = some ⟨[(.object "com/example/clean_epoch/cleanepoch/log/EpochEnd")], none⟩ := by decide +kernel
def m_60 {Z : State} {a0 : Array Value} (hw : HW Z a0) := mk_VW (wd hw 422 rfl) (wd hw 424 rfl) (wd hw 423 rfl) (wd hw 425 rfl) (wd hw 6 rfl) (by decide) pd_LLcom_example_clean_epoch_cleanepoch_log_EpochEnd_RV
abbrev y_51 : MethodName := ⟨"java/util/ImmutableCollections$List12", "isEmpty", "()Z"⟩
def m_61 {Z : State} {a0 : Array Value} (hw : HW Z a0) := mk_IW (wd hw 33 rfl) (wd hw 34 rfl) (wd hw 369 rfl) (wd hw 370 rfl) (wd hw 371 rfl) (wd hw 372 rfl) (wd hw 373 rfl) (wd hw 374 rfl) (wd hw 294 rfl) (by decide) pd_LRZ
def m_62 {Z : State} {a0 : Array Value} (hw : HW Z a0) := mk_IW (wd hw 339 rfl) (wd hw 340 rfl) (wd hw 407 rfl) (wd hw 408 rfl) (wd hw 409 rfl) (wd hw 410 rfl) (wd hw 373 rfl) (wd hw 411 rfl) (wd hw 294 rfl) (by decide) pd_LRI
abbrev y_56 : MethodName := ⟨"com/example/clean_epoch/cleanepoch/log/Lineage", "lastEpoch", "()I"⟩
def m_63 {Z : State} {a0 : Array Value} (hw : HW Z a0) := mk_VW (wd hw 403 rfl) (wd hw 405 rfl) (wd hw 404 rfl) (wd hw 406 rfl) (wd hw 2 rfl) (by decide) pd_LRI
abbrev y_7 : MethodName := ⟨"com/example/clean_epoch/cleanepoch/log/DivergenceWalkDonePinLaw", "step", "(Lcom/example/clean_epoch/cleanepoch/log/DivergenceWalk;IJ)Z"⟩
abbrev y_1 : MethodName := ⟨"com/example/clean_epoch/cleanepoch/log/DivergenceWalk", "<init>", "(Lcom/example/clean_epoch/cleanepoch/log/Lineage;J)V"⟩
theorem pd_LLcom_example_clean_epoch_cleanepoch_log_Lineage_JRV : parseMethodDescriptor "(Lcom/example/clean_epoch/cleanepoch/log/Lineage;J)V" = some ⟨[(.object "com/example/clean_epoch/cleanepoch/log/Lineage"), .long], none⟩ := by decide +kernel
def m_64 {Z : State} {a0 : Array Value} (hw : HW Z a0) := mk_NW (wd hw 8 rfl) (wd hw 9 rfl) (wd hw 6 rfl) (by decide) pd_LLcom_example_clean_epoch_cleanepoch_log_Lineage_JRV
theorem pd_LLcom_example_clean_epoch_cleanepoch_log_DivergenceWalk_IJRZ : parseMethodDescriptor "(Lcom/example/clean_epoch/cleanepoch/log/DivergenceWalk;IJ)Z" = some ⟨[(.object "com/example/clean_epoch/cleanepoch/log/DivergenceWalk"), .int, .long], some .boolean⟩ := by decide +kernel
def m_65 {Z : State} {a0 : Array Value} (hw : HW Z a0) := mk_SW (wd hw 58 rfl) (wd hw 60 rfl) (wd hw 59 rfl) (by decide) pd_LLcom_example_clean_epoch_cleanepoch_log_DivergenceWalk_IJRZ
abbrev y_13 : MethodName := ⟨"java/util/ImmutableCollections$ListN", "toArray", "()[Ljava/lang/Object;"⟩
def m_66 {Z : State} {a0 : Array Value} (hw : HW Z a0) := mk_IW (wd hw 95 rfl) (wd hw 96 rfl) (wd hw 97 rfl) (wd hw 98 rfl) (wd hw 99 rfl) (wd hw 100 rfl) (wd hw 101 rfl) (wd hw 102 rfl) (wd hw 40 rfl) (by decide) pd_LRALjava_lang_Object_
abbrev y_10 : MethodName := ⟨"java/util/ArrayList", "<init>", "(Ljava/util/Collection;)V"⟩
theorem pd_LLjava_util_Collection_RV : parseMethodDescriptor "(Ljava/util/Collection;)V" = some ⟨[(.object "java/util/Collection")], none⟩ := by decide +kernel
def m_67 {Z : State} {a0 : Array Value} (hw : HW Z a0) := mk_NW (wd hw 77 rfl) (wd hw 78 rfl) (wd hw 75 rfl) (by decide) pd_LLjava_util_Collection_RV
abbrev y_18 : MethodName := ⟨"com/example/clean_epoch/cleanepoch/log/Lineage$Entry", "<init>", "(IJ)V"⟩
def m_68 {Z : State} {a0 : Array Value} (hw : HW Z a0) := mk_NW (wd hw 142 rfl) (wd hw 143 rfl) (wd hw 140 rfl) (by decide) pd_LIJRV
abbrev y_9 : MethodName := ⟨"com/example/clean_epoch/cleanepoch/log/Lineage", "with", "(IJ)Lcom/example/clean_epoch/cleanepoch/log/Lineage;"⟩
theorem pd_LIJRLcom_example_clean_epoch_cleanepoch_log_Lineage_ : parseMethodDescriptor "(IJ)Lcom/example/clean_epoch/cleanepoch/log/Lineage;" = some ⟨[.int, .long], some (.object "com/example/clean_epoch/cleanepoch/log/Lineage")⟩ := by decide +kernel
def m_69 {Z : State} {a0 : Array Value} (hw : HW Z a0) := mk_VW (wd hw 69 rfl) (wd hw 71 rfl) (wd hw 70 rfl) (wd hw 72 rfl) (wd hw 2 rfl) (by decide) pd_LIJRLcom_example_clean_epoch_cleanepoch_log_Lineage_
abbrev y_52 : MethodName := ⟨"com/example/clean_epoch/cleanepoch/log/Lineage", "entries", "()Ljava/util/List;"⟩
def m_70 {Z : State} {a0 : Array Value} (hw : HW Z a0) := mk_VW (wd hw 376 rfl) (wd hw 378 rfl) (wd hw 377 rfl) (wd hw 379 rfl) (wd hw 2 rfl) (by decide) pd_LRLjava_util_List_
abbrev y_24 : MethodName := ⟨"jdk/internal/util/ArraysSupport", "newLength", "(III)I"⟩
theorem pd_LIIIRI : parseMethodDescriptor "(III)I" = some ⟨[.int, .int, .int], some .int⟩ := by decide +kernel
def m_71 {Z : State} {a0 : Array Value} (hw : HW Z a0) := mk_SW (wd hw 181 rfl) (wd hw 183 rfl) (wd hw 182 rfl) (by decide) pd_LIIIRI
abbrev y_44 : MethodName := ⟨"java/util/ImmutableCollections$List12", "toArray", "()[Ljava/lang/Object;"⟩
def m_72 {Z : State} {a0 : Array Value} (hw : HW Z a0) := mk_IW (wd hw 95 rfl) (wd hw 96 rfl) (wd hw 322 rfl) (wd hw 323 rfl) (wd hw 324 rfl) (wd hw 325 rfl) (wd hw 326 rfl) (wd hw 327 rfl) (wd hw 294 rfl) (by decide) pd_LRALjava_lang_Object_
theorem pf_I : parseFieldDescriptor "I" = some .int := by decide
theorem pf_ALjava_lang_Object_ : parseFieldDescriptor "[Ljava/lang/Object;" = some (.array (.object "java/lang/Object")) := by decide
theorem pf_Ljava_util_List_ : parseFieldDescriptor "Ljava/util/List;" = some (.object "java/util/List") := by decide
theorem pf_Z : parseFieldDescriptor "Z" = some .boolean := by decide
theorem pf_Ljava_util_ArrayList_ : parseFieldDescriptor "Ljava/util/ArrayList;" = some (.object "java/util/ArrayList") := by decide
theorem pf_Ljava_lang_Object_ : parseFieldDescriptor "Ljava/lang/Object;" = some (.object "java/lang/Object") := by decide
theorem pf_J : parseFieldDescriptor "J" = some .long := by decide
theorem pf_Lcom_example_clean_epoch_cleanepoch_log_Lineage_ : parseFieldDescriptor "Lcom/example/clean_epoch/cleanepoch/log/Lineage;" = some (.object "com/example/clean_epoch/cleanepoch/log/Lineage") := by decide
section Slots
variable {Z : State} {a0 : Array Value} (hw : ∀ d ∈ tables_1, d.before a0 Z = true)
def sn_0 := slot_ne (Or.inl (wd hw 128 rfl)) (Or.inl (wd hw 93 rfl)) (by decide) pf_I pf_I
def sn_1 := slot_ne (Or.inl (wd hw 131 rfl)) (Or.inl (wd hw 93 rfl)) (by decide) pf_ALjava_lang_Object_ pf_I
def sn_2 := slot_ne (Or.inl (wd hw 128 rfl)) (Or.inl (wd hw 131 rfl)) (by decide) pf_I pf_ALjava_lang_Object_
def sn_3 := slot_ne (Or.inr (wd hw 469 rfl)) (Or.inr (wd hw 467 rfl)) (by decide) pf_I pf_Ljava_util_List_
def sn_4 := slot_ne (Or.inl (wd hw 471 rfl)) (Or.inr (wd hw 467 rfl)) (by decide) pf_I pf_Ljava_util_List_
def sn_5 := slot_ne (Or.inl (wd hw 471 rfl)) (Or.inr (wd hw 469 rfl)) (by decide) pf_I pf_I
def sn_6 := slot_ne (Or.inr (wd hw 473 rfl)) (Or.inr (wd hw 467 rfl)) (by decide) pf_Z pf_Ljava_util_List_
def sn_7 := slot_ne (Or.inr (wd hw 473 rfl)) (Or.inr (wd hw 469 rfl)) (by decide) pf_Z pf_I
def sn_8 := slot_ne (Or.inr (wd hw 473 rfl)) (Or.inl (wd hw 471 rfl)) (by decide) pf_Z pf_I
def sn_9 := slot_ne (Or.inl (wd hw 218 rfl)) (Or.inr (wd hw 215 rfl)) (by decide) pf_I pf_Ljava_util_ArrayList_
def sn_10 := slot_ne (Or.inl (wd hw 221 rfl)) (Or.inr (wd hw 215 rfl)) (by decide) pf_I pf_Ljava_util_ArrayList_
def sn_11 := slot_ne (Or.inl (wd hw 221 rfl)) (Or.inl (wd hw 218 rfl)) (by decide) pf_I pf_I
def sn_12 := slot_ne (Or.inl (wd hw 232 rfl)) (Or.inr (wd hw 215 rfl)) (by decide) pf_I pf_Ljava_util_ArrayList_
def sn_13 := slot_ne (Or.inl (wd hw 232 rfl)) (Or.inl (wd hw 218 rfl)) (by decide) pf_I pf_I
def sn_14 := slot_ne (Or.inl (wd hw 232 rfl)) (Or.inl (wd hw 221 rfl)) (by decide) pf_I pf_I
def sn_15 := slot_ne (Or.inr (wd hw 321 rfl)) (Or.inr (wd hw 318 rfl)) (by decide) pf_Ljava_lang_Object_ pf_Ljava_lang_Object_
def sn_16 := slot_ne (Or.inl (wd hw 504 rfl)) (Or.inl (wd hw 49 rfl)) (by decide) pf_Z pf_J
def sn_17 := slot_ne (Or.inl (wd hw 47 rfl)) (Or.inl (wd hw 49 rfl)) (by decide) pf_Lcom_example_clean_epoch_cleanepoch_log_Lineage_ pf_J
def sn_18 := slot_ne (Or.inl (wd hw 47 rfl)) (Or.inl (wd hw 504 rfl)) (by decide) pf_Lcom_example_clean_epoch_cleanepoch_log_Lineage_ pf_Z
def sn_19 := slot_ne (Or.inl (wd hw 67 rfl)) (Or.inl (wd hw 49 rfl)) (by decide) pf_Z pf_J
def sn_20 := slot_ne (Or.inl (wd hw 67 rfl)) (Or.inl (wd hw 504 rfl)) (by decide) pf_Z pf_Z
def sn_21 := slot_ne (Or.inl (wd hw 67 rfl)) (Or.inl (wd hw 47 rfl)) (by decide) pf_Z pf_Lcom_example_clean_epoch_cleanepoch_log_Lineage_
def sn_22 := slot_ne (Or.inl (wd hw 51 rfl)) (Or.inl (wd hw 49 rfl)) (by decide) pf_Z pf_J
def sn_23 := slot_ne (Or.inl (wd hw 51 rfl)) (Or.inl (wd hw 504 rfl)) (by decide) pf_Z pf_Z
def sn_24 := slot_ne (Or.inl (wd hw 51 rfl)) (Or.inl (wd hw 47 rfl)) (by decide) pf_Z pf_Lcom_example_clean_epoch_cleanepoch_log_Lineage_
def sn_25 := slot_ne (Or.inl (wd hw 51 rfl)) (Or.inl (wd hw 67 rfl)) (by decide) pf_Z pf_Z
def sn_26 := slot_ne (Or.inr (wd hw 45 rfl)) (Or.inl (wd hw 49 rfl)) (by decide) pf_I pf_J
def sn_27 := slot_ne (Or.inr (wd hw 45 rfl)) (Or.inl (wd hw 504 rfl)) (by decide) pf_I pf_Z
def sn_28 := slot_ne (Or.inr (wd hw 45 rfl)) (Or.inl (wd hw 47 rfl)) (by decide) pf_I pf_Lcom_example_clean_epoch_cleanepoch_log_Lineage_
def sn_29 := slot_ne (Or.inr (wd hw 45 rfl)) (Or.inl (wd hw 67 rfl)) (by decide) pf_I pf_Z
def sn_30 := slot_ne (Or.inr (wd hw 45 rfl)) (Or.inl (wd hw 51 rfl)) (by decide) pf_I pf_Z
def sn_31 := slot_ne (Or.inl (wd hw 24 rfl)) (Or.inl (wd hw 49 rfl)) (by decide) pf_I pf_J
def sn_32 := slot_ne (Or.inl (wd hw 24 rfl)) (Or.inl (wd hw 504 rfl)) (by decide) pf_I pf_Z
def sn_33 := slot_ne (Or.inl (wd hw 24 rfl)) (Or.inl (wd hw 47 rfl)) (by decide) pf_I pf_Lcom_example_clean_epoch_cleanepoch_log_Lineage_
def sn_34 := slot_ne (Or.inl (wd hw 24 rfl)) (Or.inl (wd hw 67 rfl)) (by decide) pf_I pf_Z
def sn_35 := slot_ne (Or.inl (wd hw 24 rfl)) (Or.inl (wd hw 51 rfl)) (by decide) pf_I pf_Z
def sn_36 := slot_ne (Or.inl (wd hw 389 rfl)) (Or.inl (wd hw 49 rfl)) (by decide) pf_Z pf_J
def sn_37 := slot_ne (Or.inl (wd hw 389 rfl)) (Or.inl (wd hw 504 rfl)) (by decide) pf_Z pf_Z
def sn_38 := slot_ne (Or.inl (wd hw 389 rfl)) (Or.inl (wd hw 47 rfl)) (by decide) pf_Z pf_Lcom_example_clean_epoch_cleanepoch_log_Lineage_
def sn_39 := slot_ne (Or.inl (wd hw 389 rfl)) (Or.inl (wd hw 67 rfl)) (by decide) pf_Z pf_Z
def sn_40 := slot_ne (Or.inl (wd hw 389 rfl)) (Or.inl (wd hw 51 rfl)) (by decide) pf_Z pf_Z
def sn_41 := slot_ne (Or.inr (wd hw 420 rfl)) (Or.inr (wd hw 22 rfl)) (by decide) pf_J pf_I
def sn_42 := slot_ne (Or.inl (wd hw 389 rfl)) (Or.inl (wd hw 24 rfl)) (by decide) pf_Z pf_I
def sn_43 := slot_ne (Or.inr (wd hw 45 rfl)) (Or.inl (wd hw 24 rfl)) (by decide) pf_I pf_I
def sn_44 := slot_ne (Or.inr (wd hw 45 rfl)) (Or.inl (wd hw 389 rfl)) (by decide) pf_I pf_Z
def sn_45 := slot_ne (Or.inr (wd hw 153 rfl)) (Or.inr (wd hw 151 rfl)) (by decide) pf_J pf_I
end Slots
abbrev GT : Type := Addr × Addr × Addr × Addr × Addr × Addr × Addr × Addr × Addr × Addr × Addr × Addr × ClassId × ClassId × ClassId × ClassId
abbrev GT.dc (G : GT) : Addr := G.1
abbrev GT.em (G : GT) : Addr := G.2.1
abbrev GT.el (G : GT) : Addr := G.2.2.1
abbrev GT.ee (G : GT) : Addr := G.2.2.2.1
abbrev GT.eo (G : GT) : Addr := G.2.2.2.2.1
abbrev GT.mo (G : GT) : Addr := G.2.2.2.2.2.1
abbrev GT.m12 (G : GT) : Addr := G.2.2.2.2.2.2.1
abbrev GT.mal (G : GT) : Addr := G.2.2.2.2.2.2.2.1
abbrev GT.nn (G : GT) : Addr := G.2.2.2.2.2.2.2.2.1
abbrev GT.le (G : GT) : Addr := G.2.2.2.2.2.2.2.2.2.1
abbrev GT.ln (G : GT) : Addr := G.2.2.2.2.2.2.2.2.2.2.1
abbrev GT.lv (G : GT) : Addr := G.2.2.2.2.2.2.2.2.2.2.2.1
abbrev GT.kdc (G : GT) : ClassId := G.2.2.2.2.2.2.2.2.2.2.2.2.1
abbrev GT.kem (G : GT) : ClassId := G.2.2.2.2.2.2.2.2.2.2.2.2.2.1
abbrev GT.kee (G : GT) : ClassId := G.2.2.2.2.2.2.2.2.2.2.2.2.2.2.1
abbrev GT.klv (G : GT) : ClassId := G.2.2.2.2.2.2.2.2.2.2.2.2.2.2.2
abbrev GP (Z : State) (G : GT) : Prop := (Sta Z Z.heap "java/util/ArrayList" "DEFAULTCAPACITY_EMPTY_ELEMENTDATA" "[Ljava/lang/Object;" (.ref G.dc)) ∧ (ex_0 Z Z.heap G.dc) ∧ (Arv Z Z.heap G.dc G.kdc (.object "java/lang/Object") (0 : Int32) [] .null) ∧ (Sta Z Z.heap "java/util/ArrayList" "EMPTY_ELEMENTDATA" "[Ljava/lang/Object;" (.ref G.em)) ∧ (ex_0 Z Z.heap G.em) ∧ (Arv Z Z.heap G.em G.kem (.object "java/lang/Object") (0 : Int32) [] .null) ∧ (Sta Z Z.heap "java/util/ImmutableCollections" "EMPTY_LIST" "Ljava/util/ImmutableCollections$ListN;" (.ref G.el)) ∧ (ex_1 Z Z.heap G.el) ∧ (fl_0 Z Z.heap G.el (.ref G.ee)) ∧ (Arv Z Z.heap G.ee G.kee (.object "java/lang/Object") (0 : Int32) [] .null) ∧ (Sta Z Z.heap "java/util/ImmutableCollections" "EMPTY" "Ljava/lang/Object;" (.ref G.eo)) ∧ (Exa Z Z.heap G.eo "java/lang/Object") ∧ (MirO Z "[Ljava/lang/Object;" G.mo) ∧ (MirO Z "java/util/ImmutableCollections$List12" G.m12) ∧ (MirO Z "java/util/ArrayList" G.mal) ∧ (Sta Z Z.heap "com/example/clean_epoch/cleanepoch/log/EpochEnd" "NONE" "Lcom/example/clean_epoch/cleanepoch/log/EpochEnd;" (.ref G.nn)) ∧ (ex_2 Z Z.heap G.nn) ∧ (fl_1 Z Z.heap G.nn (.int (-1 : Int32))) ∧ (Sta Z Z.heap "com/example/clean_epoch/cleanepoch/log/Lineage" "EMPTY" "Lcom/example/clean_epoch/cleanepoch/log/Lineage;" (.ref G.le)) ∧ (ex_3 Z Z.heap G.le) ∧ (fl_2 Z Z.heap G.le (.ref G.ln)) ∧ (ex_1 Z Z.heap G.ln) ∧ (fl_0 Z Z.heap G.ln (.ref G.lv)) ∧ (Arv Z Z.heap G.lv G.klv (.object "java/lang/Object") (0 : Int32) [] .null) ∧ (ex_0 Z Z.heap G.lv) ∧ (ex_0 Z Z.heap G.ee)
theorem GP.G_dc {Z : State} {G : GT} (h : GP Z G) : Sta Z Z.heap "java/util/ArrayList" "DEFAULTCAPACITY_EMPTY_ELEMENTDATA" "[Ljava/lang/Object;" (.ref G.dc) := h.1
theorem GP.G_dce {Z : State} {G : GT} (h : GP Z G) : ex_0 Z Z.heap G.dc := h.2.1
theorem GP.G_dcv {Z : State} {G : GT} (h : GP Z G) : Arv Z Z.heap G.dc G.kdc (.object "java/lang/Object") (0 : Int32) [] .null := h.2.2.1
theorem GP.G_em {Z : State} {G : GT} (h : GP Z G) : Sta Z Z.heap "java/util/ArrayList" "EMPTY_ELEMENTDATA" "[Ljava/lang/Object;" (.ref G.em) := h.2.2.2.1
theorem GP.G_eme {Z : State} {G : GT} (h : GP Z G) : ex_0 Z Z.heap G.em := h.2.2.2.2.1
theorem GP.G_emv {Z : State} {G : GT} (h : GP Z G) : Arv Z Z.heap G.em G.kem (.object "java/lang/Object") (0 : Int32) [] .null := h.2.2.2.2.2.1
theorem GP.G_el {Z : State} {G : GT} (h : GP Z G) : Sta Z Z.heap "java/util/ImmutableCollections" "EMPTY_LIST" "Ljava/util/ImmutableCollections$ListN;" (.ref G.el) := h.2.2.2.2.2.2.1
theorem GP.G_ele {Z : State} {G : GT} (h : GP Z G) : ex_1 Z Z.heap G.el := h.2.2.2.2.2.2.2.1
theorem GP.G_elf {Z : State} {G : GT} (h : GP Z G) : fl_0 Z Z.heap G.el (.ref G.ee) := h.2.2.2.2.2.2.2.2.1
theorem GP.G_eev {Z : State} {G : GT} (h : GP Z G) : Arv Z Z.heap G.ee G.kee (.object "java/lang/Object") (0 : Int32) [] .null := h.2.2.2.2.2.2.2.2.2.1
theorem GP.G_eo {Z : State} {G : GT} (h : GP Z G) : Sta Z Z.heap "java/util/ImmutableCollections" "EMPTY" "Ljava/lang/Object;" (.ref G.eo) := h.2.2.2.2.2.2.2.2.2.2.1
theorem GP.G_eoe {Z : State} {G : GT} (h : GP Z G) : Exa Z Z.heap G.eo "java/lang/Object" := h.2.2.2.2.2.2.2.2.2.2.2.1
theorem GP.G_mo {Z : State} {G : GT} (h : GP Z G) : MirO Z "[Ljava/lang/Object;" G.mo := h.2.2.2.2.2.2.2.2.2.2.2.2.1
theorem GP.G_m12 {Z : State} {G : GT} (h : GP Z G) : MirO Z "java/util/ImmutableCollections$List12" G.m12 := h.2.2.2.2.2.2.2.2.2.2.2.2.2.1
theorem GP.G_mal {Z : State} {G : GT} (h : GP Z G) : MirO Z "java/util/ArrayList" G.mal := h.2.2.2.2.2.2.2.2.2.2.2.2.2.2.1
theorem GP.G_nn {Z : State} {G : GT} (h : GP Z G) : Sta Z Z.heap "com/example/clean_epoch/cleanepoch/log/EpochEnd" "NONE" "Lcom/example/clean_epoch/cleanepoch/log/EpochEnd;" (.ref G.nn) := h.2.2.2.2.2.2.2.2.2.2.2.2.2.2.2.1
theorem GP.G_nne {Z : State} {G : GT} (h : GP Z G) : ex_2 Z Z.heap G.nn := h.2.2.2.2.2.2.2.2.2.2.2.2.2.2.2.2.1
theorem GP.G_nnf {Z : State} {G : GT} (h : GP Z G) : fl_1 Z Z.heap G.nn (.int (-1 : Int32)) := h.2.2.2.2.2.2.2.2.2.2.2.2.2.2.2.2.2.1
theorem GP.G_le {Z : State} {G : GT} (h : GP Z G) : Sta Z Z.heap "com/example/clean_epoch/cleanepoch/log/Lineage" "EMPTY" "Lcom/example/clean_epoch/cleanepoch/log/Lineage;" (.ref G.le) := h.2.2.2.2.2.2.2.2.2.2.2.2.2.2.2.2.2.2.1
theorem GP.G_lee {Z : State} {G : GT} (h : GP Z G) : ex_3 Z Z.heap G.le := h.2.2.2.2.2.2.2.2.2.2.2.2.2.2.2.2.2.2.2.1
theorem GP.G_lef {Z : State} {G : GT} (h : GP Z G) : fl_2 Z Z.heap G.le (.ref G.ln) := h.2.2.2.2.2.2.2.2.2.2.2.2.2.2.2.2.2.2.2.2.1
theorem GP.G_lne {Z : State} {G : GT} (h : GP Z G) : ex_1 Z Z.heap G.ln := h.2.2.2.2.2.2.2.2.2.2.2.2.2.2.2.2.2.2.2.2.2.1
theorem GP.G_lnf {Z : State} {G : GT} (h : GP Z G) : fl_0 Z Z.heap G.ln (.ref G.lv) := h.2.2.2.2.2.2.2.2.2.2.2.2.2.2.2.2.2.2.2.2.2.2.1
theorem GP.G_lvv {Z : State} {G : GT} (h : GP Z G) : Arv Z Z.heap G.lv G.klv (.object "java/lang/Object") (0 : Int32) [] .null := h.2.2.2.2.2.2.2.2.2.2.2.2.2.2.2.2.2.2.2.2.2.2.2.1
theorem GP.G_lve {Z : State} {G : GT} (h : GP Z G) : ex_0 Z Z.heap G.lv := h.2.2.2.2.2.2.2.2.2.2.2.2.2.2.2.2.2.2.2.2.2.2.2.2.1
theorem GP.G_eee {Z : State} {G : GT} (h : GP Z G) : ex_0 Z Z.heap G.ee := h.2.2.2.2.2.2.2.2.2.2.2.2.2.2.2.2.2.2.2.2.2.2.2.2.2
theorem exa_ne {Z : State} {h : Heap} {a b : Addr} {C D : String} (E : Exa Z h a C) (F : Exa Z h b D) (q : C ≠ D) : a ≠ b := by
  rintro rfl
  obtain ⟨c1, k1, h1, h2, h3, -⟩ := E
  obtain ⟨c2, k2, g1, g2, g3, -⟩ := F
  cases h1.symm.trans g1
  obtain ⟨j1, q1, q2⟩ := Vm.findClass_spec h2
  obtain ⟨j2, r1, r2⟩ := Vm.findClass_spec g2
  cases q1.symm.trans r1
  exact q (q2.symm.trans r2)
def LS (Z : State) (h : Heap) (el eo lz : Addr) : Prop := ex_3 Z h lz ∧ (fl_2 Z h lz (.ref el) ∨ (∃ (li a1 : Addr) (p1 : Int32) (q1 : Int64), fl_2 Z h lz (.ref li) ∧ ex_4 Z h li ∧ fl_3 Z h li (.ref a1) ∧ fl_4 Z h li (.ref eo) ∧ ex_5 Z h a1 ∧ fl_5 Z h a1 (.int p1) ∧ fl_6 Z h a1 (.long q1) ∧ ¬ (p1 < (0 : Int32)) ∧ ¬ ((lcmpW q1 (0 : Int64)) < (0 : Int32))) ∨ (∃ (li a1 : Addr) (p1 : Int32) (q1 : Int64) (a2 : Addr) (p2 : Int32) (q2 : Int64), fl_2 Z h lz (.ref li) ∧ ex_4 Z h li ∧ fl_3 Z h li (.ref a1) ∧ fl_4 Z h li (.ref a2) ∧ ex_5 Z h a1 ∧ fl_5 Z h a1 (.int p1) ∧ fl_6 Z h a1 (.long q1) ∧ ex_5 Z h a2 ∧ fl_5 Z h a2 (.int p2) ∧ fl_6 Z h a2 (.long q2) ∧ ¬ (p1 < (0 : Int32)) ∧ ¬ ((lcmpW q1 (0 : Int64)) < (0 : Int32)) ∧ ¬ (p2 < (0 : Int32)) ∧ ¬ ((lcmpW q2 (0 : Int64)) < (0 : Int32)) ∧ p1 < p2 ∧ (0 : Int32) < (lcmpW q2 q1)))
abbrev LSc (C : String) : Prop := C ≠ "com/example/clean_epoch/cleanepoch/log/Lineage" ∧ C ≠ "java/util/ImmutableCollections$List12" ∧ C ≠ "com/example/clean_epoch/cleanepoch/log/Lineage$Entry"
section LSlaws
variable {Z : State} {h h' : Heap} {el eo lz : Addr}
theorem LS.mono (kE : ∀ x C, ¬ LSc C → Exa Z h x C → Exa Z h' x C) (kF : ∀ x C O n d v, ¬ LSc C → Exa Z h x C → Fld Z h x O n d v → Fld Z h' x O n d v) (H : LS Z h el eo lz) : LS Z h' el eo lz := by
  have c1 : ¬ LSc "com/example/clean_epoch/cleanepoch/log/Lineage" := fun q => q.1 rfl
  have c2 : ¬ LSc "java/util/ImmutableCollections$List12" := fun q => q.2.1 rfl
  have c3 : ¬ LSc "com/example/clean_epoch/cleanepoch/log/Lineage$Entry" := fun q => q.2.2 rfl
  obtain ⟨E, S⟩ := H
  refine ⟨kE _ _ c1 E, ?_⟩
  rcases S with F | ⟨li, a1, p1, q1, F, E1, F1, F2, E2, F3, F4, n⟩ | ⟨li, a1, p1, q1, a2, p2, q2, F, E1, F1, F2, E2, F3, F4, E3, F5, F6, n⟩
  · exact Or.inl (kF _ _ _ _ _ _ c1 E F)
  · exact Or.inr (Or.inl ⟨li, a1, p1, q1, kF _ _ _ _ _ _ c1 E F, kE _ _ c2 E1, kF _ _ _ _ _ _ c2 E1 F1, kF _ _ _ _ _ _ c2 E1 F2, kE _ _ c3 E2, kF _ _ _ _ _ _ c3 E2 F3, kF _ _ _ _ _ _ c3 E2 F4, n⟩)
  · exact Or.inr (Or.inr ⟨li, a1, p1, q1, a2, p2, q2, kF _ _ _ _ _ _ c1 E F, kE _ _ c2 E1, kF _ _ _ _ _ _ c2 E1 F1, kF _ _ _ _ _ _ c2 E1 F2, kE _ _ c3 E2, kF _ _ _ _ _ _ c3 E2 F3, kF _ _ _ _ _ _ c3 E2 F4, kE _ _ c3 E3, kF _ _ _ _ _ _ c3 E3 F5, kF _ _ _ _ _ _ c3 E3 F6, n⟩)
theorem LS.ext (E : Ext h h') (H : LS Z h el eo lz) : LS Z h' el eo lz := H.mono (fun _ _ _ e => Exa.ext E e) (fun _ _ _ _ _ _ _ _ f => Fld.ext E f)
theorem LS.wr {a : Addr} {C : String} {sl : Nat} {v : Value} (W : Wr h h' a sl v) (A : Exa Z h a C) (q : LSc C) (H : LS Z h el eo lz) : LS Z h' el eo lz :=
  H.mono (fun _ _ _ e => Exa.wr W e) (fun _ _ _ _ _ _ hD e f => Fld.other W f (Or.inl (exa_ne e A (fun z => hD (z ▸ q)))))
theorem ls0 : ∀ x ∈ ([] : List Addr), ∃ C, Exa Z h x C ∧ LSc C := fun _ q => nomatch q
theorem lsS {a : Addr} {C : String} {ws : List Addr} (A : Exa Z h a C) (q : LSc C) (r : ∀ x ∈ ws, ∃ C, Exa Z h x C ∧ LSc C) : ∀ x ∈ a :: ws, ∃ C, Exa Z h x C ∧ LSc C := fun x y => by
  rcases List.mem_cons.mp y with rfl | y
  · exact ⟨C, A, q⟩
  · exact r x y
theorem LS.keep {ws : List Addr} (K : Keep h h' ws) (hs : ∀ x ∈ ws, ∃ C, Exa Z h x C ∧ LSc C) (H : LS Z h el eo lz) : LS Z h' el eo lz :=
  H.mono (fun _ _ _ e => e.keep K) (fun _ _ _ _ _ _ hD e f => f.keep K (fun m => by
    obtain ⟨C, e', q⟩ := hs _ m
    exact exa_ne e e' (fun z => hD (z ▸ q)) rfl))
end LSlaws
def WS (Z : State) (h : Heap) (el eo w : Addr) : Prop := ∃ (fe : Int32) (lf : Addr) (rc : Int64) (dv nd : Int32), ex_6 Z h w ∧ Z.heap.size ≤ w ∧ fl_7 Z h w (.int fe) ∧ fl_8 Z h w (.ref lf) ∧ fl_9 Z h w (.long rc) ∧ fl_10 Z h w (.int dv) ∧ fl_11 Z h w (.int nd) ∧ ((∃ bd : Int32, fl_12 Z h w (.int (0 : Int32)) ∧ fl_13 Z h w (.int (1 : Int32)) ∧ fl_14 Z h w (.int bd)) ∨ (fl_12 Z h w (.int (0 : Int32)) ∧ fl_13 Z h w (.int (0 : Int32)) ∧ fl_14 Z h w (.int (1 : Int32))) ∨ (fl_12 Z h w (.int (1 : Int32)) ∧ fl_13 Z h w (.int (0 : Int32)) ∧ fl_14 Z h w (.int (0 : Int32)) ∧ LS Z h el eo lf) ∨ (fl_12 Z h w (.int (0 : Int32)) ∧ fl_13 Z h w (.int (0 : Int32)) ∧ fl_14 Z h w (.int (0 : Int32)) ∧ ¬ (fe < (0 : Int32)) ∧ LS Z h el eo lf))
theorem own_t1 {t : Int32} (h : (-1 : Int32) < t) : ¬ (t < (0 : Int32)) := by
  rw [Int32.lt_iff_toInt_lt] at h ⊢
  have e1 : (-1 : Int32).toInt = -1 := rfl
  have e2 : (0 : Int32).toInt = 0 := rfl
  omega
theorem own_t2 {t : Int32} (h : (-1 : Int32) < t) : ¬ (t = (-1 : Int32)) := fun q => by
  rw [q] at h
  exact absurd h (by decide)
theorem own_t3 {a x : Int32} (h : ¬ (a < (0 : Int32))) : ¬ (a < (a - (x &&& (3 : Int32)))) := by
  have h1 := c_mask x 3 2 (by decide) (by decide)
  have h2 := c_isub a (x &&& 3)
  have h3 := rng32 a
  have h4 := rng32 (a - (x &&& 3))
  rw [Int32.lt_iff_toInt_lt] at h ⊢
  have e2 : (0 : Int32).toInt = 0 := rfl
  omega
theorem own_t5 {a : Int32} (h : ¬ (a < (0 : Int32))) : ¬ ((-1 : Int32) = a) := fun q => by
  rw [← q] at h
  exact h (by decide)
theorem own_lc (a b : Int64) : (lcmpW a b < (0 : Int32) ↔ a < b) ∧ ((0 : Int32) < lcmpW a b ↔ b < a) ∧ (lcmpW a b = (0 : Int32) ↔ a = b) := by
  refine ⟨lw_lt a b, lw_gt a b, lw_eq a b⟩
theorem own_q {q1 q2 x : Int64} (h : ¬ ((lcmpW q1 x) < (0 : Int32))) (g : (0 : Int32) < (lcmpW q2 q1)) : ¬ ((lcmpW q2 x) < (0 : Int32)) := by
  rw [(own_lc _ _).1] at h ⊢
  rw [(own_lc _ _).2.1] at g
  rw [Int64.lt_iff_toInt_lt] at h g ⊢
  omega
theorem own_t4 (y : Int32) : ¬ ((lcmpW ((y &&& (31 : Int32)).toInt64) (0 : Int64)) < (0 : Int32)) := by
  have h1 := c_mask y 31 5 (by decide) (by decide)
  rw [(own_lc _ _).1, Int64.lt_iff_toInt_lt]
  have e2 : (0 : Int64).toInt = 0 := rfl
  rw [Int32.toInt_toInt64]
  omega
theorem pn_12 : plainName "java/util/AbstractCollection" = true := by first | (simp [plainName, overriddenIn]; done) | decide +kernel
abbrev MF {Z : State} {a0 : Array Value} {G : GT} (_ : HW Z a0) (_ : GP Z G) (l : Launch) (y : MethodName) (bytes : ByteArray) (ml : Nat) (rt : Option FieldType) (ws : List Jvm.Cond) (R : Room) (h0 : Heap) (A : Array Value) (Q : Option Value → Heap → List Loc → Prop) : Prop := Met FrameEnd l y bytes ml rt ws R Z h0 A Q
theorem own_mF {l : Launch} {y : MethodName} {bytes : ByteArray} {ml : Nat} {rt : Option FieldType} {ws : List Jvm.Cond} {R : Room} {Z : State} {a0 : Array Value} {G : GT} {hw : HW Z a0} {GG : GP Z G} {h0 : Heap} {A : Array Value} {Q : Option Value → Heap → List Loc → Prop} (Ls : Array Slot) (hpl : plainFor y = true) (ef : ∀ m, entryFrame m A ml = mkF m 0 Ls [])
    (k : ∀ (p : Program) (e : Env) (s : State) (m : MethodId) (below : List Frame) (meth : Method) (c : Code) (s₁ : State), UB p c bytes ml → meth.locks = false → meth.sig.returnType = rt → Z.Warmed39 s.vm → s.vm.findClass y.cls = some m.cls → meth.name = y.name → Stand p l e R s m A below meth c s₁ [] 0 0 → s₁.heap = h0 → Fr Z.heap.size [] → Go FrameEnd p e below s R.cells R.slots Q s₁ (mkF m 0 Ls [])) : MF hw GG l y bytes ml rt ws R h0 A Q :=
  own_met y.cls hpl rfl Ls ef fun p e s m below meth c s₁ h1 h2 h3 h4 h5 h6 h7 h8 h9 h10 => k p e s m below meth c s₁ ⟨h1, h2, h5⟩ h3 h4 h6 h7 h8 h9 h10 (Fr.nil _)
abbrev MFC {Z : State} {a0 : Array Value} {G : GT} (_ : HW Z a0) (_ : GP Z G) (l : Launch) (y : MethodName) (bytes : ByteArray) (ml : Nat) (rt : Option FieldType) (hs : List (Nat × Nat × Nat × Nat)) (ws : List Jvm.Cond) (R : Room) (h0 : Heap) (A : Array Value) (Q : Option Value → Heap → List Loc → Prop) : Prop := MetC FrameEnd l y bytes ml rt hs ws R Z h0 A Q
theorem own_mFC {l : Launch} {y : MethodName} {bytes : ByteArray} {ml : Nat} {rt : Option FieldType} {hs : List (Nat × Nat × Nat × Nat)} {ws : List Jvm.Cond} {R : Room} {Z : State} {a0 : Array Value} {G : GT} {hw : HW Z a0} {GG : GP Z G} {h0 : Heap} {A : Array Value} {Q : Option Value → Heap → List Loc → Prop} (Ls : Array Slot) (hpl : plainFor y = true) (ef : ∀ m, entryFrame m A ml = mkF m 0 Ls [])
    (k : ∀ (p : Program) (e : Env) (s : State) (m : MethodId) (below : List Frame) (meth : Method) (c : Code) (s₁ : State), UB p c bytes ml → meth.locks = false → meth.sig.returnType = rt → Z.Warmed39 s.vm → s.vm.findClass y.cls = some m.cls → meth.name = y.name → Stand p l e R s m A below meth c s₁ [] 0 0 → s₁.heap = h0 → Fr Z.heap.size [] → Go FrameEnd p e below s R.cells R.slots Q s₁ (mkF m 0 Ls [])) : MFC hw GG l y bytes ml rt hs ws R h0 A Q :=
  own_metC y.cls hpl rfl Ls ef fun p e s m below meth c s₁ h1 h2 h3 h4 h5 h6 h7 h8 h9 h10 => k p e s m below meth c s₁ ⟨h1, h2, h5⟩ h3 h4 h6 h7 h8 h9 h10 (Fr.nil _)
section Contracts
variable (l : Launch) (Z : State) (a0 : Array Value) (hw : HW Z a0) (ws : List Jvm.Cond) (G : GT) (GG : GP Z G)
theorem rm_a12_0 (x0 : Addr) (h0 : Heap) (O0 : Ext Z.heap h0) :
    MF hw GG l y_12 jdk_22_method_1_code 1 none ws ⟨1, 0, 0, 12⟩ h0 #[(.ref x0)] (Qp (none) Z h0) := by
  refine own_mF #[.val (.ref x0)] (plainFor_of_name pn_12) (fun _ => rfl) ?_
  intro p e s m below meth c s₁ u hlk hret hZ hown hnm X0 e0 N0
  refine t_aN X0 u d12_0 rfl rfl ?_
  refine t_in 0 X0 u hZ hown (wd hw 91 rfl) (wd hw 11 rfl) (wd hw 12 rfl) e0 rfl d12_1 rfl (by decide) ?_
  intro T1 X1 e1
  exact t_rV X1 u hret hlk d12_4 e1 N0 (by decide)
theorem pn_11 : plainName "java/util/AbstractList" = true := by first | (simp [plainName, overriddenIn]; done) | decide +kernel
def Q_a11_0 (Z : State) (x0 : Addr) (w2 : Int32) (h0 : Heap) (v : Option Value) (h : Heap) (L : List Loc) : Prop := v = none ∧ Fr Z.heap.size L ∧ Keep h0 h [x0] ∧ fl_15 Z h x0 (.int (0 : Int32)) ∧ fl_16 Z h x0 (.int w2) ∧ fl_17 Z h x0 .null
theorem rm_a11_0 (x0 : Addr) (w1 w2 : Int32) (h0 : Heap) (O0 : Ext Z.heap h0) (r0 : ex_7 Z h0 x0) (r1 : fl_15 Z h0 x0 (.int w1)) (r2 : Z.heap.size ≤ x0) (r3 : fl_16 Z h0 x0 (.int w2)) (r4 : fl_17 Z h0 x0 .null) :
    MF hw GG l y_11 jdk_39_method_1_code 1 none ws ⟨2, 0, 0, 24⟩ h0 #[(.ref x0)] (Q_a11_0 Z x0 w2 h0) := by
  refine own_mF #[.val (.ref x0)] (plainFor_of_name pn_11) (fun _ => rfl) ?_
  intro p e s m below meth c s₁ u hlk hret hZ hown hnm X0 e0 N0
  obtain ⟨hx, hby, hml⟩ := id u
  refine t_aN X0 u d11_0 rfl rfl ?_
  refine pt_cN [] [] 0 X0 u hZ hown rfl (wd hw 85 rfl) (m_0 hw) e0 (rm_a12_0 l Z a0 hw [] G GG x0 h0 O0 ) rfl d11_1 rfl rfl (by decide) N0 ?_
  intro T1 L1 X1 e1 N1_
  refine t_aN X1 u d11_4 rfl rfl ?_
  refine t_iC X1 u d11_5  ?_
  refine t_pF X1 u hZ hown (wd hw 92 rfl) e1 r1 r0 (Or.inl (wd hw 93 rfl)) (wd hw 74 rfl) pf_I rfl rfl d11_6 ?_
  intro T2 h2 X2 e2 W2
  have N2_ := Fr.snoc X2 N1_ r2
  have O2_ := extWr O0 W2 r2
  have K2 := Keep.wr (Keep.refl h0 [x0]) W2 k0
  have F2 := Fld.same W2 r1
  exact Go.retV X2 hx hret hlk (hb hby d11_9) (by decide) (by decide) (by show Q_a11_0 ..; rw [e2]; exact ⟨rfl, N2_, K2, F2, (fR W2 r3 (sn_0 hw)), (fR W2 r4 (sn_1 hw))⟩)
theorem pn_27 : plainName "java/util/ArrayList" = true := by first | (simp [plainName, overriddenIn]; done) | decide +kernel
def Q_a27_0 (Z : State) (G : GT) (x0 : Addr) (w2 : Int32) (h0 : Heap) (v : Option Value) (h : Heap) (L : List Loc) : Prop := v = none ∧ Fr Z.heap.size L ∧ Keep h0 h [x0] ∧ fl_15 Z h x0 (.int (0 : Int32)) ∧ fl_16 Z h x0 (.int w2) ∧ fl_17 Z h x0 (.ref G.dc)
theorem rm_a27_0 (x0 : Addr) (w1 w2 : Int32) (h0 : Heap) (O0 : Ext Z.heap h0) (r0 : ex_7 Z h0 x0) (r1 : fl_15 Z h0 x0 (.int w1)) (r2 : Z.heap.size ≤ x0) (r3 : fl_16 Z h0 x0 (.int w2)) (r4 : fl_17 Z h0 x0 .null) :
    MF hw GG l y_27 jdk_38_method_2_code 1 none ws ⟨3, 0, 0, 36⟩ h0 #[(.ref x0)] (Q_a27_0 Z G x0 w2 h0) := by
  refine own_mF #[.val (.ref x0)] (plainFor_of_name pn_27) (fun _ => rfl) ?_
  intro p e s m below meth c s₁ u hlk hret hZ hown hnm X0 e0 N0
  obtain ⟨hx, hby, hml⟩ := id u
  refine t_aN X0 u d27_0 rfl rfl ?_
  refine t_cN [] [] 0 X0 u hZ hown rfl (wd hw 79 rfl) (m_1 hw) e0 (rm_a11_0 l Z a0 hw [] G GG x0 w1 w2 h0 O0 r0 r1 r2 r3 r4) rfl d27_1 rfl rfl (by decide) ?_
  intro v1 T1 L1 Lc1 X1 hQ1 l1
  obtain ⟨rfl, Nq1, Kq1, p1_0, p1_1, p1_2⟩ := hQ1
  have O1_ := extKeep O0 Kq1 (allS r2 all0)
  have K1 := Keep.trans (Keep.refl h0 [x0]) Kq1 (allS k0 all0)
  have N1_ := frA l1 N0 Nq1
  refine t_aN X1 u d27_4 rfl rfl ?_
  refine t_gS X1 u hZ hown (wd hw 179 rfl) rfl (Sta.ext O1_ GG.G_dc) d27_5 ?_
  intro T2 X2 e2
  refine t_pF X2 u hZ hown (wd hw 130 rfl) e2 p1_2 (r0.keep Kq1) (Or.inl (wd hw 131 rfl)) (wd hw 74 rfl) pf_ALjava_lang_Object_ rfl rfl d27_8 ?_
  intro T3 h3 X3 e3 W3
  have N3_ := Fr.snoc X3 N1_ r2
  have O3_ := extWr O1_ W3 r2
  have K3 := Keep.wr K1 W3 k0
  have F3 := Fld.same W3 p1_2
  exact Go.retV X3 hx hret hlk (hb hby d27_11) (by decide) (by decide) (by show Q_a27_0 ..; rw [e3]; exact ⟨rfl, N3_, K3, (fS W3 p1_0 (sn_1 hw)), (fR W3 p1_1 (sn_2 hw)), F3⟩)
theorem pn_71 : plainName "java/util/ImmutableCollections$ListN" = true := by first | (simp [plainName, overriddenIn]; done) | decide +kernel
theorem rm_a71_0  (h0 : Heap) (O0 : Ext Z.heap h0) :
    MF hw GG l y_71 jdk_45_method_3_code 1 (some .int) ws ⟨0, 0, 0, 0⟩ h0 #[(.ref G.el)] (Qp (some (.int (0 : Int32))) Z h0) := by
  refine own_mF #[.val (.ref G.el)] (plainFor_of_name pn_71) (fun _ => rfl) ?_
  intro p e s m below meth c s₁ u hlk hret hZ hown hnm X0 e0 N0
  obtain ⟨hx, hby, hml⟩ := id u
  refine t_aN X0 u d71_0 rfl rfl ?_
  refine t_gF X0 u hZ hown (wd hw 42 rfl) e0 (Fld.ext O0 GG.G_elf) d71_1 ?_
  intro T1 X1 e1
  obtain ⟨cl2, Ar2, -, S2, N2, -, -⟩ := id (Arv.ext GG.G_eev O0)
  refine Go.step (X1.arraylength hx (by rw [e1]; exact Ar2.1) (State.isArrayOf_alike hZ.alike Ar2.2.1) (g := (mkF m 4 #[.val (.ref G.el)] [(.ref G.ee)])) rfl rfl (hb hby d71_4)) ?_
  rw [len_of S2 N2]
  show Go _ _ _ _ _ _ _ _ T1 (mkF m 5 #[.val (.ref G.el)] [(.int (0 : Int32))])
  exact t_rI X1 u hret hlk d71_5 e1 N0 (by decide)
theorem pn_65 : plainName "java/util/ImmutableCollections$ListItr" = true := by first | (simp [plainName, overriddenIn]; done) | decide +kernel
def Q_a65_0 (Z : State) (G : GT) (x0 : Addr) (x2 : Int32) (h0 : Heap) (v : Option Value) (h : Heap) (L : List Loc) : Prop := v = none ∧ Fr Z.heap.size L ∧ Keep h0 h [x0] ∧ fl_18 Z h x0 (.ref G.el) ∧ fl_19 Z h x0 (.int x2) ∧ fl_20 Z h x0 (.int (0 : Int32)) ∧ fl_21 Z h x0 (.int (0 : Int32))
theorem rm_a65_0 (x0 : Addr) (x2 w1 w2 w3 : Int32) (h0 : Heap) (O0 : Ext Z.heap h0) (r0 : ex_8 Z h0 x0) (r1 : fl_18 Z h0 x0 .null) (r2 : Z.heap.size ≤ x0) (r3 : fl_19 Z h0 x0 (.int w1)) (r4 : fl_20 Z h0 x0 (.int w2)) (r5 : fl_21 Z h0 x0 (.int w3)) :
    MF hw GG l y_65 jdk_53_method_1_code 3 none ws ⟨1, 0, 0, 12⟩ h0 #[(.ref x0), (.ref G.el), (.int x2)] (Q_a65_0 Z G x0 x2 h0) := by
  refine own_mF #[.val (.ref x0), .val (.ref G.el), .val (.int x2)] (plainFor_of_name pn_65) (fun _ => rfl) ?_
  intro p e s m below meth c s₁ u hlk hret hZ hown hnm X0 e0 N0
  obtain ⟨hx, hby, hml⟩ := id u
  refine t_aN X0 u d65_0 rfl rfl ?_
  refine t_in 0 X0 u hZ hown (wd hw 465 rfl) (wd hw 11 rfl) (wd hw 12 rfl) e0 rfl d65_1 rfl (by decide) ?_
  intro T1 X1 e1
  refine t_aN X1 u d65_4 rfl rfl ?_
  refine t_aN X1 u d65_5 rfl rfl ?_
  refine t_pF X1 u hZ hown (wd hw 466 rfl) e1 r1 r0 (Or.inr ⟨(wd hw 467 rfl), rfl, hnm⟩) (wd hw 455 rfl) pf_Ljava_util_List_ rfl rfl d65_6 ?_
  intro T2 h2 X2 e2 W2
  have N2_ := Fr.snoc X2 N0 r2
  have O2_ := extWr O0 W2 r2
  have K2 := Keep.wr (Keep.refl h0 [x0]) W2 k0
  have F2 := Fld.same W2 r1
  refine t_aN X2 u d65_9 rfl rfl ?_
  refine t_iN X2 u d65_10 rfl ?_
  refine t_pF X2 u hZ hown (wd hw 468 rfl) e2 (fR W2 r3 (sn_3 hw)) (Exa.wr W2 r0) (Or.inr ⟨(wd hw 469 rfl), rfl, hnm⟩) (wd hw 455 rfl) pf_I rfl rfl d65_11 ?_
  intro T3 h3 X3 e3 W3
  have N3_ := Fr.snoc X3 N2_ r2
  have O3_ := extWr O2_ W3 r2
  have K3 := Keep.wr K2 W3 k0
  have F3 := Fld.same W3 (fR W2 r3 (sn_3 hw))
  refine t_aN X3 u d65_14 rfl rfl ?_
  refine t_iC X3 u d65_15  ?_
  refine t_pF X3 u hZ hown (wd hw 470 rfl) e3 (fR W3 (fR W2 r4 (sn_4 hw)) (sn_5 hw)) (Exa.wr W3 (Exa.wr W2 r0)) (Or.inl (wd hw 471 rfl)) (wd hw 455 rfl) pf_I rfl rfl d65_16 ?_
  intro T4 h4 X4 e4 W4
  have N4_ := Fr.snoc X4 N3_ r2
  have O4_ := extWr O3_ W4 r2
  have K4 := Keep.wr K3 W4 k0
  have F4 := Fld.same W4 (fR W3 (fR W2 r4 (sn_4 hw)) (sn_5 hw))
  refine t_aN X4 u d65_19 rfl rfl ?_
  refine t_iC X4 u d65_20  ?_
  have f5 := (fR W4 (fR W3 (fR W2 r5 (sn_6 hw)) (sn_7 hw)) (sn_8 hw))
  refine t_pN X4 u hZ hown (wd hw 472 rfl) e4 f5 (Exa.wr W4 (Exa.wr W3 (Exa.wr W2 r0))) (Or.inr ⟨(wd hw 473 rfl), rfl, hnm⟩) (wd hw 455 rfl) (.int (0 : Int32)) pf_Z rfl rfl d65_21 ?_
  intro T6 h6 X6 e6 W6
  have N6_ := Fr.snoc X6 N4_ r2
  have O6_ := extWr O4_ W6 r2
  have K6 := Keep.wr K4 W6 k0
  have F6 := Fld.same W6 f5
  have f7 := (Exa.wr W6 (Exa.wr W4 (Exa.wr W3 (Exa.wr W2 r0))))
  have f8 := (fS W6 (fS W4 (fS W3 F2 (sn_3 hw)) (sn_4 hw)) (sn_6 hw))
  exact Go.retV X6 hx hret hlk (hb hby d65_24) (by decide) (by decide) (by show Q_a65_0 ..; rw [e6]; exact ⟨rfl, N6_, K6, f8, (fS W6 (fS W4 F3 (sn_5 hw)) (sn_7 hw)), (fS W6 F4 (sn_8 hw)), F6⟩)
theorem pn_64 : plainName "java/util/ImmutableCollections$AbstractImmutableList" = true := by first | (simp [plainName, overriddenIn]; done) | decide +kernel
def Q_a64_0 (Z : State) (G : GT) (h0 : Heap) (v : Option Value) (h : Heap) (L : List Loc) : Prop := ∃ (b1 : Addr), v = some (.ref b1) ∧ Fr Z.heap.size L ∧ Keep h0 h [] ∧ h0.size ≤ b1 ∧ ex_8 Z h b1 ∧ fl_18 Z h b1 (.ref G.el) ∧ fl_19 Z h b1 (.int (0 : Int32)) ∧ fl_20 Z h b1 (.int (0 : Int32)) ∧ fl_21 Z h b1 (.int (0 : Int32))
theorem rm_a64_0  (h0 : Heap) (O0 : Ext Z.heap h0) :
    MF hw GG l y_64 jdk_46_method_10_code 1 (some (.object "java/util/Iterator")) ws ⟨2, 1, 4, 27⟩ h0 #[(.ref G.el)] (Q_a64_0 Z G h0) := by
  refine own_mF #[.val (.ref G.el)] (plainFor_of_name pn_64) (fun _ => rfl) ?_
  intro p e s m below meth c s₁ u hlk hret hZ hown hnm X0 e0 N0
  obtain ⟨hx, hby, hml⟩ := id u
  refine t_new X0 u hZ hown (wd hw 454 rfl) (wd hw 455 rfl) (wd hw 456 rfl) e0 d64_0 (by decide) ?_
  intro T1 h1 b1 X1 e1 E1 hb1 A1 D1
  have g_b1 := leE O0.1 hb1
  have O1_ := extTr O0 E1
  have sz_b1 := leE (Keep.refl h0 []).1 hb1
  have K1 := Keep.ext (Keep.refl h0 []) E1
  have F1_list : fl_18 Z h1 b1 .null := D1 (Or.inr (wd hw 467 rfl)) (ty := (.object "java/util/List")) pf_Ljava_util_List_
  have F1_size : fl_19 Z h1 b1 (.int (0 : Int32)) := D1 (Or.inr (wd hw 469 rfl)) (ty := .int) pf_I
  have F1_cursor : fl_20 Z h1 b1 (.int (0 : Int32)) := D1 (Or.inl (wd hw 471 rfl)) (ty := .int) pf_I
  have F1_isListIterator : fl_21 Z h1 b1 (.int (0 : Int32)) := D1 (Or.inr (wd hw 473 rfl)) (ty := .boolean) pf_Z
  refine t_dup X1 u d64_3 rfl ?_
  refine t_aN X1 u d64_4 rfl rfl ?_
  refine t_aN X1 u d64_5 rfl rfl ?_
  refine pt_cU [] [(.ref G.el), (.ref b1), (.ref b1)] 3 X1 u hZ hown (wd hw 457 rfl) (m_3 hw) e1 (Exa.ext O1_ GG.G_ele) (rm_a71_0 l Z a0 hw [] G GG  h1 O1_ ) rfl d64_6 rfl rfl (by decide) N0 ?_
  intro T2 L2 X2 e2 N2_
  refine t_cN [(.ref G.el), (.int (0 : Int32))] [(.ref b1)] 1 X2 u hZ hown rfl (wd hw 461 rfl) (m_4 hw) e2 (rm_a65_0 l Z a0 hw [] G GG b1 (0 : Int32) (0 : Int32) (0 : Int32) (0 : Int32) h1 O1_ A1 F1_list g_b1 F1_size F1_cursor F1_isListIterator) rfl d64_9 rfl rfl (by decide) ?_
  intro v3 T3 L3 Lc3 X3 hQ3 l3
  obtain ⟨rfl, Nq3, Kq3, p3_0, p3_1, p3_2, p3_3⟩ := hQ3
  have O3_ := extKeep O1_ Kq3 (allS g_b1 all0)
  have K3 := Keep.trans K1 Kq3 (allS (Or.inr sz_b1) all0)
  have N3_ := frA l3 N2_ Nq3
  exact Go.retA X3 hx hret rfl rfl hlk (hb hby d64_12) (by decide) (by decide) ⟨b1, rfl, N3_, K3, sz_b1, (A1.keep Kq3), p3_0, p3_1, p3_2, p3_3⟩
theorem pn_66 : plainName "java/util/ImmutableCollections$ListItr" = true := by first | (simp [plainName, overriddenIn]; done) | decide +kernel
theorem rm_a66_0 (x0 : Addr) (w1 w2 : Int32) (h0 : Heap) (O0 : Ext Z.heap h0) (r0 : fl_20 Z h0 x0 (.int w1)) (r1 : fl_19 Z h0 x0 (.int w2)) (r2 : w1 = w2) :
    MF hw GG l y_66 jdk_53_method_3_code 1 (some .boolean) ws ⟨0, 0, 0, 0⟩ h0 #[(.ref x0)] (Qp (some (.int (0 : Int32))) Z h0) := by
  refine own_mF #[.val (.ref x0)] (plainFor_of_name pn_66) (fun _ => rfl) ?_
  intro p e s m below meth c s₁ u hlk hret hZ hown hnm X0 e0 N0
  refine t_aN X0 u d66_0 rfl rfl ?_
  refine t_gF X0 u hZ hown (wd hw 470 rfl) e0 r0 d66_1 ?_
  intro T1 X1 e1
  refine t_aN X1 u d66_4 rfl rfl ?_
  refine t_gF X1 u hZ hown (wd hw 468 rfl) e1 r1 d66_5 ?_
  intro T2 X2 e2
  refine t_icY 8 15 X2 u rfl d66_8 (teq r2).1 (by decide) ?_
  refine t_iC X2 u d66_15  ?_
  exact t_rN X2 u hret hlk (by simp) rfl d66_16 e2 N0 (by decide)
theorem pn_19 : plainName "java/lang/Record" = true := by first | (simp [plainName, overriddenIn]; done) | decide +kernel
theorem rm_a19_0 (x0 : Addr) (h0 : Heap) (O0 : Ext Z.heap h0) :
    MF hw GG l y_19 jdk_30_method_1_code 1 none ws ⟨1, 0, 0, 12⟩ h0 #[(.ref x0)] (Qp (none) Z h0) := by
  refine own_mF #[.val (.ref x0)] (plainFor_of_name pn_19) (fun _ => rfl) ?_
  intro p e s m below meth c s₁ u hlk hret hZ hown hnm X0 e0 N0
  refine t_aN X0 u d19_0 rfl rfl ?_
  refine t_in 0 X0 u hZ hown (wd hw 149 rfl) (wd hw 11 rfl) (wd hw 12 rfl) e0 rfl d19_1 rfl (by decide) ?_
  intro T1 X1 e1
  exact t_rV X1 u hret hlk d19_4 e1 N0 (by decide)
theorem pn_29 : plainName "java/util/ArrayList$Itr" = true := by first | (simp [plainName, overriddenIn]; done) | decide +kernel
def Q_a29_0 (Z : State) (x0 x1 : Addr) (w2 w4 : Int32) (h0 : Heap) (v : Option Value) (h : Heap) (L : List Loc) : Prop := v = none ∧ Fr Z.heap.size L ∧ Keep h0 h [x0] ∧ fl_22 Z h x0 (.ref x1) ∧ fl_23 Z h x0 (.int (-1 : Int32)) ∧ fl_24 Z h x0 (.int w2) ∧ fl_25 Z h x0 (.int w4)
theorem rm_a29_0 (x0 x1 : Addr) (w1 w2 w3 w4 : Int32) (h0 : Heap) (O0 : Ext Z.heap h0) (r0 : ex_9 Z h0 x0) (r1 : fl_22 Z h0 x0 .null) (r2 : Z.heap.size ≤ x0) (r3 : fl_23 Z h0 x0 (.int w1)) (r4 : fl_15 Z h0 x1 (.int w2)) (r5 : x1 ≠ x0) (r6 : fl_24 Z h0 x0 (.int w3)) (r7 : fl_25 Z h0 x0 (.int w4)) :
    MF hw GG l y_29 jdk_49_method_1_code 2 none ws ⟨1, 0, 0, 12⟩ h0 #[(.ref x0), (.ref x1)] (Q_a29_0 Z x0 x1 w2 w4 h0) := by
  refine own_mF #[.val (.ref x0), .val (.ref x1)] (plainFor_of_name pn_29) (fun _ => rfl) ?_
  intro p e s m below meth c s₁ u hlk hret hZ hown hnm X0 e0 N0
  obtain ⟨hx, hby, hml⟩ := id u
  refine t_aN X0 u d29_0 rfl rfl ?_
  refine t_aN X0 u d29_1 rfl rfl ?_
  refine t_pF X0 u hZ hown (wd hw 214 rfl) e0 r1 r0 (Or.inr ⟨(wd hw 215 rfl), rfl, hnm⟩) (wd hw 208 rfl) pf_Ljava_util_ArrayList_ rfl rfl d29_2 ?_
  intro T1 h1 X1 e1 W1
  have N1_ := Fr.snoc X1 N0 r2
  have O1_ := extWr O0 W1 r2
  have K1 := Keep.wr (Keep.refl h0 [x0]) W1 k0
  have F1 := Fld.same W1 r1
  refine t_aN X1 u d29_5 rfl rfl ?_
  refine t_in 0 X1 u hZ hown (wd hw 216 rfl) (wd hw 11 rfl) (wd hw 12 rfl) e1 rfl d29_6 rfl (by decide) ?_
  intro T2 X2 e2
  refine t_aN X2 u d29_9 rfl rfl ?_
  refine t_iC X2 u d29_10  ?_
  refine t_pF X2 u hZ hown (wd hw 217 rfl) e2 (fR W1 r3 (sn_9 hw)) (Exa.wr W1 r0) (Or.inl (wd hw 218 rfl)) (wd hw 208 rfl) pf_I rfl rfl d29_11 ?_
  intro T3 h3 X3 e3 W3
  have N3_ := Fr.snoc X3 N1_ r2
  have O3_ := extWr O1_ W3 r2
  have K3 := Keep.wr K1 W3 k0
  have F3 := Fld.same W3 (fR W1 r3 (sn_9 hw))
  refine t_aN X3 u d29_14 rfl rfl ?_
  refine t_aN X3 u d29_15 rfl rfl ?_
  refine t_gF X3 u hZ hown (wd hw 214 rfl) e3 (fS W3 F1 (sn_9 hw)) d29_16 ?_
  intro T4 X4 e4
  obtain ⟨T5, X5, e5, st5⟩ := getF X4 hx hZ hown (host := "") (Or.inl (wd hw 219 rfl)) (Via.of (wd hw 163 rfl)) e4 (fL W3 (fL W1 r4 r5) r5) (g := (mkF m 19 #[.val (.ref x0), .val (.ref x1)] [(.ref x1), (.ref x0)])) rfl rfl (hb hby d29_19)
  refine Go.step st5 ?_
  refine t_pF X5 u hZ hown (wd hw 220 rfl) e5 (fR W3 (fR W1 r6 (sn_10 hw)) (sn_11 hw)) (Exa.wr W3 (Exa.wr W1 r0)) (Or.inl (wd hw 221 rfl)) (wd hw 208 rfl) pf_I rfl rfl d29_22 ?_
  intro T6 h6 X6 e6 W6
  have N6_ := Fr.snoc X6 N3_ r2
  have O6_ := extWr O3_ W6 r2
  have K6 := Keep.wr K3 W6 k0
  have F6 := Fld.same W6 (fR W3 (fR W1 r6 (sn_10 hw)) (sn_11 hw))
  have f7 := (fR W6 (fR W3 (fR W1 r7 (sn_12 hw)) (sn_13 hw)) (sn_14 hw))
  exact Go.retV X6 hx hret hlk (hb hby d29_25) (by decide) (by decide) (by show Q_a29_0 ..; rw [e6]; exact ⟨rfl, N6_, K6, (fS W6 (fS W3 F1 (sn_9 hw)) (sn_10 hw)), (fS W6 F3 (sn_11 hw)), F6, f7⟩)
theorem pn_28 : plainName "java/util/ArrayList" = true := by first | (simp [plainName, overriddenIn]; done) | decide +kernel
def Q_a28_0 (Z : State) (x0 : Addr) (w1 : Int32) (h0 : Heap) (v : Option Value) (h : Heap) (L : List Loc) : Prop := ∃ (b1 : Addr), v = some (.ref b1) ∧ Fr Z.heap.size L ∧ Keep h0 h [] ∧ h0.size ≤ b1 ∧ ex_9 Z h b1 ∧ fl_22 Z h b1 (.ref x0) ∧ fl_23 Z h b1 (.int (-1 : Int32)) ∧ fl_24 Z h b1 (.int w1) ∧ fl_25 Z h b1 (.int (0 : Int32))
theorem rm_a28_0 (x0 : Addr) (w1 : Int32) (h0 : Heap) (O0 : Ext Z.heap h0) (r0 : fl_15 Z h0 x0 (.int w1)) :
    MF hw GG l y_28 jdk_38_method_55_code 1 (some (.object "java/util/Iterator")) ws ⟨2, 1, 4, 26⟩ h0 #[(.ref x0)] (Q_a28_0 Z x0 w1 h0) := by
  refine own_mF #[.val (.ref x0)] (plainFor_of_name pn_28) (fun _ => rfl) ?_
  intro p e s m below meth c s₁ u hlk hret hZ hown hnm X0 e0 N0
  obtain ⟨hx, hby, hml⟩ := id u
  refine t_new X0 u hZ hown (wd hw 207 rfl) (wd hw 208 rfl) (wd hw 209 rfl) e0 d28_0 (by decide) ?_
  intro T1 h1 b1 X1 e1 E1 hb1 A1 D1
  have g_b1 := leE O0.1 hb1
  have O1_ := extTr O0 E1
  have sz_b1 := leE (Keep.refl h0 []).1 hb1
  have K1 := Keep.ext (Keep.refl h0 []) E1
  have F1_this_0 : fl_22 Z h1 b1 .null := D1 (Or.inr (wd hw 215 rfl)) (ty := (.object "java/util/ArrayList")) pf_Ljava_util_ArrayList_
  have F1_lastRet : fl_23 Z h1 b1 (.int (0 : Int32)) := D1 (Or.inl (wd hw 218 rfl)) (ty := .int) pf_I
  have F1_expectedModCount : fl_24 Z h1 b1 (.int (0 : Int32)) := D1 (Or.inl (wd hw 221 rfl)) (ty := .int) pf_I
  have F1_cursor : fl_25 Z h1 b1 (.int (0 : Int32)) := D1 (Or.inl (wd hw 232 rfl)) (ty := .int) pf_I
  refine t_dup X1 u d28_3 rfl ?_
  refine t_aN X1 u d28_4 rfl rfl ?_
  refine t_cN [(.ref x0)] [(.ref b1)] 1 X1 u hZ hown rfl (wd hw 210 rfl) (m_8 hw) e1 (rm_a29_0 l Z a0 hw [] G GG b1 x0 (0 : Int32) w1 (0 : Int32) (0 : Int32) h1 O1_ A1 F1_this_0 g_b1 F1_lastRet (Fld.ext E1 r0) (neE r0.lt hb1) F1_expectedModCount F1_cursor) rfl d28_5 rfl rfl (by decide) ?_
  intro v2 T2 L2 Lc2 X2 hQ2 l2
  obtain ⟨rfl, Nq2, Kq2, p2_0, p2_1, p2_2, p2_3⟩ := hQ2
  have O2_ := extKeep O1_ Kq2 (allS g_b1 all0)
  have K2 := Keep.trans K1 Kq2 (allS (Or.inr sz_b1) all0)
  have N2_ := frA l2 N0 Nq2
  exact Go.retA X2 hx hret rfl rfl hlk (hb hby d28_8) (by decide) (by decide) ⟨b1, rfl, N2_, K2, sz_b1, (A1.keep Kq2), p2_0, p2_1, p2_2, p2_3⟩
theorem pn_30 : plainName "java/util/ArrayList$Itr" = true := by first | (simp [plainName, overriddenIn]; done) | decide +kernel
theorem rm_a30_0 (x0 : Addr) (w1 : Int32) (w2 : Addr) (w3 : Int32) (h0 : Heap) (O0 : Ext Z.heap h0) (r0 : fl_25 Z h0 x0 (.int w1)) (r1 : fl_22 Z h0 x0 (.ref w2)) (r2 : fl_16 Z h0 w2 (.int w3)) (r3 : w1 = w3) :
    MF hw GG l y_30 jdk_49_method_2_code 1 (some .boolean) ws ⟨0, 0, 0, 0⟩ h0 #[(.ref x0)] (Qp (some (.int (0 : Int32))) Z h0) := by
  refine own_mF #[.val (.ref x0)] (plainFor_of_name pn_30) (fun _ => rfl) ?_
  intro p e s m below meth c s₁ u hlk hret hZ hown hnm X0 e0 N0
  obtain ⟨hx, hby, hml⟩ := id u
  refine t_aN X0 u d30_0 rfl rfl ?_
  refine t_gF X0 u hZ hown (wd hw 231 rfl) e0 r0 d30_1 ?_
  intro T1 X1 e1
  refine t_aN X1 u d30_4 rfl rfl ?_
  refine t_gF X1 u hZ hown (wd hw 214 rfl) e1 r1 d30_5 ?_
  intro T2 X2 e2
  obtain ⟨T3, X3, e3, st3⟩ := getF X2 hx hZ hown (Or.inr (wd hw 233 rfl)) Via.refl e2 r2 (g := (mkF m 8 #[.val (.ref x0)] [(.ref w2), (.int w1)])) rfl rfl (hb hby d30_8)
  refine Go.step st3 ?_
  refine t_icY 11 18 X3 u rfl d30_11 (teq r3).1 (by decide) ?_
  refine t_iC X3 u d30_18  ?_
  exact t_rN X3 u hret hlk (by simp) rfl d30_19 e3 N0 (by decide)
theorem pn_17 : plainName "java/util/ArrayList" = true := by first | (simp [plainName, overriddenIn]; done) | decide +kernel
theorem rm_a17_0 (x0 : Addr) (w1 : Int32) (h0 : Heap) (O0 : Ext Z.heap h0) (r0 : fl_16 Z h0 x0 (.int w1)) (r1 : w1 = (0 : Int32)) :
    MF hw GG l y_17 jdk_38_method_9_code 1 (some .boolean) ws ⟨0, 0, 0, 0⟩ h0 #[(.ref x0)] (Qp (some (.int (1 : Int32))) Z h0) := by
  refine own_mF #[.val (.ref x0)] (plainFor_of_name pn_17) (fun _ => rfl) ?_
  intro p e s m below meth c s₁ u hlk hret hZ hown hnm X0 e0 N0
  refine t_aN X0 u d17_0 rfl rfl ?_
  refine t_gF X0 u hZ hown (wd hw 127 rfl) e0 r0 d17_1 ?_
  intro T1 X1 e1
  refine t_ifN X1 u d17_4 ((if0 _ _).trans (teq r1).2) ?_
  refine t_iC X1 u d17_7  ?_
  refine t_go 8 12 X1 u rfl d17_8 (by decide) ?_
  exact t_rN X1 u hret hlk (by simp) rfl d17_12 e1 N0 (by decide)
theorem pn_70 : plainName "java/util/List" = true := by first | (simp [plainName, overriddenIn]; done) | decide +kernel
theorem rm_a70_0  (h0 : Heap) (O0 : Ext Z.heap h0) :
    MF hw GG l y_70 jdk_40_method_36_code 0 (some (.object "java/util/List")) ws ⟨0, 0, 0, 0⟩ h0 #[] (Qp (some (.ref G.el)) Z h0) := by
  refine own_mF #[] (plainFor_of_name pn_70) (fun _ => rfl) ?_
  intro p e s m below meth c s₁ u hlk hret hZ hown hnm X0 e0 N0
  refine t_gS X0 u hZ hown (wd hw 497 rfl) e0 (Sta.ext O0 GG.G_el) d70_0 ?_
  intro T1 X1 e1
  exact t_rA X1 u hret hlk rfl rfl d70_3 e1 N0 (by decide)
theorem pn_37 : plainName "java/util/ImmutableCollections" = true := by first | (simp [plainName, overriddenIn]; done) | decide +kernel
theorem rm_a37_0 (x0 : Addr) (w1 : Int32) (h0 : Heap) (O0 : Ext Z.heap h0) (r0 : ex_7 Z h0 x0) (r1 : fl_16 Z h0 x0 (.int w1)) (r2 : w1 = (0 : Int32)) :
    MF hw GG l y_37 jdk_56_method_3_code 2 (some (.object "java/util/List")) ws ⟨1, 0, 0, 12⟩ h0 #[(.ref x0)] (Qp (some (.ref G.el)) Z h0) := by
  refine own_mF #[.val (.ref x0), .unset] (plainFor_of_name pn_37) (fun _ => rfl) ?_
  intro p e s m below meth c s₁ u hlk hret hZ hown hnm X0 e0 N0
  obtain ⟨hx, hby, hml⟩ := id u
  refine t_aN X0 u d37_0 rfl rfl ?_
  obtain ⟨T1, X1, e1, st1⟩ := instNo X0 hx hZ hown (wd hw 272 rfl) e0 r0 (own_nsNo (wd hw 273 rfl) (wd hw 293 rfl) (NS.step (wd hw 273 rfl) (NS.step (wd hw 274 rfl) (NS.step (wd hw 275 rfl) (own_nsRoot (wd hw 276 rfl) (wd hw 293 rfl) (by decide)) (by decide)) (by decide)) (by decide)) (by decide)) (g := (mkF m 1 #[.val (.ref x0), .unset] [(.ref x0)])) rfl rfl (hb hby d37_1)
  refine Go.step st1 ?_
  refine t_ifN X1 u d37_4 ((if0 _ _).trans (teq (by decide : (0 : Int32) = (0 : Int32))).2) ?_
  refine t_aN X1 u d37_7 rfl rfl ?_
  obtain ⟨T2, X2, e2, st2⟩ := instNo X1 hx hZ hown (wd hw 277 rfl) e1 r0 (own_nsNo2 (wd hw 273 rfl) (own_face (wd hw 35 rfl)) (NS.step (wd hw 273 rfl) (NS.step (wd hw 274 rfl) (NS.step (wd hw 275 rfl) (own_nsRoot2 (wd hw 276 rfl) (own_face (wd hw 35 rfl)) (by decide)) (by decide)) (by decide)) (by decide)) (by decide)) (g := (mkF m 8 #[.val (.ref x0), .unset] [(.ref x0)])) rfl rfl (hb hby d37_8)
  refine Go.step st2 ?_
  refine t_ifY 11 31 X2 u rfl d37_11 ((if0 _ _).trans (teq (by decide : (0 : Int32) = (0 : Int32))).1) (by decide) ?_
  refine t_aN X2 u d37_31 rfl rfl ?_
  refine pt_cI [] [] 0 X2 u hZ hown (wd hw 278 rfl) (m_11 hw) e2 r0 (rm_a17_0 l Z a0 hw [] G GG x0 w1 h0 O0 r1 r2) rfl d37_32 rfl rfl (by decide) N0 ?_
  intro T3 L3 X3 e3 N3_
  refine t_ifN X3 u d37_37 ((if0 _ _).trans (feq (by decide : ¬ ((1 : Int32) = (0 : Int32)))).1) ?_
  refine pt_cS [] [] 0 X3 u hZ hown (wd hw 494 rfl) (m_12 hw) e3 (rm_a70_0 l Z a0 hw [] G GG  h0 O0 ) rfl d37_40 rfl rfl (by decide) N3_ ?_
  intro T4 L4 X4 e4 N4_
  exact t_rA X4 u hret hlk rfl rfl d37_43 e4 N4_ (by decide)
theorem pn_36 : plainName "java/util/List" = true := by first | (simp [plainName, overriddenIn]; done) | decide +kernel
theorem rm_a36_0 (x0 : Addr) (w1 : Int32) (h0 : Heap) (O0 : Ext Z.heap h0) (r0 : ex_7 Z h0 x0) (r1 : fl_16 Z h0 x0 (.int w1)) (r2 : w1 = (0 : Int32)) :
    MF hw GG l y_36 jdk_40_method_48_code 1 (some (.object "java/util/List")) ws ⟨2, 0, 0, 25⟩ h0 #[(.ref x0)] (Qp (some (.ref G.el)) Z h0) := by
  refine own_mF #[.val (.ref x0)] (plainFor_of_name pn_36) (fun _ => rfl) ?_
  intro p e s m below meth c s₁ u hlk hret hZ hown hnm X0 e0 N0
  refine t_aN X0 u d36_0 rfl rfl ?_
  refine pt_cS [(.ref x0)] [] 0 X0 u hZ hown (wd hw 268 rfl) (m_13 hw) e0 (rm_a37_0 l Z a0 hw [] G GG x0 w1 h0 O0 r0 r1 r2) rfl d36_1 rfl rfl (by decide) N0 ?_
  intro T1 L1 X1 e1 N1_
  exact t_rA X1 u hret hlk rfl rfl d36_4 e1 N1_ (by decide)
theorem pn_26 : plainName "com/example/clean_epoch/cleanepoch/log/Lineage" = true := by first | (simp [plainName, overriddenIn]; done) | decide +kernel
def Q_a26_0 (Z : State) (G : GT) (x0 : Addr) (h0 : Heap) (v : Option Value) (h : Heap) (L : List Loc) : Prop := v = none ∧ Fr Z.heap.size L ∧ Keep h0 h [x0] ∧ fl_2 Z h x0 (.ref G.el)
theorem rm_a26_0 (x0 x1 : Addr) (w1 w2 : Int32) (h0 : Heap) (O0 : Ext Z.heap h0) (r0 : ex_7 Z h0 x1) (r1 : fl_15 Z h0 x1 (.int w1)) (r2 : fl_16 Z h0 x1 (.int w2)) (r3 : (0 : Int32) = w2) (r4 : ex_3 Z h0 x0) (r5 : fl_2 Z h0 x0 .null) (r6 : Z.heap.size ≤ x0) :
    MF hw GG l y_26 prog_22_method_1_code 5 none ws ⟨4, 2, 7, 49⟩ h0 #[(.ref x0), (.ref x1)] (Q_a26_0 Z G x0 h0) := by
  refine own_mF #[.val (.ref x0), .val (.ref x1), .unset, .unset, .unset] (plainFor_of_name pn_26) (fun _ => rfl) ?_
  intro p e s m below meth c s₁ u hlk hret hZ hown hnm X0 e0 N0
  obtain ⟨hx, hby, hml⟩ := id u
  refine t_aN X0 u d26_0 rfl rfl ?_
  refine pt_cN [] [] 0 X0 u hZ hown rfl (wd hw 195 rfl) (m_7 hw) e0 (rm_a19_0 l Z a0 hw [] G GG x0 h0 O0 ) rfl d26_1 rfl rfl (by decide) N0 ?_
  intro T1 L1 X1 e1 N1_
  refine t_new X1 u hZ hown (wd hw 73 rfl) (wd hw 74 rfl) (wd hw 75 rfl) e1 d26_4 (by decide) ?_
  intro T2 h2 b2 X2 e2 E2 hb2 A2 D2
  have g_b2 := leE O0.1 hb2
  have O2_ := extTr O0 E2
  have sz_b2 := leE (Keep.refl h0 [x0]).1 hb2
  have K2 := Keep.ext (Keep.refl h0 [x0]) E2
  have F2_modCount : fl_15 Z h2 b2 (.int (0 : Int32)) := D2 (Or.inl (wd hw 93 rfl)) (ty := .int) pf_I
  have F2_size : fl_16 Z h2 b2 (.int (0 : Int32)) := D2 (Or.inl (wd hw 128 rfl)) (ty := .int) pf_I
  have F2_elementData : fl_17 Z h2 b2 .null := D2 (Or.inl (wd hw 131 rfl)) (ty := (.array (.object "java/lang/Object"))) pf_ALjava_lang_Object_
  refine t_dup X2 u d26_7 rfl ?_
  refine t_cN [] [(.ref b2)] 1 X2 u hZ hown rfl (wd hw 196 rfl) (m_2 hw) e2 (rm_a27_0 l Z a0 hw [] G GG b2 (0 : Int32) (0 : Int32) h2 O2_ A2 F2_modCount g_b2 F2_size F2_elementData) rfl d26_8 rfl rfl (by decide) ?_
  intro v3 T3 L3 Lc3 X3 hQ3 l3
  obtain ⟨rfl, Nq3, Kq3, p3_0, p3_1, p3_2⟩ := hQ3
  have O3_ := extKeep O2_ Kq3 (allS g_b2 all0)
  have K3 := Keep.trans K2 Kq3 (allS (Or.inr sz_b2) all0)
  have N3_ := frA l3 N1_ Nq3
  refine t_asN X3 u d26_11 rfl (l' := #[.val (.ref x0), .val (.ref x1), .val (.ref b2), .unset, .unset]) rfl ?_
  refine t_aN X3 u d26_12 rfl rfl ?_
  have f4 := ((Fld.ext E2 r1).keep Kq3 (ninS (neE r0.lt hb2) nin0))
  refine t_cI [] [] 0 X3 u hZ hown (wd hw 199 rfl) (m_9 hw) rfl ((Exa.ext E2 r0).keep Kq3) (rm_a28_0 l Z a0 hw [] G GG x1 w1 T3.heap O3_ f4) rfl d26_13 rfl rfl (by decide) ?_
  intro v5 T5 L5 Lc5 X5 hQ5 l5
  obtain ⟨b1q5, rfl, Nq5, Kq5, p5_0, p5_1, p5_2, p5_3, p5_4, p5_5⟩ := hQ5
  have O5_ := extKeep O3_ Kq5 all0
  have K5 := Keep.trans K3 Kq5 all0
  have N5_ := frA l5 N3_ Nq5
  have g_b1q5 := Nat.le_trans O3_.1 p5_0
  have sz_b1q5 := Nat.le_trans K3.1 p5_0
  refine t_asN X5 u d26_18 rfl (l' := #[.val (.ref x0), .val (.ref x1), .val (.ref b2), .val (.ref b1q5), .unset]) rfl ?_
  refine t_aN X5 u d26_19 rfl rfl ?_
  have f6 := (((Fld.ext E2 r2).keep Kq3 (ninS (neE r0.lt hb2) nin0)).keep Kq5 nin0)
  refine pt_cI [] [] 0 X5 u hZ hown (wd hw 222 rfl) (m_10 hw) rfl p5_1 (rm_a30_0 l Z a0 hw [] G GG b1q5 (0 : Int32) x1 w2 T5.heap O5_ p5_5 p5_2 f6 r3) rfl d26_20 rfl rfl (by decide) N5_ ?_
  intro T7 L7 X7 e7 N7_
  refine t_ifY 25 86 X7 u rfl d26_25 ((if0 _ _).trans (teq (by decide : (0 : Int32) = (0 : Int32))).1) (by decide) ?_
  refine t_aN X7 u d26_86 rfl rfl ?_
  refine pt_cS [(.ref b2)] [] 0 X7 u hZ hown (wd hw 264 rfl) (m_14 hw) e7 (rm_a36_0 l Z a0 hw [] G GG b2 (0 : Int32) T5.heap O5_ ((A2.keep Kq3).keep Kq5) (p3_1.keep Kq5 nin0) (by decide)) rfl d26_87 rfl rfl (by decide) N7_ ?_
  intro T8 L8 X8 e8 N8_
  refine t_asN X8 u d26_90 rfl (l' := #[.val (.ref x0), .val (.ref G.el), .val (.ref b2), .val (.ref b1q5), .unset]) rfl ?_
  refine t_aN X8 u d26_91 rfl rfl ?_
  refine t_aN X8 u d26_92 rfl rfl ?_
  have f9 := (((Fld.ext E2 r5).keep Kq3 (ninS (neE r4.lt hb2) nin0)).keep Kq5 nin0)
  refine t_pF X8 u hZ hown (wd hw 30 rfl) e8 f9 (((Exa.ext E2 r4).keep Kq3).keep Kq5) (Or.inr ⟨(wd hw 31 rfl), rfl, hnm⟩) (wd hw 191 rfl) pf_Ljava_util_List_ rfl rfl d26_93 ?_
  intro T10 h10 X10 e10 W10
  have N10_ := Fr.snoc X10 N8_ r6
  have O10_ := extWr O5_ W10 r6
  have K10 := Keep.wr K5 W10 k0
  have F10 := Fld.same W10 f9
  exact Go.retV X10 hx hret hlk (hb hby d26_96) (by decide) (by decide) (by show Q_a26_0 ..; rw [e10]; exact ⟨rfl, N10_, K10, F10⟩)
theorem pn_57 : plainName "java/util/ImmutableCollections$List12" = true := by first | (simp [plainName, overriddenIn]; done) | decide +kernel
theorem rm_a57_0 (x0 : Addr) (h0 : Heap) (O0 : Ext Z.heap h0) (r0 : fl_4 Z h0 x0 (.ref G.eo)) :
    MF hw GG l y_57 jdk_44_method_3_code 1 (some .int) ws ⟨0, 0, 0, 0⟩ h0 #[(.ref x0)] (Qp (some (.int (1 : Int32))) Z h0) := by
  refine own_mF #[.val (.ref x0)] (plainFor_of_name pn_57) (fun _ => rfl) ?_
  intro p e s m below meth c s₁ u hlk hret hZ hown hnm X0 e0 N0
  obtain ⟨hx, hby, hml⟩ := id u
  refine t_aN X0 u d57_0 rfl rfl ?_
  refine t_gF X0 u hZ hown (wd hw 320 rfl) e0 r0 d57_1 ?_
  intro T1 X1 e1
  obtain ⟨T2, X2, e2, st2⟩ := getS2 X1 hx hZ hown (Or.inr (wd hw 319 rfl)) Via.refl e1 (Sta.ext O0 GG.G_eo) (g := (mkF m 4 #[.val (.ref x0)] [(.ref G.eo)])) rfl (hb hby d57_4)
  refine Go.step st2 ?_
  refine Go.step (fun _ kt_ => Jvm.RoadKit.acmp (g := (mkF m 7 #[.val (.ref x0)] [(.ref G.eo), (.ref G.eo)])) X2 hx rfl rfl rfl (pc0 := 7) (pc' := 14) (same := true) rfl (hb hby d57_7) rfl (decide_eq_true rfl) (by decide) (by decide) kt_) ?_
  show Go _ _ _ _ _ _ _ _ T2 (mkF m 14 #[.val (.ref x0)] [])
  refine t_iC X2 u d57_14  ?_
  exact t_rI X2 u hret hlk d57_15 e2 N0 (by decide)
def Q_a65_1 (Z : State) (x0 x1 : Addr) (x2 : Int32) (h0 : Heap) (v : Option Value) (h : Heap) (L : List Loc) : Prop := v = none ∧ Fr Z.heap.size L ∧ Keep h0 h [x0] ∧ fl_18 Z h x0 (.ref x1) ∧ fl_19 Z h x0 (.int x2) ∧ fl_20 Z h x0 (.int (0 : Int32)) ∧ fl_21 Z h x0 (.int (0 : Int32))
theorem rm_a65_1 (x0 x1 : Addr) (x2 w1 w2 w3 : Int32) (h0 : Heap) (O0 : Ext Z.heap h0) (r0 : ex_8 Z h0 x0) (r1 : fl_18 Z h0 x0 .null) (r2 : Z.heap.size ≤ x0) (r3 : fl_19 Z h0 x0 (.int w1)) (r4 : fl_20 Z h0 x0 (.int w2)) (r5 : fl_21 Z h0 x0 (.int w3)) :
    MF hw GG l y_65 jdk_53_method_1_code 3 none ws ⟨1, 0, 0, 12⟩ h0 #[(.ref x0), (.ref x1), (.int x2)] (Q_a65_1 Z x0 x1 x2 h0) := by
  refine own_mF #[.val (.ref x0), .val (.ref x1), .val (.int x2)] (plainFor_of_name pn_65) (fun _ => rfl) ?_
  intro p e s m below meth c s₁ u hlk hret hZ hown hnm X0 e0 N0
  obtain ⟨hx, hby, hml⟩ := id u
  refine t_aN X0 u d65_0 rfl rfl ?_
  refine t_in 0 X0 u hZ hown (wd hw 465 rfl) (wd hw 11 rfl) (wd hw 12 rfl) e0 rfl d65_1 rfl (by decide) ?_
  intro T1 X1 e1
  refine t_aN X1 u d65_4 rfl rfl ?_
  refine t_aN X1 u d65_5 rfl rfl ?_
  refine t_pF X1 u hZ hown (wd hw 466 rfl) e1 r1 r0 (Or.inr ⟨(wd hw 467 rfl), rfl, hnm⟩) (wd hw 455 rfl) pf_Ljava_util_List_ rfl rfl d65_6 ?_
  intro T2 h2 X2 e2 W2
  have N2_ := Fr.snoc X2 N0 r2
  have O2_ := extWr O0 W2 r2
  have K2 := Keep.wr (Keep.refl h0 [x0]) W2 k0
  have F2 := Fld.same W2 r1
  refine t_aN X2 u d65_9 rfl rfl ?_
  refine t_iN X2 u d65_10 rfl ?_
  refine t_pF X2 u hZ hown (wd hw 468 rfl) e2 (fR W2 r3 (sn_3 hw)) (Exa.wr W2 r0) (Or.inr ⟨(wd hw 469 rfl), rfl, hnm⟩) (wd hw 455 rfl) pf_I rfl rfl d65_11 ?_
  intro T3 h3 X3 e3 W3
  have N3_ := Fr.snoc X3 N2_ r2
  have O3_ := extWr O2_ W3 r2
  have K3 := Keep.wr K2 W3 k0
  have F3 := Fld.same W3 (fR W2 r3 (sn_3 hw))
  refine t_aN X3 u d65_14 rfl rfl ?_
  refine t_iC X3 u d65_15  ?_
  refine t_pF X3 u hZ hown (wd hw 470 rfl) e3 (fR W3 (fR W2 r4 (sn_4 hw)) (sn_5 hw)) (Exa.wr W3 (Exa.wr W2 r0)) (Or.inl (wd hw 471 rfl)) (wd hw 455 rfl) pf_I rfl rfl d65_16 ?_
  intro T4 h4 X4 e4 W4
  have N4_ := Fr.snoc X4 N3_ r2
  have O4_ := extWr O3_ W4 r2
  have K4 := Keep.wr K3 W4 k0
  have F4 := Fld.same W4 (fR W3 (fR W2 r4 (sn_4 hw)) (sn_5 hw))
  refine t_aN X4 u d65_19 rfl rfl ?_
  refine t_iC X4 u d65_20  ?_
  have f5 := (fR W4 (fR W3 (fR W2 r5 (sn_6 hw)) (sn_7 hw)) (sn_8 hw))
  refine t_pN X4 u hZ hown (wd hw 472 rfl) e4 f5 (Exa.wr W4 (Exa.wr W3 (Exa.wr W2 r0))) (Or.inr ⟨(wd hw 473 rfl), rfl, hnm⟩) (wd hw 455 rfl) (.int (0 : Int32)) pf_Z rfl rfl d65_21 ?_
  intro T6 h6 X6 e6 W6
  have N6_ := Fr.snoc X6 N4_ r2
  have O6_ := extWr O4_ W6 r2
  have K6 := Keep.wr K4 W6 k0
  have F6 := Fld.same W6 f5
  have f7 := (Exa.wr W6 (Exa.wr W4 (Exa.wr W3 (Exa.wr W2 r0))))
  have f8 := (fS W6 (fS W4 (fS W3 F2 (sn_3 hw)) (sn_4 hw)) (sn_6 hw))
  exact Go.retV X6 hx hret hlk (hb hby d65_24) (by decide) (by decide) (by show Q_a65_1 ..; rw [e6]; exact ⟨rfl, N6_, K6, f8, (fS W6 (fS W4 F3 (sn_5 hw)) (sn_7 hw)), (fS W6 F4 (sn_8 hw)), F6⟩)
def Q_a64_1 (Z : State) (x0 : Addr) (h0 : Heap) (v : Option Value) (h : Heap) (L : List Loc) : Prop := ∃ (b1 : Addr), v = some (.ref b1) ∧ Fr Z.heap.size L ∧ Keep h0 h [] ∧ h0.size ≤ b1 ∧ ex_8 Z h b1 ∧ fl_18 Z h b1 (.ref x0) ∧ fl_19 Z h b1 (.int (1 : Int32)) ∧ fl_20 Z h b1 (.int (0 : Int32)) ∧ fl_21 Z h b1 (.int (0 : Int32))
theorem rm_a64_1 (x0 : Addr) (h0 : Heap) (O0 : Ext Z.heap h0) (r0 : ex_4 Z h0 x0) (r1 : fl_4 Z h0 x0 (.ref G.eo)) :
    MF hw GG l y_64 jdk_46_method_10_code 1 (some (.object "java/util/Iterator")) ws ⟨2, 1, 4, 27⟩ h0 #[(.ref x0)] (Q_a64_1 Z x0 h0) := by
  refine own_mF #[.val (.ref x0)] (plainFor_of_name pn_64) (fun _ => rfl) ?_
  intro p e s m below meth c s₁ u hlk hret hZ hown hnm X0 e0 N0
  obtain ⟨hx, hby, hml⟩ := id u
  refine t_new X0 u hZ hown (wd hw 454 rfl) (wd hw 455 rfl) (wd hw 456 rfl) e0 d64_0 (by decide) ?_
  intro T1 h1 b1 X1 e1 E1 hb1 A1 D1
  have g_b1 := leE O0.1 hb1
  have O1_ := extTr O0 E1
  have sz_b1 := leE (Keep.refl h0 []).1 hb1
  have K1 := Keep.ext (Keep.refl h0 []) E1
  have F1_list : fl_18 Z h1 b1 .null := D1 (Or.inr (wd hw 467 rfl)) (ty := (.object "java/util/List")) pf_Ljava_util_List_
  have F1_size : fl_19 Z h1 b1 (.int (0 : Int32)) := D1 (Or.inr (wd hw 469 rfl)) (ty := .int) pf_I
  have F1_cursor : fl_20 Z h1 b1 (.int (0 : Int32)) := D1 (Or.inl (wd hw 471 rfl)) (ty := .int) pf_I
  have F1_isListIterator : fl_21 Z h1 b1 (.int (0 : Int32)) := D1 (Or.inr (wd hw 473 rfl)) (ty := .boolean) pf_Z
  refine t_dup X1 u d64_3 rfl ?_
  refine t_aN X1 u d64_4 rfl rfl ?_
  refine t_aN X1 u d64_5 rfl rfl ?_
  refine pt_cU [] [(.ref x0), (.ref b1), (.ref b1)] 3 X1 u hZ hown (wd hw 457 rfl) (m_16 hw) e1 (Exa.ext E1 r0) (rm_a57_0 l Z a0 hw [] G GG x0 h1 O1_ (Fld.ext E1 r1)) rfl d64_6 rfl rfl (by decide) N0 ?_
  intro T2 L2 X2 e2 N2_
  refine t_cN [(.ref x0), (.int (1 : Int32))] [(.ref b1)] 1 X2 u hZ hown rfl (wd hw 461 rfl) (m_4 hw) e2 (rm_a65_1 l Z a0 hw [] G GG b1 x0 (1 : Int32) (0 : Int32) (0 : Int32) (0 : Int32) h1 O1_ A1 F1_list g_b1 F1_size F1_cursor F1_isListIterator) rfl d64_9 rfl rfl (by decide) ?_
  intro v3 T3 L3 Lc3 X3 hQ3 l3
  obtain ⟨rfl, Nq3, Kq3, p3_0, p3_1, p3_2, p3_3⟩ := hQ3
  have O3_ := extKeep O1_ Kq3 (allS g_b1 all0)
  have K3 := Keep.trans K1 Kq3 (allS (Or.inr sz_b1) all0)
  have N3_ := frA l3 N2_ Nq3
  exact Go.retA X3 hx hret rfl rfl hlk (hb hby d64_12) (by decide) (by decide) ⟨b1, rfl, N3_, K3, sz_b1, (A1.keep Kq3), p3_0, p3_1, p3_2, p3_3⟩
theorem rm_a66_1 (x0 : Addr) (w1 w2 : Int32) (h0 : Heap) (O0 : Ext Z.heap h0) (r0 : fl_20 Z h0 x0 (.int w1)) (r1 : fl_19 Z h0 x0 (.int w2)) (r2 : ¬ (w1 = w2)) :
    MF hw GG l y_66 jdk_53_method_3_code 1 (some .boolean) ws ⟨0, 0, 0, 0⟩ h0 #[(.ref x0)] (Qp (some (.int (1 : Int32))) Z h0) := by
  refine own_mF #[.val (.ref x0)] (plainFor_of_name pn_66) (fun _ => rfl) ?_
  intro p e s m below meth c s₁ u hlk hret hZ hown hnm X0 e0 N0
  refine t_aN X0 u d66_0 rfl rfl ?_
  refine t_gF X0 u hZ hown (wd hw 470 rfl) e0 r0 d66_1 ?_
  intro T1 X1 e1
  refine t_aN X1 u d66_4 rfl rfl ?_
  refine t_gF X1 u hZ hown (wd hw 468 rfl) e1 r1 d66_5 ?_
  intro T2 X2 e2
  refine t_icN X2 u d66_8 (feq r2).1 ?_
  refine t_iC X2 u d66_11  ?_
  refine t_go 12 16 X2 u rfl d66_12 (by decide) ?_
  exact t_rN X2 u hret hlk (by simp) rfl d66_16 e2 N0 (by decide)
theorem pn_53 : plainName "java/util/ImmutableCollections$List12" = true := by first | (simp [plainName, overriddenIn]; done) | decide +kernel
theorem rm_a53_0 (x0 : Addr) (x1 : Int32) (w1 : Addr) (h0 : Heap) (O0 : Ext Z.heap h0) (r0 : x1 = (0 : Int32)) (r1 : fl_3 Z h0 x0 (.ref w1)) :
    MF hw GG l y_53 jdk_44_method_5_code 2 (some (.object "java/lang/Object")) ws ⟨0, 0, 0, 0⟩ h0 #[(.ref x0), (.int x1)] (Qp (some (.ref w1)) Z h0) := by
  refine own_mF #[.val (.ref x0), .val (.int x1)] (plainFor_of_name pn_53) (fun _ => rfl) ?_
  intro p e s m below meth c s₁ u hlk hret hZ hown hnm X0 e0 N0
  refine t_iN X0 u d53_0 rfl ?_
  refine t_ifN X0 u d53_1 ((if0 _ _).trans (teq r0).2) ?_
  refine t_aN X0 u d53_4 rfl rfl ?_
  refine t_gF X0 u hZ hown (wd hw 317 rfl) e0 r1 d53_5 ?_
  intro T1 X1 e1
  exact t_rA X1 u hret hlk rfl rfl d53_8 e1 N0 (by decide)
theorem pn_67 : plainName "java/util/ImmutableCollections$ListItr" = true := by first | (simp [plainName, overriddenIn]; done) | decide +kernel
def Q_a67_0 (Z : State) (x0 : Addr) (w1 : Int32) (w2 w3 : Addr) (w4 w5 : Int32) (h0 : Heap) (v : Option Value) (h : Heap) (L : List Loc) : Prop := v = some (.ref w3) ∧ Fr Z.heap.size L ∧ Keep h0 h [x0] ∧ fl_20 Z h x0 (.int (w1 + (1 : Int32))) ∧ fl_18 Z h x0 (.ref w2) ∧ fl_19 Z h x0 (.int w4) ∧ fl_21 Z h x0 (.int w5)
theorem rm_a67_0 (x0 : Addr) (w1 : Int32) (w2 w3 : Addr) (w4 w5 : Int32) (h0 : Heap) (O0 : Ext Z.heap h0) (r0 : fl_20 Z h0 x0 (.int w1)) (r1 : fl_18 Z h0 x0 (.ref w2)) (r2 : ex_4 Z h0 w2) (r3 : w1 = (0 : Int32)) (r4 : fl_3 Z h0 w2 (.ref w3)) (r5 : ex_8 Z h0 x0) (r6 : Z.heap.size ≤ x0) (r7 : fl_19 Z h0 x0 (.int w4)) (r8 : fl_21 Z h0 x0 (.int w5)) :
    MFC hw GG l y_67 jdk_53_method_4_code 3 (some (.object "java/lang/Object")) [((0 : Nat), (24 : Nat), (25 : Nat), (30 : Nat))] ws ⟨1, 0, 0, 13⟩ h0 #[(.ref x0)] (Q_a67_0 Z x0 w1 w2 w3 w4 w5 h0) := by
  refine own_mFC #[.val (.ref x0), .unset, .unset] (plainFor_of_name pn_67) (fun _ => rfl) ?_
  intro p e s m below meth c s₁ u hlk hret hZ hown hnm X0 e0 N0
  obtain ⟨hx, hby, hml⟩ := id u
  refine t_aN X0 u d67_0 rfl rfl ?_
  refine t_gF X0 u hZ hown (wd hw 470 rfl) e0 r0 d67_1 ?_
  intro T1 X1 e1
  refine t_isN X1 u d67_4 (l' := #[.val (.ref x0), .val (.int w1), .unset]) rfl ?_
  refine t_aN X1 u d67_5 rfl rfl ?_
  refine t_gF X1 u hZ hown (wd hw 466 rfl) e1 r1 d67_6 ?_
  intro T2 X2 e2
  refine t_iN X2 u d67_9 rfl ?_
  refine pt_cI [(.int w1)] [] 0 X2 u hZ hown (wd hw 485 rfl) (m_18 hw) e2 r2 (rm_a53_0 l Z a0 hw [] G GG w2 w1 w3 h0 O0 r3 r4) rfl d67_10 rfl rfl (by decide) N0 ?_
  intro T3 L3 X3 e3 N3_
  refine t_asN X3 u d67_15 rfl (l' := #[.val (.ref x0), .val (.int w1), .val (.ref w3)]) rfl ?_
  refine t_aN X3 u d67_16 rfl rfl ?_
  refine t_iN X3 u d67_17 rfl ?_
  refine t_iC X3 u d67_18  ?_
  refine t_iadd X3 u d67_19  ?_
  refine t_pF X3 u hZ hown (wd hw 470 rfl) e3 r0 r5 (Or.inl (wd hw 471 rfl)) (wd hw 455 rfl) pf_I rfl rfl d67_20 ?_
  intro T4 h4 X4 e4 W4
  have N4_ := Fr.snoc X4 N3_ r6
  have O4_ := extWr O0 W4 r6
  have K4 := Keep.wr (Keep.refl h0 [x0]) W4 k0
  have F4 := Fld.same W4 r0
  refine t_aN X4 u d67_23 rfl rfl ?_
  exact Go.retA X4 hx hret rfl rfl hlk (hb hby d67_24) (by decide) (by decide) (by show Q_a67_0 ..; rw [e4]; exact ⟨rfl, N4_, K4, F4, (fS W4 r1 (sn_4 hw)), (fS W4 r7 (sn_5 hw)), (fR W4 r8 (sn_8 hw))⟩)
theorem pn_35 : plainName "com/example/clean_epoch/cleanepoch/log/Lineage$Entry" = true := by first | (simp [plainName, overriddenIn]; done) | decide +kernel
theorem rm_a35_0 (x0 : Addr) (w1 : Int64) (h0 : Heap) (O0 : Ext Z.heap h0) (r0 : fl_6 Z h0 x0 (.long w1)) :
    MF hw GG l y_35 prog_23_method_6_code 1 (some .long) ws ⟨0, 0, 0, 0⟩ h0 #[(.ref x0)] (Qp (some (.long w1)) Z h0) := by
  refine own_mF #[.val (.ref x0)] (plainFor_of_name pn_35) (fun _ => rfl) ?_
  intro p e s m below meth c s₁ u hlk hret hZ hown hnm X0 e0 N0
  refine t_aN X0 u d35_0 rfl rfl ?_
  refine t_gF X0 u hZ hown (wd hw 152 rfl) e0 r0 d35_1 ?_
  intro T1 X1 e1
  exact t_rJ X1 u hret hlk d35_4 e1 N0 (by decide)
theorem rm_a25_0 (x0 x1 : Int32) (h0 : Heap) (O0 : Ext Z.heap h0) (r0 : ¬ (x0 < x1)) :
    MF hw GG l y_25 jdk_29_method_65_code 2 (some .int) ws ⟨0, 0, 0, 0⟩ h0 #[(.int x0), (.int x1)] (Qp (some (.int x0)) Z h0) := by
  refine own_mF #[.val (.int x0), .val (.int x1)] (Jvm.Free.JP.mathPlain rfl (by decide +kernel)) (fun _ => rfl) ?_
  intro p e s m below meth c s₁ u hlk hret hZ hown hnm X0 e0 N0
  refine t_iN X0 u d25_0 rfl ?_
  refine t_iN X0 u d25_1 rfl ?_
  refine t_icN X0 u d25_2 (flt r0).1 ?_
  refine t_iN X0 u d25_5 rfl ?_
  refine t_go 6 10 X0 u rfl d25_6 (by decide) ?_
  exact t_rI X0 u hret hlk d25_10 e0 N0 (by decide)
theorem pn_23 : plainName "java/util/ArrayList" = true := by first | (simp [plainName, overriddenIn]; done) | decide +kernel
def Q_a23_0 (Z : State) (x0 : Addr) (w1 w2 : Int32) (h0 : Heap) (v : Option Value) (h : Heap) (L : List Loc) : Prop := ∃ (b6 : Addr) (k6 : ClassId), v = some (.ref b6) ∧ Fr Z.heap.size L ∧ Keep h0 h [x0] ∧ fl_17 Z h x0 (.ref b6) ∧ fl_16 Z h x0 (.int w1) ∧ fl_15 Z h x0 (.int w2) ∧ h0.size ≤ b6 ∧ ex_0 Z h b6 ∧ Arv Z h b6 k6 (.object "java/lang/Object") (10 : Int32) [.null, .null, .null, .null, .null, .null, .null, .null, .null, .null] .null ∧ Ovr Z k6 "java/lang/Object"
theorem rm_a23_0 (x0 : Addr) (x1 w1 w2 : Int32) (h0 : Heap) (O0 : Ext Z.heap h0) (r0 : fl_17 Z h0 x0 (.ref G.dc)) (r1 : ¬ ((10 : Int32) < x1)) (r2 : ex_7 Z h0 x0) (r3 : Z.heap.size ≤ x0) (r4 : fl_16 Z h0 x0 (.int w1)) (r5 : fl_15 Z h0 x0 (.int w2)) :
    MF hw GG l y_23 jdk_38_method_6_code 4 (some (.array (.object "java/lang/Object"))) ws ⟨1, 1, 10, 14⟩ h0 #[(.ref x0), (.int x1)] (Q_a23_0 Z x0 w1 w2 h0) := by
  refine own_mF #[.val (.ref x0), .val (.int x1), .unset, .unset] (plainFor_of_name pn_23) (fun _ => rfl) ?_
  intro p e s m below meth c s₁ u hlk hret hZ hown hnm X0 e0 N0
  obtain ⟨hx, hby, hml⟩ := id u
  refine t_aN X0 u d23_0 rfl rfl ?_
  refine t_gF X0 u hZ hown (wd hw 130 rfl) e0 r0 d23_1 ?_
  intro T1 X1 e1
  obtain ⟨cl2, Ar2, -, S2, N2, -, -⟩ := id (Arv.ext GG.G_dcv O0)
  refine Go.step (X1.arraylength hx (by rw [e1]; exact Ar2.1) (State.isArrayOf_alike hZ.alike Ar2.2.1) (g := (mkF m 4 #[.val (.ref x0), .val (.int x1), .unset, .unset] [(.ref G.dc)])) rfl rfl (hb hby d23_4)) ?_
  rw [len_of S2 N2]
  show Go _ _ _ _ _ _ _ _ T1 (mkF m 5 #[.val (.ref x0), .val (.int x1), .unset, .unset] [(.int (0 : Int32))])
  refine t_isN X1 u d23_5 (l' := #[.val (.ref x0), .val (.int x1), .val (.int (0 : Int32)), .unset]) rfl ?_
  refine t_iN X1 u d23_6 rfl ?_
  refine t_ifN X1 u d23_7 ((if0 _ _).trans (flt (by decide : ¬ ((0 : Int32) < (0 : Int32)))).2.2.1) ?_
  refine t_aN X1 u d23_10 rfl rfl ?_
  refine t_gF X1 u hZ hown (wd hw 130 rfl) e1 r0 d23_11 ?_
  intro T3 X3 e3
  refine t_gS X3 u hZ hown (wd hw 179 rfl) e3 (Sta.ext O0 GG.G_dc) d23_14 ?_
  intro T4 X4 e4
  refine Go.step (fun _ kt_ => Jvm.RoadKit.acmp (g := (mkF m 17 #[.val (.ref x0), .val (.int x1), .val (.int (0 : Int32)), .unset] [(.ref G.dc), (.ref G.dc)])) X4 hx rfl rfl rfl (pc0 := 17) (pc' := 45) (same := true) rfl (hb hby d23_17) rfl (decide_eq_true rfl) (by decide) (by decide) kt_) ?_
  show Go _ _ _ _ _ _ _ _ T4 (mkF m 45 #[.val (.ref x0), .val (.int x1), .val (.int (0 : Int32)), .unset] [])
  refine t_aN X4 u d23_45 rfl rfl ?_
  refine t_bP X4 u d23_46  ?_
  refine t_iN X4 u d23_48 rfl ?_
  refine pt_cS [(.int (10 : Int32)), (.int x1)] [(.ref x0)] 1 X4 u hZ hown (wd hw 262 rfl) (m_20 hw) e4 (rm_a25_0 l Z a0 hw [] G GG (10 : Int32) x1 h0 O0 r1) rfl d23_49 rfl rfl (by decide) N0 ?_
  intro T5 L5 X5 e5 N5_
  obtain ⟨T6, h6, k6, X6, e6, E6, A6, B6, O6, st6⟩ := newRE X5 hx hZ hown (wd hw 263 rfl) (wd hw 118 rfl) e5 (g := (mkF m 52 #[.val (.ref x0), .val (.int x1), .val (.int (0 : Int32)), .unset] [(.int (10 : Int32)), (.ref x0)])) rfl (hb hby d23_52) rfl (by decide) (cap := 10) (by decide) (by decide) (by decide) (by decide) rfl
  obtain ⟨b6, hb6⟩ : ∃ z, z = h0.size := ⟨_, rfl⟩
  rw [← hb6] at A6 B6 st6
  refine Go.step st6 ?_
  have g_b6 := leE O0.1 hb6
  have O6_ := extTr O0 E6
  have sz_b6 := leE (Keep.refl h0 [x0]).1 hb6
  have K6 := Keep.ext (Keep.refl h0 [x0]) E6
  have V6 : Arv Z h6 b6 k6 (.object "java/lang/Object") (10 : Int32) [.null, .null, .null, .null, .null, .null, .null, .null, .null, .null] .null := (Arv.new A6 (by decide)).pad (pad_rep [] .null 10)
  refine Go.step (fun _ kt_ => XS.dupX1 X6.here hx rfl (hb hby d23_55) rfl rfl rfl kt_) ?_
  refine t_pF X6 u hZ hown (wd hw 130 rfl) e6 (Fld.ext E6 r0) (Exa.ext E6 r2) (Or.inl (wd hw 131 rfl)) (wd hw 74 rfl) pf_ALjava_lang_Object_ rfl rfl d23_56 ?_
  intro T7 h7 X7 e7 W7
  have N7_ := Fr.snoc X7 N5_ r3
  have O7_ := extWr O6_ W7 r3
  have K7 := Keep.wr K6 W7 k0
  have F7 := Fld.same W7 (Fld.ext E6 r0)
  exact Go.retA X7 hx hret rfl rfl hlk (hb hby d23_59) (by decide) (by decide) (by show Q_a23_0 ..; rw [e7]; exact ⟨b6, k6, rfl, N7_, K7, F7, (fR W7 (Fld.ext E6 r4) (sn_2 hw)), (fS W7 (Fld.ext E6 r5) (sn_1 hw)), sz_b6, (Exa.wr W7 B6), (V6.other W7 (Ne.symm (neE r2.lt hb6))), O6⟩)
theorem pn_22 : plainName "java/util/ArrayList" = true := by first | (simp [plainName, overriddenIn]; done) | decide +kernel
def Q_a22_0 (Z : State) (x0 : Addr) (w1 w2 : Int32) (h0 : Heap) (v : Option Value) (h : Heap) (L : List Loc) : Prop := ∃ (b6q2 : Addr) (k6q2 : ClassId), v = some (.ref b6q2) ∧ Fr Z.heap.size L ∧ Keep h0 h [x0] ∧ fl_17 Z h x0 (.ref b6q2) ∧ fl_16 Z h x0 (.int w1) ∧ fl_15 Z h x0 (.int w2) ∧ h0.size ≤ b6q2 ∧ ex_0 Z h b6q2 ∧ Arv Z h b6q2 k6q2 (.object "java/lang/Object") (10 : Int32) [.null, .null, .null, .null, .null, .null, .null, .null, .null, .null] .null ∧ Ovr Z k6q2 "java/lang/Object"
theorem rm_a22_0 (x0 : Addr) (w1 w2 : Int32) (h0 : Heap) (O0 : Ext Z.heap h0) (r0 : fl_16 Z h0 x0 (.int w1)) (r1 : fl_17 Z h0 x0 (.ref G.dc)) (r2 : ¬ ((10 : Int32) < (w1 + (1 : Int32)))) (r3 : ex_7 Z h0 x0) (r4 : Z.heap.size ≤ x0) (r5 : fl_15 Z h0 x0 (.int w2)) :
    MF hw GG l y_22 jdk_38_method_7_code 1 (some (.array (.object "java/lang/Object"))) ws ⟨2, 1, 10, 29⟩ h0 #[(.ref x0)] (Q_a22_0 Z x0 w1 w2 h0) := by
  refine own_mF #[.val (.ref x0)] (plainFor_of_name pn_22) (fun _ => rfl) ?_
  intro p e s m below meth c s₁ u hlk hret hZ hown hnm X0 e0 N0
  obtain ⟨hx, hby, hml⟩ := id u
  refine t_aN X0 u d22_0 rfl rfl ?_
  refine t_aN X0 u d22_1 rfl rfl ?_
  refine t_gF X0 u hZ hown (wd hw 127 rfl) e0 r0 d22_2 ?_
  intro T1 X1 e1
  refine t_iC X1 u d22_5  ?_
  refine t_iadd X1 u d22_6  ?_
  refine t_cP [(.int (w1 + (1 : Int32)))] [] 0 X1 u hZ hown r3 (wd hw 174 rfl) (m_21 hw) e1 (rm_a23_0 l Z a0 hw [] G GG x0 (w1 + (1 : Int32)) w1 w2 h0 O0 r1 r2 r3 r4 r0 r5) rfl d22_7 rfl rfl (by decide) ?_
  intro v2 T2 L2 Lc2 X2 hQ2 l2
  obtain ⟨b6q2, k6q2, rfl, Nq2, Kq2, p2_0, p2_1, p2_2, p2_3, p2_4, p2_5, p2_6⟩ := hQ2
  have O2_ := extKeep O0 Kq2 (allS r4 all0)
  have K2 := Keep.trans (Keep.refl h0 [x0]) Kq2 (allS k0 all0)
  have N2_ := frA l2 N0 Nq2
  have g_b6q2 := Nat.le_trans O0.1 p2_3
  have sz_b6q2 := Nat.le_trans (Keep.refl h0 [x0]).1 p2_3
  exact Go.retA X2 hx hret rfl rfl hlk (hb hby d22_10) (by decide) (by decide) ⟨b6q2, k6q2, rfl, N2_, K2, p2_0, p2_1, p2_2, sz_b6q2, p2_4, p2_5, p2_6⟩
theorem pn_21 : plainName "java/util/ArrayList" = true := by first | (simp [plainName, overriddenIn]; done) | decide +kernel
def Q_a21_0 (Z : State) (x0 x1 : Addr) (h0 : Heap) (v : Option Value) (h : Heap) (L : List Loc) : Prop := ∃ (b6q2q2 : Addr) (k6q2q2 : ClassId), v = none ∧ Fr Z.heap.size L ∧ Keep h0 h [x0] ∧ fl_17 Z h x0 (.ref b6q2q2) ∧ fl_16 Z h x0 (.int (1 : Int32)) ∧ fl_15 Z h x0 (.int (1 : Int32)) ∧ h0.size ≤ b6q2q2 ∧ ex_0 Z h b6q2q2 ∧ Arv Z h b6q2q2 k6q2q2 (.object "java/lang/Object") (10 : Int32) [(.ref x1), .null, .null, .null, .null, .null, .null, .null, .null, .null] .null ∧ Ovr Z k6q2q2 "java/lang/Object"
theorem rm_a21_0 (x0 x1 : Addr) (h0 : Heap) (O0 : Ext Z.heap h0) (r0 : fl_16 Z h0 x0 (.int (0 : Int32))) (r1 : fl_17 Z h0 x0 (.ref G.dc)) (r2 : ex_7 Z h0 x0) (r3 : Z.heap.size ≤ x0) (r4 : fl_15 Z h0 x0 (.int (1 : Int32))) (r5 : ex_5 Z h0 x1) :
    MF hw GG l y_21 jdk_38_method_24_code 4 none ws ⟨3, 1, 10, 41⟩ h0 #[(.ref x0), (.ref x1), (.ref G.dc), (.int (0 : Int32))] (Q_a21_0 Z x0 x1 h0) := by
  refine own_mF #[.val (.ref x0), .val (.ref x1), .val (.ref G.dc), .val (.int (0 : Int32))] (plainFor_of_name pn_21) (fun _ => rfl) ?_
  intro p e s m below meth c s₁ u hlk hret hZ hown hnm X0 e0 N0
  obtain ⟨hx, hby, hml⟩ := id u
  refine t_iN X0 u d21_0 rfl ?_
  refine t_aN X0 u d21_1 rfl rfl ?_
  obtain ⟨cl1, Ar1, -, S1, N1, -, -⟩ := id (Arv.ext GG.G_dcv O0)
  refine Go.step (X0.arraylength hx (by rw [e0]; exact Ar1.1) (State.isArrayOf_alike hZ.alike Ar1.2.1) (g := (mkF m 2 #[.val (.ref x0), .val (.ref x1), .val (.ref G.dc), .val (.int (0 : Int32))] [(.ref G.dc), (.int (0 : Int32))])) rfl rfl (hb hby d21_2)) ?_
  rw [len_of S1 N1]
  show Go _ _ _ _ _ _ _ _ s₁ (mkF m 3 #[.val (.ref x0), .val (.ref x1), .val (.ref G.dc), .val (.int (0 : Int32))] [(.int (0 : Int32)), (.int (0 : Int32))])
  refine t_icN X0 u d21_3 (teq (by decide : (0 : Int32) = (0 : Int32))).2 ?_
  refine t_aN X0 u d21_6 rfl rfl ?_
  refine t_cP [] [] 0 X0 u hZ hown r2 (wd hw 169 rfl) (m_22 hw) e0 (rm_a22_0 l Z a0 hw [] G GG x0 (0 : Int32) (1 : Int32) h0 O0 r0 r1 (by decide) r2 r3 r4) rfl d21_7 rfl rfl (by decide) ?_
  intro v2 T2 L2 Lc2 X2 hQ2 l2
  obtain ⟨b6q2q2, k6q2q2, rfl, Nq2, Kq2, p2_0, p2_1, p2_2, p2_3, p2_4, p2_5, p2_6⟩ := hQ2
  have O2_ := extKeep O0 Kq2 (allS r3 all0)
  have K2 := Keep.trans (Keep.refl h0 [x0]) Kq2 (allS k0 all0)
  have N2_ := frA l2 N0 Nq2
  have g_b6q2q2 := Nat.le_trans O0.1 p2_3
  have sz_b6q2q2 := Nat.le_trans (Keep.refl h0 [x0]).1 p2_3
  refine t_asN X2 u d21_10 rfl (l' := #[.val (.ref x0), .val (.ref x1), .val (.ref b6q2q2), .val (.int (0 : Int32))]) rfl ?_
  refine t_aN X2 u d21_11 rfl rfl ?_
  refine t_iN X2 u d21_12 rfl ?_
  refine t_aN X2 u d21_13 rfl rfl ?_
  obtain ⟨cl3, Ar3, q3, S3, N3, H3, G3⟩ := id p2_5
  have hin3 : ¬ ((0 : Int32) < 0 ∨ cl3.slots.size ≤ ((0 : Int32)).toNatClampNeg) := inb_of S3 ⟨by decide, by decide⟩
  obtain ⟨T3, h3, X3, e3, W3, st3⟩ := stR X2 hx hZ rfl Ar3 (j := (0 : Int32)) hin3 rfl (Sto.ofV Ar3 q3 p2_6 (Ins.of_exa (r5.keep Kq2) (wd hw 189 rfl))) (g := (mkF m 14 #[.val (.ref x0), .val (.ref x1), .val (.ref b6q2q2), .val (.int (0 : Int32))] [(.ref x1), (.int (0 : Int32)), (.ref b6q2q2)])) rfl rfl (hb hby d21_14)
  refine Go.step st3 ?_
  have V3 : Arv Z h3 b6q2q2 k6q2q2 (.object "java/lang/Object") (10 : Int32) [(.ref x1), .null, .null, .null, .null, .null, .null, .null, .null, .null] .null := Arv.set Ar3 q3 S3 N3 H3 G3 rfl W3 0 rfl (Nat.le_of_ble_eq_true rfl)
  have N3_ := Fr.snoc X3 N2_ g_b6q2q2
  have O3_ := extWr O2_ W3 g_b6q2q2
  have K3 := Keep.wr K2 W3 (Or.inr sz_b6q2q2)
  refine t_aN X3 u d21_15 rfl rfl ?_
  refine t_iN X3 u d21_16 rfl ?_
  refine t_iC X3 u d21_17  ?_
  refine t_iadd X3 u d21_18  ?_
  refine t_pF X3 u hZ hown (wd hw 127 rfl) e3 (fL W3 p2_1 (neL r2.lt p2_3)) (Exa.wr W3 (r2.keep Kq2)) (Or.inl (wd hw 128 rfl)) (wd hw 74 rfl) pf_I rfl rfl d21_19 ?_
  intro T4 h4 X4 e4 W4
  have N4_ := Fr.snoc X4 N3_ r3
  have O4_ := extWr O3_ W4 r3
  have K4 := Keep.wr K3 W4 k0
  have F4 := Fld.same W4 (fL W3 p2_1 (neL r2.lt p2_3))
  have f5 := (fS W4 (fL W3 p2_0 (neL r2.lt p2_3)) (sn_2 hw))
  have f6 := (fS W4 (fL W3 p2_2 (neL r2.lt p2_3)) (sn_0 hw))
  exact Go.retV X4 hx hret hlk (hb hby d21_22) (by decide) (by decide) (by show Q_a21_0 ..; rw [e4]; exact ⟨b6q2q2, k6q2q2, rfl, N4_, K4, f5, F4, f6, sz_b6q2q2, (Exa.wr W4 (Exa.wr W3 p2_4)), (V3.other W4 (Ne.symm (neL r2.lt p2_3))), p2_6⟩)
theorem pn_20 : plainName "java/util/ArrayList" = true := by first | (simp [plainName, overriddenIn]; done) | decide +kernel
def Q_a20_0 (Z : State) (x0 x1 : Addr) (h0 : Heap) (v : Option Value) (h : Heap) (L : List Loc) : Prop := ∃ (b6q2q2q5 : Addr) (k6q2q2q5 : ClassId), v = some (.int (1 : Int32)) ∧ Fr Z.heap.size L ∧ Keep h0 h [x0] ∧ fl_17 Z h x0 (.ref b6q2q2q5) ∧ fl_16 Z h x0 (.int (1 : Int32)) ∧ fl_15 Z h x0 (.int (1 : Int32)) ∧ h0.size ≤ b6q2q2q5 ∧ ex_0 Z h b6q2q2q5 ∧ Arv Z h b6q2q2q5 k6q2q2q5 (.object "java/lang/Object") (10 : Int32) [(.ref x1), .null, .null, .null, .null, .null, .null, .null, .null, .null] .null ∧ Ovr Z k6q2q2q5 "java/lang/Object"
theorem rm_a20_0 (x0 x1 : Addr) (h0 : Heap) (O0 : Ext Z.heap h0) (r0 : fl_15 Z h0 x0 (.int (0 : Int32))) (r1 : ex_7 Z h0 x0) (r2 : Z.heap.size ≤ x0) (r3 : fl_17 Z h0 x0 (.ref G.dc)) (r4 : fl_16 Z h0 x0 (.int (0 : Int32))) (r5 : ex_5 Z h0 x1) :
    MF hw GG l y_20 jdk_38_method_25_code 2 (some .boolean) ws ⟨4, 1, 10, 56⟩ h0 #[(.ref x0), (.ref x1)] (Q_a20_0 Z x0 x1 h0) := by
  refine own_mF #[.val (.ref x0), .val (.ref x1)] (plainFor_of_name pn_20) (fun _ => rfl) ?_
  intro p e s m below meth c s₁ u hlk hret hZ hown hnm X0 e0 N0
  obtain ⟨hx, hby, hml⟩ := id u
  refine t_aN X0 u d20_0 rfl rfl ?_
  refine t_dup X0 u d20_1 rfl ?_
  obtain ⟨T1, X1, e1, st1⟩ := getF X0 hx hZ hown (host := "") (Or.inl (wd hw 162 rfl)) (Via.of (wd hw 163 rfl)) e0 r0 (g := (mkF m 2 #[.val (.ref x0), .val (.ref x1)] [(.ref x0), (.ref x0)])) rfl rfl (hb hby d20_2)
  refine Go.step st1 ?_
  refine t_iC X1 u d20_5  ?_
  refine t_iadd X1 u d20_6  ?_
  obtain ⟨T2, h2, X2, e2, W2, st2⟩ := putF X1 hx hZ hown (host := "") (Or.inl (wd hw 162 rfl)) (Via.of (wd hw 163 rfl)) e1 r0 r1 (Or.inl (wd hw 93 rfl)) (wd hw 74 rfl) (ty := .int) pf_I rfl rfl (g := (mkF m 7 #[.val (.ref x0), .val (.ref x1)] [(.int (1 : Int32)), (.ref x0)])) rfl rfl (hb hby d20_7)
  refine Go.step st2 ?_
  have N2_ := Fr.snoc X2 N0 r2
  have O2_ := extWr O0 W2 r2
  have K2 := Keep.wr (Keep.refl h0 [x0]) W2 k0
  have F2 := Fld.same W2 r0
  refine t_aN X2 u d20_10 rfl rfl ?_
  refine t_aN X2 u d20_11 rfl rfl ?_
  refine t_aN X2 u d20_12 rfl rfl ?_
  refine t_gF X2 u hZ hown (wd hw 130 rfl) e2 (fR W2 r3 (sn_1 hw)) d20_13 ?_
  intro T3 X3 e3
  refine t_aN X3 u d20_16 rfl rfl ?_
  refine t_gF X3 u hZ hown (wd hw 127 rfl) e3 (fR W2 r4 (sn_0 hw)) d20_17 ?_
  intro T4 X4 e4
  refine t_cP [(.ref x1), (.ref G.dc), (.int (0 : Int32))] [] 0 X4 u hZ hown (Exa.wr W2 r1) (wd hw 164 rfl) (m_23 hw) e4 (rm_a21_0 l Z a0 hw [] G GG x0 x1 h2 O2_ (fR W2 r4 (sn_0 hw)) (fR W2 r3 (sn_1 hw)) (Exa.wr W2 r1) r2 F2 (Exa.wr W2 r5)) rfl d20_20 rfl rfl (by decide) ?_
  intro v5 T5 L5 Lc5 X5 hQ5 l5
  obtain ⟨b6q2q2q5, k6q2q2q5, rfl, Nq5, Kq5, p5_0, p5_1, p5_2, p5_3, p5_4, p5_5, p5_6⟩ := hQ5
  have O5_ := extKeep O2_ Kq5 (allS r2 all0)
  have K5 := Keep.trans K2 Kq5 (allS k0 all0)
  have N5_ := frA l5 N2_ Nq5
  have g_b6q2q2q5 := Nat.le_trans O2_.1 p5_3
  have sz_b6q2q2q5 := Nat.le_trans K2.1 p5_3
  refine t_iC X5 u d20_23  ?_
  exact Go.retN X5 hx (t := .boolean) hret (by simp) hlk (hb hby d20_24) (by decide) (by decide) ⟨b6q2q2q5, k6q2q2q5, rfl, N5_, K5, p5_0, p5_1, p5_2, sz_b6q2q2q5, p5_4, p5_5, p5_6⟩
theorem rm_a30_1 (x0 : Addr) (w1 : Int32) (w2 : Addr) (w3 : Int32) (h0 : Heap) (O0 : Ext Z.heap h0) (r0 : fl_25 Z h0 x0 (.int w1)) (r1 : fl_22 Z h0 x0 (.ref w2)) (r2 : fl_16 Z h0 w2 (.int w3)) (r3 : ¬ (w1 = w3)) :
    MF hw GG l y_30 jdk_49_method_2_code 1 (some .boolean) ws ⟨0, 0, 0, 0⟩ h0 #[(.ref x0)] (Qp (some (.int (1 : Int32))) Z h0) := by
  refine own_mF #[.val (.ref x0)] (plainFor_of_name pn_30) (fun _ => rfl) ?_
  intro p e s m below meth c s₁ u hlk hret hZ hown hnm X0 e0 N0
  obtain ⟨hx, hby, hml⟩ := id u
  refine t_aN X0 u d30_0 rfl rfl ?_
  refine t_gF X0 u hZ hown (wd hw 231 rfl) e0 r0 d30_1 ?_
  intro T1 X1 e1
  refine t_aN X1 u d30_4 rfl rfl ?_
  refine t_gF X1 u hZ hown (wd hw 214 rfl) e1 r1 d30_5 ?_
  intro T2 X2 e2
  obtain ⟨T3, X3, e3, st3⟩ := getF X2 hx hZ hown (Or.inr (wd hw 233 rfl)) Via.refl e2 r2 (g := (mkF m 8 #[.val (.ref x0)] [(.ref w2), (.int w1)])) rfl rfl (hb hby d30_8)
  refine Go.step st3 ?_
  refine t_icN X3 u d30_11 (feq r3).1 ?_
  refine t_iC X3 u d30_14  ?_
  refine t_go 15 19 X3 u rfl d30_15 (by decide) ?_
  exact t_rN X3 u hret hlk (by simp) rfl d30_19 e3 N0 (by decide)
theorem pn_32 : plainName "java/util/ArrayList$Itr" = true := by first | (simp [plainName, overriddenIn]; done) | decide +kernel
theorem rm_a32_0 (x0 w1 : Addr) (w2 : Int32) (h0 : Heap) (O0 : Ext Z.heap h0) (r0 : fl_22 Z h0 x0 (.ref w1)) (r1 : fl_15 Z h0 w1 (.int w2)) (r2 : fl_24 Z h0 x0 (.int w2)) (r3 : w2 = w2) :
    MF hw GG l y_32 jdk_49_method_6_code 1 none ws ⟨0, 0, 0, 0⟩ h0 #[(.ref x0)] (Qp (none) Z h0) := by
  refine own_mF #[.val (.ref x0)] (plainFor_of_name pn_32) (fun _ => rfl) ?_
  intro p e s m below meth c s₁ u hlk hret hZ hown hnm X0 e0 N0
  obtain ⟨hx, hby, hml⟩ := id u
  refine t_aN X0 u d32_0 rfl rfl ?_
  refine t_gF X0 u hZ hown (wd hw 214 rfl) e0 r0 d32_1 ?_
  intro T1 X1 e1
  obtain ⟨T2, X2, e2, st2⟩ := getF X1 hx hZ hown (host := "") (Or.inl (wd hw 219 rfl)) (Via.of (wd hw 163 rfl)) e1 r1 (g := (mkF m 4 #[.val (.ref x0)] [(.ref w1)])) rfl rfl (hb hby d32_4)
  refine Go.step st2 ?_
  refine t_aN X2 u d32_7 rfl rfl ?_
  refine t_gF X2 u hZ hown (wd hw 220 rfl) e2 r2 d32_8 ?_
  intro T3 X3 e3
  refine t_icY 11 22 X3 u rfl d32_11 (teq r3).1 (by decide) ?_
  exact t_rV X3 u hret hlk d32_22 e3 N0 (by decide)
theorem pn_31 : plainName "java/util/ArrayList$Itr" = true := by first | (simp [plainName, overriddenIn]; done) | decide +kernel
def Q_a31_0 (Z : State) (x0 w1 : Addr) (w2 : Int32) (w6 : Addr) (h0 : Heap) (v : Option Value) (h : Heap) (L : List Loc) : Prop := v = some (.ref w6) ∧ Fr Z.heap.size L ∧ Keep h0 h [x0] ∧ fl_22 Z h x0 (.ref w1) ∧ fl_24 Z h x0 (.int w2) ∧ fl_25 Z h x0 (.int (1 : Int32)) ∧ fl_23 Z h x0 (.int (0 : Int32))
theorem rm_a31_0 (x0 w1 : Addr) (w2 w3 : Int32) (w4 : Addr) (kk5 : ClassId) (w6 : Addr) (h0 : Heap) (O0 : Ext Z.heap h0) (r0 : ex_9 Z h0 x0) (r1 : fl_22 Z h0 x0 (.ref w1)) (r2 : fl_15 Z h0 w1 (.int w2)) (r3 : fl_24 Z h0 x0 (.int w2)) (r4 : w2 = w2) (r5 : fl_25 Z h0 x0 (.int (0 : Int32))) (r6 : fl_16 Z h0 w1 (.int w3)) (r7 : (0 : Int32) < w3) (r8 : fl_17 Z h0 w1 (.ref w4)) (r9 : Arv Z h0 w4 kk5 (.object "java/lang/Object") (10 : Int32) [(.ref w6), .null, .null, .null, .null, .null, .null, .null, .null, .null] .null) (r10 : Z.heap.size ≤ x0) (r11 : fl_23 Z h0 x0 (.int (-1 : Int32))) (r12 : w4 ≠ x0) :
    MF hw GG l y_31 jdk_49_method_3_code 3 (some (.object "java/lang/Object")) ws ⟨1, 0, 0, 12⟩ h0 #[(.ref x0)] (Q_a31_0 Z x0 w1 w2 w6 h0) := by
  refine own_mF #[.val (.ref x0), .unset, .unset] (plainFor_of_name pn_31) (fun _ => rfl) ?_
  intro p e s m below meth c s₁ u hlk hret hZ hown hnm X0 e0 N0
  obtain ⟨hx, hby, hml⟩ := id u
  refine t_aN X0 u d31_0 rfl rfl ?_
  refine pt_cV [] [] 0 X0 u hZ hown (wd hw 242 rfl) (m_25 hw) e0 r0 (rm_a32_0 l Z a0 hw [] G GG x0 w1 w2 h0 O0 r1 r2 r3 r4) rfl d31_1 rfl rfl (by decide) N0 ?_
  intro T1 L1 X1 e1 N1_
  refine t_aN X1 u d31_4 rfl rfl ?_
  refine t_gF X1 u hZ hown (wd hw 231 rfl) e1 r5 d31_5 ?_
  intro T2 X2 e2
  refine t_isN X2 u d31_8 (l' := #[.val (.ref x0), .val (.int (0 : Int32)), .unset]) rfl ?_
  refine t_iN X2 u d31_9 rfl ?_
  refine t_aN X2 u d31_10 rfl rfl ?_
  refine t_gF X2 u hZ hown (wd hw 214 rfl) e2 r1 d31_11 ?_
  intro T3 X3 e3
  obtain ⟨T4, X4, e4, st4⟩ := getF X3 hx hZ hown (Or.inr (wd hw 233 rfl)) Via.refl e3 r6 (g := (mkF m 14 #[.val (.ref x0), .val (.int (0 : Int32)), .unset] [(.ref w1), (.int (0 : Int32))])) rfl rfl (hb hby d31_14)
  refine Go.step st4 ?_
  refine t_icY 17 28 X4 u rfl d31_17 (tlt r7).1 (by decide) ?_
  refine t_aN X4 u d31_28 rfl rfl ?_
  refine t_gF X4 u hZ hown (wd hw 214 rfl) e4 r1 d31_29 ?_
  intro T5 X5 e5
  refine t_gF X5 u hZ hown (wd hw 247 rfl) e5 r8 d31_32 ?_
  intro T6 X6 e6
  refine t_asN X6 u d31_35 rfl (l' := #[.val (.ref x0), .val (.int (0 : Int32)), .val (.ref w4)]) rfl ?_
  refine t_iN X6 u d31_36 rfl ?_
  refine t_aN X6 u d31_37 rfl rfl ?_
  obtain ⟨cl7, Ar7, -, S7, N7, -, -⟩ := id r9
  refine Go.step (X6.arraylength hx (by rw [e6]; exact Ar7.1) (State.isArrayOf_alike hZ.alike Ar7.2.1) (g := (mkF m 38 #[.val (.ref x0), .val (.int (0 : Int32)), .val (.ref w4)] [(.ref w4), (.int (0 : Int32))])) rfl rfl (hb hby d31_38)) ?_
  rw [len_of S7 N7]
  show Go _ _ _ _ _ _ _ _ T6 (mkF m 39 #[.val (.ref x0), .val (.int (0 : Int32)), .val (.ref w4)] [(.int (10 : Int32)), (.int (0 : Int32))])
  refine t_icY 39 50 X6 u rfl d31_39 (tlt (by decide : (0 : Int32) < (10 : Int32))).1 (by decide) ?_
  refine t_aN X6 u d31_50 rfl rfl ?_
  refine t_iN X6 u d31_51 rfl ?_
  refine t_iC X6 u d31_52  ?_
  refine t_iadd X6 u d31_53  ?_
  refine t_pF X6 u hZ hown (wd hw 231 rfl) e6 r5 r0 (Or.inl (wd hw 232 rfl)) (wd hw 208 rfl) pf_I rfl rfl d31_54 ?_
  intro T8 h8 X8 e8 W8
  have N8_ := Fr.snoc X8 N1_ r10
  have O8_ := extWr O0 W8 r10
  have K8 := Keep.wr (Keep.refl h0 [x0]) W8 k0
  have F8 := Fld.same W8 r5
  refine t_aN X8 u d31_57 rfl rfl ?_
  refine t_aN X8 u d31_58 rfl rfl ?_
  refine t_iN X8 u d31_59 rfl ?_
  refine Go.step (fun _ kt_ => XS.dupX1 X8.here hx rfl (hb hby d31_60) rfl rfl rfl kt_) ?_
  refine t_pF X8 u hZ hown (wd hw 217 rfl) e8 (fS W8 r11 (sn_13 hw)) (Exa.wr W8 r0) (Or.inl (wd hw 218 rfl)) (wd hw 208 rfl) pf_I rfl rfl d31_61 ?_
  intro T9 h9 X9 e9 W9
  have N9_ := Fr.snoc X9 N8_ r10
  have O9_ := extWr O8_ W9 r10
  have K9 := Keep.wr K8 W9 k0
  have F9 := Fld.same W9 (fS W8 r11 (sn_13 hw))
  obtain ⟨cl10, Ar10, q10, S10, N10, H10, G10⟩ := id ((r9.other W8 r12).other W9 r12)
  have hin10 : ¬ ((0 : Int32) < 0 ∨ cl10.slots.size ≤ ((0 : Int32)).toNatClampNeg) := inb_of S10 ⟨by decide, by decide⟩
  refine Go.step (X9.aaload hx (j := (0 : Int32)) (v := (.ref w6)) (by rw [e9]; exact Ar10.1) (State.isArrayOf_alike hZ.alike Ar10.2.1) rfl Ar10.2.2 hin10 (Has.at H10 hin10 rfl) (g := (mkF m 64 #[.val (.ref x0), .val (.int (0 : Int32)), .val (.ref w4)] [(.int (0 : Int32)), (.ref w4)])) rfl rfl (hb hby d31_64)) ?_
  exact Go.retA X9 hx hret rfl rfl hlk (hb hby d31_65) (by decide) (by decide) (by show Q_a31_0 ..; rw [e9]; exact ⟨rfl, N9_, K9, (fS W9 (fS W8 r1 (sn_12 hw)) (sn_9 hw)), (fR W9 (fS W8 r3 (sn_14 hw)) (sn_11 hw)), (fR W9 F8 (sn_13 hw)), F9⟩)
theorem pn_34 : plainName "com/example/clean_epoch/cleanepoch/log/Lineage$Entry" = true := by first | (simp [plainName, overriddenIn]; done) | decide +kernel
theorem rm_a34_0 (x0 : Addr) (w1 : Int32) (h0 : Heap) (O0 : Ext Z.heap h0) (r0 : fl_5 Z h0 x0 (.int w1)) :
    MF hw GG l y_34 prog_23_method_5_code 1 (some .int) ws ⟨0, 0, 0, 0⟩ h0 #[(.ref x0)] (Qp (some (.int w1)) Z h0) := by
  refine own_mF #[.val (.ref x0)] (plainFor_of_name pn_34) (fun _ => rfl) ?_
  intro p e s m below meth c s₁ u hlk hret hZ hown hnm X0 e0 N0
  refine t_aN X0 u d34_0 rfl rfl ?_
  refine t_gF X0 u hZ hown (wd hw 150 rfl) e0 r0 d34_1 ?_
  intro T1 X1 e1
  exact t_rI X1 u hret hlk d34_4 e1 N0 (by decide)
theorem pn_33 : plainName "com/example/clean_epoch/cleanepoch/log/Lineage" = true := by first | (simp [plainName, overriddenIn]; done) | decide +kernel
theorem rm_a33_0 (x0 x1 : Addr) (w1 w2 : Int32) (w3 : Int64) (h0 : Heap) (O0 : Ext Z.heap h0) (r0 : ex_7 Z h0 x0) (r1 : fl_16 Z h0 x0 (.int w1)) (r2 : w1 = (0 : Int32)) (r3 : ex_5 Z h0 x1) (r4 : fl_5 Z h0 x1 (.int w2)) (r5 : ¬ (w2 < (0 : Int32))) (r6 : fl_6 Z h0 x1 (.long w3)) (r7 : ¬ ((lcmpW w3 (0 : Int64)) < (0 : Int32))) :
    MF hw GG l y_33 prog_22_method_11_code 3 (some .boolean) ws ⟨1, 0, 0, 12⟩ h0 #[(.ref x0), (.ref x1)] (Qp (some (.int (1 : Int32))) Z h0) := by
  refine own_mF #[.val (.ref x0), .val (.ref x1), .unset] (plainFor_of_name pn_33) (fun _ => rfl) ?_
  intro p e s m below meth c s₁ u hlk hret hZ hown hnm X0 e0 N0
  obtain ⟨hx, hby, hml⟩ := id u
  refine t_aN X0 u d33_0 rfl rfl ?_
  refine pt_cI [] [] 0 X0 u hZ hown (wd hw 32 rfl) (m_27 hw) e0 r0 (rm_a17_0 l Z a0 hw [] G GG x0 w1 h0 O0 r1 r2) rfl d33_1 rfl rfl (by decide) N0 ?_
  intro T1 L1 X1 e1 N1_
  refine t_ifN X1 u d33_6 ((if0 _ _).trans (feq (by decide : ¬ ((1 : Int32) = (0 : Int32)))).1) ?_
  refine t_nl X1 u d33_9  ?_
  refine t_go 10 30 X1 u rfl d33_10 (by decide) ?_
  refine t_asN X1 u d33_30 rfl (l' := #[.val (.ref x0), .val (.ref x1), .val .null]) rfl ?_
  refine t_aN X1 u d33_31 rfl rfl ?_
  refine pt_cV [] [] 0 X1 u hZ hown (wd hw 252 rfl) (m_28 hw) e1 r3 (rm_a34_0 l Z a0 hw [] G GG x1 w2 h0 O0 r4) rfl d33_32 rfl rfl (by decide) N1_ ?_
  intro T2 L2 X2 e2 N2_
  refine t_ifN X2 u d33_35 ((if0 _ _).trans (flt r5).1) ?_
  refine t_aN X2 u d33_38 rfl rfl ?_
  refine pt_cV [] [] 0 X2 u hZ hown (wd hw 257 rfl) (m_19 hw) e2 r3 (rm_a35_0 l Z a0 hw [] G GG x1 w3 h0 O0 r6) rfl d33_39 rfl rfl (by decide) N2_ ?_
  intro T3 L3 X3 e3 N3_
  refine Go.step (fun _ kt_ => XS.lconst X3.here hx rfl (hb hby d33_42)  kt_) ?_
  refine Go.step (fun _ kt_ => XS.lcmp X3.here hx rfl (hb hby d33_43) rfl kt_) ?_
  refine t_ifN X3 u d33_44 ((if0 _ _).trans (flt r7).1) ?_
  refine t_aN X3 u d33_47 rfl rfl ?_
  refine Go.step (fun _ kt_ => XS.ifnullYes X3.here hx rfl (pc0 := 48) (pc' := 74) rfl (hb hby d33_48) rfl (by decide) (by decide) kt_) ?_
  refine t_iC X3 u d33_74  ?_
  refine t_go 75 79 X3 u rfl d33_75 (by decide) ?_
  exact t_rN X3 u hret hlk (by simp) rfl d33_79 e3 N3_ (by decide)
theorem rm_a17_1 (x0 : Addr) (w1 : Int32) (h0 : Heap) (O0 : Ext Z.heap h0) (r0 : fl_16 Z h0 x0 (.int w1)) (r1 : ¬ (w1 = (0 : Int32))) :
    MF hw GG l y_17 jdk_38_method_9_code 1 (some .boolean) ws ⟨0, 0, 0, 0⟩ h0 #[(.ref x0)] (Qp (some (.int (0 : Int32))) Z h0) := by
  refine own_mF #[.val (.ref x0)] (plainFor_of_name pn_17) (fun _ => rfl) ?_
  intro p e s m below meth c s₁ u hlk hret hZ hown hnm X0 e0 N0
  refine t_aN X0 u d17_0 rfl rfl ?_
  refine t_gF X0 u hZ hown (wd hw 127 rfl) e0 r0 d17_1 ?_
  intro T1 X1 e1
  refine t_ifY 4 11 X1 u rfl d17_4 ((if0 _ _).trans (feq r1).2) (by decide) ?_
  refine t_iC X1 u d17_11  ?_
  exact t_rN X1 u hret hlk (by simp) rfl d17_12 e1 N0 (by decide)
theorem rm_a16_0 (x0 x1 : Int32) (h0 : Heap) (O0 : Ext Z.heap h0) (r0 : x1 < x0) :
    MF hw GG l y_16 jdk_29_method_69_code 2 (some .int) ws ⟨0, 0, 0, 0⟩ h0 #[(.int x0), (.int x1)] (Qp (some (.int x1)) Z h0) := by
  refine own_mF #[.val (.int x0), .val (.int x1)] (Jvm.Free.JP.mathPlain rfl (by decide +kernel)) (fun _ => rfl) ?_
  intro p e s m below meth c s₁ u hlk hret hZ hown hnm X0 e0 N0
  refine t_iN X0 u d16_0 rfl ?_
  refine t_iN X0 u d16_1 rfl ?_
  refine t_icY 2 9 X0 u rfl d16_2 (tlt r0).2.2.1 (by decide) ?_
  refine t_iN X0 u d16_9 rfl ?_
  exact t_rI X0 u hret hlk d16_10 e0 N0 (by decide)
theorem pn_15 : plainName "java/util/Arrays" = true := by first | (simp [plainName, overriddenIn]; done) | decide +kernel
def Q_a15_0 (Z : State) (w2 : Addr) (h0 : Heap) (v : Option Value) (h : Heap) (L : List Loc) : Prop := ∃ (b2 : Addr) (k2 : ClassId), v = some (.ref b2) ∧ Fr Z.heap.size L ∧ Keep h0 h [] ∧ h0.size ≤ b2 ∧ ex_0 Z h b2 ∧ Arv Z h b2 k2 (.object "java/lang/Object") (1 : Int32) [(.ref w2)] .null ∧ Ovr Z k2 "java/lang/Object"
theorem rm_a15_0 (x0 : Addr) (kk1 : ClassId) (w2 : Addr) (h0 : Heap) (O0 : Ext Z.heap h0) (r0 : Arv Z h0 x0 kk1 (.object "java/lang/Object") (10 : Int32) [(.ref w2), .null, .null, .null, .null, .null, .null, .null, .null, .null] .null) (r1 : ex_5 Z h0 w2) :
    MF hw GG l y_15 jdk_65_method_120_code 4 (some (.array (.object "java/lang/Object"))) ws ⟨1, 1, 1, 18⟩ h0 #[(.ref x0), (.int (1 : Int32)), (.ref G.mo)] (Q_a15_0 Z w2 h0) := by
  refine own_mF #[.val (.ref x0), .val (.int (1 : Int32)), .val (.ref G.mo), .unset] (plainFor_of_name pn_15) (fun _ => rfl) ?_
  intro p e s m below meth c s₁ u hlk hret hZ hown hnm X0 e0 N0
  obtain ⟨hx, hby, hml⟩ := id u
  refine t_aN X0 u d15_0 rfl rfl ?_
  obtain ⟨T1, X1, e1, st1⟩ := own_ldcMir X0 hx hZ hown (wd hw 116 rfl) e0 GG.G_mo (g := (mkF m 1 #[.val (.ref x0), .val (.int (1 : Int32)), .val (.ref G.mo), .unset] [(.ref G.mo)])) rfl (hb hby d15_1)
  refine Go.step st1 ?_
  refine Go.step (fun _ kt_ => Jvm.RoadKit.acmp (g := (mkF m 3 #[.val (.ref x0), .val (.int (1 : Int32)), .val (.ref G.mo), .unset] [(.ref G.mo), (.ref G.mo)])) X1 hx rfl rfl rfl (pc0 := 3) (pc' := 6) (same := true) rfl (hb hby d15_3) rfl (decide_eq_true rfl) (by decide) (by decide) kt_) ?_
  show Go _ _ _ _ _ _ _ _ T1 (mkF m 6 #[.val (.ref x0), .val (.int (1 : Int32)), .val (.ref G.mo), .unset] [])
  refine t_iN X1 u d15_6 rfl ?_
  obtain ⟨T2, h2, k2, X2, e2, E2, A2, B2, O2, st2⟩ := newRE X1 hx hZ hown (wd hw 117 rfl) (wd hw 118 rfl) e1 (g := (mkF m 7 #[.val (.ref x0), .val (.int (1 : Int32)), .val (.ref G.mo), .unset] [(.int (1 : Int32))])) rfl (hb hby d15_7) rfl (by decide) (cap := 1) (by decide) (by decide) (by decide) (by decide) rfl
  obtain ⟨b2, hb2⟩ : ∃ z, z = h0.size := ⟨_, rfl⟩
  rw [← hb2] at A2 B2 st2
  refine Go.step st2 ?_
  have g_b2 := leE O0.1 hb2
  have O2_ := extTr O0 E2
  have sz_b2 := leE (Keep.refl h0 []).1 hb2
  have K2 := Keep.ext (Keep.refl h0 []) E2
  have V2 : Arv Z h2 b2 k2 (.object "java/lang/Object") (1 : Int32) [.null] .null := (Arv.new A2 (by decide)).pad (pad_rep [] .null 1)
  refine t_go 10 24 X2 u rfl d15_10 (by decide) ?_
  refine t_asN X2 u d15_24 rfl (l' := #[.val (.ref x0), .val (.int (1 : Int32)), .val (.ref G.mo), .val (.ref b2)]) rfl ?_
  refine t_aN X2 u d15_25 rfl rfl ?_
  refine t_iC X2 u d15_26  ?_
  refine t_aN X2 u d15_27 rfl rfl ?_
  refine t_iC X2 u d15_28  ?_
  refine t_aN X2 u d15_29 rfl rfl ?_
  obtain ⟨cl3, Ar3, -, S3, N3, -, -⟩ := id (r0.ext E2)
  refine Go.step (X2.arraylength hx (by rw [e2]; exact Ar3.1) (State.isArrayOf_alike hZ.alike Ar3.2.1) (g := (mkF m 30 #[.val (.ref x0), .val (.int (1 : Int32)), .val (.ref G.mo), .val (.ref b2)] [(.ref x0), (.int (0 : Int32)), (.ref b2), (.int (0 : Int32)), (.ref x0)])) rfl rfl (hb hby d15_30)) ?_
  rw [len_of S3 N3]
  show Go _ _ _ _ _ _ _ _ T2 (mkF m 31 #[.val (.ref x0), .val (.int (1 : Int32)), .val (.ref G.mo), .val (.ref b2)] [(.int (10 : Int32)), (.int (0 : Int32)), (.ref b2), (.int (0 : Int32)), (.ref x0)])
  refine t_iN X2 u d15_31 rfl ?_
  refine pt_cS [(.int (10 : Int32)), (.int (1 : Int32))] [(.int (0 : Int32)), (.ref b2), (.int (0 : Int32)), (.ref x0)] 4 X2 u hZ hown (wd hw 119 rfl) (m_30 hw) e2 (rm_a16_0 l Z a0 hw [] G GG (10 : Int32) (1 : Int32) h2 O2_ (by decide)) rfl d15_32 rfl rfl (by decide) N0 ?_
  intro T4 L4 X4 e4 N4_
  obtain ⟨cl5, Ar5, q5, -⟩ := id V2
  obtain ⟨T5, h5, L5, X5, e5, N5_, K5_, V5_, st5⟩ := cpA X4 hx hZ hown (wd hw 123 rfl) (wd hw 126 rfl) (wd hw 124 rfl) (wd hw 125 rfl) e4 (us := [(.ref w2)]) (r0.ext E2) V2 (Or.inr ⟨rfl, rfl, ⟨(Sto.ofV Ar5 q5 O2 (Ins.of_exa (Exa.ext E2 r1) (wd hw 189 rfl))), trivial⟩⟩) (by decide) (by decide) (by decide) (by decide) (by decide) rfl (by decide) N4_ g_b2 (g := (mkF m 35 #[.val (.ref x0), .val (.int (1 : Int32)), .val (.ref G.mo), .val (.ref b2)] [(.int (1 : Int32)), (.int (0 : Int32)), (.ref b2), (.int (0 : Int32)), (.ref x0)])) rfl (by rw [hml]; rfl) rfl (hb hby d15_35) (by decide) (W := 0) (by show 2 * 0 + _ ≤ _; exact Nat.le_of_eq rfl) (by decide)
  refine Go.step st5 ?_
  have V5 : Arv Z h5 b2 k2 (.object "java/lang/Object") (1 : Int32) [(.ref w2)] .null := V5_
  have O5_ : Ext Z.heap h5 := extKeep O2_ K5_ (allS g_b2 all0)
  have K5 := Keep.trans K2 K5_ (allS (Or.inr sz_b2) all0)
  refine t_aN X5 u d15_38 rfl rfl ?_
  exact Go.retA X5 hx hret rfl rfl hlk (hb hby d15_39) (by decide) (by decide) (by show Q_a15_0 ..; rw [e5]; exact ⟨b2, k2, rfl, N5_, K5, sz_b2, (B2.keep K5_), V5, O2⟩)
theorem pn_14 : plainName "java/util/Arrays" = true := by first | (simp [plainName, overriddenIn]; done) | decide +kernel
def Q_a14_0 (Z : State) (w2 : Addr) (h0 : Heap) (v : Option Value) (h : Heap) (L : List Loc) : Prop := ∃ (b2q2 : Addr) (k2q2 : ClassId), v = some (.ref b2q2) ∧ Fr Z.heap.size L ∧ Keep h0 h [] ∧ h0.size ≤ b2q2 ∧ ex_0 Z h b2q2 ∧ Arv Z h b2q2 k2q2 (.object "java/lang/Object") (1 : Int32) [(.ref w2)] .null ∧ Ovr Z k2q2 "java/lang/Object"
theorem rm_a14_0 (x0 : Addr) (kk1 : ClassId) (w2 : Addr) (h0 : Heap) (O0 : Ext Z.heap h0) (r0 : ex_0 Z h0 x0) (r1 : Arv Z h0 x0 kk1 (.object "java/lang/Object") (10 : Int32) [(.ref w2), .null, .null, .null, .null, .null, .null, .null, .null, .null] .null) (r2 : ex_5 Z h0 w2) :
    MF hw GG l y_14 jdk_65_method_119_code 2 (some (.array (.object "java/lang/Object"))) ws ⟨2, 1, 1, 33⟩ h0 #[(.ref x0), (.int (1 : Int32))] (Q_a14_0 Z w2 h0) := by
  refine own_mF #[.val (.ref x0), .val (.int (1 : Int32))] (plainFor_of_name pn_14) (fun _ => rfl) ?_
  intro p e s m below meth c s₁ u hlk hret hZ hown hnm X0 e0 N0
  obtain ⟨hx, hby, hml⟩ := id u
  refine t_aN X0 u d14_0 rfl rfl ?_
  refine t_iN X0 u d14_1 rfl ?_
  refine t_aN X0 u d14_2 rfl rfl ?_
  obtain ⟨T1, X1, e1, st1⟩ := own_gcls X0 hx hZ hown (wd hw 107 rfl) (wd hw 108 rfl) (wd hw 276 rfl) (wd hw 110 rfl) (wd hw 109 rfl) (wd hw 111 rfl) e0 r0 GG.G_mo (g := (mkF m 3 #[.val (.ref x0), .val (.int (1 : Int32))] [(.ref x0), (.int (1 : Int32)), (.ref x0)])) rfl (by rw [hml]; rfl) rfl (hb hby d14_3) (by decide) (W := 2) (by show 2 * 0 + _ ≤ _; exact Nat.le_of_eq rfl) (by decide)
  refine Go.step st1 ?_
  refine t_cS [(.ref x0), (.int (1 : Int32)), (.ref G.mo)] [] 0 X1 u hZ hown (wd hw 113 rfl) (m_31 hw) e1 (rm_a15_0 l Z a0 hw [] G GG x0 kk1 w2 h0 O0 r1 r2) rfl d14_6 rfl rfl (by decide) ?_
  intro v2 T2 L2 Lc2 X2 hQ2 l2
  obtain ⟨b2q2, k2q2, rfl, Nq2, Kq2, p2_0, p2_1, p2_2, p2_3⟩ := hQ2
  have O2_ := extKeep O0 Kq2 all0
  have K2 := Keep.trans (Keep.refl h0 []) Kq2 all0
  have N2_ := frA l2 N0 Nq2
  have g_b2q2 := Nat.le_trans O0.1 p2_0
  have sz_b2q2 := Nat.le_trans (Keep.refl h0 []).1 p2_0
  exact Go.retA X2 hx hret rfl rfl hlk (hb hby d14_9) (by decide) (by decide) ⟨b2q2, k2q2, rfl, N2_, K2, sz_b2q2, p2_1, p2_2, p2_3⟩
theorem pn_38 : plainName "java/util/ArrayList" = true := by first | (simp [plainName, overriddenIn]; done) | decide +kernel
def Q_a38_0 (Z : State) (w3 : Addr) (h0 : Heap) (v : Option Value) (h : Heap) (L : List Loc) : Prop := ∃ (b2q2q3 : Addr) (k2q2q3 : ClassId), v = some (.ref b2q2q3) ∧ Fr Z.heap.size L ∧ Keep h0 h [] ∧ h0.size ≤ b2q2q3 ∧ ex_0 Z h b2q2q3 ∧ Arv Z h b2q2q3 k2q2q3 (.object "java/lang/Object") (1 : Int32) [(.ref w3)] .null ∧ Ovr Z k2q2q3 "java/lang/Object"
theorem rm_a38_0 (x0 w1 : Addr) (kk2 : ClassId) (w3 : Addr) (h0 : Heap) (O0 : Ext Z.heap h0) (r0 : fl_17 Z h0 x0 (.ref w1)) (r1 : fl_16 Z h0 x0 (.int (1 : Int32))) (r2 : ex_0 Z h0 w1) (r3 : Arv Z h0 w1 kk2 (.object "java/lang/Object") (10 : Int32) [(.ref w3), .null, .null, .null, .null, .null, .null, .null, .null, .null] .null) (r4 : ex_5 Z h0 w3) :
    MF hw GG l y_38 jdk_38_method_16_code 1 (some (.array (.object "java/lang/Object"))) ws ⟨3, 1, 1, 46⟩ h0 #[(.ref x0)] (Q_a38_0 Z w3 h0) := by
  refine own_mF #[.val (.ref x0)] (plainFor_of_name pn_38) (fun _ => rfl) ?_
  intro p e s m below meth c s₁ u hlk hret hZ hown hnm X0 e0 N0
  obtain ⟨hx, hby, hml⟩ := id u
  refine t_aN X0 u d38_0 rfl rfl ?_
  refine t_gF X0 u hZ hown (wd hw 130 rfl) e0 r0 d38_1 ?_
  intro T1 X1 e1
  refine t_aN X1 u d38_4 rfl rfl ?_
  refine t_gF X1 u hZ hown (wd hw 127 rfl) e1 r1 d38_5 ?_
  intro T2 X2 e2
  refine t_cS [(.ref w1), (.int (1 : Int32))] [] 0 X2 u hZ hown (wd hw 188 rfl) (m_32 hw) e2 (rm_a14_0 l Z a0 hw [] G GG w1 kk2 w3 h0 O0 r2 r3 r4) rfl d38_8 rfl rfl (by decide) ?_
  intro v3 T3 L3 Lc3 X3 hQ3 l3
  obtain ⟨b2q2q3, k2q2q3, rfl, Nq3, Kq3, p3_0, p3_1, p3_2, p3_3⟩ := hQ3
  have O3_ := extKeep O0 Kq3 all0
  have K3 := Keep.trans (Keep.refl h0 []) Kq3 all0
  have N3_ := frA l3 N0 Nq3
  have g_b2q2q3 := Nat.le_trans O0.1 p3_0
  have sz_b2q2q3 := Nat.le_trans (Keep.refl h0 []).1 p3_0
  exact Go.retA X3 hx hret rfl rfl hlk (hb hby d38_11) (by decide) (by decide) ⟨b2q2q3, k2q2q3, rfl, N3_, K3, sz_b2q2q3, p3_1, p3_2, p3_3⟩
theorem pn_42 : plainName "java/util/ImmutableCollections$AbstractImmutableCollection" = true := by first | (simp [plainName, overriddenIn]; done) | decide +kernel
theorem rm_a42_0 (x0 : Addr) (h0 : Heap) (O0 : Ext Z.heap h0) :
    MF hw GG l y_42 jdk_47_method_1_code 1 none ws ⟨2, 0, 0, 24⟩ h0 #[(.ref x0)] (Qp (none) Z h0) := by
  refine own_mF #[.val (.ref x0)] (plainFor_of_name pn_42) (fun _ => rfl) ?_
  intro p e s m below meth c s₁ u hlk hret hZ hown hnm X0 e0 N0
  refine t_aN X0 u d42_0 rfl rfl ?_
  refine pt_cN [] [] 0 X0 u hZ hown rfl (wd hw 311 rfl) (m_0 hw) e0 (rm_a12_0 l Z a0 hw [] G GG x0 h0 O0 ) rfl d42_1 rfl rfl (by decide) N0 ?_
  intro T1 L1 X1 e1 N1_
  exact t_rV X1 u hret hlk d42_4 e1 N1_ (by decide)
theorem pn_41 : plainName "java/util/ImmutableCollections$AbstractImmutableList" = true := by first | (simp [plainName, overriddenIn]; done) | decide +kernel
theorem rm_a41_0 (x0 : Addr) (h0 : Heap) (O0 : Ext Z.heap h0) :
    MF hw GG l y_41 jdk_46_method_1_code 1 none ws ⟨3, 0, 0, 36⟩ h0 #[(.ref x0)] (Qp (none) Z h0) := by
  refine own_mF #[.val (.ref x0)] (plainFor_of_name pn_41) (fun _ => rfl) ?_
  intro p e s m below meth c s₁ u hlk hret hZ hown hnm X0 e0 N0
  refine t_aN X0 u d41_0 rfl rfl ?_
  refine pt_cN [] [] 0 X0 u hZ hown rfl (wd hw 305 rfl) (m_34 hw) e0 (rm_a42_0 l Z a0 hw [] G GG x0 h0 O0 ) rfl d41_1 rfl rfl (by decide) N0 ?_
  intro T1 L1 X1 e1 N1_
  exact t_rV X1 u hret hlk d41_4 e1 N1_ (by decide)
theorem pn_43 : plainName "java/util/Objects" = true := by first | (simp [plainName, overriddenIn]; done) | decide +kernel
theorem rm_a43_0 (x0 : Addr) (h0 : Heap) (O0 : Ext Z.heap h0) :
    MF hw GG l y_43 jdk_31_method_10_code 1 (some (.object "java/lang/Object")) ws ⟨0, 0, 0, 0⟩ h0 #[(.ref x0)] (Qp (some (.ref x0)) Z h0) := by
  refine own_mF #[.val (.ref x0)] (plainFor_of_name pn_43) (fun _ => rfl) ?_
  intro p e s m below meth c s₁ u hlk hret hZ hown hnm X0 e0 N0
  obtain ⟨hx, hby, hml⟩ := id u
  refine t_aN X0 u d43_0 rfl rfl ?_
  refine Go.step (fun _ kt_ => XS.ifnonnullYes X0.here hx rfl (pc0 := 1) (pc' := 12) rfl (hb hby d43_1) rfl (by decide) (by decide) kt_) ?_
  refine t_aN X0 u d43_12 rfl rfl ?_
  exact t_rA X0 u hret hlk rfl rfl d43_13 e0 N0 (by decide)
theorem pn_40 : plainName "java/util/ImmutableCollections$List12" = true := by first | (simp [plainName, overriddenIn]; done) | decide +kernel
def Q_a40_0 (Z : State) (G : GT) (x0 x1 : Addr) (h0 : Heap) (v : Option Value) (h : Heap) (L : List Loc) : Prop := v = none ∧ Fr Z.heap.size L ∧ Keep h0 h [x0] ∧ fl_3 Z h x0 (.ref x1) ∧ fl_4 Z h x0 (.ref G.eo)
theorem rm_a40_0 (x0 x1 : Addr) (h0 : Heap) (O0 : Ext Z.heap h0) (r0 : ex_4 Z h0 x0) (r1 : fl_3 Z h0 x0 .null) (r2 : Z.heap.size ≤ x0) (r3 : fl_4 Z h0 x0 .null) :
    MF hw GG l y_40 jdk_44_method_1_code 2 none ws ⟨4, 0, 0, 48⟩ h0 #[(.ref x0), (.ref x1)] (Q_a40_0 Z G x0 x1 h0) := by
  refine own_mF #[.val (.ref x0), .val (.ref x1)] (plainFor_of_name pn_40) (fun _ => rfl) ?_
  intro p e s m below meth c s₁ u hlk hret hZ hown hnm X0 e0 N0
  obtain ⟨hx, hby, hml⟩ := id u
  refine t_aN X0 u d40_0 rfl rfl ?_
  refine pt_cN [] [] 0 X0 u hZ hown rfl (wd hw 299 rfl) (m_35 hw) e0 (rm_a41_0 l Z a0 hw [] G GG x0 h0 O0 ) rfl d40_1 rfl rfl (by decide) N0 ?_
  intro T1 L1 X1 e1 N1_
  refine t_aN X1 u d40_4 rfl rfl ?_
  refine t_aN X1 u d40_5 rfl rfl ?_
  refine pt_cS [(.ref x1)] [(.ref x0)] 1 X1 u hZ hown (wd hw 313 rfl) (m_36 hw) e1 (rm_a43_0 l Z a0 hw [] G GG x1 h0 O0 ) rfl d40_6 rfl rfl (by decide) N1_ ?_
  intro T2 L2 X2 e2 N2_
  refine t_pF X2 u hZ hown (wd hw 317 rfl) e2 r1 r0 (Or.inr ⟨(wd hw 318 rfl), rfl, hnm⟩) (wd hw 293 rfl) pf_Ljava_lang_Object_ rfl rfl d40_9 ?_
  intro T3 h3 X3 e3 W3
  have N3_ := Fr.snoc X3 N2_ r2
  have O3_ := extWr O0 W3 r2
  have K3 := Keep.wr (Keep.refl h0 [x0]) W3 k0
  have F3 := Fld.same W3 r1
  refine t_aN X3 u d40_12 rfl rfl ?_
  obtain ⟨T4, X4, e4, st4⟩ := getS2 X3 hx hZ hown (Or.inr (wd hw 319 rfl)) Via.refl e3 (Sta.ext O3_ GG.G_eo) (g := (mkF m 13 #[.val (.ref x0), .val (.ref x1)] [(.ref x0)])) rfl (hb hby d40_13)
  refine Go.step st4 ?_
  refine t_pF X4 u hZ hown (wd hw 320 rfl) e4 (fR W3 r3 (sn_15 hw)) (Exa.wr W3 r0) (Or.inr ⟨(wd hw 321 rfl), rfl, hnm⟩) (wd hw 293 rfl) pf_Ljava_lang_Object_ rfl rfl d40_16 ?_
  intro T5 h5 X5 e5 W5
  have N5_ := Fr.snoc X5 N3_ r2
  have O5_ := extWr O3_ W5 r2
  have K5 := Keep.wr K3 W5 k0
  have F5 := Fld.same W5 (fR W3 r3 (sn_15 hw))
  exact Go.retV X5 hx hret hlk (hb hby d40_19) (by decide) (by decide) (by show Q_a40_0 ..; rw [e5]; exact ⟨rfl, N5_, K5, (fS W5 F3 (sn_15 hw)), F5⟩)
theorem pn_39 : plainName "java/util/List" = true := by first | (simp [plainName, overriddenIn]; done) | decide +kernel
def Q_a39_0 (Z : State) (G : GT) (w2 : Addr) (h0 : Heap) (v : Option Value) (h : Heap) (L : List Loc) : Prop := ∃ (b2 : Addr), v = some (.ref b2) ∧ Fr Z.heap.size L ∧ Keep h0 h [] ∧ h0.size ≤ b2 ∧ ex_4 Z h b2 ∧ fl_3 Z h b2 (.ref w2) ∧ fl_4 Z h b2 (.ref G.eo)
theorem rm_a39_0 (x0 : Addr) (kk1 : ClassId) (w2 : Addr) (h0 : Heap) (O0 : Ext Z.heap h0) (r0 : Arv Z h0 x0 kk1 (.object "java/lang/Object") (1 : Int32) [(.ref w2)] .null) :
    MF hw GG l y_39 jdk_40_method_47_code 2 (some (.object "java/util/List")) ws ⟨5, 1, 2, 62⟩ h0 #[(.ref x0)] (Q_a39_0 Z G w2 h0) := by
  refine own_mF #[.val (.ref x0), .unset] (plainFor_of_name pn_39) (fun _ => rfl) ?_
  intro p e s m below meth c s₁ u hlk hret hZ hown hnm X0 e0 N0
  obtain ⟨hx, hby, hml⟩ := id u
  refine t_aN X0 u d39_0 rfl rfl ?_
  obtain ⟨cl1, Ar1, -, S1, N1, -, -⟩ := id r0
  refine Go.step (X0.arraylength hx (by rw [e0]; exact Ar1.1) (State.isArrayOf_alike hZ.alike Ar1.2.1) (g := (mkF m 1 #[.val (.ref x0), .unset] [(.ref x0)])) rfl rfl (hb hby d39_1)) ?_
  rw [len_of S1 N1]
  show Go _ _ _ _ _ _ _ _ s₁ (mkF m 2 #[.val (.ref x0), .unset] [(.int (1 : Int32))])
  refine Go.step (fun _ kt_ => XS.tswIn X0.here hx rfl (pc0 := 2) (pc' := 34) (o := 32) rfl (hb hby d39_2) rfl (by decide) rfl (by decide) (by decide) kt_) ?_
  refine t_new X0 u hZ hown (wd hw 292 rfl) (wd hw 293 rfl) (wd hw 294 rfl) e0 d39_34 (by decide) ?_
  intro T2 h2 b2 X2 e2 E2 hb2 A2 D2
  have g_b2 := leE O0.1 hb2
  have O2_ := extTr O0 E2
  have sz_b2 := leE (Keep.refl h0 []).1 hb2
  have K2 := Keep.ext (Keep.refl h0 []) E2
  have F2_e0 : fl_3 Z h2 b2 .null := D2 (Or.inr (wd hw 318 rfl)) (ty := (.object "java/lang/Object")) pf_Ljava_lang_Object_
  have F2_e1 : fl_4 Z h2 b2 .null := D2 (Or.inr (wd hw 321 rfl)) (ty := (.object "java/lang/Object")) pf_Ljava_lang_Object_
  refine t_dup X2 u d39_37 rfl ?_
  refine t_aN X2 u d39_38 rfl rfl ?_
  refine t_iC X2 u d39_39  ?_
  obtain ⟨cl3, Ar3, q3, S3, N3, H3, G3⟩ := id (r0.ext E2)
  have hin3 : ¬ ((0 : Int32) < 0 ∨ cl3.slots.size ≤ ((0 : Int32)).toNatClampNeg) := inb_of S3 ⟨by decide, by decide⟩
  refine Go.step (X2.aaload hx (j := (0 : Int32)) (v := (.ref w2)) (by rw [e2]; exact Ar3.1) (State.isArrayOf_alike hZ.alike Ar3.2.1) rfl Ar3.2.2 hin3 (Has.at H3 hin3 rfl) (g := (mkF m 40 #[.val (.ref x0), .unset] [(.int (0 : Int32)), (.ref x0), (.ref b2), (.ref b2)])) rfl rfl (hb hby d39_40)) ?_
  refine t_cN [(.ref w2)] [(.ref b2)] 1 X2 u hZ hown rfl (wd hw 295 rfl) (m_37 hw) e2 (rm_a40_0 l Z a0 hw [] G GG b2 w2 h2 O2_ A2 F2_e0 g_b2 F2_e1) rfl d39_41 rfl rfl (by decide) ?_
  intro v4 T4 L4 Lc4 X4 hQ4 l4
  obtain ⟨rfl, Nq4, Kq4, p4_0, p4_1⟩ := hQ4
  have O4_ := extKeep O2_ Kq4 (allS g_b2 all0)
  have K4 := Keep.trans K2 Kq4 (allS (Or.inr sz_b2) all0)
  have N4_ := frA l4 N0 Nq4
  exact Go.retA X4 hx hret rfl rfl hlk (hb hby d39_44) (by decide) (by decide) ⟨b2, rfl, N4_, K4, sz_b2, (A2.keep Kq4), p4_0, p4_1⟩
def Q_a37_1 (Z : State) (G : GT) (w3 : Addr) (h0 : Heap) (v : Option Value) (h : Heap) (L : List Loc) : Prop := ∃ (b2q5 : Addr), v = some (.ref b2q5) ∧ Fr Z.heap.size L ∧ Keep h0 h [] ∧ h0.size ≤ b2q5 ∧ ex_4 Z h b2q5 ∧ fl_3 Z h b2q5 (.ref w3) ∧ fl_4 Z h b2q5 (.ref G.eo)
theorem rm_a37_1 (x0 w1 : Addr) (kk2 : ClassId) (w3 : Addr) (h0 : Heap) (O0 : Ext Z.heap h0) (r0 : ex_7 Z h0 x0) (r1 : fl_16 Z h0 x0 (.int (1 : Int32))) (r2 : fl_17 Z h0 x0 (.ref w1)) (r3 : ex_0 Z h0 w1) (r4 : Arv Z h0 w1 kk2 (.object "java/lang/Object") (10 : Int32) [(.ref w3), .null, .null, .null, .null, .null, .null, .null, .null, .null] .null) (r5 : ex_5 Z h0 w3) :
    MF hw GG l y_37 jdk_56_method_3_code 2 (some (.object "java/util/List")) ws ⟨6, 2, 3, 75⟩ h0 #[(.ref x0)] (Q_a37_1 Z G w3 h0) := by
  refine own_mF #[.val (.ref x0), .unset] (plainFor_of_name pn_37) (fun _ => rfl) ?_
  intro p e s m below meth c s₁ u hlk hret hZ hown hnm X0 e0 N0
  obtain ⟨hx, hby, hml⟩ := id u
  refine t_aN X0 u d37_0 rfl rfl ?_
  obtain ⟨T1, X1, e1, st1⟩ := instNo X0 hx hZ hown (wd hw 272 rfl) e0 r0 (own_nsNo (wd hw 273 rfl) (wd hw 293 rfl) (NS.step (wd hw 273 rfl) (NS.step (wd hw 274 rfl) (NS.step (wd hw 275 rfl) (own_nsRoot (wd hw 276 rfl) (wd hw 293 rfl) (by decide)) (by decide)) (by decide)) (by decide)) (by decide)) (g := (mkF m 1 #[.val (.ref x0), .unset] [(.ref x0)])) rfl rfl (hb hby d37_1)
  refine Go.step st1 ?_
  refine t_ifN X1 u d37_4 ((if0 _ _).trans (teq (by decide : (0 : Int32) = (0 : Int32))).2) ?_
  refine t_aN X1 u d37_7 rfl rfl ?_
  obtain ⟨T2, X2, e2, st2⟩ := instNo X1 hx hZ hown (wd hw 277 rfl) e1 r0 (own_nsNo2 (wd hw 273 rfl) (own_face (wd hw 35 rfl)) (NS.step (wd hw 273 rfl) (NS.step (wd hw 274 rfl) (NS.step (wd hw 275 rfl) (own_nsRoot2 (wd hw 276 rfl) (own_face (wd hw 35 rfl)) (by decide)) (by decide)) (by decide)) (by decide)) (by decide)) (g := (mkF m 8 #[.val (.ref x0), .unset] [(.ref x0)])) rfl rfl (hb hby d37_8)
  refine Go.step st2 ?_
  refine t_ifY 11 31 X2 u rfl d37_11 ((if0 _ _).trans (teq (by decide : (0 : Int32) = (0 : Int32))).1) (by decide) ?_
  refine t_aN X2 u d37_31 rfl rfl ?_
  refine pt_cI [] [] 0 X2 u hZ hown (wd hw 278 rfl) (m_11 hw) e2 r0 (rm_a17_1 l Z a0 hw [] G GG x0 (1 : Int32) h0 O0 r1 (by decide)) rfl d37_32 rfl rfl (by decide) N0 ?_
  intro T3 L3 X3 e3 N3_
  refine t_ifY 37 44 X3 u rfl d37_37 ((if0 _ _).trans (teq (by decide : (0 : Int32) = (0 : Int32))).1) (by decide) ?_
  refine t_aN X3 u d37_44 rfl rfl ?_
  refine t_cI [] [] 0 X3 u hZ hown (wd hw 283 rfl) (m_33 hw) e3 r0 (rm_a38_0 l Z a0 hw [] G GG x0 w1 kk2 w3 h0 O0 r2 r1 r3 r4 r5) rfl d37_45 rfl rfl (by decide) ?_
  intro v4 T4 L4 Lc4 X4 hQ4 l4
  obtain ⟨b2q2q3q4, k2q2q3q4, rfl, Nq4, Kq4, p4_0, p4_1, p4_2, p4_3⟩ := hQ4
  have O4_ := extKeep O0 Kq4 all0
  have K4 := Keep.trans (Keep.refl h0 []) Kq4 all0
  have N4_ := frA l4 N3_ Nq4
  have g_b2q2q3q4 := Nat.le_trans O0.1 p4_0
  have sz_b2q2q3q4 := Nat.le_trans (Keep.refl h0 []).1 p4_0
  refine t_cS [(.ref b2q2q3q4)] [] 0 X4 u hZ hown (wd hw 289 rfl) (m_38 hw) rfl (rm_a39_0 l Z a0 hw [] G GG b2q2q3q4 k2q2q3q4 w3 T4.heap O4_ p4_2) rfl d37_50 rfl rfl (by decide) ?_
  intro v5 T5 L5 Lc5 X5 hQ5 l5
  obtain ⟨b2q5, rfl, Nq5, Kq5, p5_0, p5_1, p5_2, p5_3⟩ := hQ5
  have O5_ := extKeep O4_ Kq5 all0
  have K5 := Keep.trans K4 Kq5 all0
  have N5_ := frA l5 N4_ Nq5
  have g_b2q5 := Nat.le_trans O4_.1 p5_0
  have sz_b2q5 := Nat.le_trans K4.1 p5_0
  exact Go.retA X5 hx hret rfl rfl hlk (hb hby d37_53) (by decide) (by decide) ⟨b2q5, rfl, N5_, K5, sz_b2q5, p5_1, p5_2, p5_3⟩
def Q_a36_1 (Z : State) (G : GT) (w3 : Addr) (h0 : Heap) (v : Option Value) (h : Heap) (L : List Loc) : Prop := ∃ (b2q5q1 : Addr), v = some (.ref b2q5q1) ∧ Fr Z.heap.size L ∧ Keep h0 h [] ∧ h0.size ≤ b2q5q1 ∧ ex_4 Z h b2q5q1 ∧ fl_3 Z h b2q5q1 (.ref w3) ∧ fl_4 Z h b2q5q1 (.ref G.eo)
theorem rm_a36_1 (x0 w1 : Addr) (kk2 : ClassId) (w3 : Addr) (h0 : Heap) (O0 : Ext Z.heap h0) (r0 : ex_7 Z h0 x0) (r1 : fl_16 Z h0 x0 (.int (1 : Int32))) (r2 : fl_17 Z h0 x0 (.ref w1)) (r3 : ex_0 Z h0 w1) (r4 : Arv Z h0 w1 kk2 (.object "java/lang/Object") (10 : Int32) [(.ref w3), .null, .null, .null, .null, .null, .null, .null, .null, .null] .null) (r5 : ex_5 Z h0 w3) :
    MF hw GG l y_36 jdk_40_method_48_code 1 (some (.object "java/util/List")) ws ⟨7, 2, 3, 88⟩ h0 #[(.ref x0)] (Q_a36_1 Z G w3 h0) := by
  refine own_mF #[.val (.ref x0)] (plainFor_of_name pn_36) (fun _ => rfl) ?_
  intro p e s m below meth c s₁ u hlk hret hZ hown hnm X0 e0 N0
  obtain ⟨hx, hby, hml⟩ := id u
  refine t_aN X0 u d36_0 rfl rfl ?_
  refine t_cS [(.ref x0)] [] 0 X0 u hZ hown (wd hw 268 rfl) (m_13 hw) e0 (rm_a37_1 l Z a0 hw [] G GG x0 w1 kk2 w3 h0 O0 r0 r1 r2 r3 r4 r5) rfl d36_1 rfl rfl (by decide) ?_
  intro v1 T1 L1 Lc1 X1 hQ1 l1
  obtain ⟨b2q5q1, rfl, Nq1, Kq1, p1_0, p1_1, p1_2, p1_3⟩ := hQ1
  have O1_ := extKeep O0 Kq1 all0
  have K1 := Keep.trans (Keep.refl h0 []) Kq1 all0
  have N1_ := frA l1 N0 Nq1
  have g_b2q5q1 := Nat.le_trans O0.1 p1_0
  have sz_b2q5q1 := Nat.le_trans (Keep.refl h0 []).1 p1_0
  exact Go.retA X1 hx hret rfl rfl hlk (hb hby d36_4) (by decide) (by decide) ⟨b2q5q1, rfl, N1_, K1, sz_b2q5q1, p1_1, p1_2, p1_3⟩
def Q_a26_1 (Z : State) (G : GT) (x0 w5 : Addr) (h0 : Heap) (v : Option Value) (h : Heap) (L : List Loc) : Prop := ∃ (b2q5q1q25 : Addr), v = none ∧ Fr Z.heap.size L ∧ Keep h0 h [x0] ∧ fl_2 Z h x0 (.ref b2q5q1q25) ∧ h0.size ≤ b2q5q1q25 ∧ ex_4 Z h b2q5q1q25 ∧ fl_3 Z h b2q5q1q25 (.ref w5) ∧ fl_4 Z h b2q5q1q25 (.ref G.eo)
theorem rm_a26_1 (x0 x1 : Addr) (w1 w2 : Int32) (w3 : Addr) (kk4 : ClassId) (w5 : Addr) (w6 : Int32) (w7 : Int64) (h0 : Heap) (O0 : Ext Z.heap h0) (r0 : ex_7 Z h0 x1) (r1 : fl_15 Z h0 x1 (.int w1)) (r2 : fl_16 Z h0 x1 (.int w2)) (r3 : ¬ ((0 : Int32) = w2)) (r4 : w1 = w1) (r5 : (0 : Int32) < w2) (r6 : fl_17 Z h0 x1 (.ref w3)) (r7 : Arv Z h0 w3 kk4 (.object "java/lang/Object") (10 : Int32) [(.ref w5), .null, .null, .null, .null, .null, .null, .null, .null, .null] .null) (r8 : ex_5 Z h0 w5) (r9 : fl_5 Z h0 w5 (.int w6)) (r10 : ¬ (w6 < (0 : Int32))) (r11 : fl_6 Z h0 w5 (.long w7)) (r12 : ¬ ((lcmpW w7 (0 : Int64)) < (0 : Int32))) (r13 : (1 : Int32) = w2) (r14 : ex_3 Z h0 x0) (r15 : fl_2 Z h0 x0 .null) (r16 : Z.heap.size ≤ x0) :
    MF hw GG l y_26 prog_22_method_1_code 5 none ws ⟨8, 5, 20, 100⟩ h0 #[(.ref x0), (.ref x1)] (Q_a26_1 Z G x0 w5 h0) := by
  refine own_mF #[.val (.ref x0), .val (.ref x1), .unset, .unset, .unset] (plainFor_of_name pn_26) (fun _ => rfl) ?_
  intro p e s m below meth c s₁ u hlk hret hZ hown hnm X0 e0 N0
  obtain ⟨hx, hby, hml⟩ := id u
  refine t_aN X0 u d26_0 rfl rfl ?_
  refine pt_cN [] [] 0 X0 u hZ hown rfl (wd hw 195 rfl) (m_7 hw) e0 (rm_a19_0 l Z a0 hw [] G GG x0 h0 O0 ) rfl d26_1 rfl rfl (by decide) N0 ?_
  intro T1 L1 X1 e1 N1_
  refine t_new X1 u hZ hown (wd hw 73 rfl) (wd hw 74 rfl) (wd hw 75 rfl) e1 d26_4 (by decide) ?_
  intro T2 h2 b2 X2 e2 E2 hb2 A2 D2
  have g_b2 := leE O0.1 hb2
  have O2_ := extTr O0 E2
  have sz_b2 := leE (Keep.refl h0 [x0]).1 hb2
  have K2 := Keep.ext (Keep.refl h0 [x0]) E2
  have F2_modCount : fl_15 Z h2 b2 (.int (0 : Int32)) := D2 (Or.inl (wd hw 93 rfl)) (ty := .int) pf_I
  have F2_size : fl_16 Z h2 b2 (.int (0 : Int32)) := D2 (Or.inl (wd hw 128 rfl)) (ty := .int) pf_I
  have F2_elementData : fl_17 Z h2 b2 .null := D2 (Or.inl (wd hw 131 rfl)) (ty := (.array (.object "java/lang/Object"))) pf_ALjava_lang_Object_
  refine t_dup X2 u d26_7 rfl ?_
  refine t_cN [] [(.ref b2)] 1 X2 u hZ hown rfl (wd hw 196 rfl) (m_2 hw) e2 (rm_a27_0 l Z a0 hw [] G GG b2 (0 : Int32) (0 : Int32) h2 O2_ A2 F2_modCount g_b2 F2_size F2_elementData) rfl d26_8 rfl rfl (by decide) ?_
  intro v3 T3 L3 Lc3 X3 hQ3 l3
  obtain ⟨rfl, Nq3, Kq3, p3_0, p3_1, p3_2⟩ := hQ3
  have O3_ := extKeep O2_ Kq3 (allS g_b2 all0)
  have K3 := Keep.trans K2 Kq3 (allS (Or.inr sz_b2) all0)
  have N3_ := frA l3 N1_ Nq3
  refine t_asN X3 u d26_11 rfl (l' := #[.val (.ref x0), .val (.ref x1), .val (.ref b2), .unset, .unset]) rfl ?_
  refine t_aN X3 u d26_12 rfl rfl ?_
  have f4 := ((Fld.ext E2 r1).keep Kq3 (ninS (neE r0.lt hb2) nin0))
  refine t_cI [] [] 0 X3 u hZ hown (wd hw 199 rfl) (m_9 hw) rfl ((Exa.ext E2 r0).keep Kq3) (rm_a28_0 l Z a0 hw [] G GG x1 w1 T3.heap O3_ f4) rfl d26_13 rfl rfl (by decide) ?_
  intro v5 T5 L5 Lc5 X5 hQ5 l5
  obtain ⟨b1q5, rfl, Nq5, Kq5, p5_0, p5_1, p5_2, p5_3, p5_4, p5_5⟩ := hQ5
  have O5_ := extKeep O3_ Kq5 all0
  have K5 := Keep.trans K3 Kq5 all0
  have N5_ := frA l5 N3_ Nq5
  have g_b1q5 := Nat.le_trans O3_.1 p5_0
  have sz_b1q5 := Nat.le_trans K3.1 p5_0
  refine t_asN X5 u d26_18 rfl (l' := #[.val (.ref x0), .val (.ref x1), .val (.ref b2), .val (.ref b1q5), .unset]) rfl ?_
  refine t_aN X5 u d26_19 rfl rfl ?_
  have f6 := (((Fld.ext E2 r2).keep Kq3 (ninS (neE r0.lt hb2) nin0)).keep Kq5 nin0)
  refine pt_cI [] [] 0 X5 u hZ hown (wd hw 222 rfl) (m_10 hw) rfl p5_1 (rm_a30_1 l Z a0 hw [] G GG b1q5 (0 : Int32) x1 w2 T5.heap O5_ p5_5 p5_2 f6 r3) rfl d26_20 rfl rfl (by decide) N5_ ?_
  intro T7 L7 X7 e7 N7_
  refine t_ifN X7 u d26_25 ((if0 _ _).trans (feq (by decide : ¬ ((1 : Int32) = (0 : Int32)))).1) ?_
  refine t_aN X7 u d26_28 rfl rfl ?_
  have f8 := (((Fld.ext E2 r6).keep Kq3 (ninS (neE r0.lt hb2) nin0)).keep Kq5 nin0)
  have f9 := (((r7.ext E2).keep Kq3 (ninS (neE r7.lt hb2) nin0)).keep Kq5 nin0)
  refine t_cI [] [] 0 X7 u hZ hown (wd hw 234 rfl) (m_26 hw) e7 p5_1 (rm_a31_0 l Z a0 hw [] G GG b1q5 x1 w1 w2 w3 kk4 w5 T5.heap O5_ p5_1 p5_2 (f4.keep Kq5 nin0) p5_4 r4 p5_5 f6 r5 f8 f9 g_b1q5 p5_3 (neL ((r7.ext E2).keep Kq3 (ninS (neE r7.lt hb2) nin0)).lt p5_0)) rfl d26_29 rfl rfl (by decide) ?_
  intro v10 T10 L10 Lc10 X10 hQ10 l10
  obtain ⟨rfl, Nq10, Kq10, p10_0, p10_1, p10_2, p10_3⟩ := hQ10
  have O10_ := extKeep O5_ Kq10 (allS g_b1q5 all0)
  have K10 := Keep.trans K5 Kq10 (allS (Or.inr sz_b1q5) all0)
  have N10_ := frA l10 N7_ Nq10
  have f11 := ((((Exa.ext E2 r8).keep Kq3).keep Kq5).keep Kq10)
  obtain ⟨T12, X12, e12, st12⟩ := castY X10 hx hZ hown (wd hw 138 rfl) rfl (Ins.self f11) (g := (mkF m 34 #[.val (.ref x0), .val (.ref x1), .val (.ref b2), .val (.ref b1q5), .unset] [(.ref w5)])) rfl rfl (hb hby d26_34)
  refine Go.step st12 ?_
  refine t_asL X12 u d26_37 rfl (l' := #[.val (.ref x0), .val (.ref x1), .val (.ref b2), .val (.ref b1q5), .val (.ref w5)]) rfl ?_
  refine t_aN X12 u d26_39 rfl rfl ?_
  refine t_aL X12 u d26_40 rfl rfl ?_
  have f13 := ((p3_1.keep Kq5 nin0).keep Kq10 (ninS (neL (A2.keep Kq3).lt p5_0) nin0))
  have f14 := ((((Fld.ext E2 r9).keep Kq3 (ninS (neE r8.lt hb2) nin0)).keep Kq5 nin0).keep Kq10 (ninS (neL ((Exa.ext E2 r8).keep Kq3).lt p5_0) nin0))
  have f15 := ((((Fld.ext E2 r11).keep Kq3 (ninS (neE r8.lt hb2) nin0)).keep Kq5 nin0).keep Kq10 (ninS (neL ((Exa.ext E2 r8).keep Kq3).lt p5_0) nin0))
  refine pt_cS [(.ref b2), (.ref w5)] [] 0 X12 u hZ hown (wd hw 249 rfl) (m_29 hw) e12 (rm_a33_0 l Z a0 hw [] G GG b2 w5 (0 : Int32) w6 w7 T10.heap O10_ (((A2.keep Kq3).keep Kq5).keep Kq10) f13 (by decide) f11 f14 r10 f15 r12) rfl d26_42 rfl rfl (by decide) N10_ ?_
  intro T16 L16 X16 e16 N16_
  refine t_ifY 45 74 X16 u rfl d26_45 ((if0 _ _).trans (feq (by decide : ¬ ((1 : Int32) = (0 : Int32)))).2) (by decide) ?_
  refine t_aN X16 u d26_74 rfl rfl ?_
  refine t_aL X16 u d26_75 rfl rfl ?_
  have f17 := ((p3_0.keep Kq5 nin0).keep Kq10 (ninS (neL (A2.keep Kq3).lt p5_0) nin0))
  have f18 := ((p3_2.keep Kq5 nin0).keep Kq10 (ninS (neL (A2.keep Kq3).lt p5_0) nin0))
  refine t_cI [(.ref w5)] [] 0 X16 u hZ hown (wd hw 154 rfl) (m_24 hw) e16 (((A2.keep Kq3).keep Kq5).keep Kq10) (rm_a20_0 l Z a0 hw [] G GG b2 w5 T10.heap O10_ f17 (((A2.keep Kq3).keep Kq5).keep Kq10) g_b2 f18 f13 f11) rfl d26_77 rfl rfl (by decide) ?_
  intro v19 T19 L19 Lc19 X19 hQ19 l19
  obtain ⟨b6q2q2q5q19, k6q2q2q5q19, rfl, Nq19, Kq19, p19_0, p19_1, p19_2, p19_3, p19_4, p19_5, p19_6⟩ := hQ19
  have O19_ := extKeep O10_ Kq19 (allS g_b2 all0)
  have K19 := Keep.trans K10 Kq19 (allS (Or.inr sz_b2) all0)
  have N19_ := frA l19 N16_ Nq19
  have g_b6q2q2q5q19 := Nat.le_trans O10_.1 p19_3
  have sz_b6q2q2q5q19 := Nat.le_trans K10.1 p19_3
  refine t_pop X19 u d26_82 rfl ?_
  refine t_go 83 19 X19 u rfl d26_83 (by decide) ?_
  refine t_aN X19 u d26_19 rfl rfl ?_
  have f20 := (p10_2.keep Kq19 (ninS (Ne.symm (neL (A2.keep Kq3).lt p5_0)) nin0))
  have f21 := (p10_0.keep Kq19 (ninS (Ne.symm (neL (A2.keep Kq3).lt p5_0)) nin0))
  have f22 := ((f6.keep Kq10 (ninS (neL ((Exa.ext E2 r0).keep Kq3).lt p5_0) nin0)).keep Kq19 (ninS (neE r0.lt hb2) nin0))
  refine pt_cI [] [] 0 X19 u hZ hown (wd hw 222 rfl) (m_10 hw) rfl ((p5_1.keep Kq10).keep Kq19) (rm_a30_0 l Z a0 hw [] G GG b1q5 (1 : Int32) x1 w2 T19.heap O19_ f20 f21 f22 r13) rfl d26_20 rfl rfl (by decide) N19_ ?_
  intro T23 L23 X23 e23 N23_
  refine t_ifY 25 86 X23 u rfl d26_25 ((if0 _ _).trans (teq (by decide : (0 : Int32) = (0 : Int32))).1) (by decide) ?_
  refine t_aN X23 u d26_86 rfl rfl ?_
  have f24 := ((((A2.keep Kq3).keep Kq5).keep Kq10).keep Kq19)
  refine t_cS [(.ref b2)] [] 0 X23 u hZ hown (wd hw 264 rfl) (m_14 hw) e23 (rm_a36_1 l Z a0 hw [] G GG b2 b6q2q2q5q19 k6q2q2q5q19 w5 T19.heap O19_ f24 p19_1 p19_0 p19_4 p19_5 (f11.keep Kq19)) rfl d26_87 rfl rfl (by decide) ?_
  intro v25 T25 L25 Lc25 X25 hQ25 l25
  obtain ⟨b2q5q1q25, rfl, Nq25, Kq25, p25_0, p25_1, p25_2, p25_3⟩ := hQ25
  have O25_ := extKeep O19_ Kq25 all0
  have K25 := Keep.trans K19 Kq25 all0
  have N25_ := frA l25 N23_ Nq25
  have g_b2q5q1q25 := Nat.le_trans O19_.1 p25_0
  have sz_b2q5q1q25 := Nat.le_trans K19.1 p25_0
  refine t_asN X25 u d26_90 rfl (l' := #[.val (.ref x0), .val (.ref b2q5q1q25), .val (.ref b2), .val (.ref b1q5), .val (.ref w5)]) rfl ?_
  refine t_aN X25 u d26_91 rfl rfl ?_
  refine t_aN X25 u d26_92 rfl rfl ?_
  have f26 := ((((Exa.ext E2 r14).keep Kq3).keep Kq5).keep Kq10)
  have f27 := ((((Fld.ext E2 r15).keep Kq3 (ninS (neE r14.lt hb2) nin0)).keep Kq5 nin0).keep Kq10 (ninS (neL ((Exa.ext E2 r14).keep Kq3).lt p5_0) nin0))
  have f28 := ((f27.keep Kq19 (ninS (neE r14.lt hb2) nin0)).keep Kq25 nin0)
  refine t_pF X25 u hZ hown (wd hw 30 rfl) rfl f28 ((f26.keep Kq19).keep Kq25) (Or.inr ⟨(wd hw 31 rfl), rfl, hnm⟩) (wd hw 191 rfl) pf_Ljava_util_List_ rfl rfl d26_93 ?_
  intro T29 h29 X29 e29 W29
  have N29_ := Fr.snoc X29 N25_ r16
  have O29_ := extWr O25_ W29 r16
  have K29 := Keep.wr K25 W29 k0
  have F29 := Fld.same W29 f28
  have f30 := (fL W29 p25_2 (Ne.symm (neL (f26.keep Kq19).lt p25_0)))
  have f31 := (fL W29 p25_3 (Ne.symm (neL (f26.keep Kq19).lt p25_0)))
  exact Go.retV X29 hx hret hlk (hb hby d26_96) (by decide) (by decide) (by show Q_a26_1 ..; rw [e29]; exact ⟨b2q5q1q25, rfl, N29_, K29, F29, sz_b2q5q1q25, (Exa.wr W29 p25_1), f30, f31⟩)
theorem rm_a57_1 (x0 w1 : Addr) (h0 : Heap) (O0 : Ext Z.heap h0) (r0 : fl_4 Z h0 x0 (.ref w1)) (r1 : ex_5 Z h0 w1) :
    MF hw GG l y_57 jdk_44_method_3_code 1 (some .int) ws ⟨0, 0, 0, 0⟩ h0 #[(.ref x0)] (Qp (some (.int (2 : Int32))) Z h0) := by
  refine own_mF #[.val (.ref x0)] (plainFor_of_name pn_57) (fun _ => rfl) ?_
  intro p e s m below meth c s₁ u hlk hret hZ hown hnm X0 e0 N0
  obtain ⟨hx, hby, hml⟩ := id u
  refine t_aN X0 u d57_0 rfl rfl ?_
  refine t_gF X0 u hZ hown (wd hw 320 rfl) e0 r0 d57_1 ?_
  intro T1 X1 e1
  obtain ⟨T2, X2, e2, st2⟩ := getS2 X1 hx hZ hown (Or.inr (wd hw 319 rfl)) Via.refl e1 (Sta.ext O0 GG.G_eo) (g := (mkF m 4 #[.val (.ref x0)] [(.ref w1)])) rfl (hb hby d57_4)
  refine Go.step st2 ?_
  refine Go.step (fun _ kt_ => Jvm.RoadKit.acmp (g := (mkF m 7 #[.val (.ref x0)] [(.ref G.eo), (.ref w1)])) X2 hx rfl rfl rfl (pc0 := 7) (pc' := 10) (same := false) rfl (hb hby d57_7) rfl (decide_eq_false fun q => (exa_ne r1 (Exa.ext O0 GG.G_eoe) (by decide)) (Value.ref.inj q)) (by decide) (by decide) kt_) ?_
  show Go _ _ _ _ _ _ _ _ T2 (mkF m 10 #[.val (.ref x0)] [])
  refine t_iC X2 u d57_10  ?_
  refine t_go 11 15 X2 u rfl d57_11 (by decide) ?_
  exact t_rI X2 u hret hlk d57_15 e2 N0 (by decide)
def Q_a64_2 (Z : State) (x0 : Addr) (h0 : Heap) (v : Option Value) (h : Heap) (L : List Loc) : Prop := ∃ (b1 : Addr), v = some (.ref b1) ∧ Fr Z.heap.size L ∧ Keep h0 h [] ∧ h0.size ≤ b1 ∧ ex_8 Z h b1 ∧ fl_18 Z h b1 (.ref x0) ∧ fl_19 Z h b1 (.int (2 : Int32)) ∧ fl_20 Z h b1 (.int (0 : Int32)) ∧ fl_21 Z h b1 (.int (0 : Int32))
theorem rm_a64_2 (x0 w1 : Addr) (h0 : Heap) (O0 : Ext Z.heap h0) (r0 : ex_4 Z h0 x0) (r1 : fl_4 Z h0 x0 (.ref w1)) (r2 : ex_5 Z h0 w1) :
    MF hw GG l y_64 jdk_46_method_10_code 1 (some (.object "java/util/Iterator")) ws ⟨2, 1, 4, 27⟩ h0 #[(.ref x0)] (Q_a64_2 Z x0 h0) := by
  refine own_mF #[.val (.ref x0)] (plainFor_of_name pn_64) (fun _ => rfl) ?_
  intro p e s m below meth c s₁ u hlk hret hZ hown hnm X0 e0 N0
  obtain ⟨hx, hby, hml⟩ := id u
  refine t_new X0 u hZ hown (wd hw 454 rfl) (wd hw 455 rfl) (wd hw 456 rfl) e0 d64_0 (by decide) ?_
  intro T1 h1 b1 X1 e1 E1 hb1 A1 D1
  have g_b1 := leE O0.1 hb1
  have O1_ := extTr O0 E1
  have sz_b1 := leE (Keep.refl h0 []).1 hb1
  have K1 := Keep.ext (Keep.refl h0 []) E1
  have F1_list : fl_18 Z h1 b1 .null := D1 (Or.inr (wd hw 467 rfl)) (ty := (.object "java/util/List")) pf_Ljava_util_List_
  have F1_size : fl_19 Z h1 b1 (.int (0 : Int32)) := D1 (Or.inr (wd hw 469 rfl)) (ty := .int) pf_I
  have F1_cursor : fl_20 Z h1 b1 (.int (0 : Int32)) := D1 (Or.inl (wd hw 471 rfl)) (ty := .int) pf_I
  have F1_isListIterator : fl_21 Z h1 b1 (.int (0 : Int32)) := D1 (Or.inr (wd hw 473 rfl)) (ty := .boolean) pf_Z
  refine t_dup X1 u d64_3 rfl ?_
  refine t_aN X1 u d64_4 rfl rfl ?_
  refine t_aN X1 u d64_5 rfl rfl ?_
  refine pt_cU [] [(.ref x0), (.ref b1), (.ref b1)] 3 X1 u hZ hown (wd hw 457 rfl) (m_16 hw) e1 (Exa.ext E1 r0) (rm_a57_1 l Z a0 hw [] G GG x0 w1 h1 O1_ (Fld.ext E1 r1) (Exa.ext E1 r2)) rfl d64_6 rfl rfl (by decide) N0 ?_
  intro T2 L2 X2 e2 N2_
  refine t_cN [(.ref x0), (.int (2 : Int32))] [(.ref b1)] 1 X2 u hZ hown rfl (wd hw 461 rfl) (m_4 hw) e2 (rm_a65_1 l Z a0 hw [] G GG b1 x0 (2 : Int32) (0 : Int32) (0 : Int32) (0 : Int32) h1 O1_ A1 F1_list g_b1 F1_size F1_cursor F1_isListIterator) rfl d64_9 rfl rfl (by decide) ?_
  intro v3 T3 L3 Lc3 X3 hQ3 l3
  obtain ⟨rfl, Nq3, Kq3, p3_0, p3_1, p3_2, p3_3⟩ := hQ3
  have O3_ := extKeep O1_ Kq3 (allS g_b1 all0)
  have K3 := Keep.trans K1 Kq3 (allS (Or.inr sz_b1) all0)
  have N3_ := frA l3 N2_ Nq3
  exact Go.retA X3 hx hret rfl rfl hlk (hb hby d64_12) (by decide) (by decide) ⟨b1, rfl, N3_, K3, sz_b1, (A1.keep Kq3), p3_0, p3_1, p3_2, p3_3⟩
theorem rm_a53_1 (x0 : Addr) (x1 : Int32) (w1 : Addr) (h0 : Heap) (O0 : Ext Z.heap h0) (r0 : ¬ (x1 = (0 : Int32))) (r1 : x1 = (1 : Int32)) (r2 : fl_4 Z h0 x0 (.ref w1)) (r3 : ex_5 Z h0 w1) :
    MF hw GG l y_53 jdk_44_method_5_code 2 (some (.object "java/lang/Object")) ws ⟨0, 0, 0, 0⟩ h0 #[(.ref x0), (.int x1)] (Qp (some (.ref w1)) Z h0) := by
  refine own_mF #[.val (.ref x0), .val (.int x1)] (plainFor_of_name pn_53) (fun _ => rfl) ?_
  intro p e s m below meth c s₁ u hlk hret hZ hown hnm X0 e0 N0
  obtain ⟨hx, hby, hml⟩ := id u
  refine t_iN X0 u d53_0 rfl ?_
  refine t_ifY 1 9 X0 u rfl d53_1 ((if0 _ _).trans (feq r0).2) (by decide) ?_
  refine t_iN X0 u d53_9 rfl ?_
  refine t_iC X0 u d53_10  ?_
  refine t_icN X0 u d53_11 (teq r1).2 ?_
  refine t_aN X0 u d53_14 rfl rfl ?_
  refine t_gF X0 u hZ hown (wd hw 320 rfl) e0 r2 d53_15 ?_
  intro T1 X1 e1
  obtain ⟨T2, X2, e2, st2⟩ := getS2 X1 hx hZ hown (Or.inr (wd hw 319 rfl)) Via.refl e1 (Sta.ext O0 GG.G_eo) (g := (mkF m 18 #[.val (.ref x0), .val (.int x1)] [(.ref w1)])) rfl (hb hby d53_18)
  refine Go.step st2 ?_
  refine Go.step (fun _ kt_ => Jvm.RoadKit.acmp (g := (mkF m 21 #[.val (.ref x0), .val (.int x1)] [(.ref G.eo), (.ref w1)])) X2 hx rfl rfl rfl (pc0 := 21) (pc' := 24) (same := false) rfl (hb hby d53_21) rfl (decide_eq_false fun q => (exa_ne r3 (Exa.ext O0 GG.G_eoe) (by decide)) (Value.ref.inj q)) (by decide) (by decide) kt_) ?_
  show Go _ _ _ _ _ _ _ _ T2 (mkF m 24 #[.val (.ref x0), .val (.int x1)] [])
  refine t_aN X2 u d53_24 rfl rfl ?_
  refine t_gF X2 u hZ hown (wd hw 320 rfl) e2 r2 d53_25 ?_
  intro T3 X3 e3
  exact t_rA X3 u hret hlk rfl rfl d53_28 e3 N0 (by decide)
def Q_a67_1 (Z : State) (x0 : Addr) (w1 : Int32) (w2 w3 : Addr) (w4 w5 : Int32) (h0 : Heap) (v : Option Value) (h : Heap) (L : List Loc) : Prop := v = some (.ref w3) ∧ Fr Z.heap.size L ∧ Keep h0 h [x0] ∧ fl_20 Z h x0 (.int (w1 + (1 : Int32))) ∧ fl_18 Z h x0 (.ref w2) ∧ fl_19 Z h x0 (.int w4) ∧ fl_21 Z h x0 (.int w5)
theorem rm_a67_1 (x0 : Addr) (w1 : Int32) (w2 w3 : Addr) (w4 w5 : Int32) (h0 : Heap) (O0 : Ext Z.heap h0) (r0 : fl_20 Z h0 x0 (.int w1)) (r1 : fl_18 Z h0 x0 (.ref w2)) (r2 : ex_4 Z h0 w2) (r3 : ¬ (w1 = (0 : Int32))) (r4 : w1 = (1 : Int32)) (r5 : fl_4 Z h0 w2 (.ref w3)) (r6 : ex_5 Z h0 w3) (r7 : ex_8 Z h0 x0) (r8 : Z.heap.size ≤ x0) (r9 : fl_19 Z h0 x0 (.int w4)) (r10 : fl_21 Z h0 x0 (.int w5)) :
    MFC hw GG l y_67 jdk_53_method_4_code 3 (some (.object "java/lang/Object")) [((0 : Nat), (24 : Nat), (25 : Nat), (30 : Nat))] ws ⟨1, 0, 0, 13⟩ h0 #[(.ref x0)] (Q_a67_1 Z x0 w1 w2 w3 w4 w5 h0) := by
  refine own_mFC #[.val (.ref x0), .unset, .unset] (plainFor_of_name pn_67) (fun _ => rfl) ?_
  intro p e s m below meth c s₁ u hlk hret hZ hown hnm X0 e0 N0
  obtain ⟨hx, hby, hml⟩ := id u
  refine t_aN X0 u d67_0 rfl rfl ?_
  refine t_gF X0 u hZ hown (wd hw 470 rfl) e0 r0 d67_1 ?_
  intro T1 X1 e1
  refine t_isN X1 u d67_4 (l' := #[.val (.ref x0), .val (.int w1), .unset]) rfl ?_
  refine t_aN X1 u d67_5 rfl rfl ?_
  refine t_gF X1 u hZ hown (wd hw 466 rfl) e1 r1 d67_6 ?_
  intro T2 X2 e2
  refine t_iN X2 u d67_9 rfl ?_
  refine pt_cI [(.int w1)] [] 0 X2 u hZ hown (wd hw 485 rfl) (m_18 hw) e2 r2 (rm_a53_1 l Z a0 hw [] G GG w2 w1 w3 h0 O0 r3 r4 r5 r6) rfl d67_10 rfl rfl (by decide) N0 ?_
  intro T3 L3 X3 e3 N3_
  refine t_asN X3 u d67_15 rfl (l' := #[.val (.ref x0), .val (.int w1), .val (.ref w3)]) rfl ?_
  refine t_aN X3 u d67_16 rfl rfl ?_
  refine t_iN X3 u d67_17 rfl ?_
  refine t_iC X3 u d67_18  ?_
  refine t_iadd X3 u d67_19  ?_
  refine t_pF X3 u hZ hown (wd hw 470 rfl) e3 r0 r7 (Or.inl (wd hw 471 rfl)) (wd hw 455 rfl) pf_I rfl rfl d67_20 ?_
  intro T4 h4 X4 e4 W4
  have N4_ := Fr.snoc X4 N3_ r8
  have O4_ := extWr O0 W4 r8
  have K4 := Keep.wr (Keep.refl h0 [x0]) W4 k0
  have F4 := Fld.same W4 r0
  refine t_aN X4 u d67_23 rfl rfl ?_
  exact Go.retA X4 hx hret rfl rfl hlk (hb hby d67_24) (by decide) (by decide) (by show Q_a67_1 ..; rw [e4]; exact ⟨rfl, N4_, K4, F4, (fS W4 r1 (sn_4 hw)), (fS W4 r9 (sn_5 hw)), (fR W4 r10 (sn_8 hw))⟩)
def Q_a21_1 (Z : State) (x0 x1 x2 : Addr) (kk1 : ClassId) (w2 : Addr) (h0 : Heap) (v : Option Value) (h : Heap) (L : List Loc) : Prop := v = none ∧ Fr Z.heap.size L ∧ Keep h0 h [x2, x0] ∧ Arv Z h x2 kk1 (.object "java/lang/Object") (10 : Int32) [(.ref w2), (.ref x1), .null, .null, .null, .null, .null, .null, .null, .null] .null ∧ fl_16 Z h x0 (.int (2 : Int32)) ∧ fl_15 Z h x0 (.int (2 : Int32)) ∧ fl_17 Z h x0 (.ref x2)
theorem rm_a21_1 (x0 x1 x2 : Addr) (kk1 : ClassId) (w2 : Addr) (h0 : Heap) (O0 : Ext Z.heap h0) (r0 : Arv Z h0 x2 kk1 (.object "java/lang/Object") (10 : Int32) [(.ref w2), .null, .null, .null, .null, .null, .null, .null, .null, .null] .null) (r1 : Ovr Z kk1 "java/lang/Object") (r2 : ex_5 Z h0 x1) (r3 : Z.heap.size ≤ x2) (r4 : ex_7 Z h0 x0) (r5 : fl_16 Z h0 x0 (.int (1 : Int32))) (r6 : x0 ≠ x2) (r7 : Z.heap.size ≤ x0) (r8 : fl_15 Z h0 x0 (.int (2 : Int32))) (r9 : fl_17 Z h0 x0 (.ref x2)) :
    MF hw GG l y_21 jdk_38_method_24_code 4 none ws ⟨0, 0, 0, 0⟩ h0 #[(.ref x0), (.ref x1), (.ref x2), (.int (1 : Int32))] (Q_a21_1 Z x0 x1 x2 kk1 w2 h0) := by
  refine own_mF #[.val (.ref x0), .val (.ref x1), .val (.ref x2), .val (.int (1 : Int32))] (plainFor_of_name pn_21) (fun _ => rfl) ?_
  intro p e s m below meth c s₁ u hlk hret hZ hown hnm X0 e0 N0
  obtain ⟨hx, hby, hml⟩ := id u
  refine t_iN X0 u d21_0 rfl ?_
  refine t_aN X0 u d21_1 rfl rfl ?_
  obtain ⟨cl1, Ar1, -, S1, N1, -, -⟩ := id r0
  refine Go.step (X0.arraylength hx (by rw [e0]; exact Ar1.1) (State.isArrayOf_alike hZ.alike Ar1.2.1) (g := (mkF m 2 #[.val (.ref x0), .val (.ref x1), .val (.ref x2), .val (.int (1 : Int32))] [(.ref x2), (.int (1 : Int32))])) rfl rfl (hb hby d21_2)) ?_
  rw [len_of S1 N1]
  show Go _ _ _ _ _ _ _ _ s₁ (mkF m 3 #[.val (.ref x0), .val (.ref x1), .val (.ref x2), .val (.int (1 : Int32))] [(.int (10 : Int32)), (.int (1 : Int32))])
  refine t_icY 3 11 X0 u rfl d21_3 (feq (by decide : ¬ ((1 : Int32) = (10 : Int32)))).2 (by decide) ?_
  refine t_aN X0 u d21_11 rfl rfl ?_
  refine t_iN X0 u d21_12 rfl ?_
  refine t_aN X0 u d21_13 rfl rfl ?_
  obtain ⟨cl2, Ar2, q2, S2, N2, H2, G2⟩ := id r0
  have hin2 : ¬ ((1 : Int32) < 0 ∨ cl2.slots.size ≤ ((1 : Int32)).toNatClampNeg) := inb_of S2 ⟨by decide, by decide⟩
  obtain ⟨T2, h2, X2, e2, W2, st2⟩ := stR X0 hx hZ e0 Ar2 (j := (1 : Int32)) hin2 rfl (Sto.ofV Ar2 q2 r1 (Ins.of_exa r2 (wd hw 189 rfl))) (g := (mkF m 14 #[.val (.ref x0), .val (.ref x1), .val (.ref x2), .val (.int (1 : Int32))] [(.ref x1), (.int (1 : Int32)), (.ref x2)])) rfl rfl (hb hby d21_14)
  refine Go.step st2 ?_
  have V2 : Arv Z h2 x2 kk1 (.object "java/lang/Object") (10 : Int32) [(.ref w2), (.ref x1), .null, .null, .null, .null, .null, .null, .null, .null] .null := Arv.set Ar2 q2 S2 N2 H2 G2 rfl W2 1 rfl (Nat.le_of_ble_eq_true rfl)
  have N2_ := Fr.snoc X2 N0 r3
  have O2_ := extWr O0 W2 r3
  have K2 := Keep.wr (Keep.refl h0 [x2, x0]) W2 k0
  refine t_aN X2 u d21_15 rfl rfl ?_
  refine t_iN X2 u d21_16 rfl ?_
  refine t_iC X2 u d21_17  ?_
  refine t_iadd X2 u d21_18  ?_
  refine t_pF X2 u hZ hown (wd hw 127 rfl) e2 (fL W2 r5 r6) (Exa.wr W2 r4) (Or.inl (wd hw 128 rfl)) (wd hw 74 rfl) pf_I rfl rfl d21_19 ?_
  intro T3 h3 X3 e3 W3
  have N3_ := Fr.snoc X3 N2_ r7
  have O3_ := extWr O2_ W3 r7
  have K3 := Keep.wr K2 W3 k1
  have F3 := Fld.same W3 (fL W2 r5 r6)
  exact Go.retV X3 hx hret hlk (hb hby d21_22) (by decide) (by decide) (by show Q_a21_1 ..; rw [e3]; exact ⟨rfl, N3_, K3, (V2.other W3 (Ne.symm r6)), F3, (fS W3 (fL W2 r8 r6) (sn_0 hw)), (fS W3 (fL W2 r9 r6) (sn_2 hw))⟩)
def Q_a20_1 (Z : State) (x0 x1 w1 : Addr) (kk2 : ClassId) (w3 : Addr) (h0 : Heap) (v : Option Value) (h : Heap) (L : List Loc) : Prop := v = some (.int (1 : Int32)) ∧ Fr Z.heap.size L ∧ Keep h0 h [x0, w1] ∧ fl_16 Z h x0 (.int (2 : Int32)) ∧ fl_15 Z h x0 (.int (2 : Int32)) ∧ fl_17 Z h x0 (.ref w1) ∧ Arv Z h w1 kk2 (.object "java/lang/Object") (10 : Int32) [(.ref w3), (.ref x1), .null, .null, .null, .null, .null, .null, .null, .null] .null
theorem rm_a20_1 (x0 x1 w1 : Addr) (kk2 : ClassId) (w3 : Addr) (h0 : Heap) (O0 : Ext Z.heap h0) (r0 : fl_15 Z h0 x0 (.int (1 : Int32))) (r1 : ex_7 Z h0 x0) (r2 : Z.heap.size ≤ x0) (r3 : fl_17 Z h0 x0 (.ref w1)) (r4 : fl_16 Z h0 x0 (.int (1 : Int32))) (r5 : Arv Z h0 w1 kk2 (.object "java/lang/Object") (10 : Int32) [(.ref w3), .null, .null, .null, .null, .null, .null, .null, .null, .null] .null) (r6 : w1 ≠ x0) (r7 : Ovr Z kk2 "java/lang/Object") (r8 : ex_5 Z h0 x1) (r9 : Z.heap.size ≤ w1) :
    MF hw GG l y_20 jdk_38_method_25_code 2 (some .boolean) ws ⟨1, 0, 0, 15⟩ h0 #[(.ref x0), (.ref x1)] (Q_a20_1 Z x0 x1 w1 kk2 w3 h0) := by
  refine own_mF #[.val (.ref x0), .val (.ref x1)] (plainFor_of_name pn_20) (fun _ => rfl) ?_
  intro p e s m below meth c s₁ u hlk hret hZ hown hnm X0 e0 N0
  obtain ⟨hx, hby, hml⟩ := id u
  refine t_aN X0 u d20_0 rfl rfl ?_
  refine t_dup X0 u d20_1 rfl ?_
  obtain ⟨T1, X1, e1, st1⟩ := getF X0 hx hZ hown (host := "") (Or.inl (wd hw 162 rfl)) (Via.of (wd hw 163 rfl)) e0 r0 (g := (mkF m 2 #[.val (.ref x0), .val (.ref x1)] [(.ref x0), (.ref x0)])) rfl rfl (hb hby d20_2)
  refine Go.step st1 ?_
  refine t_iC X1 u d20_5  ?_
  refine t_iadd X1 u d20_6  ?_
  obtain ⟨T2, h2, X2, e2, W2, st2⟩ := putF X1 hx hZ hown (host := "") (Or.inl (wd hw 162 rfl)) (Via.of (wd hw 163 rfl)) e1 r0 r1 (Or.inl (wd hw 93 rfl)) (wd hw 74 rfl) (ty := .int) pf_I rfl rfl (g := (mkF m 7 #[.val (.ref x0), .val (.ref x1)] [(.int (2 : Int32)), (.ref x0)])) rfl rfl (hb hby d20_7)
  refine Go.step st2 ?_
  have N2_ := Fr.snoc X2 N0 r2
  have O2_ := extWr O0 W2 r2
  have K2 := Keep.wr (Keep.refl h0 [x0, w1]) W2 k0
  have F2 := Fld.same W2 r0
  refine t_aN X2 u d20_10 rfl rfl ?_
  refine t_aN X2 u d20_11 rfl rfl ?_
  refine t_aN X2 u d20_12 rfl rfl ?_
  refine t_gF X2 u hZ hown (wd hw 130 rfl) e2 (fR W2 r3 (sn_1 hw)) d20_13 ?_
  intro T3 X3 e3
  refine t_aN X3 u d20_16 rfl rfl ?_
  refine t_gF X3 u hZ hown (wd hw 127 rfl) e3 (fR W2 r4 (sn_0 hw)) d20_17 ?_
  intro T4 X4 e4
  refine t_cP [(.ref x1), (.ref w1), (.int (1 : Int32))] [] 0 X4 u hZ hown (Exa.wr W2 r1) (wd hw 164 rfl) (m_23 hw) e4 (rm_a21_1 l Z a0 hw [] G GG x0 x1 w1 kk2 w3 h2 O2_ (r5.other W2 r6) r7 (Exa.wr W2 r8) r9 (Exa.wr W2 r1) (fR W2 r4 (sn_0 hw)) (Ne.symm r6) r2 F2 (fR W2 r3 (sn_1 hw))) rfl d20_20 rfl rfl (by decide) ?_
  intro v5 T5 L5 Lc5 X5 hQ5 l5
  obtain ⟨rfl, Nq5, Kq5, p5_0, p5_1, p5_2, p5_3⟩ := hQ5
  have O5_ := extKeep O2_ Kq5 (allS r9 (allS r2 all0))
  have K5 := Keep.trans K2 Kq5 (allS k1 (allS k0 all0))
  have N5_ := frA l5 N2_ Nq5
  refine t_iC X5 u d20_23  ?_
  exact Go.retN X5 hx (t := .boolean) hret (by simp) hlk (hb hby d20_24) (by decide) (by decide) ⟨rfl, N5_, K5, p5_1, p5_2, p5_3, p5_0⟩
def Q_a31_1 (Z : State) (x0 w1 : Addr) (w2 : Int32) (w6 : Addr) (h0 : Heap) (v : Option Value) (h : Heap) (L : List Loc) : Prop := v = some (.ref w6) ∧ Fr Z.heap.size L ∧ Keep h0 h [x0] ∧ fl_22 Z h x0 (.ref w1) ∧ fl_24 Z h x0 (.int w2) ∧ fl_25 Z h x0 (.int (1 : Int32)) ∧ fl_23 Z h x0 (.int (0 : Int32))
theorem rm_a31_1 (x0 w1 : Addr) (w2 w3 : Int32) (w4 : Addr) (kk5 : ClassId) (w6 w7 : Addr) (h0 : Heap) (O0 : Ext Z.heap h0) (r0 : ex_9 Z h0 x0) (r1 : fl_22 Z h0 x0 (.ref w1)) (r2 : fl_15 Z h0 w1 (.int w2)) (r3 : fl_24 Z h0 x0 (.int w2)) (r4 : w2 = w2) (r5 : fl_25 Z h0 x0 (.int (0 : Int32))) (r6 : fl_16 Z h0 w1 (.int w3)) (r7 : (0 : Int32) < w3) (r8 : fl_17 Z h0 w1 (.ref w4)) (r9 : Arv Z h0 w4 kk5 (.object "java/lang/Object") (10 : Int32) [(.ref w6), (.ref w7), .null, .null, .null, .null, .null, .null, .null, .null] .null) (r10 : Z.heap.size ≤ x0) (r11 : fl_23 Z h0 x0 (.int (-1 : Int32))) (r12 : w4 ≠ x0) :
    MF hw GG l y_31 jdk_49_method_3_code 3 (some (.object "java/lang/Object")) ws ⟨1, 0, 0, 12⟩ h0 #[(.ref x0)] (Q_a31_1 Z x0 w1 w2 w6 h0) := by
  refine own_mF #[.val (.ref x0), .unset, .unset] (plainFor_of_name pn_31) (fun _ => rfl) ?_
  intro p e s m below meth c s₁ u hlk hret hZ hown hnm X0 e0 N0
  obtain ⟨hx, hby, hml⟩ := id u
  refine t_aN X0 u d31_0 rfl rfl ?_
  refine pt_cV [] [] 0 X0 u hZ hown (wd hw 242 rfl) (m_25 hw) e0 r0 (rm_a32_0 l Z a0 hw [] G GG x0 w1 w2 h0 O0 r1 r2 r3 r4) rfl d31_1 rfl rfl (by decide) N0 ?_
  intro T1 L1 X1 e1 N1_
  refine t_aN X1 u d31_4 rfl rfl ?_
  refine t_gF X1 u hZ hown (wd hw 231 rfl) e1 r5 d31_5 ?_
  intro T2 X2 e2
  refine t_isN X2 u d31_8 (l' := #[.val (.ref x0), .val (.int (0 : Int32)), .unset]) rfl ?_
  refine t_iN X2 u d31_9 rfl ?_
  refine t_aN X2 u d31_10 rfl rfl ?_
  refine t_gF X2 u hZ hown (wd hw 214 rfl) e2 r1 d31_11 ?_
  intro T3 X3 e3
  obtain ⟨T4, X4, e4, st4⟩ := getF X3 hx hZ hown (Or.inr (wd hw 233 rfl)) Via.refl e3 r6 (g := (mkF m 14 #[.val (.ref x0), .val (.int (0 : Int32)), .unset] [(.ref w1), (.int (0 : Int32))])) rfl rfl (hb hby d31_14)
  refine Go.step st4 ?_
  refine t_icY 17 28 X4 u rfl d31_17 (tlt r7).1 (by decide) ?_
  refine t_aN X4 u d31_28 rfl rfl ?_
  refine t_gF X4 u hZ hown (wd hw 214 rfl) e4 r1 d31_29 ?_
  intro T5 X5 e5
  refine t_gF X5 u hZ hown (wd hw 247 rfl) e5 r8 d31_32 ?_
  intro T6 X6 e6
  refine t_asN X6 u d31_35 rfl (l' := #[.val (.ref x0), .val (.int (0 : Int32)), .val (.ref w4)]) rfl ?_
  refine t_iN X6 u d31_36 rfl ?_
  refine t_aN X6 u d31_37 rfl rfl ?_
  obtain ⟨cl7, Ar7, -, S7, N7, -, -⟩ := id r9
  refine Go.step (X6.arraylength hx (by rw [e6]; exact Ar7.1) (State.isArrayOf_alike hZ.alike Ar7.2.1) (g := (mkF m 38 #[.val (.ref x0), .val (.int (0 : Int32)), .val (.ref w4)] [(.ref w4), (.int (0 : Int32))])) rfl rfl (hb hby d31_38)) ?_
  rw [len_of S7 N7]
  show Go _ _ _ _ _ _ _ _ T6 (mkF m 39 #[.val (.ref x0), .val (.int (0 : Int32)), .val (.ref w4)] [(.int (10 : Int32)), (.int (0 : Int32))])
  refine t_icY 39 50 X6 u rfl d31_39 (tlt (by decide : (0 : Int32) < (10 : Int32))).1 (by decide) ?_
  refine t_aN X6 u d31_50 rfl rfl ?_
  refine t_iN X6 u d31_51 rfl ?_
  refine t_iC X6 u d31_52  ?_
  refine t_iadd X6 u d31_53  ?_
  refine t_pF X6 u hZ hown (wd hw 231 rfl) e6 r5 r0 (Or.inl (wd hw 232 rfl)) (wd hw 208 rfl) pf_I rfl rfl d31_54 ?_
  intro T8 h8 X8 e8 W8
  have N8_ := Fr.snoc X8 N1_ r10
  have O8_ := extWr O0 W8 r10
  have K8 := Keep.wr (Keep.refl h0 [x0]) W8 k0
  have F8 := Fld.same W8 r5
  refine t_aN X8 u d31_57 rfl rfl ?_
  refine t_aN X8 u d31_58 rfl rfl ?_
  refine t_iN X8 u d31_59 rfl ?_
  refine Go.step (fun _ kt_ => XS.dupX1 X8.here hx rfl (hb hby d31_60) rfl rfl rfl kt_) ?_
  refine t_pF X8 u hZ hown (wd hw 217 rfl) e8 (fS W8 r11 (sn_13 hw)) (Exa.wr W8 r0) (Or.inl (wd hw 218 rfl)) (wd hw 208 rfl) pf_I rfl rfl d31_61 ?_
  intro T9 h9 X9 e9 W9
  have N9_ := Fr.snoc X9 N8_ r10
  have O9_ := extWr O8_ W9 r10
  have K9 := Keep.wr K8 W9 k0
  have F9 := Fld.same W9 (fS W8 r11 (sn_13 hw))
  obtain ⟨cl10, Ar10, q10, S10, N10, H10, G10⟩ := id ((r9.other W8 r12).other W9 r12)
  have hin10 : ¬ ((0 : Int32) < 0 ∨ cl10.slots.size ≤ ((0 : Int32)).toNatClampNeg) := inb_of S10 ⟨by decide, by decide⟩
  refine Go.step (X9.aaload hx (j := (0 : Int32)) (v := (.ref w6)) (by rw [e9]; exact Ar10.1) (State.isArrayOf_alike hZ.alike Ar10.2.1) rfl Ar10.2.2 hin10 (Has.at H10 hin10 rfl) (g := (mkF m 64 #[.val (.ref x0), .val (.int (0 : Int32)), .val (.ref w4)] [(.int (0 : Int32)), (.ref w4)])) rfl rfl (hb hby d31_64)) ?_
  exact Go.retA X9 hx hret rfl rfl hlk (hb hby d31_65) (by decide) (by decide) (by show Q_a31_1 ..; rw [e9]; exact ⟨rfl, N9_, K9, (fS W9 (fS W8 r1 (sn_12 hw)) (sn_9 hw)), (fR W9 (fS W8 r3 (sn_14 hw)) (sn_11 hw)), (fR W9 F8 (sn_13 hw)), F9⟩)
def Q_a31_2 (Z : State) (x0 w1 : Addr) (w2 : Int32) (w7 : Addr) (h0 : Heap) (v : Option Value) (h : Heap) (L : List Loc) : Prop := v = some (.ref w7) ∧ Fr Z.heap.size L ∧ Keep h0 h [x0] ∧ fl_22 Z h x0 (.ref w1) ∧ fl_24 Z h x0 (.int w2) ∧ fl_25 Z h x0 (.int (2 : Int32)) ∧ fl_23 Z h x0 (.int (1 : Int32))
theorem rm_a31_2 (x0 w1 : Addr) (w2 w3 : Int32) (w4 : Addr) (kk5 : ClassId) (w6 w7 : Addr) (h0 : Heap) (O0 : Ext Z.heap h0) (r0 : ex_9 Z h0 x0) (r1 : fl_22 Z h0 x0 (.ref w1)) (r2 : fl_15 Z h0 w1 (.int w2)) (r3 : fl_24 Z h0 x0 (.int w2)) (r4 : w2 = w2) (r5 : fl_25 Z h0 x0 (.int (1 : Int32))) (r6 : fl_16 Z h0 w1 (.int w3)) (r7 : (1 : Int32) < w3) (r8 : fl_17 Z h0 w1 (.ref w4)) (r9 : Arv Z h0 w4 kk5 (.object "java/lang/Object") (10 : Int32) [(.ref w6), (.ref w7), .null, .null, .null, .null, .null, .null, .null, .null] .null) (r10 : Z.heap.size ≤ x0) (r11 : fl_23 Z h0 x0 (.int (0 : Int32))) (r12 : w4 ≠ x0) :
    MF hw GG l y_31 jdk_49_method_3_code 3 (some (.object "java/lang/Object")) ws ⟨1, 0, 0, 12⟩ h0 #[(.ref x0)] (Q_a31_2 Z x0 w1 w2 w7 h0) := by
  refine own_mF #[.val (.ref x0), .unset, .unset] (plainFor_of_name pn_31) (fun _ => rfl) ?_
  intro p e s m below meth c s₁ u hlk hret hZ hown hnm X0 e0 N0
  obtain ⟨hx, hby, hml⟩ := id u
  refine t_aN X0 u d31_0 rfl rfl ?_
  refine pt_cV [] [] 0 X0 u hZ hown (wd hw 242 rfl) (m_25 hw) e0 r0 (rm_a32_0 l Z a0 hw [] G GG x0 w1 w2 h0 O0 r1 r2 r3 r4) rfl d31_1 rfl rfl (by decide) N0 ?_
  intro T1 L1 X1 e1 N1_
  refine t_aN X1 u d31_4 rfl rfl ?_
  refine t_gF X1 u hZ hown (wd hw 231 rfl) e1 r5 d31_5 ?_
  intro T2 X2 e2
  refine t_isN X2 u d31_8 (l' := #[.val (.ref x0), .val (.int (1 : Int32)), .unset]) rfl ?_
  refine t_iN X2 u d31_9 rfl ?_
  refine t_aN X2 u d31_10 rfl rfl ?_
  refine t_gF X2 u hZ hown (wd hw 214 rfl) e2 r1 d31_11 ?_
  intro T3 X3 e3
  obtain ⟨T4, X4, e4, st4⟩ := getF X3 hx hZ hown (Or.inr (wd hw 233 rfl)) Via.refl e3 r6 (g := (mkF m 14 #[.val (.ref x0), .val (.int (1 : Int32)), .unset] [(.ref w1), (.int (1 : Int32))])) rfl rfl (hb hby d31_14)
  refine Go.step st4 ?_
  refine t_icY 17 28 X4 u rfl d31_17 (tlt r7).1 (by decide) ?_
  refine t_aN X4 u d31_28 rfl rfl ?_
  refine t_gF X4 u hZ hown (wd hw 214 rfl) e4 r1 d31_29 ?_
  intro T5 X5 e5
  refine t_gF X5 u hZ hown (wd hw 247 rfl) e5 r8 d31_32 ?_
  intro T6 X6 e6
  refine t_asN X6 u d31_35 rfl (l' := #[.val (.ref x0), .val (.int (1 : Int32)), .val (.ref w4)]) rfl ?_
  refine t_iN X6 u d31_36 rfl ?_
  refine t_aN X6 u d31_37 rfl rfl ?_
  obtain ⟨cl7, Ar7, -, S7, N7, -, -⟩ := id r9
  refine Go.step (X6.arraylength hx (by rw [e6]; exact Ar7.1) (State.isArrayOf_alike hZ.alike Ar7.2.1) (g := (mkF m 38 #[.val (.ref x0), .val (.int (1 : Int32)), .val (.ref w4)] [(.ref w4), (.int (1 : Int32))])) rfl rfl (hb hby d31_38)) ?_
  rw [len_of S7 N7]
  show Go _ _ _ _ _ _ _ _ T6 (mkF m 39 #[.val (.ref x0), .val (.int (1 : Int32)), .val (.ref w4)] [(.int (10 : Int32)), (.int (1 : Int32))])
  refine t_icY 39 50 X6 u rfl d31_39 (tlt (by decide : (1 : Int32) < (10 : Int32))).1 (by decide) ?_
  refine t_aN X6 u d31_50 rfl rfl ?_
  refine t_iN X6 u d31_51 rfl ?_
  refine t_iC X6 u d31_52  ?_
  refine t_iadd X6 u d31_53  ?_
  refine t_pF X6 u hZ hown (wd hw 231 rfl) e6 r5 r0 (Or.inl (wd hw 232 rfl)) (wd hw 208 rfl) pf_I rfl rfl d31_54 ?_
  intro T8 h8 X8 e8 W8
  have N8_ := Fr.snoc X8 N1_ r10
  have O8_ := extWr O0 W8 r10
  have K8 := Keep.wr (Keep.refl h0 [x0]) W8 k0
  have F8 := Fld.same W8 r5
  refine t_aN X8 u d31_57 rfl rfl ?_
  refine t_aN X8 u d31_58 rfl rfl ?_
  refine t_iN X8 u d31_59 rfl ?_
  refine Go.step (fun _ kt_ => XS.dupX1 X8.here hx rfl (hb hby d31_60) rfl rfl rfl kt_) ?_
  refine t_pF X8 u hZ hown (wd hw 217 rfl) e8 (fS W8 r11 (sn_13 hw)) (Exa.wr W8 r0) (Or.inl (wd hw 218 rfl)) (wd hw 208 rfl) pf_I rfl rfl d31_61 ?_
  intro T9 h9 X9 e9 W9
  have N9_ := Fr.snoc X9 N8_ r10
  have O9_ := extWr O8_ W9 r10
  have K9 := Keep.wr K8 W9 k0
  have F9 := Fld.same W9 (fS W8 r11 (sn_13 hw))
  obtain ⟨cl10, Ar10, q10, S10, N10, H10, G10⟩ := id ((r9.other W8 r12).other W9 r12)
  have hin10 : ¬ ((1 : Int32) < 0 ∨ cl10.slots.size ≤ ((1 : Int32)).toNatClampNeg) := inb_of S10 ⟨by decide, by decide⟩
  refine Go.step (X9.aaload hx (j := (1 : Int32)) (v := (.ref w7)) (by rw [e9]; exact Ar10.1) (State.isArrayOf_alike hZ.alike Ar10.2.1) rfl Ar10.2.2 hin10 (Has.at H10 hin10 rfl) (g := (mkF m 64 #[.val (.ref x0), .val (.int (1 : Int32)), .val (.ref w4)] [(.int (1 : Int32)), (.ref w4)])) rfl rfl (hb hby d31_64)) ?_
  exact Go.retA X9 hx hret rfl rfl hlk (hb hby d31_65) (by decide) (by decide) (by show Q_a31_2 ..; rw [e9]; exact ⟨rfl, N9_, K9, (fS W9 (fS W8 r1 (sn_12 hw)) (sn_9 hw)), (fR W9 (fS W8 r3 (sn_14 hw)) (sn_11 hw)), (fR W9 F8 (sn_13 hw)), F9⟩)
theorem pn_45 : plainName "java/util/ArrayList" = true := by first | (simp [plainName, overriddenIn]; done) | decide +kernel
theorem rm_a45_0 (x0 : Addr) (w1 : Int32) (h0 : Heap) (O0 : Ext Z.heap h0) (r0 : fl_16 Z h0 x0 (.int w1)) :
    MF hw GG l y_45 jdk_38_method_8_code 1 (some .int) ws ⟨0, 0, 0, 0⟩ h0 #[(.ref x0)] (Qp (some (.int w1)) Z h0) := by
  refine own_mF #[.val (.ref x0)] (plainFor_of_name pn_45) (fun _ => rfl) ?_
  intro p e s m below meth c s₁ u hlk hret hZ hown hnm X0 e0 N0
  refine t_aN X0 u d45_0 rfl rfl ?_
  refine t_gF X0 u hZ hown (wd hw 127 rfl) e0 r0 d45_1 ?_
  intro T1 X1 e1
  exact t_rI X1 u hret hlk d45_4 e1 N0 (by decide)
theorem pn_48 : plainName "jdk/internal/util/Preconditions" = true := by first | (simp [plainName, overriddenIn]; done) | decide +kernel
theorem rm_a48_0 (x0 x1 : Int32) (h0 : Heap) (O0 : Ext Z.heap h0) (r0 : ¬ (x0 < (0 : Int32))) (r1 : x0 < x1) :
    MF hw GG l y_48 jdk_41_method_11_code 3 (some .int) ws ⟨0, 0, 0, 0⟩ h0 #[(.int x0), (.int x1), .null] (Qp (some (.int x0)) Z h0) := by
  refine own_mF #[.val (.int x0), .val (.int x1), .val .null] (plainFor_of_name pn_48) (fun _ => rfl) ?_
  intro p e s m below meth c s₁ u hlk hret hZ hown hnm X0 e0 N0
  refine t_iN X0 u d48_0 rfl ?_
  refine t_ifN X0 u d48_1 ((if0 _ _).trans (flt r0).1) ?_
  refine t_iN X0 u d48_4 rfl ?_
  refine t_iN X0 u d48_5 rfl ?_
  refine t_icY 6 16 X0 u rfl d48_6 (tlt r1).1 (by decide) ?_
  refine t_iN X0 u d48_16 rfl ?_
  exact t_rI X0 u hret hlk d48_17 e0 N0 (by decide)
theorem pn_47 : plainName "java/util/Objects" = true := by first | (simp [plainName, overriddenIn]; done) | decide +kernel
theorem rm_a47_0 (x0 x1 : Int32) (h0 : Heap) (O0 : Ext Z.heap h0) (r0 : ¬ (x0 < (0 : Int32))) (r1 : x0 < x1) :
    MF hw GG l y_47 jdk_31_method_17_code 2 (some .int) ws ⟨1, 0, 0, 14⟩ h0 #[(.int x0), (.int x1)] (Qp (some (.int x0)) Z h0) := by
  refine own_mF #[.val (.int x0), .val (.int x1)] (plainFor_of_name pn_47) (fun _ => rfl) ?_
  intro p e s m below meth c s₁ u hlk hret hZ hown hnm X0 e0 N0
  refine t_iN X0 u d47_0 rfl ?_
  refine t_iN X0 u d47_1 rfl ?_
  refine t_nl X0 u d47_2  ?_
  refine pt_cS [(.int x0), (.int x1), .null] [] 0 X0 u hZ hown (wd hw 357 rfl) (m_40 hw) e0 (rm_a48_0 l Z a0 hw [] G GG x0 x1 h0 O0 r0 r1) rfl d47_3 rfl rfl (by decide) N0 ?_
  intro T1 L1 X1 e1 N1_
  exact t_rI X1 u hret hlk d47_6 e1 N1_ (by decide)
theorem pn_49 : plainName "java/util/ArrayList" = true := by first | (simp [plainName, overriddenIn]; done) | decide +kernel
theorem rm_a49_0 (x0 w1 : Addr) (kk2 : ClassId) (w3 : Addr) (h0 : Heap) (O0 : Ext Z.heap h0) (r0 : fl_17 Z h0 x0 (.ref w1)) (r1 : Arv Z h0 w1 kk2 (.object "java/lang/Object") (10 : Int32) [(.ref w3), .null, .null, .null, .null, .null, .null, .null, .null, .null] .null) :
    MF hw GG l y_49 jdk_38_method_18_code 2 (some (.object "java/lang/Object")) ws ⟨0, 0, 0, 0⟩ h0 #[(.ref x0), (.int (0 : Int32))] (Qp (some (.ref w3)) Z h0) := by
  refine own_mF #[.val (.ref x0), .val (.int (0 : Int32))] (plainFor_of_name pn_49) (fun _ => rfl) ?_
  intro p e s m below meth c s₁ u hlk hret hZ hown hnm X0 e0 N0
  obtain ⟨hx, hby, hml⟩ := id u
  refine t_aN X0 u d49_0 rfl rfl ?_
  refine t_gF X0 u hZ hown (wd hw 130 rfl) e0 r0 d49_1 ?_
  intro T1 X1 e1
  refine t_iN X1 u d49_4 rfl ?_
  obtain ⟨cl2, Ar2, q2, S2, N2, H2, G2⟩ := id r1
  have hin2 : ¬ ((0 : Int32) < 0 ∨ cl2.slots.size ≤ ((0 : Int32)).toNatClampNeg) := inb_of S2 ⟨by decide, by decide⟩
  refine Go.step (X1.aaload hx (j := (0 : Int32)) (v := (.ref w3)) (by rw [e1]; exact Ar2.1) (State.isArrayOf_alike hZ.alike Ar2.2.1) rfl Ar2.2.2 hin2 (Has.at H2 hin2 rfl) (g := (mkF m 5 #[.val (.ref x0), .val (.int (0 : Int32))] [(.int (0 : Int32)), (.ref w1)])) rfl rfl (hb hby d49_5)) ?_
  exact t_rA X1 u hret hlk rfl rfl d49_6 e1 N0 (by decide)
theorem pn_46 : plainName "java/util/ArrayList" = true := by first | (simp [plainName, overriddenIn]; done) | decide +kernel
theorem rm_a46_0 (x0 w1 : Addr) (kk2 : ClassId) (w3 : Addr) (h0 : Heap) (O0 : Ext Z.heap h0) (r0 : fl_16 Z h0 x0 (.int (1 : Int32))) (r1 : ex_7 Z h0 x0) (r2 : fl_17 Z h0 x0 (.ref w1)) (r3 : Arv Z h0 w1 kk2 (.object "java/lang/Object") (10 : Int32) [(.ref w3), .null, .null, .null, .null, .null, .null, .null, .null, .null] .null) :
    MF hw GG l y_46 jdk_38_method_20_code 2 (some (.object "java/lang/Object")) ws ⟨2, 0, 0, 27⟩ h0 #[(.ref x0), (.int (0 : Int32))] (Qp (some (.ref w3)) Z h0) := by
  refine own_mF #[.val (.ref x0), .val (.int (0 : Int32))] (plainFor_of_name pn_46) (fun _ => rfl) ?_
  intro p e s m below meth c s₁ u hlk hret hZ hown hnm X0 e0 N0
  refine t_iN X0 u d46_0 rfl ?_
  refine t_aN X0 u d46_1 rfl rfl ?_
  refine t_gF X0 u hZ hown (wd hw 127 rfl) e0 r0 d46_2 ?_
  intro T1 X1 e1
  refine pt_cS [(.int (0 : Int32)), (.int (1 : Int32))] [] 0 X1 u hZ hown (wd hw 354 rfl) (m_41 hw) e1 (rm_a47_0 l Z a0 hw [] G GG (0 : Int32) (1 : Int32) h0 O0 (by decide) (by decide)) rfl d46_5 rfl rfl (by decide) N0 ?_
  intro T2 L2 X2 e2 N2_
  refine t_pop X2 u d46_8 rfl ?_
  refine t_aN X2 u d46_9 rfl rfl ?_
  refine t_iN X2 u d46_10 rfl ?_
  refine pt_cV [(.int (0 : Int32))] [] 0 X2 u hZ hown (wd hw 361 rfl) (m_42 hw) e2 r1 (rm_a49_0 l Z a0 hw [] G GG x0 w1 kk2 w3 h0 O0 r2 r3) rfl d46_11 rfl rfl (by decide) N2_ ?_
  intro T3 L3 X3 e3 N3_
  exact t_rA X3 u hret hlk rfl rfl d46_14 e3 N3_ (by decide)
theorem rm_a33_1 (x0 x1 w1 : Addr) (kk2 : ClassId) (w3 : Addr) (w4 : Int32) (w5 : Int64) (w6 : Int32) (w7 : Int64) (h0 : Heap) (O0 : Ext Z.heap h0) (r0 : ex_7 Z h0 x0) (r1 : fl_16 Z h0 x0 (.int (1 : Int32))) (r2 : fl_17 Z h0 x0 (.ref w1)) (r3 : Arv Z h0 w1 kk2 (.object "java/lang/Object") (10 : Int32) [(.ref w3), .null, .null, .null, .null, .null, .null, .null, .null, .null] .null) (r4 : ex_5 Z h0 w3) (r5 : ex_5 Z h0 x1) (r6 : fl_5 Z h0 x1 (.int w4)) (r7 : ¬ (w4 < (0 : Int32))) (r8 : fl_6 Z h0 x1 (.long w5)) (r9 : ¬ ((lcmpW w5 (0 : Int64)) < (0 : Int32))) (r10 : fl_5 Z h0 w3 (.int w6)) (r11 : w6 < w4) (r12 : fl_6 Z h0 w3 (.long w7)) (r13 : (0 : Int32) < (lcmpW w5 w7)) :
    MF hw GG l y_33 prog_22_method_11_code 3 (some .boolean) ws ⟨3, 0, 0, 40⟩ h0 #[(.ref x0), (.ref x1)] (Qp (some (.int (1 : Int32))) Z h0) := by
  refine own_mF #[.val (.ref x0), .val (.ref x1), .unset] (plainFor_of_name pn_33) (fun _ => rfl) ?_
  intro p e s m below meth c s₁ u hlk hret hZ hown hnm X0 e0 N0
  obtain ⟨hx, hby, hml⟩ := id u
  refine t_aN X0 u d33_0 rfl rfl ?_
  refine pt_cI [] [] 0 X0 u hZ hown (wd hw 32 rfl) (m_27 hw) e0 r0 (rm_a17_1 l Z a0 hw [] G GG x0 (1 : Int32) h0 O0 r1 (by decide)) rfl d33_1 rfl rfl (by decide) N0 ?_
  intro T1 L1 X1 e1 N1_
  refine t_ifY 6 13 X1 u rfl d33_6 ((if0 _ _).trans (teq (by decide : (0 : Int32) = (0 : Int32))).1) (by decide) ?_
  refine t_aN X1 u d33_13 rfl rfl ?_
  refine t_aN X1 u d33_14 rfl rfl ?_
  refine pt_cI [] [(.ref x0)] 1 X1 u hZ hown (wd hw 338 rfl) (m_39 hw) e1 r0 (rm_a45_0 l Z a0 hw [] G GG x0 (1 : Int32) h0 O0 r1) rfl d33_15 rfl rfl (by decide) N1_ ?_
  intro T2 L2 X2 e2 N2_
  refine t_iC X2 u d33_20  ?_
  refine t_isub X2 u d33_21  ?_
  refine pt_cI [(.int (0 : Int32))] [] 0 X2 u hZ hown (wd hw 346 rfl) (m_43 hw) e2 r0 (rm_a46_0 l Z a0 hw [] G GG x0 w1 kk2 w3 h0 O0 r1 r0 r2 r3) rfl d33_22 rfl rfl (by decide) N2_ ?_
  intro T3 L3 X3 e3 N3_
  obtain ⟨T4, X4, e4, st4⟩ := castY X3 hx hZ hown (wd hw 138 rfl) e3 (Ins.self r4) (g := (mkF m 27 #[.val (.ref x0), .val (.ref x1), .unset] [(.ref w3)])) rfl rfl (hb hby d33_27)
  refine Go.step st4 ?_
  refine t_asN X4 u d33_30 rfl (l' := #[.val (.ref x0), .val (.ref x1), .val (.ref w3)]) rfl ?_
  refine t_aN X4 u d33_31 rfl rfl ?_
  refine pt_cV [] [] 0 X4 u hZ hown (wd hw 252 rfl) (m_28 hw) e4 r5 (rm_a34_0 l Z a0 hw [] G GG x1 w4 h0 O0 r6) rfl d33_32 rfl rfl (by decide) N3_ ?_
  intro T5 L5 X5 e5 N5_
  refine t_ifN X5 u d33_35 ((if0 _ _).trans (flt r7).1) ?_
  refine t_aN X5 u d33_38 rfl rfl ?_
  refine pt_cV [] [] 0 X5 u hZ hown (wd hw 257 rfl) (m_19 hw) e5 r5 (rm_a35_0 l Z a0 hw [] G GG x1 w5 h0 O0 r8) rfl d33_39 rfl rfl (by decide) N5_ ?_
  intro T6 L6 X6 e6 N6_
  refine Go.step (fun _ kt_ => XS.lconst X6.here hx rfl (hb hby d33_42)  kt_) ?_
  refine Go.step (fun _ kt_ => XS.lcmp X6.here hx rfl (hb hby d33_43) rfl kt_) ?_
  refine t_ifN X6 u d33_44 ((if0 _ _).trans (flt r9).1) ?_
  refine t_aN X6 u d33_47 rfl rfl ?_
  refine Go.step (fun _ kt_ => XS.ifnullNo X6.here hx rfl (hb hby d33_48) rfl kt_) ?_
  refine t_aN X6 u d33_51 rfl rfl ?_
  refine pt_cV [] [] 0 X6 u hZ hown (wd hw 252 rfl) (m_28 hw) e6 r5 (rm_a34_0 l Z a0 hw [] G GG x1 w4 h0 O0 r6) rfl d33_52 rfl rfl (by decide) N6_ ?_
  intro T7 L7 X7 e7 N7_
  refine t_aN X7 u d33_55 rfl rfl ?_
  refine pt_cV [] [(.int w4)] 1 X7 u hZ hown (wd hw 252 rfl) (m_28 hw) e7 r4 (rm_a34_0 l Z a0 hw [] G GG w3 w6 h0 O0 r10) rfl d33_56 rfl rfl (by decide) N7_ ?_
  intro T8 L8 X8 e8 N8_
  refine t_icN X8 u d33_59 (tlt r11).2.2.2 ?_
  refine t_aN X8 u d33_62 rfl rfl ?_
  refine pt_cV [] [] 0 X8 u hZ hown (wd hw 257 rfl) (m_19 hw) e8 r5 (rm_a35_0 l Z a0 hw [] G GG x1 w5 h0 O0 r8) rfl d33_63 rfl rfl (by decide) N8_ ?_
  intro T9 L9 X9 e9 N9_
  refine t_aN X9 u d33_66 rfl rfl ?_
  refine pt_cV [] [(.long w5)] 2 X9 u hZ hown (wd hw 257 rfl) (m_19 hw) e9 r4 (rm_a35_0 l Z a0 hw [] G GG w3 w7 h0 O0 r12) rfl d33_67 rfl rfl (by decide) N9_ ?_
  intro T10 L10 X10 e10 N10_
  refine Go.step (fun _ kt_ => XS.lcmp X10.here hx rfl (hb hby d33_70) rfl kt_) ?_
  refine t_ifN X10 u d33_71 ((if0 _ _).trans (tlt r13).2.2.2) ?_
  refine t_iC X10 u d33_74  ?_
  refine t_go 75 79 X10 u rfl d33_75 (by decide) ?_
  exact t_rN X10 u hret hlk (by simp) rfl d33_79 e10 N10_ (by decide)
def Q_a15_1 (Z : State) (w2 w3 : Addr) (h0 : Heap) (v : Option Value) (h : Heap) (L : List Loc) : Prop := ∃ (b2 : Addr) (k2 : ClassId), v = some (.ref b2) ∧ Fr Z.heap.size L ∧ Keep h0 h [] ∧ h0.size ≤ b2 ∧ ex_0 Z h b2 ∧ Arv Z h b2 k2 (.object "java/lang/Object") (2 : Int32) [(.ref w2), (.ref w3)] .null ∧ Ovr Z k2 "java/lang/Object"
theorem rm_a15_1 (x0 : Addr) (kk1 : ClassId) (w2 w3 : Addr) (h0 : Heap) (O0 : Ext Z.heap h0) (r0 : Arv Z h0 x0 kk1 (.object "java/lang/Object") (10 : Int32) [(.ref w2), (.ref w3), .null, .null, .null, .null, .null, .null, .null, .null] .null) (r1 : ex_5 Z h0 w3) (r2 : ex_5 Z h0 w2) :
    MF hw GG l y_15 jdk_65_method_120_code 4 (some (.array (.object "java/lang/Object"))) ws ⟨1, 1, 2, 18⟩ h0 #[(.ref x0), (.int (2 : Int32)), (.ref G.mo)] (Q_a15_1 Z w2 w3 h0) := by
  refine own_mF #[.val (.ref x0), .val (.int (2 : Int32)), .val (.ref G.mo), .unset] (plainFor_of_name pn_15) (fun _ => rfl) ?_
  intro p e s m below meth c s₁ u hlk hret hZ hown hnm X0 e0 N0
  obtain ⟨hx, hby, hml⟩ := id u
  refine t_aN X0 u d15_0 rfl rfl ?_
  obtain ⟨T1, X1, e1, st1⟩ := own_ldcMir X0 hx hZ hown (wd hw 116 rfl) e0 GG.G_mo (g := (mkF m 1 #[.val (.ref x0), .val (.int (2 : Int32)), .val (.ref G.mo), .unset] [(.ref G.mo)])) rfl (hb hby d15_1)
  refine Go.step st1 ?_
  refine Go.step (fun _ kt_ => Jvm.RoadKit.acmp (g := (mkF m 3 #[.val (.ref x0), .val (.int (2 : Int32)), .val (.ref G.mo), .unset] [(.ref G.mo), (.ref G.mo)])) X1 hx rfl rfl rfl (pc0 := 3) (pc' := 6) (same := true) rfl (hb hby d15_3) rfl (decide_eq_true rfl) (by decide) (by decide) kt_) ?_
  show Go _ _ _ _ _ _ _ _ T1 (mkF m 6 #[.val (.ref x0), .val (.int (2 : Int32)), .val (.ref G.mo), .unset] [])
  refine t_iN X1 u d15_6 rfl ?_
  obtain ⟨T2, h2, k2, X2, e2, E2, A2, B2, O2, st2⟩ := newRE X1 hx hZ hown (wd hw 117 rfl) (wd hw 118 rfl) e1 (g := (mkF m 7 #[.val (.ref x0), .val (.int (2 : Int32)), .val (.ref G.mo), .unset] [(.int (2 : Int32))])) rfl (hb hby d15_7) rfl (by decide) (cap := 2) (by decide) (by decide) (by decide) (by decide) rfl
  obtain ⟨b2, hb2⟩ : ∃ z, z = h0.size := ⟨_, rfl⟩
  rw [← hb2] at A2 B2 st2
  refine Go.step st2 ?_
  have g_b2 := leE O0.1 hb2
  have O2_ := extTr O0 E2
  have sz_b2 := leE (Keep.refl h0 []).1 hb2
  have K2 := Keep.ext (Keep.refl h0 []) E2
  have V2 : Arv Z h2 b2 k2 (.object "java/lang/Object") (2 : Int32) [.null, .null] .null := (Arv.new A2 (by decide)).pad (pad_rep [] .null 2)
  refine t_go 10 24 X2 u rfl d15_10 (by decide) ?_
  refine t_asN X2 u d15_24 rfl (l' := #[.val (.ref x0), .val (.int (2 : Int32)), .val (.ref G.mo), .val (.ref b2)]) rfl ?_
  refine t_aN X2 u d15_25 rfl rfl ?_
  refine t_iC X2 u d15_26  ?_
  refine t_aN X2 u d15_27 rfl rfl ?_
  refine t_iC X2 u d15_28  ?_
  refine t_aN X2 u d15_29 rfl rfl ?_
  obtain ⟨cl3, Ar3, -, S3, N3, -, -⟩ := id (r0.ext E2)
  refine Go.step (X2.arraylength hx (by rw [e2]; exact Ar3.1) (State.isArrayOf_alike hZ.alike Ar3.2.1) (g := (mkF m 30 #[.val (.ref x0), .val (.int (2 : Int32)), .val (.ref G.mo), .val (.ref b2)] [(.ref x0), (.int (0 : Int32)), (.ref b2), (.int (0 : Int32)), (.ref x0)])) rfl rfl (hb hby d15_30)) ?_
  rw [len_of S3 N3]
  show Go _ _ _ _ _ _ _ _ T2 (mkF m 31 #[.val (.ref x0), .val (.int (2 : Int32)), .val (.ref G.mo), .val (.ref b2)] [(.int (10 : Int32)), (.int (0 : Int32)), (.ref b2), (.int (0 : Int32)), (.ref x0)])
  refine t_iN X2 u d15_31 rfl ?_
  refine pt_cS [(.int (10 : Int32)), (.int (2 : Int32))] [(.int (0 : Int32)), (.ref b2), (.int (0 : Int32)), (.ref x0)] 4 X2 u hZ hown (wd hw 119 rfl) (m_30 hw) e2 (rm_a16_0 l Z a0 hw [] G GG (10 : Int32) (2 : Int32) h2 O2_ (by decide)) rfl d15_32 rfl rfl (by decide) N0 ?_
  intro T4 L4 X4 e4 N4_
  obtain ⟨cl5, Ar5, q5, -⟩ := id V2
  obtain ⟨T5, h5, L5, X5, e5, N5_, K5_, V5_, st5⟩ := cpA X4 hx hZ hown (wd hw 123 rfl) (wd hw 126 rfl) (wd hw 124 rfl) (wd hw 125 rfl) e4 (us := [(.ref w2), (.ref w3)]) (r0.ext E2) V2 (Or.inr ⟨rfl, rfl, ⟨(Sto.ofV Ar5 q5 O2 (Ins.of_exa (Exa.ext E2 r2) (wd hw 189 rfl))), ⟨(Sto.ofV Ar5 q5 O2 (Ins.of_exa (Exa.ext E2 r1) (wd hw 189 rfl))), trivial⟩⟩⟩) (by decide) (by decide) (by decide) (by decide) (by decide) rfl (by decide) N4_ g_b2 (g := (mkF m 35 #[.val (.ref x0), .val (.int (2 : Int32)), .val (.ref G.mo), .val (.ref b2)] [(.int (2 : Int32)), (.int (0 : Int32)), (.ref b2), (.int (0 : Int32)), (.ref x0)])) rfl (by rw [hml]; rfl) rfl (hb hby d15_35) (by decide) (W := 0) (by show 2 * 0 + _ ≤ _; exact Nat.le_of_eq rfl) (by decide)
  refine Go.step st5 ?_
  have V5 : Arv Z h5 b2 k2 (.object "java/lang/Object") (2 : Int32) [(.ref w2), (.ref w3)] .null := V5_
  have O5_ : Ext Z.heap h5 := extKeep O2_ K5_ (allS g_b2 all0)
  have K5 := Keep.trans K2 K5_ (allS (Or.inr sz_b2) all0)
  refine t_aN X5 u d15_38 rfl rfl ?_
  exact Go.retA X5 hx hret rfl rfl hlk (hb hby d15_39) (by decide) (by decide) (by show Q_a15_1 ..; rw [e5]; exact ⟨b2, k2, rfl, N5_, K5, sz_b2, (B2.keep K5_), V5, O2⟩)
def Q_a14_1 (Z : State) (w2 w3 : Addr) (h0 : Heap) (v : Option Value) (h : Heap) (L : List Loc) : Prop := ∃ (b2q2 : Addr) (k2q2 : ClassId), v = some (.ref b2q2) ∧ Fr Z.heap.size L ∧ Keep h0 h [] ∧ h0.size ≤ b2q2 ∧ ex_0 Z h b2q2 ∧ Arv Z h b2q2 k2q2 (.object "java/lang/Object") (2 : Int32) [(.ref w2), (.ref w3)] .null ∧ Ovr Z k2q2 "java/lang/Object"
theorem rm_a14_1 (x0 : Addr) (kk1 : ClassId) (w2 w3 : Addr) (h0 : Heap) (O0 : Ext Z.heap h0) (r0 : ex_0 Z h0 x0) (r1 : Arv Z h0 x0 kk1 (.object "java/lang/Object") (10 : Int32) [(.ref w2), (.ref w3), .null, .null, .null, .null, .null, .null, .null, .null] .null) (r2 : ex_5 Z h0 w3) (r3 : ex_5 Z h0 w2) :
    MF hw GG l y_14 jdk_65_method_119_code 2 (some (.array (.object "java/lang/Object"))) ws ⟨2, 1, 2, 33⟩ h0 #[(.ref x0), (.int (2 : Int32))] (Q_a14_1 Z w2 w3 h0) := by
  refine own_mF #[.val (.ref x0), .val (.int (2 : Int32))] (plainFor_of_name pn_14) (fun _ => rfl) ?_
  intro p e s m below meth c s₁ u hlk hret hZ hown hnm X0 e0 N0
  obtain ⟨hx, hby, hml⟩ := id u
  refine t_aN X0 u d14_0 rfl rfl ?_
  refine t_iN X0 u d14_1 rfl ?_
  refine t_aN X0 u d14_2 rfl rfl ?_
  obtain ⟨T1, X1, e1, st1⟩ := own_gcls X0 hx hZ hown (wd hw 107 rfl) (wd hw 108 rfl) (wd hw 276 rfl) (wd hw 110 rfl) (wd hw 109 rfl) (wd hw 111 rfl) e0 r0 GG.G_mo (g := (mkF m 3 #[.val (.ref x0), .val (.int (2 : Int32))] [(.ref x0), (.int (2 : Int32)), (.ref x0)])) rfl (by rw [hml]; rfl) rfl (hb hby d14_3) (by decide) (W := 2) (by show 2 * 0 + _ ≤ _; exact Nat.le_of_eq rfl) (by decide)
  refine Go.step st1 ?_
  refine t_cS [(.ref x0), (.int (2 : Int32)), (.ref G.mo)] [] 0 X1 u hZ hown (wd hw 113 rfl) (m_31 hw) e1 (rm_a15_1 l Z a0 hw [] G GG x0 kk1 w2 w3 h0 O0 r1 r2 r3) rfl d14_6 rfl rfl (by decide) ?_
  intro v2 T2 L2 Lc2 X2 hQ2 l2
  obtain ⟨b2q2, k2q2, rfl, Nq2, Kq2, p2_0, p2_1, p2_2, p2_3⟩ := hQ2
  have O2_ := extKeep O0 Kq2 all0
  have K2 := Keep.trans (Keep.refl h0 []) Kq2 all0
  have N2_ := frA l2 N0 Nq2
  have g_b2q2 := Nat.le_trans O0.1 p2_0
  have sz_b2q2 := Nat.le_trans (Keep.refl h0 []).1 p2_0
  exact Go.retA X2 hx hret rfl rfl hlk (hb hby d14_9) (by decide) (by decide) ⟨b2q2, k2q2, rfl, N2_, K2, sz_b2q2, p2_1, p2_2, p2_3⟩
def Q_a38_1 (Z : State) (w3 w4 : Addr) (h0 : Heap) (v : Option Value) (h : Heap) (L : List Loc) : Prop := ∃ (b2q2q3 : Addr) (k2q2q3 : ClassId), v = some (.ref b2q2q3) ∧ Fr Z.heap.size L ∧ Keep h0 h [] ∧ h0.size ≤ b2q2q3 ∧ ex_0 Z h b2q2q3 ∧ Arv Z h b2q2q3 k2q2q3 (.object "java/lang/Object") (2 : Int32) [(.ref w3), (.ref w4)] .null ∧ Ovr Z k2q2q3 "java/lang/Object"
theorem rm_a38_1 (x0 w1 : Addr) (kk2 : ClassId) (w3 w4 : Addr) (h0 : Heap) (O0 : Ext Z.heap h0) (r0 : fl_17 Z h0 x0 (.ref w1)) (r1 : fl_16 Z h0 x0 (.int (2 : Int32))) (r2 : ex_0 Z h0 w1) (r3 : Arv Z h0 w1 kk2 (.object "java/lang/Object") (10 : Int32) [(.ref w3), (.ref w4), .null, .null, .null, .null, .null, .null, .null, .null] .null) (r4 : ex_5 Z h0 w4) (r5 : ex_5 Z h0 w3) :
    MF hw GG l y_38 jdk_38_method_16_code 1 (some (.array (.object "java/lang/Object"))) ws ⟨3, 1, 2, 46⟩ h0 #[(.ref x0)] (Q_a38_1 Z w3 w4 h0) := by
  refine own_mF #[.val (.ref x0)] (plainFor_of_name pn_38) (fun _ => rfl) ?_
  intro p e s m below meth c s₁ u hlk hret hZ hown hnm X0 e0 N0
  obtain ⟨hx, hby, hml⟩ := id u
  refine t_aN X0 u d38_0 rfl rfl ?_
  refine t_gF X0 u hZ hown (wd hw 130 rfl) e0 r0 d38_1 ?_
  intro T1 X1 e1
  refine t_aN X1 u d38_4 rfl rfl ?_
  refine t_gF X1 u hZ hown (wd hw 127 rfl) e1 r1 d38_5 ?_
  intro T2 X2 e2
  refine t_cS [(.ref w1), (.int (2 : Int32))] [] 0 X2 u hZ hown (wd hw 188 rfl) (m_32 hw) e2 (rm_a14_1 l Z a0 hw [] G GG w1 kk2 w3 w4 h0 O0 r2 r3 r4 r5) rfl d38_8 rfl rfl (by decide) ?_
  intro v3 T3 L3 Lc3 X3 hQ3 l3
  obtain ⟨b2q2q3, k2q2q3, rfl, Nq3, Kq3, p3_0, p3_1, p3_2, p3_3⟩ := hQ3
  have O3_ := extKeep O0 Kq3 all0
  have K3 := Keep.trans (Keep.refl h0 []) Kq3 all0
  have N3_ := frA l3 N0 Nq3
  have g_b2q2q3 := Nat.le_trans O0.1 p3_0
  have sz_b2q2q3 := Nat.le_trans (Keep.refl h0 []).1 p3_0
  exact Go.retA X3 hx hret rfl rfl hlk (hb hby d38_11) (by decide) (by decide) ⟨b2q2q3, k2q2q3, rfl, N3_, K3, sz_b2q2q3, p3_1, p3_2, p3_3⟩
theorem pn_50 : plainName "java/util/ImmutableCollections$List12" = true := by first | (simp [plainName, overriddenIn]; done) | decide +kernel
def Q_a50_0 (Z : State) (x0 x1 x2 : Addr) (h0 : Heap) (v : Option Value) (h : Heap) (L : List Loc) : Prop := v = none ∧ Fr Z.heap.size L ∧ Keep h0 h [x0] ∧ fl_3 Z h x0 (.ref x1) ∧ fl_4 Z h x0 (.ref x2)
theorem rm_a50_0 (x0 x1 x2 : Addr) (h0 : Heap) (O0 : Ext Z.heap h0) (r0 : ex_4 Z h0 x0) (r1 : fl_3 Z h0 x0 .null) (r2 : Z.heap.size ≤ x0) (r3 : fl_4 Z h0 x0 .null) :
    MF hw GG l y_50 jdk_44_method_2_code 3 none ws ⟨4, 0, 0, 48⟩ h0 #[(.ref x0), (.ref x1), (.ref x2)] (Q_a50_0 Z x0 x1 x2 h0) := by
  refine own_mF #[.val (.ref x0), .val (.ref x1), .val (.ref x2)] (plainFor_of_name pn_50) (fun _ => rfl) ?_
  intro p e s m below meth c s₁ u hlk hret hZ hown hnm X0 e0 N0
  obtain ⟨hx, hby, hml⟩ := id u
  refine t_aN X0 u d50_0 rfl rfl ?_
  refine pt_cN [] [] 0 X0 u hZ hown rfl (wd hw 299 rfl) (m_35 hw) e0 (rm_a41_0 l Z a0 hw [] G GG x0 h0 O0 ) rfl d50_1 rfl rfl (by decide) N0 ?_
  intro T1 L1 X1 e1 N1_
  refine t_aN X1 u d50_4 rfl rfl ?_
  refine t_aN X1 u d50_5 rfl rfl ?_
  refine pt_cS [(.ref x1)] [(.ref x0)] 1 X1 u hZ hown (wd hw 313 rfl) (m_36 hw) e1 (rm_a43_0 l Z a0 hw [] G GG x1 h0 O0 ) rfl d50_6 rfl rfl (by decide) N1_ ?_
  intro T2 L2 X2 e2 N2_
  refine t_pF X2 u hZ hown (wd hw 317 rfl) e2 r1 r0 (Or.inr ⟨(wd hw 318 rfl), rfl, hnm⟩) (wd hw 293 rfl) pf_Ljava_lang_Object_ rfl rfl d50_9 ?_
  intro T3 h3 X3 e3 W3
  have N3_ := Fr.snoc X3 N2_ r2
  have O3_ := extWr O0 W3 r2
  have K3 := Keep.wr (Keep.refl h0 [x0]) W3 k0
  have F3 := Fld.same W3 r1
  refine t_aN X3 u d50_12 rfl rfl ?_
  refine t_aN X3 u d50_13 rfl rfl ?_
  refine pt_cS [(.ref x2)] [(.ref x0)] 1 X3 u hZ hown (wd hw 313 rfl) (m_36 hw) e3 (rm_a43_0 l Z a0 hw [] G GG x2 h3 O3_ ) rfl d50_14 rfl rfl (by decide) N3_ ?_
  intro T4 L4 X4 e4 N4_
  refine t_pF X4 u hZ hown (wd hw 320 rfl) e4 (fR W3 r3 (sn_15 hw)) (Exa.wr W3 r0) (Or.inr ⟨(wd hw 321 rfl), rfl, hnm⟩) (wd hw 293 rfl) pf_Ljava_lang_Object_ rfl rfl d50_17 ?_
  intro T5 h5 X5 e5 W5
  have N5_ := Fr.snoc X5 N4_ r2
  have O5_ := extWr O3_ W5 r2
  have K5 := Keep.wr K3 W5 k0
  have F5 := Fld.same W5 (fR W3 r3 (sn_15 hw))
  exact Go.retV X5 hx hret hlk (hb hby d50_20) (by decide) (by decide) (by show Q_a50_0 ..; rw [e5]; exact ⟨rfl, N5_, K5, (fS W5 F3 (sn_15 hw)), F5⟩)
def Q_a39_1 (Z : State) (w2 w3 : Addr) (h0 : Heap) (v : Option Value) (h : Heap) (L : List Loc) : Prop := ∃ (b2 : Addr), v = some (.ref b2) ∧ Fr Z.heap.size L ∧ Keep h0 h [] ∧ h0.size ≤ b2 ∧ ex_4 Z h b2 ∧ fl_3 Z h b2 (.ref w2) ∧ fl_4 Z h b2 (.ref w3)
theorem rm_a39_1 (x0 : Addr) (kk1 : ClassId) (w2 w3 : Addr) (h0 : Heap) (O0 : Ext Z.heap h0) (r0 : Arv Z h0 x0 kk1 (.object "java/lang/Object") (2 : Int32) [(.ref w2), (.ref w3)] .null) :
    MF hw GG l y_39 jdk_40_method_47_code 2 (some (.object "java/util/List")) ws ⟨5, 1, 2, 63⟩ h0 #[(.ref x0)] (Q_a39_1 Z w2 w3 h0) := by
  refine own_mF #[.val (.ref x0), .unset] (plainFor_of_name pn_39) (fun _ => rfl) ?_
  intro p e s m below meth c s₁ u hlk hret hZ hown hnm X0 e0 N0
  obtain ⟨hx, hby, hml⟩ := id u
  refine t_aN X0 u d39_0 rfl rfl ?_
  obtain ⟨cl1, Ar1, -, S1, N1, -, -⟩ := id r0
  refine Go.step (X0.arraylength hx (by rw [e0]; exact Ar1.1) (State.isArrayOf_alike hZ.alike Ar1.2.1) (g := (mkF m 1 #[.val (.ref x0), .unset] [(.ref x0)])) rfl rfl (hb hby d39_1)) ?_
  rw [len_of S1 N1]
  show Go _ _ _ _ _ _ _ _ s₁ (mkF m 2 #[.val (.ref x0), .unset] [(.int (2 : Int32))])
  refine Go.step (fun _ kt_ => XS.tswIn X0.here hx rfl (pc0 := 2) (pc' := 45) (o := 43) rfl (hb hby d39_2) rfl (by decide) rfl (by decide) (by decide) kt_) ?_
  refine t_new X0 u hZ hown (wd hw 292 rfl) (wd hw 293 rfl) (wd hw 294 rfl) e0 d39_45 (by decide) ?_
  intro T2 h2 b2 X2 e2 E2 hb2 A2 D2
  have g_b2 := leE O0.1 hb2
  have O2_ := extTr O0 E2
  have sz_b2 := leE (Keep.refl h0 []).1 hb2
  have K2 := Keep.ext (Keep.refl h0 []) E2
  have F2_e0 : fl_3 Z h2 b2 .null := D2 (Or.inr (wd hw 318 rfl)) (ty := (.object "java/lang/Object")) pf_Ljava_lang_Object_
  have F2_e1 : fl_4 Z h2 b2 .null := D2 (Or.inr (wd hw 321 rfl)) (ty := (.object "java/lang/Object")) pf_Ljava_lang_Object_
  refine t_dup X2 u d39_48 rfl ?_
  refine t_aN X2 u d39_49 rfl rfl ?_
  refine t_iC X2 u d39_50  ?_
  obtain ⟨cl3, Ar3, q3, S3, N3, H3, G3⟩ := id (r0.ext E2)
  have hin3 : ¬ ((0 : Int32) < 0 ∨ cl3.slots.size ≤ ((0 : Int32)).toNatClampNeg) := inb_of S3 ⟨by decide, by decide⟩
  refine Go.step (X2.aaload hx (j := (0 : Int32)) (v := (.ref w2)) (by rw [e2]; exact Ar3.1) (State.isArrayOf_alike hZ.alike Ar3.2.1) rfl Ar3.2.2 hin3 (Has.at H3 hin3 rfl) (g := (mkF m 51 #[.val (.ref x0), .unset] [(.int (0 : Int32)), (.ref x0), (.ref b2), (.ref b2)])) rfl rfl (hb hby d39_51)) ?_
  refine t_aN X2 u d39_52 rfl rfl ?_
  refine t_iC X2 u d39_53  ?_
  obtain ⟨cl4, Ar4, q4, S4, N4, H4, G4⟩ := id (r0.ext E2)
  have hin4 : ¬ ((1 : Int32) < 0 ∨ cl4.slots.size ≤ ((1 : Int32)).toNatClampNeg) := inb_of S4 ⟨by decide, by decide⟩
  refine Go.step (X2.aaload hx (j := (1 : Int32)) (v := (.ref w3)) (by rw [e2]; exact Ar4.1) (State.isArrayOf_alike hZ.alike Ar4.2.1) rfl Ar4.2.2 hin4 (Has.at H4 hin4 rfl) (g := (mkF m 54 #[.val (.ref x0), .unset] [(.int (1 : Int32)), (.ref x0), (.ref w2), (.ref b2), (.ref b2)])) rfl rfl (hb hby d39_54)) ?_
  refine t_cN [(.ref w2), (.ref w3)] [(.ref b2)] 1 X2 u hZ hown rfl (wd hw 366 rfl) (m_44 hw) e2 (rm_a50_0 l Z a0 hw [] G GG b2 w2 w3 h2 O2_ A2 F2_e0 g_b2 F2_e1) rfl d39_55 rfl rfl (by decide) ?_
  intro v5 T5 L5 Lc5 X5 hQ5 l5
  obtain ⟨rfl, Nq5, Kq5, p5_0, p5_1⟩ := hQ5
  have O5_ := extKeep O2_ Kq5 (allS g_b2 all0)
  have K5 := Keep.trans K2 Kq5 (allS (Or.inr sz_b2) all0)
  have N5_ := frA l5 N0 Nq5
  exact Go.retA X5 hx hret rfl rfl hlk (hb hby d39_58) (by decide) (by decide) ⟨b2, rfl, N5_, K5, sz_b2, (A2.keep Kq5), p5_0, p5_1⟩
def Q_a37_2 (Z : State) (w3 w4 : Addr) (h0 : Heap) (v : Option Value) (h : Heap) (L : List Loc) : Prop := ∃ (b2q5 : Addr), v = some (.ref b2q5) ∧ Fr Z.heap.size L ∧ Keep h0 h [] ∧ h0.size ≤ b2q5 ∧ ex_4 Z h b2q5 ∧ fl_3 Z h b2q5 (.ref w3) ∧ fl_4 Z h b2q5 (.ref w4)
theorem rm_a37_2 (x0 w1 : Addr) (kk2 : ClassId) (w3 w4 : Addr) (h0 : Heap) (O0 : Ext Z.heap h0) (r0 : ex_7 Z h0 x0) (r1 : fl_16 Z h0 x0 (.int (2 : Int32))) (r2 : fl_17 Z h0 x0 (.ref w1)) (r3 : ex_0 Z h0 w1) (r4 : Arv Z h0 w1 kk2 (.object "java/lang/Object") (10 : Int32) [(.ref w3), (.ref w4), .null, .null, .null, .null, .null, .null, .null, .null] .null) (r5 : ex_5 Z h0 w4) (r6 : ex_5 Z h0 w3) :
    MF hw GG l y_37 jdk_56_method_3_code 2 (some (.object "java/util/List")) ws ⟨6, 2, 4, 76⟩ h0 #[(.ref x0)] (Q_a37_2 Z w3 w4 h0) := by
  refine own_mF #[.val (.ref x0), .unset] (plainFor_of_name pn_37) (fun _ => rfl) ?_
  intro p e s m below meth c s₁ u hlk hret hZ hown hnm X0 e0 N0
  obtain ⟨hx, hby, hml⟩ := id u
  refine t_aN X0 u d37_0 rfl rfl ?_
  obtain ⟨T1, X1, e1, st1⟩ := instNo X0 hx hZ hown (wd hw 272 rfl) e0 r0 (own_nsNo (wd hw 273 rfl) (wd hw 293 rfl) (NS.step (wd hw 273 rfl) (NS.step (wd hw 274 rfl) (NS.step (wd hw 275 rfl) (own_nsRoot (wd hw 276 rfl) (wd hw 293 rfl) (by decide)) (by decide)) (by decide)) (by decide)) (by decide)) (g := (mkF m 1 #[.val (.ref x0), .unset] [(.ref x0)])) rfl rfl (hb hby d37_1)
  refine Go.step st1 ?_
  refine t_ifN X1 u d37_4 ((if0 _ _).trans (teq (by decide : (0 : Int32) = (0 : Int32))).2) ?_
  refine t_aN X1 u d37_7 rfl rfl ?_
  obtain ⟨T2, X2, e2, st2⟩ := instNo X1 hx hZ hown (wd hw 277 rfl) e1 r0 (own_nsNo2 (wd hw 273 rfl) (own_face (wd hw 35 rfl)) (NS.step (wd hw 273 rfl) (NS.step (wd hw 274 rfl) (NS.step (wd hw 275 rfl) (own_nsRoot2 (wd hw 276 rfl) (own_face (wd hw 35 rfl)) (by decide)) (by decide)) (by decide)) (by decide)) (by decide)) (g := (mkF m 8 #[.val (.ref x0), .unset] [(.ref x0)])) rfl rfl (hb hby d37_8)
  refine Go.step st2 ?_
  refine t_ifY 11 31 X2 u rfl d37_11 ((if0 _ _).trans (teq (by decide : (0 : Int32) = (0 : Int32))).1) (by decide) ?_
  refine t_aN X2 u d37_31 rfl rfl ?_
  refine pt_cI [] [] 0 X2 u hZ hown (wd hw 278 rfl) (m_11 hw) e2 r0 (rm_a17_1 l Z a0 hw [] G GG x0 (2 : Int32) h0 O0 r1 (by decide)) rfl d37_32 rfl rfl (by decide) N0 ?_
  intro T3 L3 X3 e3 N3_
  refine t_ifY 37 44 X3 u rfl d37_37 ((if0 _ _).trans (teq (by decide : (0 : Int32) = (0 : Int32))).1) (by decide) ?_
  refine t_aN X3 u d37_44 rfl rfl ?_
  refine t_cI [] [] 0 X3 u hZ hown (wd hw 283 rfl) (m_33 hw) e3 r0 (rm_a38_1 l Z a0 hw [] G GG x0 w1 kk2 w3 w4 h0 O0 r2 r1 r3 r4 r5 r6) rfl d37_45 rfl rfl (by decide) ?_
  intro v4 T4 L4 Lc4 X4 hQ4 l4
  obtain ⟨b2q2q3q4, k2q2q3q4, rfl, Nq4, Kq4, p4_0, p4_1, p4_2, p4_3⟩ := hQ4
  have O4_ := extKeep O0 Kq4 all0
  have K4 := Keep.trans (Keep.refl h0 []) Kq4 all0
  have N4_ := frA l4 N3_ Nq4
  have g_b2q2q3q4 := Nat.le_trans O0.1 p4_0
  have sz_b2q2q3q4 := Nat.le_trans (Keep.refl h0 []).1 p4_0
  refine t_cS [(.ref b2q2q3q4)] [] 0 X4 u hZ hown (wd hw 289 rfl) (m_38 hw) rfl (rm_a39_1 l Z a0 hw [] G GG b2q2q3q4 k2q2q3q4 w3 w4 T4.heap O4_ p4_2) rfl d37_50 rfl rfl (by decide) ?_
  intro v5 T5 L5 Lc5 X5 hQ5 l5
  obtain ⟨b2q5, rfl, Nq5, Kq5, p5_0, p5_1, p5_2, p5_3⟩ := hQ5
  have O5_ := extKeep O4_ Kq5 all0
  have K5 := Keep.trans K4 Kq5 all0
  have N5_ := frA l5 N4_ Nq5
  have g_b2q5 := Nat.le_trans O4_.1 p5_0
  have sz_b2q5 := Nat.le_trans K4.1 p5_0
  exact Go.retA X5 hx hret rfl rfl hlk (hb hby d37_53) (by decide) (by decide) ⟨b2q5, rfl, N5_, K5, sz_b2q5, p5_1, p5_2, p5_3⟩
def Q_a36_2 (Z : State) (w3 w4 : Addr) (h0 : Heap) (v : Option Value) (h : Heap) (L : List Loc) : Prop := ∃ (b2q5q1 : Addr), v = some (.ref b2q5q1) ∧ Fr Z.heap.size L ∧ Keep h0 h [] ∧ h0.size ≤ b2q5q1 ∧ ex_4 Z h b2q5q1 ∧ fl_3 Z h b2q5q1 (.ref w3) ∧ fl_4 Z h b2q5q1 (.ref w4)
theorem rm_a36_2 (x0 w1 : Addr) (kk2 : ClassId) (w3 w4 : Addr) (h0 : Heap) (O0 : Ext Z.heap h0) (r0 : ex_7 Z h0 x0) (r1 : fl_16 Z h0 x0 (.int (2 : Int32))) (r2 : fl_17 Z h0 x0 (.ref w1)) (r3 : ex_0 Z h0 w1) (r4 : Arv Z h0 w1 kk2 (.object "java/lang/Object") (10 : Int32) [(.ref w3), (.ref w4), .null, .null, .null, .null, .null, .null, .null, .null] .null) (r5 : ex_5 Z h0 w4) (r6 : ex_5 Z h0 w3) :
    MF hw GG l y_36 jdk_40_method_48_code 1 (some (.object "java/util/List")) ws ⟨7, 2, 4, 89⟩ h0 #[(.ref x0)] (Q_a36_2 Z w3 w4 h0) := by
  refine own_mF #[.val (.ref x0)] (plainFor_of_name pn_36) (fun _ => rfl) ?_
  intro p e s m below meth c s₁ u hlk hret hZ hown hnm X0 e0 N0
  obtain ⟨hx, hby, hml⟩ := id u
  refine t_aN X0 u d36_0 rfl rfl ?_
  refine t_cS [(.ref x0)] [] 0 X0 u hZ hown (wd hw 268 rfl) (m_13 hw) e0 (rm_a37_2 l Z a0 hw [] G GG x0 w1 kk2 w3 w4 h0 O0 r0 r1 r2 r3 r4 r5 r6) rfl d36_1 rfl rfl (by decide) ?_
  intro v1 T1 L1 Lc1 X1 hQ1 l1
  obtain ⟨b2q5q1, rfl, Nq1, Kq1, p1_0, p1_1, p1_2, p1_3⟩ := hQ1
  have O1_ := extKeep O0 Kq1 all0
  have K1 := Keep.trans (Keep.refl h0 []) Kq1 all0
  have N1_ := frA l1 N0 Nq1
  have g_b2q5q1 := Nat.le_trans O0.1 p1_0
  have sz_b2q5q1 := Nat.le_trans (Keep.refl h0 []).1 p1_0
  exact Go.retA X1 hx hret rfl rfl hlk (hb hby d36_4) (by decide) (by decide) ⟨b2q5q1, rfl, N1_, K1, sz_b2q5q1, p1_1, p1_2, p1_3⟩
def Q_a26_2 (Z : State) (x0 w5 w6 : Addr) (h0 : Heap) (v : Option Value) (h : Heap) (L : List Loc) : Prop := ∃ (b2q5q1q50 : Addr), v = none ∧ Fr Z.heap.size L ∧ Keep h0 h [x0] ∧ fl_2 Z h x0 (.ref b2q5q1q50) ∧ h0.size ≤ b2q5q1q50 ∧ ex_4 Z h b2q5q1q50 ∧ fl_3 Z h b2q5q1q50 (.ref w5) ∧ fl_4 Z h b2q5q1q50 (.ref w6)
theorem rm_a26_2 (x0 x1 : Addr) (w1 w2 : Int32) (w3 : Addr) (kk4 : ClassId) (w5 w6 : Addr) (w7 : Int32) (w8 : Int64) (w9 : Int32) (w10 : Int64) (h0 : Heap) (O0 : Ext Z.heap h0) (r0 : ex_7 Z h0 x1) (r1 : fl_15 Z h0 x1 (.int w1)) (r2 : fl_16 Z h0 x1 (.int w2)) (r3 : ¬ ((0 : Int32) = w2)) (r4 : w1 = w1) (r5 : (0 : Int32) < w2) (r6 : fl_17 Z h0 x1 (.ref w3)) (r7 : Arv Z h0 w3 kk4 (.object "java/lang/Object") (10 : Int32) [(.ref w5), (.ref w6), .null, .null, .null, .null, .null, .null, .null, .null] .null) (r8 : ex_5 Z h0 w5) (r9 : fl_5 Z h0 w5 (.int w7)) (r10 : ¬ (w7 < (0 : Int32))) (r11 : fl_6 Z h0 w5 (.long w8)) (r12 : ¬ ((lcmpW w8 (0 : Int64)) < (0 : Int32))) (r13 : ¬ ((1 : Int32) = w2)) (r14 : (1 : Int32) < w2) (r15 : ex_5 Z h0 w6) (r16 : fl_5 Z h0 w6 (.int w9)) (r17 : ¬ (w9 < (0 : Int32))) (r18 : fl_6 Z h0 w6 (.long w10)) (r19 : ¬ ((lcmpW w10 (0 : Int64)) < (0 : Int32))) (r20 : w7 < w9) (r21 : (0 : Int32) < (lcmpW w10 w8)) (r22 : (2 : Int32) = w2) (r23 : ex_3 Z h0 x0) (r24 : fl_2 Z h0 x0 .null) (r25 : Z.heap.size ≤ x0) :
    MF hw GG l y_26 prog_22_method_1_code 5 none ws ⟨8, 5, 21, 101⟩ h0 #[(.ref x0), (.ref x1)] (Q_a26_2 Z x0 w5 w6 h0) := by
  refine own_mF #[.val (.ref x0), .val (.ref x1), .unset, .unset, .unset] (plainFor_of_name pn_26) (fun _ => rfl) ?_
  intro p e s m below meth c s₁ u hlk hret hZ hown hnm X0 e0 N0
  obtain ⟨hx, hby, hml⟩ := id u
  refine t_aN X0 u d26_0 rfl rfl ?_
  refine pt_cN [] [] 0 X0 u hZ hown rfl (wd hw 195 rfl) (m_7 hw) e0 (rm_a19_0 l Z a0 hw [] G GG x0 h0 O0 ) rfl d26_1 rfl rfl (by decide) N0 ?_
  intro T1 L1 X1 e1 N1_
  refine t_new X1 u hZ hown (wd hw 73 rfl) (wd hw 74 rfl) (wd hw 75 rfl) e1 d26_4 (by decide) ?_
  intro T2 h2 b2 X2 e2 E2 hb2 A2 D2
  have g_b2 := leE O0.1 hb2
  have O2_ := extTr O0 E2
  have sz_b2 := leE (Keep.refl h0 [x0]).1 hb2
  have K2 := Keep.ext (Keep.refl h0 [x0]) E2
  have F2_modCount : fl_15 Z h2 b2 (.int (0 : Int32)) := D2 (Or.inl (wd hw 93 rfl)) (ty := .int) pf_I
  have F2_size : fl_16 Z h2 b2 (.int (0 : Int32)) := D2 (Or.inl (wd hw 128 rfl)) (ty := .int) pf_I
  have F2_elementData : fl_17 Z h2 b2 .null := D2 (Or.inl (wd hw 131 rfl)) (ty := (.array (.object "java/lang/Object"))) pf_ALjava_lang_Object_
  refine t_dup X2 u d26_7 rfl ?_
  refine t_cN [] [(.ref b2)] 1 X2 u hZ hown rfl (wd hw 196 rfl) (m_2 hw) e2 (rm_a27_0 l Z a0 hw [] G GG b2 (0 : Int32) (0 : Int32) h2 O2_ A2 F2_modCount g_b2 F2_size F2_elementData) rfl d26_8 rfl rfl (by decide) ?_
  intro v3 T3 L3 Lc3 X3 hQ3 l3
  obtain ⟨rfl, Nq3, Kq3, p3_0, p3_1, p3_2⟩ := hQ3
  have O3_ := extKeep O2_ Kq3 (allS g_b2 all0)
  have K3 := Keep.trans K2 Kq3 (allS (Or.inr sz_b2) all0)
  have N3_ := frA l3 N1_ Nq3
  refine t_asN X3 u d26_11 rfl (l' := #[.val (.ref x0), .val (.ref x1), .val (.ref b2), .unset, .unset]) rfl ?_
  refine t_aN X3 u d26_12 rfl rfl ?_
  have f4 := ((Fld.ext E2 r1).keep Kq3 (ninS (neE r0.lt hb2) nin0))
  refine t_cI [] [] 0 X3 u hZ hown (wd hw 199 rfl) (m_9 hw) rfl ((Exa.ext E2 r0).keep Kq3) (rm_a28_0 l Z a0 hw [] G GG x1 w1 T3.heap O3_ f4) rfl d26_13 rfl rfl (by decide) ?_
  intro v5 T5 L5 Lc5 X5 hQ5 l5
  obtain ⟨b1q5, rfl, Nq5, Kq5, p5_0, p5_1, p5_2, p5_3, p5_4, p5_5⟩ := hQ5
  have O5_ := extKeep O3_ Kq5 all0
  have K5 := Keep.trans K3 Kq5 all0
  have N5_ := frA l5 N3_ Nq5
  have g_b1q5 := Nat.le_trans O3_.1 p5_0
  have sz_b1q5 := Nat.le_trans K3.1 p5_0
  refine t_asN X5 u d26_18 rfl (l' := #[.val (.ref x0), .val (.ref x1), .val (.ref b2), .val (.ref b1q5), .unset]) rfl ?_
  refine t_aN X5 u d26_19 rfl rfl ?_
  have f6 := (((Fld.ext E2 r2).keep Kq3 (ninS (neE r0.lt hb2) nin0)).keep Kq5 nin0)
  refine pt_cI [] [] 0 X5 u hZ hown (wd hw 222 rfl) (m_10 hw) rfl p5_1 (rm_a30_1 l Z a0 hw [] G GG b1q5 (0 : Int32) x1 w2 T5.heap O5_ p5_5 p5_2 f6 r3) rfl d26_20 rfl rfl (by decide) N5_ ?_
  intro T7 L7 X7 e7 N7_
  refine t_ifN X7 u d26_25 ((if0 _ _).trans (feq (by decide : ¬ ((1 : Int32) = (0 : Int32)))).1) ?_
  refine t_aN X7 u d26_28 rfl rfl ?_
  have f8 := (((Fld.ext E2 r6).keep Kq3 (ninS (neE r0.lt hb2) nin0)).keep Kq5 nin0)
  have f9 := (((r7.ext E2).keep Kq3 (ninS (neE r7.lt hb2) nin0)).keep Kq5 nin0)
  refine t_cI [] [] 0 X7 u hZ hown (wd hw 234 rfl) (m_26 hw) e7 p5_1 (rm_a31_1 l Z a0 hw [] G GG b1q5 x1 w1 w2 w3 kk4 w5 w6 T5.heap O5_ p5_1 p5_2 (f4.keep Kq5 nin0) p5_4 r4 p5_5 f6 r5 f8 f9 g_b1q5 p5_3 (neL ((r7.ext E2).keep Kq3 (ninS (neE r7.lt hb2) nin0)).lt p5_0)) rfl d26_29 rfl rfl (by decide) ?_
  intro v10 T10 L10 Lc10 X10 hQ10 l10
  obtain ⟨rfl, Nq10, Kq10, p10_0, p10_1, p10_2, p10_3⟩ := hQ10
  have O10_ := extKeep O5_ Kq10 (allS g_b1q5 all0)
  have K10 := Keep.trans K5 Kq10 (allS (Or.inr sz_b1q5) all0)
  have N10_ := frA l10 N7_ Nq10
  have f11 := ((((Exa.ext E2 r8).keep Kq3).keep Kq5).keep Kq10)
  obtain ⟨T12, X12, e12, st12⟩ := castY X10 hx hZ hown (wd hw 138 rfl) rfl (Ins.self f11) (g := (mkF m 34 #[.val (.ref x0), .val (.ref x1), .val (.ref b2), .val (.ref b1q5), .unset] [(.ref w5)])) rfl rfl (hb hby d26_34)
  refine Go.step st12 ?_
  refine t_asL X12 u d26_37 rfl (l' := #[.val (.ref x0), .val (.ref x1), .val (.ref b2), .val (.ref b1q5), .val (.ref w5)]) rfl ?_
  refine t_aN X12 u d26_39 rfl rfl ?_
  refine t_aL X12 u d26_40 rfl rfl ?_
  have f13 := ((p3_1.keep Kq5 nin0).keep Kq10 (ninS (neL (A2.keep Kq3).lt p5_0) nin0))
  have f14 := ((((Fld.ext E2 r9).keep Kq3 (ninS (neE r8.lt hb2) nin0)).keep Kq5 nin0).keep Kq10 (ninS (neL ((Exa.ext E2 r8).keep Kq3).lt p5_0) nin0))
  have f15 := ((((Fld.ext E2 r11).keep Kq3 (ninS (neE r8.lt hb2) nin0)).keep Kq5 nin0).keep Kq10 (ninS (neL ((Exa.ext E2 r8).keep Kq3).lt p5_0) nin0))
  refine pt_cS [(.ref b2), (.ref w5)] [] 0 X12 u hZ hown (wd hw 249 rfl) (m_29 hw) e12 (rm_a33_0 l Z a0 hw [] G GG b2 w5 (0 : Int32) w7 w8 T10.heap O10_ (((A2.keep Kq3).keep Kq5).keep Kq10) f13 (by decide) f11 f14 r10 f15 r12) rfl d26_42 rfl rfl (by decide) N10_ ?_
  intro T16 L16 X16 e16 N16_
  refine t_ifY 45 74 X16 u rfl d26_45 ((if0 _ _).trans (feq (by decide : ¬ ((1 : Int32) = (0 : Int32)))).2) (by decide) ?_
  refine t_aN X16 u d26_74 rfl rfl ?_
  refine t_aL X16 u d26_75 rfl rfl ?_
  have f17 := ((p3_0.keep Kq5 nin0).keep Kq10 (ninS (neL (A2.keep Kq3).lt p5_0) nin0))
  have f18 := ((p3_2.keep Kq5 nin0).keep Kq10 (ninS (neL (A2.keep Kq3).lt p5_0) nin0))
  refine t_cI [(.ref w5)] [] 0 X16 u hZ hown (wd hw 154 rfl) (m_24 hw) e16 (((A2.keep Kq3).keep Kq5).keep Kq10) (rm_a20_0 l Z a0 hw [] G GG b2 w5 T10.heap O10_ f17 (((A2.keep Kq3).keep Kq5).keep Kq10) g_b2 f18 f13 f11) rfl d26_77 rfl rfl (by decide) ?_
  intro v19 T19 L19 Lc19 X19 hQ19 l19
  obtain ⟨b6q2q2q5q19, k6q2q2q5q19, rfl, Nq19, Kq19, p19_0, p19_1, p19_2, p19_3, p19_4, p19_5, p19_6⟩ := hQ19
  have O19_ := extKeep O10_ Kq19 (allS g_b2 all0)
  have K19 := Keep.trans K10 Kq19 (allS (Or.inr sz_b2) all0)
  have N19_ := frA l19 N16_ Nq19
  have g_b6q2q2q5q19 := Nat.le_trans O10_.1 p19_3
  have sz_b6q2q2q5q19 := Nat.le_trans K10.1 p19_3
  refine t_pop X19 u d26_82 rfl ?_
  refine t_go 83 19 X19 u rfl d26_83 (by decide) ?_
  refine t_aN X19 u d26_19 rfl rfl ?_
  have f20 := (p10_2.keep Kq19 (ninS (Ne.symm (neL (A2.keep Kq3).lt p5_0)) nin0))
  have f21 := (p10_0.keep Kq19 (ninS (Ne.symm (neL (A2.keep Kq3).lt p5_0)) nin0))
  have f22 := ((f6.keep Kq10 (ninS (neL ((Exa.ext E2 r0).keep Kq3).lt p5_0) nin0)).keep Kq19 (ninS (neE r0.lt hb2) nin0))
  refine pt_cI [] [] 0 X19 u hZ hown (wd hw 222 rfl) (m_10 hw) rfl ((p5_1.keep Kq10).keep Kq19) (rm_a30_1 l Z a0 hw [] G GG b1q5 (1 : Int32) x1 w2 T19.heap O19_ f20 f21 f22 r13) rfl d26_20 rfl rfl (by decide) N19_ ?_
  intro T23 L23 X23 e23 N23_
  refine t_ifN X23 u d26_25 ((if0 _ _).trans (feq (by decide : ¬ ((1 : Int32) = (0 : Int32)))).1) ?_
  refine t_aN X23 u d26_28 rfl rfl ?_
  have f24 := (((f4.keep Kq5 nin0).keep Kq10 (ninS (neL ((Exa.ext E2 r0).keep Kq3).lt p5_0) nin0)).keep Kq19 (ninS (neE r0.lt hb2) nin0))
  have f25 := (p10_1.keep Kq19 (ninS (Ne.symm (neL (A2.keep Kq3).lt p5_0)) nin0))
  have f26 := ((f8.keep Kq10 (ninS (neL ((Exa.ext E2 r0).keep Kq3).lt p5_0) nin0)).keep Kq19 (ninS (neE r0.lt hb2) nin0))
  have f27 := ((f9.keep Kq10 (ninS (neL ((r7.ext E2).keep Kq3 (ninS (neE r7.lt hb2) nin0)).lt p5_0) nin0)).keep Kq19 (ninS (neE r7.lt hb2) nin0))
  have f28 := (p10_3.keep Kq19 (ninS (Ne.symm (neL (A2.keep Kq3).lt p5_0)) nin0))
  refine t_cI [] [] 0 X23 u hZ hown (wd hw 234 rfl) (m_26 hw) e23 ((p5_1.keep Kq10).keep Kq19) (rm_a31_2 l Z a0 hw [] G GG b1q5 x1 w1 w2 w3 kk4 w5 w6 T19.heap O19_ ((p5_1.keep Kq10).keep Kq19) f21 f24 f25 r4 f20 f22 r14 f26 f27 g_b1q5 f28 (neL ((r7.ext E2).keep Kq3 (ninS (neE r7.lt hb2) nin0)).lt p5_0)) rfl d26_29 rfl rfl (by decide) ?_
  intro v29 T29 L29 Lc29 X29 hQ29 l29
  obtain ⟨rfl, Nq29, Kq29, p29_0, p29_1, p29_2, p29_3⟩ := hQ29
  have O29_ := extKeep O19_ Kq29 (allS g_b1q5 all0)
  have K29 := Keep.trans K19 Kq29 (allS (Or.inr sz_b1q5) all0)
  have N29_ := frA l29 N23_ Nq29
  have f30 := ((((Exa.ext E2 r15).keep Kq3).keep Kq5).keep Kq10)
  obtain ⟨T31, X31, e31, st31⟩ := castY X29 hx hZ hown (wd hw 138 rfl) rfl (Ins.self ((f30.keep Kq19).keep Kq29)) (g := (mkF m 34 #[.val (.ref x0), .val (.ref x1), .val (.ref b2), .val (.ref b1q5), .val (.ref w5)] [(.ref w6)])) rfl rfl (hb hby d26_34)
  refine Go.step st31 ?_
  refine t_asL X31 u d26_37 rfl (l' := #[.val (.ref x0), .val (.ref x1), .val (.ref b2), .val (.ref b1q5), .val (.ref w6)]) rfl ?_
  refine t_aN X31 u d26_39 rfl rfl ?_
  refine t_aL X31 u d26_40 rfl rfl ?_
  have f32 := ((((A2.keep Kq3).keep Kq5).keep Kq10).keep Kq19)
  have f33 := (p19_1.keep Kq29 (ninS (neL (A2.keep Kq3).lt p5_0) nin0))
  have f34 := (p19_0.keep Kq29 (ninS (neL (A2.keep Kq3).lt p5_0) nin0))
  have f35 := (p19_5.keep Kq29 (ninS (Ne.symm (neL (p5_1.keep Kq10).lt p19_3)) nin0))
  have f36 := ((((Fld.ext E2 r16).keep Kq3 (ninS (neE r15.lt hb2) nin0)).keep Kq5 nin0).keep Kq10 (ninS (neL ((Exa.ext E2 r15).keep Kq3).lt p5_0) nin0))
  have f37 := ((f36.keep Kq19 (ninS (neE r15.lt hb2) nin0)).keep Kq29 (ninS (neL ((Exa.ext E2 r15).keep Kq3).lt p5_0) nin0))
  have f38 := ((((Fld.ext E2 r18).keep Kq3 (ninS (neE r15.lt hb2) nin0)).keep Kq5 nin0).keep Kq10 (ninS (neL ((Exa.ext E2 r15).keep Kq3).lt p5_0) nin0))
  have f39 := ((f38.keep Kq19 (ninS (neE r15.lt hb2) nin0)).keep Kq29 (ninS (neL ((Exa.ext E2 r15).keep Kq3).lt p5_0) nin0))
  have f40 := ((f14.keep Kq19 (ninS (neE r8.lt hb2) nin0)).keep Kq29 (ninS (neL ((Exa.ext E2 r8).keep Kq3).lt p5_0) nin0))
  have f41 := ((f15.keep Kq19 (ninS (neE r8.lt hb2) nin0)).keep Kq29 (ninS (neL ((Exa.ext E2 r8).keep Kq3).lt p5_0) nin0))
  refine pt_cS [(.ref b2), (.ref w6)] [] 0 X31 u hZ hown (wd hw 249 rfl) (m_29 hw) e31 (rm_a33_1 l Z a0 hw [] G GG b2 w6 b6q2q2q5q19 k6q2q2q5q19 w5 w9 w10 w7 w8 T29.heap O29_ (f32.keep Kq29) f33 f34 f35 ((f11.keep Kq19).keep Kq29) ((f30.keep Kq19).keep Kq29) f37 r17 f39 r19 f40 r20 f41 r21) rfl d26_42 rfl rfl (by decide) N29_ ?_
  intro T42 L42 X42 e42 N42_
  refine t_ifY 45 74 X42 u rfl d26_45 ((if0 _ _).trans (feq (by decide : ¬ ((1 : Int32) = (0 : Int32)))).2) (by decide) ?_
  refine t_aN X42 u d26_74 rfl rfl ?_
  refine t_aL X42 u d26_75 rfl rfl ?_
  have f43 := (p19_2.keep Kq29 (ninS (neL (A2.keep Kq3).lt p5_0) nin0))
  refine t_cI [(.ref w6)] [] 0 X42 u hZ hown (wd hw 154 rfl) (m_24 hw) e42 (f32.keep Kq29) (rm_a20_1 l Z a0 hw [] G GG b2 w6 b6q2q2q5q19 k6q2q2q5q19 w5 T29.heap O29_ f43 (f32.keep Kq29) g_b2 f34 f33 f35 (Ne.symm (neL (((A2.keep Kq3).keep Kq5).keep Kq10).lt p19_3)) p19_6 ((f30.keep Kq19).keep Kq29) g_b6q2q2q5q19) rfl d26_77 rfl rfl (by decide) ?_
  intro v44 T44 L44 Lc44 X44 hQ44 l44
  obtain ⟨rfl, Nq44, Kq44, p44_0, p44_1, p44_2, p44_3⟩ := hQ44
  have O44_ := extKeep O29_ Kq44 (allS g_b2 (allS g_b6q2q2q5q19 all0))
  have K44 := Keep.trans K29 Kq44 (allS (Or.inr sz_b2) (allS (Or.inr sz_b6q2q2q5q19) all0))
  have N44_ := frA l44 N42_ Nq44
  refine t_pop X44 u d26_82 rfl ?_
  refine t_go 83 19 X44 u rfl d26_83 (by decide) ?_
  refine t_aN X44 u d26_19 rfl rfl ?_
  have f45 := ((((p5_1.keep Kq10).keep Kq19).keep Kq29).keep Kq44)
  have f46 := (p29_2.keep Kq44 (ninS (Ne.symm (neL (A2.keep Kq3).lt p5_0)) (ninS (neL (p5_1.keep Kq10).lt p19_3) nin0)))
  have f47 := (p29_0.keep Kq44 (ninS (Ne.symm (neL (A2.keep Kq3).lt p5_0)) (ninS (neL (p5_1.keep Kq10).lt p19_3) nin0)))
  have f48 := ((f22.keep Kq29 (ninS (neL ((Exa.ext E2 r0).keep Kq3).lt p5_0) nin0)).keep Kq44 (ninS (neE r0.lt hb2) (ninS (neL ((((Exa.ext E2 r0).keep Kq3).keep Kq5).keep Kq10).lt p19_3) nin0)))
  refine pt_cI [] [] 0 X44 u hZ hown (wd hw 222 rfl) (m_10 hw) rfl f45 (rm_a30_0 l Z a0 hw [] G GG b1q5 (2 : Int32) x1 w2 T44.heap O44_ f46 f47 f48 r22) rfl d26_20 rfl rfl (by decide) N44_ ?_
  intro T49 L49 X49 e49 N49_
  refine t_ifY 25 86 X49 u rfl d26_25 ((if0 _ _).trans (teq (by decide : (0 : Int32) = (0 : Int32))).1) (by decide) ?_
  refine t_aN X49 u d26_86 rfl rfl ?_
  refine t_cS [(.ref b2)] [] 0 X49 u hZ hown (wd hw 264 rfl) (m_14 hw) e49 (rm_a36_2 l Z a0 hw [] G GG b2 b6q2q2q5q19 k6q2q2q5q19 w5 w6 T44.heap O44_ ((f32.keep Kq29).keep Kq44) p44_0 p44_2 ((p19_4.keep Kq29).keep Kq44) p44_3 (((f30.keep Kq19).keep Kq29).keep Kq44) (((f11.keep Kq19).keep Kq29).keep Kq44)) rfl d26_87 rfl rfl (by decide) ?_
  intro v50 T50 L50 Lc50 X50 hQ50 l50
  obtain ⟨b2q5q1q50, rfl, Nq50, Kq50, p50_0, p50_1, p50_2, p50_3⟩ := hQ50
  have O50_ := extKeep O44_ Kq50 all0
  have K50 := Keep.trans K44 Kq50 all0
  have N50_ := frA l50 N49_ Nq50
  have g_b2q5q1q50 := Nat.le_trans O44_.1 p50_0
  have sz_b2q5q1q50 := Nat.le_trans K44.1 p50_0
  refine t_asN X50 u d26_90 rfl (l' := #[.val (.ref x0), .val (.ref b2q5q1q50), .val (.ref b2), .val (.ref b1q5), .val (.ref w6)]) rfl ?_
  refine t_aN X50 u d26_91 rfl rfl ?_
  refine t_aN X50 u d26_92 rfl rfl ?_
  have f51 := ((((Exa.ext E2 r23).keep Kq3).keep Kq5).keep Kq10)
  have f52 := ((((f51.keep Kq19).keep Kq29).keep Kq44).keep Kq50)
  have f53 := ((((Fld.ext E2 r24).keep Kq3 (ninS (neE r23.lt hb2) nin0)).keep Kq5 nin0).keep Kq10 (ninS (neL ((Exa.ext E2 r23).keep Kq3).lt p5_0) nin0))
  have f54 := ((((f53.keep Kq19 (ninS (neE r23.lt hb2) nin0)).keep Kq29 (ninS (neL ((Exa.ext E2 r23).keep Kq3).lt p5_0) nin0)).keep Kq44 (ninS (neE r23.lt hb2) (ninS (neL f51.lt p19_3) nin0))).keep Kq50 nin0)
  refine t_pF X50 u hZ hown (wd hw 30 rfl) rfl f54 f52 (Or.inr ⟨(wd hw 31 rfl), rfl, hnm⟩) (wd hw 191 rfl) pf_Ljava_util_List_ rfl rfl d26_93 ?_
  intro T55 h55 X55 e55 W55
  have N55_ := Fr.snoc X55 N50_ r25
  have O55_ := extWr O50_ W55 r25
  have K55 := Keep.wr K50 W55 k0
  have F55 := Fld.same W55 f54
  have f56 := (fL W55 p50_2 (Ne.symm (neL (((f51.keep Kq19).keep Kq29).keep Kq44).lt p50_0)))
  have f57 := (fL W55 p50_3 (Ne.symm (neL (((f51.keep Kq19).keep Kq29).keep Kq44).lt p50_0)))
  exact Go.retV X55 hx hret hlk (hb hby d26_96) (by decide) (by decide) (by show Q_a26_2 ..; rw [e55]; exact ⟨b2q5q1q50, rfl, N55_, K55, F55, sz_b2q5q1q50, (Exa.wr W55 p50_1), f56, f57⟩)
theorem pn_69 : plainName "com/example/clean_epoch/cleanepoch/log/Lineage" = true := by first | (simp [plainName, overriddenIn]; done) | decide +kernel
def Q_wef (Z : State) (G : GT) (h0 : Heap) (v : Option Value) (h : Heap) (L : List Loc) : Prop := ∃ (r : Addr), v = some (.ref r) ∧ Fr Z.heap.size L ∧ Keep h0 h [] ∧ h0.size ≤ r ∧ LS Z h G.el G.eo r
theorem rm_wef (x0 : Addr) (x1 : Int64) (h0 : Heap) (O0 : Ext Z.heap h0) (hLS : LS Z h0 G.el G.eo x0) :
    MF hw GG l y_69 prog_22_method_9_code 6 (some (.object "com/example/clean_epoch/cleanepoch/log/Lineage")) ws ⟨9, 9, 39, 118⟩ h0 #[(.ref x0), (.long x1)] (Q_wef Z G h0) := by
  refine own_mF #[.val (.ref x0), .val (.long x1), .second, .unset, .unset, .unset] (plainFor_of_name pn_69) (fun _ => rfl) ?_
  intro p e s m below meth c s₁ u hlk hret hZ hown hnm X0 e0 N0
  obtain ⟨hx, hby, hml⟩ := id u
  obtain ⟨Ex0, hsh_x0⟩ := id hLS
  rcases hsh_x0 with Fe_x0 | ⟨li, a1, p1, q1, Fe_x0, Eli, Fe0, Fe1, Ea1, Fp1, Fq1, np1, nq1⟩ | ⟨li, a1, p1, q1, a2, p2, q2, Fe_x0, Eli, Fe0, Fe1, Ea1, Fp1, Fq1, Ea2, Fp2, Fq2, np1, nq1, np2, nq2, hpp, hqq⟩
  · show Go _ _ _ _ _ _ _ _ s₁ (mkF m 0 #[.val (.ref x0), .val (.long x1), .second, .unset, .unset, .unset] [])
    refine t_new X0 u hZ hown (wd hw 73 rfl) (wd hw 74 rfl) (wd hw 75 rfl) e0 d69_0 (by decide) ?_
    intro T1 h1 b1 X1 e1 E1 hb1 A1 D1
    have g_b1 := leE O0.1 hb1
    have O1_ := extTr O0 E1
    have sz_b1 := leE (Keep.refl h0 []).1 hb1
    have K1 := Keep.ext (Keep.refl h0 []) E1
    have F1_modCount : fl_15 Z h1 b1 (.int (0 : Int32)) := D1 (Or.inl (wd hw 93 rfl)) (ty := .int) pf_I
    have F1_size : fl_16 Z h1 b1 (.int (0 : Int32)) := D1 (Or.inl (wd hw 128 rfl)) (ty := .int) pf_I
    have F1_elementData : fl_17 Z h1 b1 .null := D1 (Or.inl (wd hw 131 rfl)) (ty := (.array (.object "java/lang/Object"))) pf_ALjava_lang_Object_
    refine t_dup X1 u d69_3 rfl ?_
    refine t_cN [] [(.ref b1)] 1 X1 u hZ hown rfl (wd hw 196 rfl) (m_2 hw) e1 (rm_a27_0 l Z a0 hw [] G GG b1 (0 : Int32) (0 : Int32) h1 O1_ A1 F1_modCount g_b1 F1_size F1_elementData) rfl d69_4 rfl rfl (by decide) ?_
    intro v2 T2 L2 Lc2 X2 hQ2 l2
    obtain ⟨rfl, Nq2, Kq2, p2_0, p2_1, p2_2⟩ := hQ2
    have O2_ := extKeep O1_ Kq2 (allS g_b1 all0)
    have K2 := Keep.trans K1 Kq2 (allS (Or.inr sz_b1) all0)
    have N2_ := frA l2 N0 Nq2
    refine t_asN X2 u d69_7 rfl (l' := #[.val (.ref x0), .val (.long x1), .second, .val (.ref b1), .unset, .unset]) rfl ?_
    refine t_aN X2 u d69_8 rfl rfl ?_
    have f3 := ((Fld.ext E1 Fe_x0).keep Kq2 (ninS (neE Ex0.lt hb1) nin0))
    refine t_gF X2 u hZ hown (wd hw 30 rfl) rfl f3 d69_9 ?_
    intro T4 X4 e4
    refine t_cI [] [] 0 X4 u hZ hown (wd hw 199 rfl) (m_5 hw) e4 (Exa.ext O2_ GG.G_ele) (rm_a64_0 l Z a0 hw [] G GG  T2.heap O2_ ) rfl d69_12 rfl rfl (by decide) ?_
    intro v5 T5 L5 Lc5 X5 hQ5 l5
    obtain ⟨b1q5, rfl, Nq5, Kq5, p5_0, p5_1, p5_2, p5_3, p5_4, p5_5⟩ := hQ5
    have O5_ := extKeep O2_ Kq5 all0
    have K5 := Keep.trans K2 Kq5 all0
    have N5_ := frA l5 N2_ Nq5
    have g_b1q5 := Nat.le_trans O2_.1 p5_0
    have sz_b1q5 := Nat.le_trans K2.1 p5_0
    refine t_asL X5 u d69_17 rfl (l' := #[.val (.ref x0), .val (.long x1), .second, .val (.ref b1), .val (.ref b1q5), .unset]) rfl ?_
    refine t_aL X5 u d69_19 rfl rfl ?_
    refine pt_cI [] [] 0 X5 u hZ hown (wd hw 222 rfl) (m_6 hw) rfl p5_1 (rm_a66_0 l Z a0 hw [] G GG b1q5 (0 : Int32) (0 : Int32) T5.heap O5_ p5_4 p5_3 (by decide)) rfl d69_21 rfl rfl (by decide) N5_ ?_
    intro T6 L6 X6 e6 N6_
    refine t_ifY 26 63 X6 u rfl d69_26 ((if0 _ _).trans (teq (by decide : (0 : Int32) = (0 : Int32))).1) (by decide) ?_
    refine t_new X6 u hZ hown (wd hw 190 rfl) (wd hw 191 rfl) (wd hw 2 rfl) e6 d69_63 (by decide) ?_
    intro T7 h7 b7 X7 e7 E7 hb7 A7 D7
    have g_b7 := leE O5_.1 hb7
    have O7_ := extTr O5_ E7
    have sz_b7 := leE K5.1 hb7
    have K7 := Keep.ext K5 E7
    have F7_entries : fl_2 Z h7 b7 .null := D7 (Or.inr (wd hw 31 rfl)) (ty := (.object "java/util/List")) pf_Ljava_util_List_
    refine t_dup X7 u d69_66 rfl ?_
    refine t_aN X7 u d69_67 rfl rfl ?_
    refine t_cN [(.ref b1)] [(.ref b7)] 1 X7 u hZ hown rfl (wd hw 192 rfl) (m_15 hw) e7 (rm_a26_0 l Z a0 hw [] G GG b7 b1 (0 : Int32) (0 : Int32) h7 O7_ (Exa.ext E7 ((A1.keep Kq2).keep Kq5)) (Fld.ext E7 (p2_0.keep Kq5 nin0)) (Fld.ext E7 (p2_1.keep Kq5 nin0)) (by decide) A7 F7_entries g_b7) rfl d69_68 rfl rfl (by decide) ?_
    intro v8 T8 L8 Lc8 X8 hQ8 l8
    obtain ⟨rfl, Nq8, Kq8, p8_0⟩ := hQ8
    have O8_ := extKeep O7_ Kq8 (allS g_b7 all0)
    have K8 := Keep.trans K7 Kq8 (allS (Or.inr sz_b7) all0)
    have N8_ := frA l8 N6_ Nq8
    exact Go.retA X8 hx hret rfl rfl hlk (hb hby d69_71) (by decide) (by decide) ⟨b7, rfl, N8_, K8, sz_b7, ⟨(A7.keep Kq8), Or.inl p8_0⟩⟩
  · show Go _ _ _ _ _ _ _ _ s₁ (mkF m 0 #[.val (.ref x0), .val (.long x1), .second, .unset, .unset, .unset] [])
    refine t_new X0 u hZ hown (wd hw 73 rfl) (wd hw 74 rfl) (wd hw 75 rfl) e0 d69_0 (by decide) ?_
    intro T9 h9 b9 X9 e9 E9 hb9 A9 D9
    have g_b9 := leE O0.1 hb9
    have O9_ := extTr O0 E9
    have sz_b9 := leE (Keep.refl h0 []).1 hb9
    have K9 := Keep.ext (Keep.refl h0 []) E9
    have F9_modCount : fl_15 Z h9 b9 (.int (0 : Int32)) := D9 (Or.inl (wd hw 93 rfl)) (ty := .int) pf_I
    have F9_size : fl_16 Z h9 b9 (.int (0 : Int32)) := D9 (Or.inl (wd hw 128 rfl)) (ty := .int) pf_I
    have F9_elementData : fl_17 Z h9 b9 .null := D9 (Or.inl (wd hw 131 rfl)) (ty := (.array (.object "java/lang/Object"))) pf_ALjava_lang_Object_
    refine t_dup X9 u d69_3 rfl ?_
    refine t_cN [] [(.ref b9)] 1 X9 u hZ hown rfl (wd hw 196 rfl) (m_2 hw) e9 (rm_a27_0 l Z a0 hw [] G GG b9 (0 : Int32) (0 : Int32) h9 O9_ A9 F9_modCount g_b9 F9_size F9_elementData) rfl d69_4 rfl rfl (by decide) ?_
    intro v10 T10 L10 Lc10 X10 hQ10 l10
    obtain ⟨rfl, Nq10, Kq10, p10_0, p10_1, p10_2⟩ := hQ10
    have O10_ := extKeep O9_ Kq10 (allS g_b9 all0)
    have K10 := Keep.trans K9 Kq10 (allS (Or.inr sz_b9) all0)
    have N10_ := frA l10 N0 Nq10
    refine t_asN X10 u d69_7 rfl (l' := #[.val (.ref x0), .val (.long x1), .second, .val (.ref b9), .unset, .unset]) rfl ?_
    refine t_aN X10 u d69_8 rfl rfl ?_
    have f11 := ((Fld.ext E9 Fe_x0).keep Kq10 (ninS (neE Ex0.lt hb9) nin0))
    refine t_gF X10 u hZ hown (wd hw 30 rfl) rfl f11 d69_9 ?_
    intro T12 X12 e12
    have f13 := ((Fld.ext E9 Fe1).keep Kq10 (ninS (neE Eli.lt hb9) nin0))
    have f14 := ((Fld.ext E9 Fe1).keep Kq10 (ninS (neE Eli.lt hb9) nin0))
    have f15 := ((Fld.ext E9 Fe1).keep Kq10 (ninS (neE Eli.lt hb9) nin0))
    refine t_cI [] [] 0 X12 u hZ hown (wd hw 199 rfl) (m_17 hw) e12 ((Exa.ext E9 Eli).keep Kq10) (rm_a64_1 l Z a0 hw [] G GG li T10.heap O10_ ((Exa.ext E9 Eli).keep Kq10) f15) rfl d69_12 rfl rfl (by decide) ?_
    intro v16 T16 L16 Lc16 X16 hQ16 l16
    obtain ⟨b1q16, rfl, Nq16, Kq16, p16_0, p16_1, p16_2, p16_3, p16_4, p16_5⟩ := hQ16
    have O16_ := extKeep O10_ Kq16 all0
    have K16 := Keep.trans K10 Kq16 all0
    have N16_ := frA l16 N10_ Nq16
    have g_b1q16 := Nat.le_trans O10_.1 p16_0
    have sz_b1q16 := Nat.le_trans K10.1 p16_0
    refine t_asL X16 u d69_17 rfl (l' := #[.val (.ref x0), .val (.long x1), .second, .val (.ref b9), .val (.ref b1q16), .unset]) rfl ?_
    refine t_aL X16 u d69_19 rfl rfl ?_
    refine pt_cI [] [] 0 X16 u hZ hown (wd hw 222 rfl) (m_6 hw) rfl p16_1 (rm_a66_1 l Z a0 hw [] G GG b1q16 (0 : Int32) (1 : Int32) T16.heap O16_ p16_4 p16_3 (by decide)) rfl d69_21 rfl rfl (by decide) N16_ ?_
    intro T17 L17 X17 e17 N17_
    refine t_ifN X17 u d69_26 ((if0 _ _).trans (feq (by decide : ¬ ((1 : Int32) = (0 : Int32)))).1) ?_
    refine t_aL X17 u d69_29 rfl rfl ?_
    have f18 := (((Fld.ext E9 Fe0).keep Kq10 (ninS (neE Eli.lt hb9) nin0)).keep Kq16 nin0)
    have f19 := (((Fld.ext E9 Fe0).keep Kq10 (ninS (neE Eli.lt hb9) nin0)).keep Kq16 nin0)
    have f20 := (((Fld.ext E9 Fe0).keep Kq10 (ninS (neE Eli.lt hb9) nin0)).keep Kq16 nin0)
    obtain ⟨cq21, kq21, q21a, q21b, q21c⟩ := isOf hZ e17 p16_1
    obtain ⟨_, _, ⟨T21, L21, k21, n21⟩, -, X21, ⟨Lc21, hQ21, l21, y21, z21⟩, st21⟩ := X17.interfaceBack hx (xi := (⟨"java/util/Iterator", "next", "()Ljava/lang/Object;"⟩ : MethodName)) (y := (⟨"java/util/ImmutableCollections$ListItr", "next", "()Ljava/lang/Object;"⟩ : MethodName)) hown (mvT hZ (wd hw 234 rfl)) (mvT hZ (wd hw 235 rfl)) (mvT hZ (wd hw 236 rfl)) (mvT hZ (wd hw 480 rfl)) (mvT hZ (wd hw 481 rfl)) (mvT hZ (wd hw 482 rfl)) (mvT hZ (wd hw 483 rfl)) (mvT hZ (wd hw 478 rfl)) (by decide) (backOfWith (W := 0) (rm_a67_0 l Z a0 hw [] G GG b1q16 (0 : Int32) li a1 (1 : Int32) (0 : Int32) T16.heap O16_ p16_4 p16_2 (((Exa.ext E9 Eli).keep Kq10).keep Kq16) (by decide) f20 p16_1 g_b1q16 p16_3 p16_5) hZ (wd hw 484 rfl) (wd hw 456 rfl) (by decide) (by decide)) q21a q21b q21c (g := (mkF m 31 #[.val (.ref x0), .val (.long x1), .second, .val (.ref b9), .val (.ref b1q16), .unset] [(.ref b1q16)])) rfl (by rw [hml]; rfl) (Steps.refl _) (argsL := []) (rest := []) (lenOf pd_LRLjava_lang_Object_ rfl) rfl (by show 2 * 0 + _ ≤ _; exact Nat.le_of_eq rfl) (hb hby d69_31) (fun _ _ => ⟨rfl, e17, (by decide : 2 + 0 ≤ _), (by decide : 7 + 0 ≤ _)⟩)
    dsimp only [Pt.U, Pt.locs, Pt.cells, Pt.slots] at X21 l21 y21 z21 st21 hQ21
    subst y21 z21
    obtain ⟨rfl, Nq21, Kq21, p21_0, p21_1, p21_2, p21_3⟩ := hQ21
    have O21_ := extKeep O16_ Kq21 (allS g_b1q16 all0)
    have K21 := Keep.trans K16 Kq21 (allS (Or.inr sz_b1q16) all0)
    have N21_ := frA l21 N17_ Nq21
    refine Go.trans st21 ?_
    have f22 := ((((Exa.ext E9 Ea1).keep Kq10).keep Kq16).keep Kq21)
    obtain ⟨T23, X23, e23, st23⟩ := castY X21 hx hZ hown (wd hw 138 rfl) rfl (Ins.self f22) (g := (mkF m 36 #[.val (.ref x0), .val (.long x1), .second, .val (.ref b9), .val (.ref b1q16), .unset] [(.ref a1)])) rfl rfl (hb hby d69_36)
    refine Go.step st23 ?_
    refine t_asL X23 u d69_39 rfl (l' := #[.val (.ref x0), .val (.long x1), .second, .val (.ref b9), .val (.ref b1q16), .val (.ref a1)]) rfl ?_
    refine t_aL X23 u d69_41 rfl rfl ?_
    have f24 := ((((Fld.ext E9 Fq1).keep Kq10 (ninS (neE Ea1.lt hb9) nin0)).keep Kq16 nin0).keep Kq21 (ninS (neL ((Exa.ext E9 Ea1).keep Kq10).lt p16_0) nin0))
    have f25 := ((((Fld.ext E9 Fq1).keep Kq10 (ninS (neE Ea1.lt hb9) nin0)).keep Kq16 nin0).keep Kq21 (ninS (neL ((Exa.ext E9 Ea1).keep Kq10).lt p16_0) nin0))
    refine pt_cV [] [] 0 X23 u hZ hown (wd hw 257 rfl) (m_19 hw) e23 f22 (rm_a35_0 l Z a0 hw [] G GG a1 q1 T21.heap O21_ f25) rfl d69_43 rfl rfl (by decide) N21_ ?_
    intro T26 L26 X26 e26 N26_
    refine t_lN X26 u d69_46 rfl ?_
    refine Go.step (fun _ kt_ => XS.lcmp X26.here hx rfl (hb hby d69_47) rfl kt_) ?_
    by_cases hc48_27 : (lcmpW q1 x1) < (0 : Int32)
    · refine t_ifN X26 u d69_48 ((if0 _ _).trans (tlt hc48_27).2.1) ?_
      refine t_aN X26 u d69_51 rfl rfl ?_
      refine t_aL X26 u d69_52 rfl rfl ?_
      have f28 := ((p10_0.keep Kq16 nin0).keep Kq21 (ninS (neL (A9.keep Kq10).lt p16_0) nin0))
      have f29 := ((p10_2.keep Kq16 nin0).keep Kq21 (ninS (neL (A9.keep Kq10).lt p16_0) nin0))
      have f30 := ((p10_1.keep Kq16 nin0).keep Kq21 (ninS (neL (A9.keep Kq10).lt p16_0) nin0))
      have f31 := ((p10_0.keep Kq16 nin0).keep Kq21 (ninS (neL (A9.keep Kq10).lt p16_0) nin0))
      have f32 := ((p10_2.keep Kq16 nin0).keep Kq21 (ninS (neL (A9.keep Kq10).lt p16_0) nin0))
      have f33 := ((p10_1.keep Kq16 nin0).keep Kq21 (ninS (neL (A9.keep Kq10).lt p16_0) nin0))
      have f34 := ((p10_0.keep Kq16 nin0).keep Kq21 (ninS (neL (A9.keep Kq10).lt p16_0) nin0))
      have f35 := ((p10_2.keep Kq16 nin0).keep Kq21 (ninS (neL (A9.keep Kq10).lt p16_0) nin0))
      have f36 := ((p10_1.keep Kq16 nin0).keep Kq21 (ninS (neL (A9.keep Kq10).lt p16_0) nin0))
      have f37 := ((p10_0.keep Kq16 nin0).keep Kq21 (ninS (neL (A9.keep Kq10).lt p16_0) nin0))
      have f38 := ((p10_2.keep Kq16 nin0).keep Kq21 (ninS (neL (A9.keep Kq10).lt p16_0) nin0))
      have f39 := ((p10_1.keep Kq16 nin0).keep Kq21 (ninS (neL (A9.keep Kq10).lt p16_0) nin0))
      refine t_cI [(.ref a1)] [] 0 X26 u hZ hown (wd hw 154 rfl) (m_24 hw) e26 (((A9.keep Kq10).keep Kq16).keep Kq21) (rm_a20_0 l Z a0 hw [] G GG b9 a1 T21.heap O21_ f37 (((A9.keep Kq10).keep Kq16).keep Kq21) g_b9 f38 f39 f22) rfl d69_54 rfl rfl (by decide) ?_
      intro v40 T40 L40 Lc40 X40 hQ40 l40
      obtain ⟨b6q2q2q5q40, k6q2q2q5q40, rfl, Nq40, Kq40, p40_0, p40_1, p40_2, p40_3, p40_4, p40_5, p40_6⟩ := hQ40
      have O40_ := extKeep O21_ Kq40 (allS g_b9 all0)
      have K40 := Keep.trans K21 Kq40 (allS (Or.inr sz_b9) all0)
      have N40_ := frA l40 N26_ Nq40
      have g_b6q2q2q5q40 := Nat.le_trans O21_.1 p40_3
      have sz_b6q2q2q5q40 := Nat.le_trans K21.1 p40_3
      refine t_pop X40 u d69_59 rfl ?_
      refine t_go 60 19 X40 u rfl d69_60 (by decide) ?_
      refine t_aL X40 u d69_19 rfl rfl ?_
      have f41 := (p21_0.keep Kq40 (ninS (Ne.symm (neL (A9.keep Kq10).lt p16_0)) nin0))
      have f42 := (p21_2.keep Kq40 (ninS (Ne.symm (neL (A9.keep Kq10).lt p16_0)) nin0))
      refine pt_cI [] [] 0 X40 u hZ hown (wd hw 222 rfl) (m_6 hw) rfl ((p16_1.keep Kq21).keep Kq40) (rm_a66_0 l Z a0 hw [] G GG b1q16 (1 : Int32) (1 : Int32) T40.heap O40_ f41 f42 (by decide)) rfl d69_21 rfl rfl (by decide) N40_ ?_
      intro T43 L43 X43 e43 N43_
      refine t_ifY 26 63 X43 u rfl d69_26 ((if0 _ _).trans (teq (by decide : (0 : Int32) = (0 : Int32))).1) (by decide) ?_
      refine t_new X43 u hZ hown (wd hw 190 rfl) (wd hw 191 rfl) (wd hw 2 rfl) e43 d69_63 (by decide) ?_
      intro T44 h44 b44 X44 e44 E44 hb44 A44 D44
      have g_b44 := leE O40_.1 hb44
      have O44_ := extTr O40_ E44
      have sz_b44 := leE K40.1 hb44
      have K44 := Keep.ext K40 E44
      have F44_entries : fl_2 Z h44 b44 .null := D44 (Or.inr (wd hw 31 rfl)) (ty := (.object "java/util/List")) pf_Ljava_util_List_
      refine t_dup X44 u d69_66 rfl ?_
      refine t_aN X44 u d69_67 rfl rfl ?_
      have f45 := ((((A9.keep Kq10).keep Kq16).keep Kq21).keep Kq40)
      have f46 := ((((Fld.ext E9 Fp1).keep Kq10 (ninS (neE Ea1.lt hb9) nin0)).keep Kq16 nin0).keep Kq21 (ninS (neL ((Exa.ext E9 Ea1).keep Kq10).lt p16_0) nin0))
      have f47 := (Fld.ext E44 (f46.keep Kq40 (ninS (neE Ea1.lt hb9) nin0)))
      have f48 := (Fld.ext E44 (f25.keep Kq40 (ninS (neE Ea1.lt hb9) nin0)))
      have f49 := ((((Fld.ext E9 Fp1).keep Kq10 (ninS (neE Ea1.lt hb9) nin0)).keep Kq16 nin0).keep Kq21 (ninS (neL ((Exa.ext E9 Ea1).keep Kq10).lt p16_0) nin0))
      have f50 := (Fld.ext E44 (f49.keep Kq40 (ninS (neE Ea1.lt hb9) nin0)))
      have f51 := (Fld.ext E44 (f25.keep Kq40 (ninS (neE Ea1.lt hb9) nin0)))
      have f52 := ((((Fld.ext E9 Fp1).keep Kq10 (ninS (neE Ea1.lt hb9) nin0)).keep Kq16 nin0).keep Kq21 (ninS (neL ((Exa.ext E9 Ea1).keep Kq10).lt p16_0) nin0))
      have f53 := (Fld.ext E44 (f52.keep Kq40 (ninS (neE Ea1.lt hb9) nin0)))
      have f54 := (Fld.ext E44 (f25.keep Kq40 (ninS (neE Ea1.lt hb9) nin0)))
      refine t_cN [(.ref b9)] [(.ref b44)] 1 X44 u hZ hown rfl (wd hw 192 rfl) (m_15 hw) e44 (rm_a26_1 l Z a0 hw [] G GG b44 b9 (1 : Int32) (1 : Int32) b6q2q2q5q40 k6q2q2q5q40 a1 p1 q1 h44 O44_ (Exa.ext E44 f45) (Fld.ext E44 p40_2) (Fld.ext E44 p40_1) (by decide) (by decide) (by decide) (Fld.ext E44 p40_0) (p40_5.ext E44) (Exa.ext E44 (f22.keep Kq40)) f53 np1 f54 nq1 (by decide) A44 F44_entries g_b44) rfl d69_68 rfl rfl (by decide) ?_
      intro v55 T55 L55 Lc55 X55 hQ55 l55
      obtain ⟨b2q5q1q25q55, rfl, Nq55, Kq55, p55_0, p55_1, p55_2, p55_3, p55_4⟩ := hQ55
      have O55_ := extKeep O44_ Kq55 (allS g_b44 all0)
      have K55 := Keep.trans K44 Kq55 (allS (Or.inr sz_b44) all0)
      have N55_ := frA l55 N43_ Nq55
      have g_b2q5q1q25q55 := Nat.le_trans O44_.1 p55_1
      have sz_b2q5q1q25q55 := Nat.le_trans K44.1 p55_1
      have f56 := ((Exa.ext E44 (f22.keep Kq40)).keep Kq55)
      have f57 := (f53.keep Kq55 (ninS (neE (f22.keep Kq40).lt hb44) nin0))
      have f58 := (f54.keep Kq55 (ninS (neE (f22.keep Kq40).lt hb44) nin0))
      exact Go.retA X55 hx hret rfl rfl hlk (hb hby d69_71) (by decide) (by decide) ⟨b44, rfl, N55_, K55, sz_b44, ⟨(A44.keep Kq55), Or.inr (Or.inl ⟨b2q5q1q25q55, a1, p1, q1, p55_0, p55_2, p55_3, p55_4, f56, f57, f58, np1, nq1⟩)⟩⟩
    · refine t_ifY 48 60 X26 u rfl d69_48 ((if0 _ _).trans (flt hc48_27).2.1) (by decide) ?_
      refine t_go 60 19 X26 u rfl d69_60 (by decide) ?_
      refine t_aL X26 u d69_19 rfl rfl ?_
      refine pt_cI [] [] 0 X26 u hZ hown (wd hw 222 rfl) (m_6 hw) e26 (p16_1.keep Kq21) (rm_a66_0 l Z a0 hw [] G GG b1q16 (1 : Int32) (1 : Int32) T21.heap O21_ p21_0 p21_2 (by decide)) rfl d69_21 rfl rfl (by decide) N26_ ?_
      intro T59 L59 X59 e59 N59_
      refine t_ifY 26 63 X59 u rfl d69_26 ((if0 _ _).trans (teq (by decide : (0 : Int32) = (0 : Int32))).1) (by decide) ?_
      refine t_new X59 u hZ hown (wd hw 190 rfl) (wd hw 191 rfl) (wd hw 2 rfl) e59 d69_63 (by decide) ?_
      intro T60 h60 b60 X60 e60 E60 hb60 A60 D60
      have g_b60 := leE O21_.1 hb60
      have O60_ := extTr O21_ E60
      have sz_b60 := leE K21.1 hb60
      have K60 := Keep.ext K21 E60
      have F60_entries : fl_2 Z h60 b60 .null := D60 (Or.inr (wd hw 31 rfl)) (ty := (.object "java/util/List")) pf_Ljava_util_List_
      refine t_dup X60 u d69_66 rfl ?_
      refine t_aN X60 u d69_67 rfl rfl ?_
      have f61 := (Exa.ext E60 (((A9.keep Kq10).keep Kq16).keep Kq21))
      have f62 := (Fld.ext E60 ((p10_0.keep Kq16 nin0).keep Kq21 (ninS (neL (A9.keep Kq10).lt p16_0) nin0)))
      have f63 := (Fld.ext E60 ((p10_1.keep Kq16 nin0).keep Kq21 (ninS (neL (A9.keep Kq10).lt p16_0) nin0)))
      refine t_cN [(.ref b9)] [(.ref b60)] 1 X60 u hZ hown rfl (wd hw 192 rfl) (m_15 hw) e60 (rm_a26_0 l Z a0 hw [] G GG b60 b9 (0 : Int32) (0 : Int32) h60 O60_ f61 f62 f63 (by decide) A60 F60_entries g_b60) rfl d69_68 rfl rfl (by decide) ?_
      intro v64 T64 L64 Lc64 X64 hQ64 l64
      obtain ⟨rfl, Nq64, Kq64, p64_0⟩ := hQ64
      have O64_ := extKeep O60_ Kq64 (allS g_b60 all0)
      have K64 := Keep.trans K60 Kq64 (allS (Or.inr sz_b60) all0)
      have N64_ := frA l64 N59_ Nq64
      exact Go.retA X64 hx hret rfl rfl hlk (hb hby d69_71) (by decide) (by decide) ⟨b60, rfl, N64_, K64, sz_b60, ⟨(A60.keep Kq64), Or.inl p64_0⟩⟩
  · show Go _ _ _ _ _ _ _ _ s₁ (mkF m 0 #[.val (.ref x0), .val (.long x1), .second, .unset, .unset, .unset] [])
    refine t_new X0 u hZ hown (wd hw 73 rfl) (wd hw 74 rfl) (wd hw 75 rfl) e0 d69_0 (by decide) ?_
    intro T65 h65 b65 X65 e65 E65 hb65 A65 D65
    have g_b65 := leE O0.1 hb65
    have O65_ := extTr O0 E65
    have sz_b65 := leE (Keep.refl h0 []).1 hb65
    have K65 := Keep.ext (Keep.refl h0 []) E65
    have F65_modCount : fl_15 Z h65 b65 (.int (0 : Int32)) := D65 (Or.inl (wd hw 93 rfl)) (ty := .int) pf_I
    have F65_size : fl_16 Z h65 b65 (.int (0 : Int32)) := D65 (Or.inl (wd hw 128 rfl)) (ty := .int) pf_I
    have F65_elementData : fl_17 Z h65 b65 .null := D65 (Or.inl (wd hw 131 rfl)) (ty := (.array (.object "java/lang/Object"))) pf_ALjava_lang_Object_
    refine t_dup X65 u d69_3 rfl ?_
    refine t_cN [] [(.ref b65)] 1 X65 u hZ hown rfl (wd hw 196 rfl) (m_2 hw) e65 (rm_a27_0 l Z a0 hw [] G GG b65 (0 : Int32) (0 : Int32) h65 O65_ A65 F65_modCount g_b65 F65_size F65_elementData) rfl d69_4 rfl rfl (by decide) ?_
    intro v66 T66 L66 Lc66 X66 hQ66 l66
    obtain ⟨rfl, Nq66, Kq66, p66_0, p66_1, p66_2⟩ := hQ66
    have O66_ := extKeep O65_ Kq66 (allS g_b65 all0)
    have K66 := Keep.trans K65 Kq66 (allS (Or.inr sz_b65) all0)
    have N66_ := frA l66 N0 Nq66
    refine t_asN X66 u d69_7 rfl (l' := #[.val (.ref x0), .val (.long x1), .second, .val (.ref b65), .unset, .unset]) rfl ?_
    refine t_aN X66 u d69_8 rfl rfl ?_
    have f67 := ((Fld.ext E65 Fe_x0).keep Kq66 (ninS (neE Ex0.lt hb65) nin0))
    refine t_gF X66 u hZ hown (wd hw 30 rfl) rfl f67 d69_9 ?_
    intro T68 X68 e68
    have f69 := ((Fld.ext E65 Fe1).keep Kq66 (ninS (neE Eli.lt hb65) nin0))
    refine t_cI [] [] 0 X68 u hZ hown (wd hw 199 rfl) (m_17 hw) e68 ((Exa.ext E65 Eli).keep Kq66) (rm_a64_2 l Z a0 hw [] G GG li a2 T66.heap O66_ ((Exa.ext E65 Eli).keep Kq66) f69 ((Exa.ext E65 Ea2).keep Kq66)) rfl d69_12 rfl rfl (by decide) ?_
    intro v70 T70 L70 Lc70 X70 hQ70 l70
    obtain ⟨b1q70, rfl, Nq70, Kq70, p70_0, p70_1, p70_2, p70_3, p70_4, p70_5⟩ := hQ70
    have O70_ := extKeep O66_ Kq70 all0
    have K70 := Keep.trans K66 Kq70 all0
    have N70_ := frA l70 N66_ Nq70
    have g_b1q70 := Nat.le_trans O66_.1 p70_0
    have sz_b1q70 := Nat.le_trans K66.1 p70_0
    refine t_asL X70 u d69_17 rfl (l' := #[.val (.ref x0), .val (.long x1), .second, .val (.ref b65), .val (.ref b1q70), .unset]) rfl ?_
    refine t_aL X70 u d69_19 rfl rfl ?_
    refine pt_cI [] [] 0 X70 u hZ hown (wd hw 222 rfl) (m_6 hw) rfl p70_1 (rm_a66_1 l Z a0 hw [] G GG b1q70 (0 : Int32) (2 : Int32) T70.heap O70_ p70_4 p70_3 (by decide)) rfl d69_21 rfl rfl (by decide) N70_ ?_
    intro T71 L71 X71 e71 N71_
    refine t_ifN X71 u d69_26 ((if0 _ _).trans (feq (by decide : ¬ ((1 : Int32) = (0 : Int32)))).1) ?_
    refine t_aL X71 u d69_29 rfl rfl ?_
    have f72 := (((Exa.ext E65 Eli).keep Kq66).keep Kq70)
    have f73 := (((Fld.ext E65 Fe0).keep Kq66 (ninS (neE Eli.lt hb65) nin0)).keep Kq70 nin0)
    obtain ⟨cq74, kq74, q74a, q74b, q74c⟩ := isOf hZ e71 p70_1
    obtain ⟨_, _, ⟨T74, L74, k74, n74⟩, -, X74, ⟨Lc74, hQ74, l74, y74, z74⟩, st74⟩ := X71.interfaceBack hx (xi := (⟨"java/util/Iterator", "next", "()Ljava/lang/Object;"⟩ : MethodName)) (y := (⟨"java/util/ImmutableCollections$ListItr", "next", "()Ljava/lang/Object;"⟩ : MethodName)) hown (mvT hZ (wd hw 234 rfl)) (mvT hZ (wd hw 235 rfl)) (mvT hZ (wd hw 236 rfl)) (mvT hZ (wd hw 480 rfl)) (mvT hZ (wd hw 481 rfl)) (mvT hZ (wd hw 482 rfl)) (mvT hZ (wd hw 483 rfl)) (mvT hZ (wd hw 478 rfl)) (by decide) (backOfWith (W := 0) (rm_a67_0 l Z a0 hw [] G GG b1q70 (0 : Int32) li a1 (2 : Int32) (0 : Int32) T70.heap O70_ p70_4 p70_2 f72 (by decide) f73 p70_1 g_b1q70 p70_3 p70_5) hZ (wd hw 484 rfl) (wd hw 456 rfl) (by decide) (by decide)) q74a q74b q74c (g := (mkF m 31 #[.val (.ref x0), .val (.long x1), .second, .val (.ref b65), .val (.ref b1q70), .unset] [(.ref b1q70)])) rfl (by rw [hml]; rfl) (Steps.refl _) (argsL := []) (rest := []) (lenOf pd_LRLjava_lang_Object_ rfl) rfl (by show 2 * 0 + _ ≤ _; exact Nat.le_of_eq rfl) (hb hby d69_31) (fun _ _ => ⟨rfl, e71, (by decide : 2 + 0 ≤ _), (by decide : 7 + 0 ≤ _)⟩)
    dsimp only [Pt.U, Pt.locs, Pt.cells, Pt.slots] at X74 l74 y74 z74 st74 hQ74
    subst y74 z74
    obtain ⟨rfl, Nq74, Kq74, p74_0, p74_1, p74_2, p74_3⟩ := hQ74
    have O74_ := extKeep O70_ Kq74 (allS g_b1q70 all0)
    have K74 := Keep.trans K70 Kq74 (allS (Or.inr sz_b1q70) all0)
    have N74_ := frA l74 N71_ Nq74
    refine Go.trans st74 ?_
    have f75 := ((((Exa.ext E65 Ea1).keep Kq66).keep Kq70).keep Kq74)
    obtain ⟨T76, X76, e76, st76⟩ := castY X74 hx hZ hown (wd hw 138 rfl) rfl (Ins.self f75) (g := (mkF m 36 #[.val (.ref x0), .val (.long x1), .second, .val (.ref b65), .val (.ref b1q70), .unset] [(.ref a1)])) rfl rfl (hb hby d69_36)
    refine Go.step st76 ?_
    refine t_asL X76 u d69_39 rfl (l' := #[.val (.ref x0), .val (.long x1), .second, .val (.ref b65), .val (.ref b1q70), .val (.ref a1)]) rfl ?_
    refine t_aL X76 u d69_41 rfl rfl ?_
    have f77 := ((((Fld.ext E65 Fq1).keep Kq66 (ninS (neE Ea1.lt hb65) nin0)).keep Kq70 nin0).keep Kq74 (ninS (neL ((Exa.ext E65 Ea1).keep Kq66).lt p70_0) nin0))
    refine pt_cV [] [] 0 X76 u hZ hown (wd hw 257 rfl) (m_19 hw) e76 f75 (rm_a35_0 l Z a0 hw [] G GG a1 q1 T74.heap O74_ f77) rfl d69_43 rfl rfl (by decide) N74_ ?_
    intro T78 L78 X78 e78 N78_
    refine t_lN X78 u d69_46 rfl ?_
    refine Go.step (fun _ kt_ => XS.lcmp X78.here hx rfl (hb hby d69_47) rfl kt_) ?_
    by_cases hc48_79 : (lcmpW q1 x1) < (0 : Int32)
    · refine t_ifN X78 u d69_48 ((if0 _ _).trans (tlt hc48_79).2.1) ?_
      refine t_aN X78 u d69_51 rfl rfl ?_
      refine t_aL X78 u d69_52 rfl rfl ?_
      have f80 := ((p66_0.keep Kq70 nin0).keep Kq74 (ninS (neL (A65.keep Kq66).lt p70_0) nin0))
      have f81 := ((p66_2.keep Kq70 nin0).keep Kq74 (ninS (neL (A65.keep Kq66).lt p70_0) nin0))
      have f82 := ((p66_1.keep Kq70 nin0).keep Kq74 (ninS (neL (A65.keep Kq66).lt p70_0) nin0))
      refine t_cI [(.ref a1)] [] 0 X78 u hZ hown (wd hw 154 rfl) (m_24 hw) e78 (((A65.keep Kq66).keep Kq70).keep Kq74) (rm_a20_0 l Z a0 hw [] G GG b65 a1 T74.heap O74_ f80 (((A65.keep Kq66).keep Kq70).keep Kq74) g_b65 f81 f82 f75) rfl d69_54 rfl rfl (by decide) ?_
      intro v83 T83 L83 Lc83 X83 hQ83 l83
      obtain ⟨b6q2q2q5q83, k6q2q2q5q83, rfl, Nq83, Kq83, p83_0, p83_1, p83_2, p83_3, p83_4, p83_5, p83_6⟩ := hQ83
      have O83_ := extKeep O74_ Kq83 (allS g_b65 all0)
      have K83 := Keep.trans K74 Kq83 (allS (Or.inr sz_b65) all0)
      have N83_ := frA l83 N78_ Nq83
      have g_b6q2q2q5q83 := Nat.le_trans O74_.1 p83_3
      have sz_b6q2q2q5q83 := Nat.le_trans K74.1 p83_3
      refine t_pop X83 u d69_59 rfl ?_
      refine t_go 60 19 X83 u rfl d69_60 (by decide) ?_
      refine t_aL X83 u d69_19 rfl rfl ?_
      have f84 := (p74_0.keep Kq83 (ninS (Ne.symm (neL (A65.keep Kq66).lt p70_0)) nin0))
      have f85 := (p74_2.keep Kq83 (ninS (Ne.symm (neL (A65.keep Kq66).lt p70_0)) nin0))
      refine pt_cI [] [] 0 X83 u hZ hown (wd hw 222 rfl) (m_6 hw) rfl ((p70_1.keep Kq74).keep Kq83) (rm_a66_1 l Z a0 hw [] G GG b1q70 (1 : Int32) (2 : Int32) T83.heap O83_ f84 f85 (by decide)) rfl d69_21 rfl rfl (by decide) N83_ ?_
      intro T86 L86 X86 e86 N86_
      refine t_ifN X86 u d69_26 ((if0 _ _).trans (feq (by decide : ¬ ((1 : Int32) = (0 : Int32)))).1) ?_
      refine t_aL X86 u d69_29 rfl rfl ?_
      have f87 := (p74_1.keep Kq83 (ninS (Ne.symm (neL (A65.keep Kq66).lt p70_0)) nin0))
      have f88 := (((f69.keep Kq70 nin0).keep Kq74 (ninS (neL ((Exa.ext E65 Eli).keep Kq66).lt p70_0) nin0)).keep Kq83 (ninS (neE Eli.lt hb65) nin0))
      have f89 := ((((Exa.ext E65 Ea2).keep Kq66).keep Kq70).keep Kq74)
      have f90 := (((f69.keep Kq70 nin0).keep Kq74 (ninS (neL ((Exa.ext E65 Eli).keep Kq66).lt p70_0) nin0)).keep Kq83 (ninS (neE Eli.lt hb65) nin0))
      have f91 := ((((Exa.ext E65 Ea2).keep Kq66).keep Kq70).keep Kq74)
      have f92 := (p74_3.keep Kq83 (ninS (Ne.symm (neL (A65.keep Kq66).lt p70_0)) nin0))
      have f93 := (((f69.keep Kq70 nin0).keep Kq74 (ninS (neL ((Exa.ext E65 Eli).keep Kq66).lt p70_0) nin0)).keep Kq83 (ninS (neE Eli.lt hb65) nin0))
      have f94 := ((((Exa.ext E65 Ea2).keep Kq66).keep Kq70).keep Kq74)
      have f95 := (p74_3.keep Kq83 (ninS (Ne.symm (neL (A65.keep Kq66).lt p70_0)) nin0))
      obtain ⟨cq96, kq96, q96a, q96b, q96c⟩ := isOf hZ e86 ((p70_1.keep Kq74).keep Kq83)
      obtain ⟨_, _, ⟨T96, L96, k96, n96⟩, -, X96, ⟨Lc96, hQ96, l96, y96, z96⟩, st96⟩ := X86.interfaceBack hx (xi := (⟨"java/util/Iterator", "next", "()Ljava/lang/Object;"⟩ : MethodName)) (y := (⟨"java/util/ImmutableCollections$ListItr", "next", "()Ljava/lang/Object;"⟩ : MethodName)) hown (mvT hZ (wd hw 234 rfl)) (mvT hZ (wd hw 235 rfl)) (mvT hZ (wd hw 236 rfl)) (mvT hZ (wd hw 480 rfl)) (mvT hZ (wd hw 481 rfl)) (mvT hZ (wd hw 482 rfl)) (mvT hZ (wd hw 483 rfl)) (mvT hZ (wd hw 478 rfl)) (by decide) (backOfWith (W := 0) (rm_a67_1 l Z a0 hw [] G GG b1q70 (1 : Int32) li a2 (2 : Int32) (0 : Int32) T83.heap O83_ f84 f87 ((f72.keep Kq74).keep Kq83) (by decide) (by decide) f93 (f94.keep Kq83) ((p70_1.keep Kq74).keep Kq83) g_b1q70 f85 f95) hZ (wd hw 484 rfl) (wd hw 456 rfl) (by decide) (by decide)) q96a q96b q96c (g := (mkF m 31 #[.val (.ref x0), .val (.long x1), .second, .val (.ref b65), .val (.ref b1q70), .val (.ref a1)] [(.ref b1q70)])) rfl (by rw [hml]; rfl) (Steps.refl _) (argsL := []) (rest := []) (lenOf pd_LRLjava_lang_Object_ rfl) rfl (by show 2 * 0 + _ ≤ _; exact Nat.le_of_eq rfl) (hb hby d69_31) (fun _ _ => ⟨rfl, e86, (by decide : 3 + 0 ≤ _), (by decide : 17 + 0 ≤ _)⟩)
      dsimp only [Pt.U, Pt.locs, Pt.cells, Pt.slots] at X96 l96 y96 z96 st96 hQ96
      subst y96 z96
      obtain ⟨rfl, Nq96, Kq96, p96_0, p96_1, p96_2, p96_3⟩ := hQ96
      have O96_ := extKeep O83_ Kq96 (allS g_b1q70 all0)
      have K96 := Keep.trans K83 Kq96 (allS (Or.inr sz_b1q70) all0)
      have N96_ := frA l96 N86_ Nq96
      refine Go.trans st96 ?_
      obtain ⟨T97, X97, e97, st97⟩ := castY X96 hx hZ hown (wd hw 138 rfl) rfl (Ins.self ((f94.keep Kq83).keep Kq96)) (g := (mkF m 36 #[.val (.ref x0), .val (.long x1), .second, .val (.ref b65), .val (.ref b1q70), .val (.ref a1)] [(.ref a2)])) rfl rfl (hb hby d69_36)
      refine Go.step st97 ?_
      refine t_asL X97 u d69_39 rfl (l' := #[.val (.ref x0), .val (.long x1), .second, .val (.ref b65), .val (.ref b1q70), .val (.ref a2)]) rfl ?_
      refine t_aL X97 u d69_41 rfl rfl ?_
      have f98 := ((((Fld.ext E65 Fq2).keep Kq66 (ninS (neE Ea2.lt hb65) nin0)).keep Kq70 nin0).keep Kq74 (ninS (neL ((Exa.ext E65 Ea2).keep Kq66).lt p70_0) nin0))
      have f99 := ((f98.keep Kq83 (ninS (neE Ea2.lt hb65) nin0)).keep Kq96 (ninS (neL ((Exa.ext E65 Ea2).keep Kq66).lt p70_0) nin0))
      refine pt_cV [] [] 0 X97 u hZ hown (wd hw 257 rfl) (m_19 hw) e97 ((f94.keep Kq83).keep Kq96) (rm_a35_0 l Z a0 hw [] G GG a2 q2 T96.heap O96_ f99) rfl d69_43 rfl rfl (by decide) N96_ ?_
      intro T100 L100 X100 e100 N100_
      refine t_lN X100 u d69_46 rfl ?_
      refine Go.step (fun _ kt_ => XS.lcmp X100.here hx rfl (hb hby d69_47) rfl kt_) ?_
      by_cases hc48_101 : (lcmpW q2 x1) < (0 : Int32)
      · refine t_ifN X100 u d69_48 ((if0 _ _).trans (tlt hc48_101).2.1) ?_
        refine t_aN X100 u d69_51 rfl rfl ?_
        refine t_aL X100 u d69_52 rfl rfl ?_
        have f102 := ((((A65.keep Kq66).keep Kq70).keep Kq74).keep Kq83)
        have f103 := (p83_2.keep Kq96 (ninS (neL (A65.keep Kq66).lt p70_0) nin0))
        have f104 := (p83_0.keep Kq96 (ninS (neL (A65.keep Kq66).lt p70_0) nin0))
        have f105 := (p83_1.keep Kq96 (ninS (neL (A65.keep Kq66).lt p70_0) nin0))
        have f106 := (p83_5.keep Kq96 (ninS (Ne.symm (neL (p70_1.keep Kq74).lt p83_3)) nin0))
        have f107 := (p83_0.keep Kq96 (ninS (neL (A65.keep Kq66).lt p70_0) nin0))
        have f108 := (p83_1.keep Kq96 (ninS (neL (A65.keep Kq66).lt p70_0) nin0))
        have f109 := (p83_5.keep Kq96 (ninS (Ne.symm (neL (p70_1.keep Kq74).lt p83_3)) nin0))
        have f110 := (p83_0.keep Kq96 (ninS (neL (A65.keep Kq66).lt p70_0) nin0))
        have f111 := (p83_1.keep Kq96 (ninS (neL (A65.keep Kq66).lt p70_0) nin0))
        have f112 := (p83_5.keep Kq96 (ninS (Ne.symm (neL (p70_1.keep Kq74).lt p83_3)) nin0))
        have f113 := (p83_0.keep Kq96 (ninS (neL (A65.keep Kq66).lt p70_0) nin0))
        have f114 := (p83_1.keep Kq96 (ninS (neL (A65.keep Kq66).lt p70_0) nin0))
        have f115 := (p83_5.keep Kq96 (ninS (Ne.symm (neL (p70_1.keep Kq74).lt p83_3)) nin0))
        refine t_cI [(.ref a2)] [] 0 X100 u hZ hown (wd hw 154 rfl) (m_24 hw) e100 (f102.keep Kq96) (rm_a20_1 l Z a0 hw [] G GG b65 a2 b6q2q2q5q83 k6q2q2q5q83 a1 T96.heap O96_ f103 (f102.keep Kq96) g_b65 f113 f114 f115 (Ne.symm (neL (((A65.keep Kq66).keep Kq70).keep Kq74).lt p83_3)) p83_6 ((f94.keep Kq83).keep Kq96) g_b6q2q2q5q83) rfl d69_54 rfl rfl (by decide) ?_
        intro v116 T116 L116 Lc116 X116 hQ116 l116
        obtain ⟨rfl, Nq116, Kq116, p116_0, p116_1, p116_2, p116_3⟩ := hQ116
        have O116_ := extKeep O96_ Kq116 (allS g_b65 (allS g_b6q2q2q5q83 all0))
        have K116 := Keep.trans K96 Kq116 (allS (Or.inr sz_b65) (allS (Or.inr sz_b6q2q2q5q83) all0))
        have N116_ := frA l116 N100_ Nq116
        refine t_pop X116 u d69_59 rfl ?_
        refine t_go 60 19 X116 u rfl d69_60 (by decide) ?_
        refine t_aL X116 u d69_19 rfl rfl ?_
        have f117 := ((((p70_1.keep Kq74).keep Kq83).keep Kq96).keep Kq116)
        have f118 := (p96_0.keep Kq116 (ninS (Ne.symm (neL (A65.keep Kq66).lt p70_0)) (ninS (neL (p70_1.keep Kq74).lt p83_3) nin0)))
        have f119 := (p96_2.keep Kq116 (ninS (Ne.symm (neL (A65.keep Kq66).lt p70_0)) (ninS (neL (p70_1.keep Kq74).lt p83_3) nin0)))
        refine pt_cI [] [] 0 X116 u hZ hown (wd hw 222 rfl) (m_6 hw) rfl f117 (rm_a66_0 l Z a0 hw [] G GG b1q70 (2 : Int32) (2 : Int32) T116.heap O116_ f118 f119 (by decide)) rfl d69_21 rfl rfl (by decide) N116_ ?_
        intro T120 L120 X120 e120 N120_
        refine t_ifY 26 63 X120 u rfl d69_26 ((if0 _ _).trans (teq (by decide : (0 : Int32) = (0 : Int32))).1) (by decide) ?_
        refine t_new X120 u hZ hown (wd hw 190 rfl) (wd hw 191 rfl) (wd hw 2 rfl) e120 d69_63 (by decide) ?_
        intro T121 h121 b121 X121 e121 E121 hb121 A121 D121
        have g_b121 := leE O116_.1 hb121
        have O121_ := extTr O116_ E121
        have sz_b121 := leE K116.1 hb121
        have K121 := Keep.ext K116 E121
        have F121_entries : fl_2 Z h121 b121 .null := D121 (Or.inr (wd hw 31 rfl)) (ty := (.object "java/util/List")) pf_Ljava_util_List_
        refine t_dup X121 u d69_66 rfl ?_
        refine t_aN X121 u d69_67 rfl rfl ?_
        have f122 := (Exa.ext E121 ((f102.keep Kq96).keep Kq116))
        have f123 := (Exa.ext E121 (((f75.keep Kq83).keep Kq96).keep Kq116))
        have f124 := ((((Fld.ext E65 Fp1).keep Kq66 (ninS (neE Ea1.lt hb65) nin0)).keep Kq70 nin0).keep Kq74 (ninS (neL ((Exa.ext E65 Ea1).keep Kq66).lt p70_0) nin0))
        have f125 := (Fld.ext E121 (((f124.keep Kq83 (ninS (neE Ea1.lt hb65) nin0)).keep Kq96 (ninS (neL ((Exa.ext E65 Ea1).keep Kq66).lt p70_0) nin0)).keep Kq116 (ninS (neE Ea1.lt hb65) (ninS (neL f75.lt p83_3) nin0))))
        have f126 := (Fld.ext E121 (((f77.keep Kq83 (ninS (neE Ea1.lt hb65) nin0)).keep Kq96 (ninS (neL ((Exa.ext E65 Ea1).keep Kq66).lt p70_0) nin0)).keep Kq116 (ninS (neE Ea1.lt hb65) (ninS (neL f75.lt p83_3) nin0))))
        have f127 := (Exa.ext E121 (((f94.keep Kq83).keep Kq96).keep Kq116))
        have f128 := ((((Fld.ext E65 Fp2).keep Kq66 (ninS (neE Ea2.lt hb65) nin0)).keep Kq70 nin0).keep Kq74 (ninS (neL ((Exa.ext E65 Ea2).keep Kq66).lt p70_0) nin0))
        have f129 := (Fld.ext E121 (((f128.keep Kq83 (ninS (neE Ea2.lt hb65) nin0)).keep Kq96 (ninS (neL ((Exa.ext E65 Ea2).keep Kq66).lt p70_0) nin0)).keep Kq116 (ninS (neE Ea2.lt hb65) (ninS (neL f94.lt p83_3) nin0))))
        have f130 := (Fld.ext E121 (f99.keep Kq116 (ninS (neE Ea2.lt hb65) (ninS (neL f94.lt p83_3) nin0))))
        have f131 := (Exa.ext E121 (((f75.keep Kq83).keep Kq96).keep Kq116))
        have f132 := ((((Fld.ext E65 Fp1).keep Kq66 (ninS (neE Ea1.lt hb65) nin0)).keep Kq70 nin0).keep Kq74 (ninS (neL ((Exa.ext E65 Ea1).keep Kq66).lt p70_0) nin0))
        have f133 := (Fld.ext E121 (((f132.keep Kq83 (ninS (neE Ea1.lt hb65) nin0)).keep Kq96 (ninS (neL ((Exa.ext E65 Ea1).keep Kq66).lt p70_0) nin0)).keep Kq116 (ninS (neE Ea1.lt hb65) (ninS (neL f75.lt p83_3) nin0))))
        have f134 := (Fld.ext E121 (((f77.keep Kq83 (ninS (neE Ea1.lt hb65) nin0)).keep Kq96 (ninS (neL ((Exa.ext E65 Ea1).keep Kq66).lt p70_0) nin0)).keep Kq116 (ninS (neE Ea1.lt hb65) (ninS (neL f75.lt p83_3) nin0))))
        have f135 := (Exa.ext E121 (((f94.keep Kq83).keep Kq96).keep Kq116))
        have f136 := ((((Fld.ext E65 Fp2).keep Kq66 (ninS (neE Ea2.lt hb65) nin0)).keep Kq70 nin0).keep Kq74 (ninS (neL ((Exa.ext E65 Ea2).keep Kq66).lt p70_0) nin0))
        have f137 := (Fld.ext E121 (((f136.keep Kq83 (ninS (neE Ea2.lt hb65) nin0)).keep Kq96 (ninS (neL ((Exa.ext E65 Ea2).keep Kq66).lt p70_0) nin0)).keep Kq116 (ninS (neE Ea2.lt hb65) (ninS (neL f94.lt p83_3) nin0))))
        have f138 := (Fld.ext E121 (f99.keep Kq116 (ninS (neE Ea2.lt hb65) (ninS (neL f94.lt p83_3) nin0))))
        have f139 := (Exa.ext E121 (((f75.keep Kq83).keep Kq96).keep Kq116))
        have f140 := ((((Fld.ext E65 Fp1).keep Kq66 (ninS (neE Ea1.lt hb65) nin0)).keep Kq70 nin0).keep Kq74 (ninS (neL ((Exa.ext E65 Ea1).keep Kq66).lt p70_0) nin0))
        have f141 := (Fld.ext E121 (((f140.keep Kq83 (ninS (neE Ea1.lt hb65) nin0)).keep Kq96 (ninS (neL ((Exa.ext E65 Ea1).keep Kq66).lt p70_0) nin0)).keep Kq116 (ninS (neE Ea1.lt hb65) (ninS (neL f75.lt p83_3) nin0))))
        have f142 := (Fld.ext E121 (((f77.keep Kq83 (ninS (neE Ea1.lt hb65) nin0)).keep Kq96 (ninS (neL ((Exa.ext E65 Ea1).keep Kq66).lt p70_0) nin0)).keep Kq116 (ninS (neE Ea1.lt hb65) (ninS (neL f75.lt p83_3) nin0))))
        have f143 := (Exa.ext E121 (((f94.keep Kq83).keep Kq96).keep Kq116))
        have f144 := ((((Fld.ext E65 Fp2).keep Kq66 (ninS (neE Ea2.lt hb65) nin0)).keep Kq70 nin0).keep Kq74 (ninS (neL ((Exa.ext E65 Ea2).keep Kq66).lt p70_0) nin0))
        have f145 := (Fld.ext E121 (((f144.keep Kq83 (ninS (neE Ea2.lt hb65) nin0)).keep Kq96 (ninS (neL ((Exa.ext E65 Ea2).keep Kq66).lt p70_0) nin0)).keep Kq116 (ninS (neE Ea2.lt hb65) (ninS (neL f94.lt p83_3) nin0))))
        have f146 := (Fld.ext E121 (f99.keep Kq116 (ninS (neE Ea2.lt hb65) (ninS (neL f94.lt p83_3) nin0))))
        refine t_cN [(.ref b65)] [(.ref b121)] 1 X121 u hZ hown rfl (wd hw 192 rfl) (m_15 hw) e121 (rm_a26_2 l Z a0 hw [] G GG b121 b65 (2 : Int32) (2 : Int32) b6q2q2q5q83 k6q2q2q5q83 a1 a2 p1 q1 p2 q2 h121 O121_ f122 (Fld.ext E121 p116_1) (Fld.ext E121 p116_0) (by decide) (by decide) (by decide) (Fld.ext E121 p116_2) (p116_3.ext E121) f139 f141 np1 f142 nq1 (by decide) (by decide) f143 f145 np2 f146 nq2 hpp hqq (by decide) A121 F121_entries g_b121) rfl d69_68 rfl rfl (by decide) ?_
        intro v147 T147 L147 Lc147 X147 hQ147 l147
        obtain ⟨b2q5q1q50q147, rfl, Nq147, Kq147, p147_0, p147_1, p147_2, p147_3, p147_4⟩ := hQ147
        have O147_ := extKeep O121_ Kq147 (allS g_b121 all0)
        have K147 := Keep.trans K121 Kq147 (allS (Or.inr sz_b121) all0)
        have N147_ := frA l147 N120_ Nq147
        have g_b2q5q1q50q147 := Nat.le_trans O121_.1 p147_1
        have sz_b2q5q1q50q147 := Nat.le_trans K121.1 p147_1
        have f148 := (f141.keep Kq147 (ninS (neE (((f75.keep Kq83).keep Kq96).keep Kq116).lt hb121) nin0))
        have f149 := (f142.keep Kq147 (ninS (neE (((f75.keep Kq83).keep Kq96).keep Kq116).lt hb121) nin0))
        have f150 := (f145.keep Kq147 (ninS (neE (((f94.keep Kq83).keep Kq96).keep Kq116).lt hb121) nin0))
        have f151 := (f146.keep Kq147 (ninS (neE (((f94.keep Kq83).keep Kq96).keep Kq116).lt hb121) nin0))
        exact Go.retA X147 hx hret rfl rfl hlk (hb hby d69_71) (by decide) (by decide) ⟨b121, rfl, N147_, K147, sz_b121, ⟨(A121.keep Kq147), Or.inr (Or.inr ⟨b2q5q1q50q147, a1, p1, q1, a2, p2, q2, p147_0, p147_2, p147_3, p147_4, (f139.keep Kq147), f148, f149, (f143.keep Kq147), f150, f151, np1, nq1, np2, nq2, hpp, hqq⟩)⟩⟩
      · refine t_ifY 48 60 X100 u rfl d69_48 ((if0 _ _).trans (flt hc48_101).2.1) (by decide) ?_
        refine t_go 60 19 X100 u rfl d69_60 (by decide) ?_
        refine t_aL X100 u d69_19 rfl rfl ?_
        have f152 := (((p70_1.keep Kq74).keep Kq83).keep Kq96)
        refine pt_cI [] [] 0 X100 u hZ hown (wd hw 222 rfl) (m_6 hw) e100 f152 (rm_a66_0 l Z a0 hw [] G GG b1q70 (2 : Int32) (2 : Int32) T96.heap O96_ p96_0 p96_2 (by decide)) rfl d69_21 rfl rfl (by decide) N100_ ?_
        intro T153 L153 X153 e153 N153_
        refine t_ifY 26 63 X153 u rfl d69_26 ((if0 _ _).trans (teq (by decide : (0 : Int32) = (0 : Int32))).1) (by decide) ?_
        refine t_new X153 u hZ hown (wd hw 190 rfl) (wd hw 191 rfl) (wd hw 2 rfl) e153 d69_63 (by decide) ?_
        intro T154 h154 b154 X154 e154 E154 hb154 A154 D154
        have g_b154 := leE O96_.1 hb154
        have O154_ := extTr O96_ E154
        have sz_b154 := leE K96.1 hb154
        have K154 := Keep.ext K96 E154
        have F154_entries : fl_2 Z h154 b154 .null := D154 (Or.inr (wd hw 31 rfl)) (ty := (.object "java/util/List")) pf_Ljava_util_List_
        refine t_dup X154 u d69_66 rfl ?_
        refine t_aN X154 u d69_67 rfl rfl ?_
        have f155 := ((((A65.keep Kq66).keep Kq70).keep Kq74).keep Kq83)
        have f156 := (Fld.ext E154 (p83_2.keep Kq96 (ninS (neL (A65.keep Kq66).lt p70_0) nin0)))
        have f157 := (Fld.ext E154 (p83_1.keep Kq96 (ninS (neL (A65.keep Kq66).lt p70_0) nin0)))
        have f158 := (Fld.ext E154 (p83_0.keep Kq96 (ninS (neL (A65.keep Kq66).lt p70_0) nin0)))
        have f159 := ((p83_5.keep Kq96 (ninS (Ne.symm (neL (p70_1.keep Kq74).lt p83_3)) nin0)).ext E154)
        have f160 := (Exa.ext E154 ((f75.keep Kq83).keep Kq96))
        have f161 := ((((Fld.ext E65 Fp1).keep Kq66 (ninS (neE Ea1.lt hb65) nin0)).keep Kq70 nin0).keep Kq74 (ninS (neL ((Exa.ext E65 Ea1).keep Kq66).lt p70_0) nin0))
        have f162 := (Fld.ext E154 ((f161.keep Kq83 (ninS (neE Ea1.lt hb65) nin0)).keep Kq96 (ninS (neL ((Exa.ext E65 Ea1).keep Kq66).lt p70_0) nin0)))
        have f163 := (Fld.ext E154 ((f77.keep Kq83 (ninS (neE Ea1.lt hb65) nin0)).keep Kq96 (ninS (neL ((Exa.ext E65 Ea1).keep Kq66).lt p70_0) nin0)))
        refine t_cN [(.ref b65)] [(.ref b154)] 1 X154 u hZ hown rfl (wd hw 192 rfl) (m_15 hw) e154 (rm_a26_1 l Z a0 hw [] G GG b154 b65 (1 : Int32) (1 : Int32) b6q2q2q5q83 k6q2q2q5q83 a1 p1 q1 h154 O154_ (Exa.ext E154 (f155.keep Kq96)) f156 f157 (by decide) (by decide) (by decide) f158 f159 f160 f162 np1 f163 nq1 (by decide) A154 F154_entries g_b154) rfl d69_68 rfl rfl (by decide) ?_
        intro v164 T164 L164 Lc164 X164 hQ164 l164
        obtain ⟨b2q5q1q25q164, rfl, Nq164, Kq164, p164_0, p164_1, p164_2, p164_3, p164_4⟩ := hQ164
        have O164_ := extKeep O154_ Kq164 (allS g_b154 all0)
        have K164 := Keep.trans K154 Kq164 (allS (Or.inr sz_b154) all0)
        have N164_ := frA l164 N153_ Nq164
        have g_b2q5q1q25q164 := Nat.le_trans O154_.1 p164_1
        have sz_b2q5q1q25q164 := Nat.le_trans K154.1 p164_1
        have f165 := (f162.keep Kq164 (ninS (neE ((f75.keep Kq83).keep Kq96).lt hb154) nin0))
        have f166 := (f163.keep Kq164 (ninS (neE ((f75.keep Kq83).keep Kq96).lt hb154) nin0))
        exact Go.retA X164 hx hret rfl rfl hlk (hb hby d69_71) (by decide) (by decide) ⟨b154, rfl, N164_, K164, sz_b154, ⟨(A154.keep Kq164), Or.inr (Or.inl ⟨b2q5q1q25q164, a1, p1, q1, p164_0, p164_2, p164_3, p164_4, (f160.keep Kq164), f165, f166, np1, nq1⟩)⟩⟩
    · refine t_ifY 48 60 X78 u rfl d69_48 ((if0 _ _).trans (flt hc48_79).2.1) (by decide) ?_
      refine t_go 60 19 X78 u rfl d69_60 (by decide) ?_
      refine t_aL X78 u d69_19 rfl rfl ?_
      refine pt_cI [] [] 0 X78 u hZ hown (wd hw 222 rfl) (m_6 hw) e78 (p70_1.keep Kq74) (rm_a66_1 l Z a0 hw [] G GG b1q70 (1 : Int32) (2 : Int32) T74.heap O74_ p74_0 p74_2 (by decide)) rfl d69_21 rfl rfl (by decide) N78_ ?_
      intro T167 L167 X167 e167 N167_
      refine t_ifN X167 u d69_26 ((if0 _ _).trans (feq (by decide : ¬ ((1 : Int32) = (0 : Int32)))).1) ?_
      refine t_aL X167 u d69_29 rfl rfl ?_
      have f168 := ((f69.keep Kq70 nin0).keep Kq74 (ninS (neL ((Exa.ext E65 Eli).keep Kq66).lt p70_0) nin0))
      have f169 := ((((Exa.ext E65 Ea2).keep Kq66).keep Kq70).keep Kq74)
      obtain ⟨cq170, kq170, q170a, q170b, q170c⟩ := isOf hZ e167 (p70_1.keep Kq74)
      obtain ⟨_, _, ⟨T170, L170, k170, n170⟩, -, X170, ⟨Lc170, hQ170, l170, y170, z170⟩, st170⟩ := X167.interfaceBack hx (xi := (⟨"java/util/Iterator", "next", "()Ljava/lang/Object;"⟩ : MethodName)) (y := (⟨"java/util/ImmutableCollections$ListItr", "next", "()Ljava/lang/Object;"⟩ : MethodName)) hown (mvT hZ (wd hw 234 rfl)) (mvT hZ (wd hw 235 rfl)) (mvT hZ (wd hw 236 rfl)) (mvT hZ (wd hw 480 rfl)) (mvT hZ (wd hw 481 rfl)) (mvT hZ (wd hw 482 rfl)) (mvT hZ (wd hw 483 rfl)) (mvT hZ (wd hw 478 rfl)) (by decide) (backOfWith (W := 0) (rm_a67_1 l Z a0 hw [] G GG b1q70 (1 : Int32) li a2 (2 : Int32) (0 : Int32) T74.heap O74_ p74_0 p74_1 (f72.keep Kq74) (by decide) (by decide) f168 f169 (p70_1.keep Kq74) g_b1q70 p74_2 p74_3) hZ (wd hw 484 rfl) (wd hw 456 rfl) (by decide) (by decide)) q170a q170b q170c (g := (mkF m 31 #[.val (.ref x0), .val (.long x1), .second, .val (.ref b65), .val (.ref b1q70), .val (.ref a1)] [(.ref b1q70)])) rfl (by rw [hml]; rfl) (Steps.refl _) (argsL := []) (rest := []) (lenOf pd_LRLjava_lang_Object_ rfl) rfl (by show 2 * 0 + _ ≤ _; exact Nat.le_of_eq rfl) (hb hby d69_31) (fun _ _ => ⟨rfl, e167, (by decide : 2 + 0 ≤ _), (by decide : 7 + 0 ≤ _)⟩)
      dsimp only [Pt.U, Pt.locs, Pt.cells, Pt.slots] at X170 l170 y170 z170 st170 hQ170
      subst y170 z170
      obtain ⟨rfl, Nq170, Kq170, p170_0, p170_1, p170_2, p170_3⟩ := hQ170
      have O170_ := extKeep O74_ Kq170 (allS g_b1q70 all0)
      have K170 := Keep.trans K74 Kq170 (allS (Or.inr sz_b1q70) all0)
      have N170_ := frA l170 N167_ Nq170
      refine Go.trans st170 ?_
      obtain ⟨T171, X171, e171, st171⟩ := castY X170 hx hZ hown (wd hw 138 rfl) rfl (Ins.self (f169.keep Kq170)) (g := (mkF m 36 #[.val (.ref x0), .val (.long x1), .second, .val (.ref b65), .val (.ref b1q70), .val (.ref a1)] [(.ref a2)])) rfl rfl (hb hby d69_36)
      refine Go.step st171 ?_
      refine t_asL X171 u d69_39 rfl (l' := #[.val (.ref x0), .val (.long x1), .second, .val (.ref b65), .val (.ref b1q70), .val (.ref a2)]) rfl ?_
      refine t_aL X171 u d69_41 rfl rfl ?_
      have f172 := ((((Fld.ext E65 Fq2).keep Kq66 (ninS (neE Ea2.lt hb65) nin0)).keep Kq70 nin0).keep Kq74 (ninS (neL ((Exa.ext E65 Ea2).keep Kq66).lt p70_0) nin0))
      have f173 := (f172.keep Kq170 (ninS (neL ((Exa.ext E65 Ea2).keep Kq66).lt p70_0) nin0))
      refine pt_cV [] [] 0 X171 u hZ hown (wd hw 257 rfl) (m_19 hw) e171 (f169.keep Kq170) (rm_a35_0 l Z a0 hw [] G GG a2 q2 T170.heap O170_ f173) rfl d69_43 rfl rfl (by decide) N170_ ?_
      intro T174 L174 X174 e174 N174_
      refine t_lN X174 u d69_46 rfl ?_
      refine Go.step (fun _ kt_ => XS.lcmp X174.here hx rfl (hb hby d69_47) rfl kt_) ?_
      by_cases hc48_175 : (lcmpW q2 x1) < (0 : Int32)
      · exact absurd hc48_175 (own_q hc48_79 hqq)
      · refine t_ifY 48 60 X174 u rfl d69_48 ((if0 _ _).trans (flt hc48_175).2.1) (by decide) ?_
        refine t_go 60 19 X174 u rfl d69_60 (by decide) ?_
        refine t_aL X174 u d69_19 rfl rfl ?_
        refine pt_cI [] [] 0 X174 u hZ hown (wd hw 222 rfl) (m_6 hw) e174 ((p70_1.keep Kq74).keep Kq170) (rm_a66_0 l Z a0 hw [] G GG b1q70 (2 : Int32) (2 : Int32) T170.heap O170_ p170_0 p170_2 (by decide)) rfl d69_21 rfl rfl (by decide) N174_ ?_
        intro T176 L176 X176 e176 N176_
        refine t_ifY 26 63 X176 u rfl d69_26 ((if0 _ _).trans (teq (by decide : (0 : Int32) = (0 : Int32))).1) (by decide) ?_
        refine t_new X176 u hZ hown (wd hw 190 rfl) (wd hw 191 rfl) (wd hw 2 rfl) e176 d69_63 (by decide) ?_
        intro T177 h177 b177 X177 e177 E177 hb177 A177 D177
        have g_b177 := leE O170_.1 hb177
        have O177_ := extTr O170_ E177
        have sz_b177 := leE K170.1 hb177
        have K177 := Keep.ext K170 E177
        have F177_entries : fl_2 Z h177 b177 .null := D177 (Or.inr (wd hw 31 rfl)) (ty := (.object "java/util/List")) pf_Ljava_util_List_
        refine t_dup X177 u d69_66 rfl ?_
        refine t_aN X177 u d69_67 rfl rfl ?_
        have f178 := ((((A65.keep Kq66).keep Kq70).keep Kq74).keep Kq170)
        have f179 := (Fld.ext E177 (((p66_0.keep Kq70 nin0).keep Kq74 (ninS (neL (A65.keep Kq66).lt p70_0) nin0)).keep Kq170 (ninS (neL (A65.keep Kq66).lt p70_0) nin0)))
        have f180 := (Fld.ext E177 (((p66_1.keep Kq70 nin0).keep Kq74 (ninS (neL (A65.keep Kq66).lt p70_0) nin0)).keep Kq170 (ninS (neL (A65.keep Kq66).lt p70_0) nin0)))
        refine t_cN [(.ref b65)] [(.ref b177)] 1 X177 u hZ hown rfl (wd hw 192 rfl) (m_15 hw) e177 (rm_a26_0 l Z a0 hw [] G GG b177 b65 (0 : Int32) (0 : Int32) h177 O177_ (Exa.ext E177 f178) f179 f180 (by decide) A177 F177_entries g_b177) rfl d69_68 rfl rfl (by decide) ?_
        intro v181 T181 L181 Lc181 X181 hQ181 l181
        obtain ⟨rfl, Nq181, Kq181, p181_0⟩ := hQ181
        have O181_ := extKeep O177_ Kq181 (allS g_b177 all0)
        have K181 := Keep.trans K177 Kq181 (allS (Or.inr sz_b177) all0)
        have N181_ := frA l181 N176_ Nq181
        exact Go.retA X181 hx hret rfl rfl hlk (hb hby d69_71) (by decide) (by decide) ⟨b177, rfl, N181_, K181, sz_b177, ⟨(A177.keep Kq181), Or.inl p181_0⟩⟩
theorem pn_62 : plainName "com/example/clean_epoch/cleanepoch/log/EpochEnd" = true := by first | (simp [plainName, overriddenIn]; done) | decide +kernel
theorem rm_a62_0 (x0 : Addr) (w1 : Int64) (h0 : Heap) (O0 : Ext Z.heap h0) (r0 : fl_26 Z h0 x0 (.long w1)) :
    MF hw GG l y_62 prog_19_method_7_code 1 (some .long) ws ⟨0, 0, 0, 0⟩ h0 #[(.ref x0)] (Qp (some (.long w1)) Z h0) := by
  refine own_mF #[.val (.ref x0)] (plainFor_of_name pn_62) (fun _ => rfl) ?_
  intro p e s m below meth c s₁ u hlk hret hZ hown hnm X0 e0 N0
  refine t_aN X0 u d62_0 rfl rfl ?_
  refine t_gF X0 u hZ hown (wd hw 419 rfl) e0 r0 d62_1 ?_
  intro T1 X1 e1
  exact t_rJ X1 u hret hlk d62_4 e1 N0 (by decide)
theorem pn_3 : plainName "com/example/clean_epoch/cleanepoch/log/EpochEnd" = true := by first | (simp [plainName, overriddenIn]; done) | decide +kernel
theorem rm_a3_0 (x0 : Addr) (w1 : Int32) (h0 : Heap) (O0 : Ext Z.heap h0) (r0 : fl_1 Z h0 x0 (.int w1)) :
    MF hw GG l y_3 prog_19_method_6_code 1 (some .int) ws ⟨0, 0, 0, 0⟩ h0 #[(.ref x0)] (Qp (some (.int w1)) Z h0) := by
  refine own_mF #[.val (.ref x0)] (plainFor_of_name pn_3) (fun _ => rfl) ?_
  intro p e s m below meth c s₁ u hlk hret hZ hown hnm X0 e0 N0
  refine t_aN X0 u d3_0 rfl rfl ?_
  refine t_gF X0 u hZ hown (wd hw 21 rfl) e0 r0 d3_1 ?_
  intro T1 X1 e1
  exact t_rI X1 u hret hlk d3_4 e1 N0 (by decide)
theorem pn_63 : plainName "com/example/clean_epoch/cleanepoch/log/Lineage" = true := by first | (simp [plainName, overriddenIn]; done) | decide +kernel
def Q_a63_0 (Z : State) (x2 : Int64) (h0 : Heap) (v : Option Value) (h : Heap) (L : List Loc) : Prop := v = some (.long x2) ∧ Fr Z.heap.size L ∧ Keep h0 h []
theorem rm_a63_0 (x0 : Addr) (x1 : Int32) (x2 : Int64) (h0 : Heap) (O0 : Ext Z.heap h0) (r0 : fl_2 Z h0 x0 (.ref G.el)) :
    MF hw GG l y_63 prog_22_method_6_code 6 (some .long) ws ⟨3, 1, 4, 39⟩ h0 #[(.ref x0), (.int x1), (.long x2)] (Q_a63_0 Z x2 h0) := by
  refine own_mF #[.val (.ref x0), .val (.int x1), .val (.long x2), .second, .unset, .unset] (plainFor_of_name pn_63) (fun _ => rfl) ?_
  intro p e s m below meth c s₁ u hlk hret hZ hown hnm X0 e0 N0
  obtain ⟨hx, hby, hml⟩ := id u
  refine t_aN X0 u d63_0 rfl rfl ?_
  refine t_gF X0 u hZ hown (wd hw 30 rfl) e0 r0 d63_1 ?_
  intro T1 X1 e1
  refine t_cI [] [] 0 X1 u hZ hown (wd hw 199 rfl) (m_5 hw) e1 (Exa.ext O0 GG.G_ele) (rm_a64_0 l Z a0 hw [] G GG  h0 O0 ) rfl d63_4 rfl rfl (by decide) ?_
  intro v2 T2 L2 Lc2 X2 hQ2 l2
  obtain ⟨b1q2, rfl, Nq2, Kq2, p2_0, p2_1, p2_2, p2_3, p2_4, p2_5⟩ := hQ2
  have O2_ := extKeep O0 Kq2 all0
  have K2 := Keep.trans (Keep.refl h0 []) Kq2 all0
  have N2_ := frA l2 N0 Nq2
  have g_b1q2 := Nat.le_trans O0.1 p2_0
  have sz_b1q2 := Nat.le_trans (Keep.refl h0 []).1 p2_0
  refine t_asL X2 u d63_9 rfl (l' := #[.val (.ref x0), .val (.int x1), .val (.long x2), .second, .val (.ref b1q2), .unset]) rfl ?_
  refine t_aL X2 u d63_11 rfl rfl ?_
  refine pt_cI [] [] 0 X2 u hZ hown (wd hw 222 rfl) (m_6 hw) rfl p2_1 (rm_a66_0 l Z a0 hw [] G GG b1q2 (0 : Int32) (0 : Int32) T2.heap O2_ p2_4 p2_3 (by decide)) rfl d63_13 rfl rfl (by decide) N2_ ?_
  intro T3 L3 X3 e3 N3_
  refine t_ifY 18 51 X3 u rfl d63_18 ((if0 _ _).trans (teq (by decide : (0 : Int32) = (0 : Int32))).1) (by decide) ?_
  refine t_lN X3 u d63_51 rfl ?_
  exact Go.retJ X3 hx hret hlk (hb hby d63_52) (by decide) (by decide) (by show Q_a63_0 ..; rw [e3]; exact ⟨rfl, N3_, K2⟩)
theorem rm_a68_0 (x0 x1 : Int64) (h0 : Heap) (O0 : Ext Z.heap h0) (r0 : (0 : Int32) < (lcmpW x0 x1)) :
    MF hw GG l y_68 jdk_29_method_70_code 4 (some .long) ws ⟨0, 0, 0, 0⟩ h0 #[(.long x0), (.long x1)] (Qp (some (.long x1)) Z h0) := by
  refine own_mF #[.val (.long x0), .second, .val (.long x1), .second] (Jvm.Free.JP.mathPlain rfl (by decide +kernel)) (fun _ => rfl) ?_
  intro p e s m below meth c s₁ u hlk hret hZ hown hnm X0 e0 N0
  obtain ⟨hx, hby, hml⟩ := id u
  refine t_lN X0 u d68_0 rfl ?_
  refine t_lN X0 u d68_1 rfl ?_
  refine Go.step (fun _ kt_ => XS.lcmp X0.here hx rfl (hb hby d68_2) rfl kt_) ?_
  refine t_ifY 3 10 X0 u rfl d68_3 ((if0 _ _).trans (tlt r0).2.2.1) (by decide) ?_
  refine t_lN X0 u d68_10 rfl ?_
  exact t_rJ X0 u hret hlk d68_11 e0 N0 (by decide)
theorem rm_a68_1 (x0 x1 : Int64) (h0 : Heap) (O0 : Ext Z.heap h0) (r0 : ¬ ((0 : Int32) < (lcmpW x0 x1))) :
    MF hw GG l y_68 jdk_29_method_70_code 4 (some .long) ws ⟨0, 0, 0, 0⟩ h0 #[(.long x0), (.long x1)] (Qp (some (.long x0)) Z h0) := by
  refine own_mF #[.val (.long x0), .second, .val (.long x1), .second] (Jvm.Free.JP.mathPlain rfl (by decide +kernel)) (fun _ => rfl) ?_
  intro p e s m below meth c s₁ u hlk hret hZ hown hnm X0 e0 N0
  obtain ⟨hx, hby, hml⟩ := id u
  refine t_lN X0 u d68_0 rfl ?_
  refine t_lN X0 u d68_1 rfl ?_
  refine Go.step (fun _ kt_ => XS.lcmp X0.here hx rfl (hb hby d68_2) rfl kt_) ?_
  refine t_ifN X0 u d68_3 ((if0 _ _).trans (flt r0).2.2.1) ?_
  refine t_lN X0 u d68_6 rfl ?_
  refine t_go 7 11 X0 u rfl d68_7 (by decide) ?_
  exact t_rJ X0 u hret hlk d68_11 e0 N0 (by decide)
def Q_a63_1 (Z : State) (w4 : Int64) (h0 : Heap) (v : Option Value) (h : Heap) (L : List Loc) : Prop := v = some (.long w4) ∧ Fr Z.heap.size L ∧ Keep h0 h []
theorem rm_a63_1 (x0 : Addr) (x1 : Int32) (x2 : Int64) (w1 w2 : Addr) (w3 : Int32) (w4 : Int64) (h0 : Heap) (O0 : Ext Z.heap h0) (r0 : fl_2 Z h0 x0 (.ref w1)) (r1 : ex_4 Z h0 w1) (r2 : fl_4 Z h0 w1 (.ref G.eo)) (r3 : fl_3 Z h0 w1 (.ref w2)) (r4 : ex_5 Z h0 w2) (r5 : fl_5 Z h0 w2 (.int w3)) (r6 : x1 < w3) (r7 : fl_6 Z h0 w2 (.long w4)) :
    MF hw GG l y_63 prog_22_method_6_code 6 (some .long) ws ⟨3, 1, 4, 39⟩ h0 #[(.ref x0), (.int x1), (.long x2)] (Q_a63_1 Z w4 h0) := by
  refine own_mF #[.val (.ref x0), .val (.int x1), .val (.long x2), .second, .unset, .unset] (plainFor_of_name pn_63) (fun _ => rfl) ?_
  intro p e s m below meth c s₁ u hlk hret hZ hown hnm X0 e0 N0
  obtain ⟨hx, hby, hml⟩ := id u
  refine t_aN X0 u d63_0 rfl rfl ?_
  refine t_gF X0 u hZ hown (wd hw 30 rfl) e0 r0 d63_1 ?_
  intro T1 X1 e1
  refine t_cI [] [] 0 X1 u hZ hown (wd hw 199 rfl) (m_17 hw) e1 r1 (rm_a64_1 l Z a0 hw [] G GG w1 h0 O0 r1 r2) rfl d63_4 rfl rfl (by decide) ?_
  intro v2 T2 L2 Lc2 X2 hQ2 l2
  obtain ⟨b1q2, rfl, Nq2, Kq2, p2_0, p2_1, p2_2, p2_3, p2_4, p2_5⟩ := hQ2
  have O2_ := extKeep O0 Kq2 all0
  have K2 := Keep.trans (Keep.refl h0 []) Kq2 all0
  have N2_ := frA l2 N0 Nq2
  have g_b1q2 := Nat.le_trans O0.1 p2_0
  have sz_b1q2 := Nat.le_trans (Keep.refl h0 []).1 p2_0
  refine t_asL X2 u d63_9 rfl (l' := #[.val (.ref x0), .val (.int x1), .val (.long x2), .second, .val (.ref b1q2), .unset]) rfl ?_
  refine t_aL X2 u d63_11 rfl rfl ?_
  refine pt_cI [] [] 0 X2 u hZ hown (wd hw 222 rfl) (m_6 hw) rfl p2_1 (rm_a66_1 l Z a0 hw [] G GG b1q2 (0 : Int32) (1 : Int32) T2.heap O2_ p2_4 p2_3 (by decide)) rfl d63_13 rfl rfl (by decide) N2_ ?_
  intro T3 L3 X3 e3 N3_
  refine t_ifN X3 u d63_18 ((if0 _ _).trans (feq (by decide : ¬ ((1 : Int32) = (0 : Int32)))).1) ?_
  refine t_aL X3 u d63_21 rfl rfl ?_
  obtain ⟨cq4, kq4, q4a, q4b, q4c⟩ := isOf hZ e3 p2_1
  obtain ⟨_, _, ⟨T4, L4, k4, n4⟩, -, X4, ⟨Lc4, hQ4, l4, y4, z4⟩, st4⟩ := X3.interfaceBack hx (xi := (⟨"java/util/Iterator", "next", "()Ljava/lang/Object;"⟩ : MethodName)) (y := (⟨"java/util/ImmutableCollections$ListItr", "next", "()Ljava/lang/Object;"⟩ : MethodName)) hown (mvT hZ (wd hw 234 rfl)) (mvT hZ (wd hw 235 rfl)) (mvT hZ (wd hw 236 rfl)) (mvT hZ (wd hw 480 rfl)) (mvT hZ (wd hw 481 rfl)) (mvT hZ (wd hw 482 rfl)) (mvT hZ (wd hw 483 rfl)) (mvT hZ (wd hw 478 rfl)) (by decide) (backOfWith (W := 0) (rm_a67_0 l Z a0 hw [] G GG b1q2 (0 : Int32) w1 w2 (1 : Int32) (0 : Int32) T2.heap O2_ p2_4 p2_2 (r1.keep Kq2) (by decide) (r3.keep Kq2 nin0) p2_1 g_b1q2 p2_3 p2_5) hZ (wd hw 484 rfl) (wd hw 456 rfl) (by decide) (by decide)) q4a q4b q4c (g := (mkF m 23 #[.val (.ref x0), .val (.int x1), .val (.long x2), .second, .val (.ref b1q2), .unset] [(.ref b1q2)])) rfl (by rw [hml]; rfl) (Steps.refl _) (argsL := []) (rest := []) (lenOf pd_LRLjava_lang_Object_ rfl) rfl (by show 2 * 0 + _ ≤ _; exact Nat.le_of_eq rfl) (hb hby d63_23) (fun _ _ => ⟨rfl, e3, (by decide : 1 + 0 ≤ _), (by decide : 4 + 0 ≤ _)⟩)
  dsimp only [Pt.U, Pt.locs, Pt.cells, Pt.slots] at X4 l4 y4 z4 st4 hQ4
  subst y4 z4
  obtain ⟨rfl, Nq4, Kq4, p4_0, p4_1, p4_2, p4_3⟩ := hQ4
  have O4_ := extKeep O2_ Kq4 (allS g_b1q2 all0)
  have K4 := Keep.trans K2 Kq4 (allS (Or.inr sz_b1q2) all0)
  have N4_ := frA l4 N3_ Nq4
  refine Go.trans st4 ?_
  obtain ⟨T5, X5, e5, st5⟩ := castY X4 hx hZ hown (wd hw 138 rfl) rfl (Ins.self ((r4.keep Kq2).keep Kq4)) (g := (mkF m 28 #[.val (.ref x0), .val (.int x1), .val (.long x2), .second, .val (.ref b1q2), .unset] [(.ref w2)])) rfl rfl (hb hby d63_28)
  refine Go.step st5 ?_
  refine t_asL X5 u d63_31 rfl (l' := #[.val (.ref x0), .val (.int x1), .val (.long x2), .second, .val (.ref b1q2), .val (.ref w2)]) rfl ?_
  refine t_aL X5 u d63_33 rfl rfl ?_
  have f6 := ((r5.keep Kq2 nin0).keep Kq4 (ninS (neL r4.lt p2_0) nin0))
  refine pt_cV [] [] 0 X5 u hZ hown (wd hw 252 rfl) (m_28 hw) e5 ((r4.keep Kq2).keep Kq4) (rm_a34_0 l Z a0 hw [] G GG w2 w3 T4.heap O4_ f6) rfl d63_35 rfl rfl (by decide) N4_ ?_
  intro T7 L7 X7 e7 N7_
  refine t_iN X7 u d63_38 rfl ?_
  refine t_icN X7 u d63_39 (tlt r6).2.2.2 ?_
  refine t_aL X7 u d63_42 rfl rfl ?_
  have f8 := ((r7.keep Kq2 nin0).keep Kq4 (ninS (neL r4.lt p2_0) nin0))
  refine pt_cV [] [] 0 X7 u hZ hown (wd hw 257 rfl) (m_19 hw) e7 ((r4.keep Kq2).keep Kq4) (rm_a35_0 l Z a0 hw [] G GG w2 w4 T4.heap O4_ f8) rfl d63_44 rfl rfl (by decide) N7_ ?_
  intro T9 L9 X9 e9 N9_
  exact Go.retJ X9 hx hret hlk (hb hby d63_47) (by decide) (by decide) (by show Q_a63_1 ..; rw [e9]; exact ⟨rfl, N9_, K4⟩)
def Q_a63_2 (Z : State) (x2 : Int64) (h0 : Heap) (v : Option Value) (h : Heap) (L : List Loc) : Prop := v = some (.long x2) ∧ Fr Z.heap.size L ∧ Keep h0 h []
theorem rm_a63_2 (x0 : Addr) (x1 : Int32) (x2 : Int64) (w1 w2 : Addr) (w3 : Int32) (h0 : Heap) (O0 : Ext Z.heap h0) (r0 : fl_2 Z h0 x0 (.ref w1)) (r1 : ex_4 Z h0 w1) (r2 : fl_4 Z h0 w1 (.ref G.eo)) (r3 : fl_3 Z h0 w1 (.ref w2)) (r4 : ex_5 Z h0 w2) (r5 : fl_5 Z h0 w2 (.int w3)) (r6 : ¬ (x1 < w3)) :
    MF hw GG l y_63 prog_22_method_6_code 6 (some .long) ws ⟨3, 1, 4, 39⟩ h0 #[(.ref x0), (.int x1), (.long x2)] (Q_a63_2 Z x2 h0) := by
  refine own_mF #[.val (.ref x0), .val (.int x1), .val (.long x2), .second, .unset, .unset] (plainFor_of_name pn_63) (fun _ => rfl) ?_
  intro p e s m below meth c s₁ u hlk hret hZ hown hnm X0 e0 N0
  obtain ⟨hx, hby, hml⟩ := id u
  refine t_aN X0 u d63_0 rfl rfl ?_
  refine t_gF X0 u hZ hown (wd hw 30 rfl) e0 r0 d63_1 ?_
  intro T1 X1 e1
  refine t_cI [] [] 0 X1 u hZ hown (wd hw 199 rfl) (m_17 hw) e1 r1 (rm_a64_1 l Z a0 hw [] G GG w1 h0 O0 r1 r2) rfl d63_4 rfl rfl (by decide) ?_
  intro v2 T2 L2 Lc2 X2 hQ2 l2
  obtain ⟨b1q2, rfl, Nq2, Kq2, p2_0, p2_1, p2_2, p2_3, p2_4, p2_5⟩ := hQ2
  have O2_ := extKeep O0 Kq2 all0
  have K2 := Keep.trans (Keep.refl h0 []) Kq2 all0
  have N2_ := frA l2 N0 Nq2
  have g_b1q2 := Nat.le_trans O0.1 p2_0
  have sz_b1q2 := Nat.le_trans (Keep.refl h0 []).1 p2_0
  refine t_asL X2 u d63_9 rfl (l' := #[.val (.ref x0), .val (.int x1), .val (.long x2), .second, .val (.ref b1q2), .unset]) rfl ?_
  refine t_aL X2 u d63_11 rfl rfl ?_
  refine pt_cI [] [] 0 X2 u hZ hown (wd hw 222 rfl) (m_6 hw) rfl p2_1 (rm_a66_1 l Z a0 hw [] G GG b1q2 (0 : Int32) (1 : Int32) T2.heap O2_ p2_4 p2_3 (by decide)) rfl d63_13 rfl rfl (by decide) N2_ ?_
  intro T3 L3 X3 e3 N3_
  refine t_ifN X3 u d63_18 ((if0 _ _).trans (feq (by decide : ¬ ((1 : Int32) = (0 : Int32)))).1) ?_
  refine t_aL X3 u d63_21 rfl rfl ?_
  obtain ⟨cq4, kq4, q4a, q4b, q4c⟩ := isOf hZ e3 p2_1
  obtain ⟨_, _, ⟨T4, L4, k4, n4⟩, -, X4, ⟨Lc4, hQ4, l4, y4, z4⟩, st4⟩ := X3.interfaceBack hx (xi := (⟨"java/util/Iterator", "next", "()Ljava/lang/Object;"⟩ : MethodName)) (y := (⟨"java/util/ImmutableCollections$ListItr", "next", "()Ljava/lang/Object;"⟩ : MethodName)) hown (mvT hZ (wd hw 234 rfl)) (mvT hZ (wd hw 235 rfl)) (mvT hZ (wd hw 236 rfl)) (mvT hZ (wd hw 480 rfl)) (mvT hZ (wd hw 481 rfl)) (mvT hZ (wd hw 482 rfl)) (mvT hZ (wd hw 483 rfl)) (mvT hZ (wd hw 478 rfl)) (by decide) (backOfWith (W := 0) (rm_a67_0 l Z a0 hw [] G GG b1q2 (0 : Int32) w1 w2 (1 : Int32) (0 : Int32) T2.heap O2_ p2_4 p2_2 (r1.keep Kq2) (by decide) (r3.keep Kq2 nin0) p2_1 g_b1q2 p2_3 p2_5) hZ (wd hw 484 rfl) (wd hw 456 rfl) (by decide) (by decide)) q4a q4b q4c (g := (mkF m 23 #[.val (.ref x0), .val (.int x1), .val (.long x2), .second, .val (.ref b1q2), .unset] [(.ref b1q2)])) rfl (by rw [hml]; rfl) (Steps.refl _) (argsL := []) (rest := []) (lenOf pd_LRLjava_lang_Object_ rfl) rfl (by show 2 * 0 + _ ≤ _; exact Nat.le_of_eq rfl) (hb hby d63_23) (fun _ _ => ⟨rfl, e3, (by decide : 1 + 0 ≤ _), (by decide : 4 + 0 ≤ _)⟩)
  dsimp only [Pt.U, Pt.locs, Pt.cells, Pt.slots] at X4 l4 y4 z4 st4 hQ4
  subst y4 z4
  obtain ⟨rfl, Nq4, Kq4, p4_0, p4_1, p4_2, p4_3⟩ := hQ4
  have O4_ := extKeep O2_ Kq4 (allS g_b1q2 all0)
  have K4 := Keep.trans K2 Kq4 (allS (Or.inr sz_b1q2) all0)
  have N4_ := frA l4 N3_ Nq4
  refine Go.trans st4 ?_
  obtain ⟨T5, X5, e5, st5⟩ := castY X4 hx hZ hown (wd hw 138 rfl) rfl (Ins.self ((r4.keep Kq2).keep Kq4)) (g := (mkF m 28 #[.val (.ref x0), .val (.int x1), .val (.long x2), .second, .val (.ref b1q2), .unset] [(.ref w2)])) rfl rfl (hb hby d63_28)
  refine Go.step st5 ?_
  refine t_asL X5 u d63_31 rfl (l' := #[.val (.ref x0), .val (.int x1), .val (.long x2), .second, .val (.ref b1q2), .val (.ref w2)]) rfl ?_
  refine t_aL X5 u d63_33 rfl rfl ?_
  have f6 := ((r5.keep Kq2 nin0).keep Kq4 (ninS (neL r4.lt p2_0) nin0))
  refine pt_cV [] [] 0 X5 u hZ hown (wd hw 252 rfl) (m_28 hw) e5 ((r4.keep Kq2).keep Kq4) (rm_a34_0 l Z a0 hw [] G GG w2 w3 T4.heap O4_ f6) rfl d63_35 rfl rfl (by decide) N4_ ?_
  intro T7 L7 X7 e7 N7_
  refine t_iN X7 u d63_38 rfl ?_
  refine t_icY 39 48 X7 u rfl d63_39 (flt r6).2.2.2 (by decide) ?_
  refine t_go 48 11 X7 u rfl d63_48 (by decide) ?_
  refine t_aL X7 u d63_11 rfl rfl ?_
  refine pt_cI [] [] 0 X7 u hZ hown (wd hw 222 rfl) (m_6 hw) e7 (p2_1.keep Kq4) (rm_a66_0 l Z a0 hw [] G GG b1q2 (1 : Int32) (1 : Int32) T4.heap O4_ p4_0 p4_2 (by decide)) rfl d63_13 rfl rfl (by decide) N7_ ?_
  intro T8 L8 X8 e8 N8_
  refine t_ifY 18 51 X8 u rfl d63_18 ((if0 _ _).trans (teq (by decide : (0 : Int32) = (0 : Int32))).1) (by decide) ?_
  refine t_lN X8 u d63_51 rfl ?_
  exact Go.retJ X8 hx hret hlk (hb hby d63_52) (by decide) (by decide) (by show Q_a63_2 ..; rw [e8]; exact ⟨rfl, N8_, K4⟩)
def Q_a63_3 (Z : State) (w5 : Int64) (h0 : Heap) (v : Option Value) (h : Heap) (L : List Loc) : Prop := v = some (.long w5) ∧ Fr Z.heap.size L ∧ Keep h0 h []
theorem rm_a63_3 (x0 : Addr) (x1 : Int32) (x2 : Int64) (w1 w2 w3 : Addr) (w4 : Int32) (w5 : Int64) (h0 : Heap) (O0 : Ext Z.heap h0) (r0 : fl_2 Z h0 x0 (.ref w1)) (r1 : ex_4 Z h0 w1) (r2 : fl_4 Z h0 w1 (.ref w2)) (r3 : ex_5 Z h0 w2) (r4 : fl_3 Z h0 w1 (.ref w3)) (r5 : ex_5 Z h0 w3) (r6 : fl_5 Z h0 w3 (.int w4)) (r7 : x1 < w4) (r8 : fl_6 Z h0 w3 (.long w5)) :
    MF hw GG l y_63 prog_22_method_6_code 6 (some .long) ws ⟨3, 1, 4, 39⟩ h0 #[(.ref x0), (.int x1), (.long x2)] (Q_a63_3 Z w5 h0) := by
  refine own_mF #[.val (.ref x0), .val (.int x1), .val (.long x2), .second, .unset, .unset] (plainFor_of_name pn_63) (fun _ => rfl) ?_
  intro p e s m below meth c s₁ u hlk hret hZ hown hnm X0 e0 N0
  obtain ⟨hx, hby, hml⟩ := id u
  refine t_aN X0 u d63_0 rfl rfl ?_
  refine t_gF X0 u hZ hown (wd hw 30 rfl) e0 r0 d63_1 ?_
  intro T1 X1 e1
  refine t_cI [] [] 0 X1 u hZ hown (wd hw 199 rfl) (m_17 hw) e1 r1 (rm_a64_2 l Z a0 hw [] G GG w1 w2 h0 O0 r1 r2 r3) rfl d63_4 rfl rfl (by decide) ?_
  intro v2 T2 L2 Lc2 X2 hQ2 l2
  obtain ⟨b1q2, rfl, Nq2, Kq2, p2_0, p2_1, p2_2, p2_3, p2_4, p2_5⟩ := hQ2
  have O2_ := extKeep O0 Kq2 all0
  have K2 := Keep.trans (Keep.refl h0 []) Kq2 all0
  have N2_ := frA l2 N0 Nq2
  have g_b1q2 := Nat.le_trans O0.1 p2_0
  have sz_b1q2 := Nat.le_trans (Keep.refl h0 []).1 p2_0
  refine t_asL X2 u d63_9 rfl (l' := #[.val (.ref x0), .val (.int x1), .val (.long x2), .second, .val (.ref b1q2), .unset]) rfl ?_
  refine t_aL X2 u d63_11 rfl rfl ?_
  refine pt_cI [] [] 0 X2 u hZ hown (wd hw 222 rfl) (m_6 hw) rfl p2_1 (rm_a66_1 l Z a0 hw [] G GG b1q2 (0 : Int32) (2 : Int32) T2.heap O2_ p2_4 p2_3 (by decide)) rfl d63_13 rfl rfl (by decide) N2_ ?_
  intro T3 L3 X3 e3 N3_
  refine t_ifN X3 u d63_18 ((if0 _ _).trans (feq (by decide : ¬ ((1 : Int32) = (0 : Int32)))).1) ?_
  refine t_aL X3 u d63_21 rfl rfl ?_
  obtain ⟨cq4, kq4, q4a, q4b, q4c⟩ := isOf hZ e3 p2_1
  obtain ⟨_, _, ⟨T4, L4, k4, n4⟩, -, X4, ⟨Lc4, hQ4, l4, y4, z4⟩, st4⟩ := X3.interfaceBack hx (xi := (⟨"java/util/Iterator", "next", "()Ljava/lang/Object;"⟩ : MethodName)) (y := (⟨"java/util/ImmutableCollections$ListItr", "next", "()Ljava/lang/Object;"⟩ : MethodName)) hown (mvT hZ (wd hw 234 rfl)) (mvT hZ (wd hw 235 rfl)) (mvT hZ (wd hw 236 rfl)) (mvT hZ (wd hw 480 rfl)) (mvT hZ (wd hw 481 rfl)) (mvT hZ (wd hw 482 rfl)) (mvT hZ (wd hw 483 rfl)) (mvT hZ (wd hw 478 rfl)) (by decide) (backOfWith (W := 0) (rm_a67_0 l Z a0 hw [] G GG b1q2 (0 : Int32) w1 w3 (2 : Int32) (0 : Int32) T2.heap O2_ p2_4 p2_2 (r1.keep Kq2) (by decide) (r4.keep Kq2 nin0) p2_1 g_b1q2 p2_3 p2_5) hZ (wd hw 484 rfl) (wd hw 456 rfl) (by decide) (by decide)) q4a q4b q4c (g := (mkF m 23 #[.val (.ref x0), .val (.int x1), .val (.long x2), .second, .val (.ref b1q2), .unset] [(.ref b1q2)])) rfl (by rw [hml]; rfl) (Steps.refl _) (argsL := []) (rest := []) (lenOf pd_LRLjava_lang_Object_ rfl) rfl (by show 2 * 0 + _ ≤ _; exact Nat.le_of_eq rfl) (hb hby d63_23) (fun _ _ => ⟨rfl, e3, (by decide : 1 + 0 ≤ _), (by decide : 4 + 0 ≤ _)⟩)
  dsimp only [Pt.U, Pt.locs, Pt.cells, Pt.slots] at X4 l4 y4 z4 st4 hQ4
  subst y4 z4
  obtain ⟨rfl, Nq4, Kq4, p4_0, p4_1, p4_2, p4_3⟩ := hQ4
  have O4_ := extKeep O2_ Kq4 (allS g_b1q2 all0)
  have K4 := Keep.trans K2 Kq4 (allS (Or.inr sz_b1q2) all0)
  have N4_ := frA l4 N3_ Nq4
  refine Go.trans st4 ?_
  obtain ⟨T5, X5, e5, st5⟩ := castY X4 hx hZ hown (wd hw 138 rfl) rfl (Ins.self ((r5.keep Kq2).keep Kq4)) (g := (mkF m 28 #[.val (.ref x0), .val (.int x1), .val (.long x2), .second, .val (.ref b1q2), .unset] [(.ref w3)])) rfl rfl (hb hby d63_28)
  refine Go.step st5 ?_
  refine t_asL X5 u d63_31 rfl (l' := #[.val (.ref x0), .val (.int x1), .val (.long x2), .second, .val (.ref b1q2), .val (.ref w3)]) rfl ?_
  refine t_aL X5 u d63_33 rfl rfl ?_
  have f6 := ((r6.keep Kq2 nin0).keep Kq4 (ninS (neL r5.lt p2_0) nin0))
  refine pt_cV [] [] 0 X5 u hZ hown (wd hw 252 rfl) (m_28 hw) e5 ((r5.keep Kq2).keep Kq4) (rm_a34_0 l Z a0 hw [] G GG w3 w4 T4.heap O4_ f6) rfl d63_35 rfl rfl (by decide) N4_ ?_
  intro T7 L7 X7 e7 N7_
  refine t_iN X7 u d63_38 rfl ?_
  refine t_icN X7 u d63_39 (tlt r7).2.2.2 ?_
  refine t_aL X7 u d63_42 rfl rfl ?_
  have f8 := ((r8.keep Kq2 nin0).keep Kq4 (ninS (neL r5.lt p2_0) nin0))
  refine pt_cV [] [] 0 X7 u hZ hown (wd hw 257 rfl) (m_19 hw) e7 ((r5.keep Kq2).keep Kq4) (rm_a35_0 l Z a0 hw [] G GG w3 w5 T4.heap O4_ f8) rfl d63_44 rfl rfl (by decide) N7_ ?_
  intro T9 L9 X9 e9 N9_
  exact Go.retJ X9 hx hret hlk (hb hby d63_47) (by decide) (by decide) (by show Q_a63_3 ..; rw [e9]; exact ⟨rfl, N9_, K4⟩)
def Q_a63_4 (Z : State) (w6 : Int64) (h0 : Heap) (v : Option Value) (h : Heap) (L : List Loc) : Prop := v = some (.long w6) ∧ Fr Z.heap.size L ∧ Keep h0 h []
theorem rm_a63_4 (x0 : Addr) (x1 : Int32) (x2 : Int64) (w1 w2 w3 : Addr) (w4 w5 : Int32) (w6 : Int64) (h0 : Heap) (O0 : Ext Z.heap h0) (r0 : fl_2 Z h0 x0 (.ref w1)) (r1 : ex_4 Z h0 w1) (r2 : fl_4 Z h0 w1 (.ref w2)) (r3 : ex_5 Z h0 w2) (r4 : fl_3 Z h0 w1 (.ref w3)) (r5 : ex_5 Z h0 w3) (r6 : fl_5 Z h0 w3 (.int w4)) (r7 : ¬ (x1 < w4)) (r8 : fl_5 Z h0 w2 (.int w5)) (r9 : x1 < w5) (r10 : fl_6 Z h0 w2 (.long w6)) :
    MF hw GG l y_63 prog_22_method_6_code 6 (some .long) ws ⟨3, 1, 4, 39⟩ h0 #[(.ref x0), (.int x1), (.long x2)] (Q_a63_4 Z w6 h0) := by
  refine own_mF #[.val (.ref x0), .val (.int x1), .val (.long x2), .second, .unset, .unset] (plainFor_of_name pn_63) (fun _ => rfl) ?_
  intro p e s m below meth c s₁ u hlk hret hZ hown hnm X0 e0 N0
  obtain ⟨hx, hby, hml⟩ := id u
  refine t_aN X0 u d63_0 rfl rfl ?_
  refine t_gF X0 u hZ hown (wd hw 30 rfl) e0 r0 d63_1 ?_
  intro T1 X1 e1
  refine t_cI [] [] 0 X1 u hZ hown (wd hw 199 rfl) (m_17 hw) e1 r1 (rm_a64_2 l Z a0 hw [] G GG w1 w2 h0 O0 r1 r2 r3) rfl d63_4 rfl rfl (by decide) ?_
  intro v2 T2 L2 Lc2 X2 hQ2 l2
  obtain ⟨b1q2, rfl, Nq2, Kq2, p2_0, p2_1, p2_2, p2_3, p2_4, p2_5⟩ := hQ2
  have O2_ := extKeep O0 Kq2 all0
  have K2 := Keep.trans (Keep.refl h0 []) Kq2 all0
  have N2_ := frA l2 N0 Nq2
  have g_b1q2 := Nat.le_trans O0.1 p2_0
  have sz_b1q2 := Nat.le_trans (Keep.refl h0 []).1 p2_0
  refine t_asL X2 u d63_9 rfl (l' := #[.val (.ref x0), .val (.int x1), .val (.long x2), .second, .val (.ref b1q2), .unset]) rfl ?_
  refine t_aL X2 u d63_11 rfl rfl ?_
  refine pt_cI [] [] 0 X2 u hZ hown (wd hw 222 rfl) (m_6 hw) rfl p2_1 (rm_a66_1 l Z a0 hw [] G GG b1q2 (0 : Int32) (2 : Int32) T2.heap O2_ p2_4 p2_3 (by decide)) rfl d63_13 rfl rfl (by decide) N2_ ?_
  intro T3 L3 X3 e3 N3_
  refine t_ifN X3 u d63_18 ((if0 _ _).trans (feq (by decide : ¬ ((1 : Int32) = (0 : Int32)))).1) ?_
  refine t_aL X3 u d63_21 rfl rfl ?_
  obtain ⟨cq4, kq4, q4a, q4b, q4c⟩ := isOf hZ e3 p2_1
  obtain ⟨_, _, ⟨T4, L4, k4, n4⟩, -, X4, ⟨Lc4, hQ4, l4, y4, z4⟩, st4⟩ := X3.interfaceBack hx (xi := (⟨"java/util/Iterator", "next", "()Ljava/lang/Object;"⟩ : MethodName)) (y := (⟨"java/util/ImmutableCollections$ListItr", "next", "()Ljava/lang/Object;"⟩ : MethodName)) hown (mvT hZ (wd hw 234 rfl)) (mvT hZ (wd hw 235 rfl)) (mvT hZ (wd hw 236 rfl)) (mvT hZ (wd hw 480 rfl)) (mvT hZ (wd hw 481 rfl)) (mvT hZ (wd hw 482 rfl)) (mvT hZ (wd hw 483 rfl)) (mvT hZ (wd hw 478 rfl)) (by decide) (backOfWith (W := 0) (rm_a67_0 l Z a0 hw [] G GG b1q2 (0 : Int32) w1 w3 (2 : Int32) (0 : Int32) T2.heap O2_ p2_4 p2_2 (r1.keep Kq2) (by decide) (r4.keep Kq2 nin0) p2_1 g_b1q2 p2_3 p2_5) hZ (wd hw 484 rfl) (wd hw 456 rfl) (by decide) (by decide)) q4a q4b q4c (g := (mkF m 23 #[.val (.ref x0), .val (.int x1), .val (.long x2), .second, .val (.ref b1q2), .unset] [(.ref b1q2)])) rfl (by rw [hml]; rfl) (Steps.refl _) (argsL := []) (rest := []) (lenOf pd_LRLjava_lang_Object_ rfl) rfl (by show 2 * 0 + _ ≤ _; exact Nat.le_of_eq rfl) (hb hby d63_23) (fun _ _ => ⟨rfl, e3, (by decide : 1 + 0 ≤ _), (by decide : 4 + 0 ≤ _)⟩)
  dsimp only [Pt.U, Pt.locs, Pt.cells, Pt.slots] at X4 l4 y4 z4 st4 hQ4
  subst y4 z4
  obtain ⟨rfl, Nq4, Kq4, p4_0, p4_1, p4_2, p4_3⟩ := hQ4
  have O4_ := extKeep O2_ Kq4 (allS g_b1q2 all0)
  have K4 := Keep.trans K2 Kq4 (allS (Or.inr sz_b1q2) all0)
  have N4_ := frA l4 N3_ Nq4
  refine Go.trans st4 ?_
  obtain ⟨T5, X5, e5, st5⟩ := castY X4 hx hZ hown (wd hw 138 rfl) rfl (Ins.self ((r5.keep Kq2).keep Kq4)) (g := (mkF m 28 #[.val (.ref x0), .val (.int x1), .val (.long x2), .second, .val (.ref b1q2), .unset] [(.ref w3)])) rfl rfl (hb hby d63_28)
  refine Go.step st5 ?_
  refine t_asL X5 u d63_31 rfl (l' := #[.val (.ref x0), .val (.int x1), .val (.long x2), .second, .val (.ref b1q2), .val (.ref w3)]) rfl ?_
  refine t_aL X5 u d63_33 rfl rfl ?_
  have f6 := ((r6.keep Kq2 nin0).keep Kq4 (ninS (neL r5.lt p2_0) nin0))
  refine pt_cV [] [] 0 X5 u hZ hown (wd hw 252 rfl) (m_28 hw) e5 ((r5.keep Kq2).keep Kq4) (rm_a34_0 l Z a0 hw [] G GG w3 w4 T4.heap O4_ f6) rfl d63_35 rfl rfl (by decide) N4_ ?_
  intro T7 L7 X7 e7 N7_
  refine t_iN X7 u d63_38 rfl ?_
  refine t_icY 39 48 X7 u rfl d63_39 (flt r7).2.2.2 (by decide) ?_
  refine t_go 48 11 X7 u rfl d63_48 (by decide) ?_
  refine t_aL X7 u d63_11 rfl rfl ?_
  refine pt_cI [] [] 0 X7 u hZ hown (wd hw 222 rfl) (m_6 hw) e7 (p2_1.keep Kq4) (rm_a66_1 l Z a0 hw [] G GG b1q2 (1 : Int32) (2 : Int32) T4.heap O4_ p4_0 p4_2 (by decide)) rfl d63_13 rfl rfl (by decide) N7_ ?_
  intro T8 L8 X8 e8 N8_
  refine t_ifN X8 u d63_18 ((if0 _ _).trans (feq (by decide : ¬ ((1 : Int32) = (0 : Int32)))).1) ?_
  refine t_aL X8 u d63_21 rfl rfl ?_
  have f9 := ((r2.keep Kq2 nin0).keep Kq4 (ninS (neL r1.lt p2_0) nin0))
  obtain ⟨cq10, kq10, q10a, q10b, q10c⟩ := isOf hZ e8 (p2_1.keep Kq4)
  obtain ⟨_, _, ⟨T10, L10, k10, n10⟩, -, X10, ⟨Lc10, hQ10, l10, y10, z10⟩, st10⟩ := X8.interfaceBack hx (xi := (⟨"java/util/Iterator", "next", "()Ljava/lang/Object;"⟩ : MethodName)) (y := (⟨"java/util/ImmutableCollections$ListItr", "next", "()Ljava/lang/Object;"⟩ : MethodName)) hown (mvT hZ (wd hw 234 rfl)) (mvT hZ (wd hw 235 rfl)) (mvT hZ (wd hw 236 rfl)) (mvT hZ (wd hw 480 rfl)) (mvT hZ (wd hw 481 rfl)) (mvT hZ (wd hw 482 rfl)) (mvT hZ (wd hw 483 rfl)) (mvT hZ (wd hw 478 rfl)) (by decide) (backOfWith (W := 0) (rm_a67_1 l Z a0 hw [] G GG b1q2 (1 : Int32) w1 w2 (2 : Int32) (0 : Int32) T4.heap O4_ p4_0 p4_1 ((r1.keep Kq2).keep Kq4) (by decide) (by decide) f9 ((r3.keep Kq2).keep Kq4) (p2_1.keep Kq4) g_b1q2 p4_2 p4_3) hZ (wd hw 484 rfl) (wd hw 456 rfl) (by decide) (by decide)) q10a q10b q10c (g := (mkF m 23 #[.val (.ref x0), .val (.int x1), .val (.long x2), .second, .val (.ref b1q2), .val (.ref w3)] [(.ref b1q2)])) rfl (by rw [hml]; rfl) (Steps.refl _) (argsL := []) (rest := []) (lenOf pd_LRLjava_lang_Object_ rfl) rfl (by show 2 * 0 + _ ≤ _; exact Nat.le_of_eq rfl) (hb hby d63_23) (fun _ _ => ⟨rfl, e8, (by decide : 1 + 0 ≤ _), (by decide : 4 + 0 ≤ _)⟩)
  dsimp only [Pt.U, Pt.locs, Pt.cells, Pt.slots] at X10 l10 y10 z10 st10 hQ10
  subst y10 z10
  obtain ⟨rfl, Nq10, Kq10, p10_0, p10_1, p10_2, p10_3⟩ := hQ10
  have O10_ := extKeep O4_ Kq10 (allS g_b1q2 all0)
  have K10 := Keep.trans K4 Kq10 (allS (Or.inr sz_b1q2) all0)
  have N10_ := frA l10 N8_ Nq10
  refine Go.trans st10 ?_
  obtain ⟨T11, X11, e11, st11⟩ := castY X10 hx hZ hown (wd hw 138 rfl) rfl (Ins.self (((r3.keep Kq2).keep Kq4).keep Kq10)) (g := (mkF m 28 #[.val (.ref x0), .val (.int x1), .val (.long x2), .second, .val (.ref b1q2), .val (.ref w3)] [(.ref w2)])) rfl rfl (hb hby d63_28)
  refine Go.step st11 ?_
  refine t_asL X11 u d63_31 rfl (l' := #[.val (.ref x0), .val (.int x1), .val (.long x2), .second, .val (.ref b1q2), .val (.ref w2)]) rfl ?_
  refine t_aL X11 u d63_33 rfl rfl ?_
  have f12 := (((r8.keep Kq2 nin0).keep Kq4 (ninS (neL r3.lt p2_0) nin0)).keep Kq10 (ninS (neL r3.lt p2_0) nin0))
  refine pt_cV [] [] 0 X11 u hZ hown (wd hw 252 rfl) (m_28 hw) e11 (((r3.keep Kq2).keep Kq4).keep Kq10) (rm_a34_0 l Z a0 hw [] G GG w2 w5 T10.heap O10_ f12) rfl d63_35 rfl rfl (by decide) N10_ ?_
  intro T13 L13 X13 e13 N13_
  refine t_iN X13 u d63_38 rfl ?_
  refine t_icN X13 u d63_39 (tlt r9).2.2.2 ?_
  refine t_aL X13 u d63_42 rfl rfl ?_
  have f14 := (((r10.keep Kq2 nin0).keep Kq4 (ninS (neL r3.lt p2_0) nin0)).keep Kq10 (ninS (neL r3.lt p2_0) nin0))
  refine pt_cV [] [] 0 X13 u hZ hown (wd hw 257 rfl) (m_19 hw) e13 (((r3.keep Kq2).keep Kq4).keep Kq10) (rm_a35_0 l Z a0 hw [] G GG w2 w6 T10.heap O10_ f14) rfl d63_44 rfl rfl (by decide) N13_ ?_
  intro T15 L15 X15 e15 N15_
  exact Go.retJ X15 hx hret hlk (hb hby d63_47) (by decide) (by decide) (by show Q_a63_4 ..; rw [e15]; exact ⟨rfl, N15_, K10⟩)
def Q_a63_5 (Z : State) (x2 : Int64) (h0 : Heap) (v : Option Value) (h : Heap) (L : List Loc) : Prop := v = some (.long x2) ∧ Fr Z.heap.size L ∧ Keep h0 h []
theorem rm_a63_5 (x0 : Addr) (x1 : Int32) (x2 : Int64) (w1 w2 w3 : Addr) (w4 w5 : Int32) (h0 : Heap) (O0 : Ext Z.heap h0) (r0 : fl_2 Z h0 x0 (.ref w1)) (r1 : ex_4 Z h0 w1) (r2 : fl_4 Z h0 w1 (.ref w2)) (r3 : ex_5 Z h0 w2) (r4 : fl_3 Z h0 w1 (.ref w3)) (r5 : ex_5 Z h0 w3) (r6 : fl_5 Z h0 w3 (.int w4)) (r7 : ¬ (x1 < w4)) (r8 : fl_5 Z h0 w2 (.int w5)) (r9 : ¬ (x1 < w5)) :
    MF hw GG l y_63 prog_22_method_6_code 6 (some .long) ws ⟨3, 1, 4, 39⟩ h0 #[(.ref x0), (.int x1), (.long x2)] (Q_a63_5 Z x2 h0) := by
  refine own_mF #[.val (.ref x0), .val (.int x1), .val (.long x2), .second, .unset, .unset] (plainFor_of_name pn_63) (fun _ => rfl) ?_
  intro p e s m below meth c s₁ u hlk hret hZ hown hnm X0 e0 N0
  obtain ⟨hx, hby, hml⟩ := id u
  refine t_aN X0 u d63_0 rfl rfl ?_
  refine t_gF X0 u hZ hown (wd hw 30 rfl) e0 r0 d63_1 ?_
  intro T1 X1 e1
  refine t_cI [] [] 0 X1 u hZ hown (wd hw 199 rfl) (m_17 hw) e1 r1 (rm_a64_2 l Z a0 hw [] G GG w1 w2 h0 O0 r1 r2 r3) rfl d63_4 rfl rfl (by decide) ?_
  intro v2 T2 L2 Lc2 X2 hQ2 l2
  obtain ⟨b1q2, rfl, Nq2, Kq2, p2_0, p2_1, p2_2, p2_3, p2_4, p2_5⟩ := hQ2
  have O2_ := extKeep O0 Kq2 all0
  have K2 := Keep.trans (Keep.refl h0 []) Kq2 all0
  have N2_ := frA l2 N0 Nq2
  have g_b1q2 := Nat.le_trans O0.1 p2_0
  have sz_b1q2 := Nat.le_trans (Keep.refl h0 []).1 p2_0
  refine t_asL X2 u d63_9 rfl (l' := #[.val (.ref x0), .val (.int x1), .val (.long x2), .second, .val (.ref b1q2), .unset]) rfl ?_
  refine t_aL X2 u d63_11 rfl rfl ?_
  refine pt_cI [] [] 0 X2 u hZ hown (wd hw 222 rfl) (m_6 hw) rfl p2_1 (rm_a66_1 l Z a0 hw [] G GG b1q2 (0 : Int32) (2 : Int32) T2.heap O2_ p2_4 p2_3 (by decide)) rfl d63_13 rfl rfl (by decide) N2_ ?_
  intro T3 L3 X3 e3 N3_
  refine t_ifN X3 u d63_18 ((if0 _ _).trans (feq (by decide : ¬ ((1 : Int32) = (0 : Int32)))).1) ?_
  refine t_aL X3 u d63_21 rfl rfl ?_
  obtain ⟨cq4, kq4, q4a, q4b, q4c⟩ := isOf hZ e3 p2_1
  obtain ⟨_, _, ⟨T4, L4, k4, n4⟩, -, X4, ⟨Lc4, hQ4, l4, y4, z4⟩, st4⟩ := X3.interfaceBack hx (xi := (⟨"java/util/Iterator", "next", "()Ljava/lang/Object;"⟩ : MethodName)) (y := (⟨"java/util/ImmutableCollections$ListItr", "next", "()Ljava/lang/Object;"⟩ : MethodName)) hown (mvT hZ (wd hw 234 rfl)) (mvT hZ (wd hw 235 rfl)) (mvT hZ (wd hw 236 rfl)) (mvT hZ (wd hw 480 rfl)) (mvT hZ (wd hw 481 rfl)) (mvT hZ (wd hw 482 rfl)) (mvT hZ (wd hw 483 rfl)) (mvT hZ (wd hw 478 rfl)) (by decide) (backOfWith (W := 0) (rm_a67_0 l Z a0 hw [] G GG b1q2 (0 : Int32) w1 w3 (2 : Int32) (0 : Int32) T2.heap O2_ p2_4 p2_2 (r1.keep Kq2) (by decide) (r4.keep Kq2 nin0) p2_1 g_b1q2 p2_3 p2_5) hZ (wd hw 484 rfl) (wd hw 456 rfl) (by decide) (by decide)) q4a q4b q4c (g := (mkF m 23 #[.val (.ref x0), .val (.int x1), .val (.long x2), .second, .val (.ref b1q2), .unset] [(.ref b1q2)])) rfl (by rw [hml]; rfl) (Steps.refl _) (argsL := []) (rest := []) (lenOf pd_LRLjava_lang_Object_ rfl) rfl (by show 2 * 0 + _ ≤ _; exact Nat.le_of_eq rfl) (hb hby d63_23) (fun _ _ => ⟨rfl, e3, (by decide : 1 + 0 ≤ _), (by decide : 4 + 0 ≤ _)⟩)
  dsimp only [Pt.U, Pt.locs, Pt.cells, Pt.slots] at X4 l4 y4 z4 st4 hQ4
  subst y4 z4
  obtain ⟨rfl, Nq4, Kq4, p4_0, p4_1, p4_2, p4_3⟩ := hQ4
  have O4_ := extKeep O2_ Kq4 (allS g_b1q2 all0)
  have K4 := Keep.trans K2 Kq4 (allS (Or.inr sz_b1q2) all0)
  have N4_ := frA l4 N3_ Nq4
  refine Go.trans st4 ?_
  obtain ⟨T5, X5, e5, st5⟩ := castY X4 hx hZ hown (wd hw 138 rfl) rfl (Ins.self ((r5.keep Kq2).keep Kq4)) (g := (mkF m 28 #[.val (.ref x0), .val (.int x1), .val (.long x2), .second, .val (.ref b1q2), .unset] [(.ref w3)])) rfl rfl (hb hby d63_28)
  refine Go.step st5 ?_
  refine t_asL X5 u d63_31 rfl (l' := #[.val (.ref x0), .val (.int x1), .val (.long x2), .second, .val (.ref b1q2), .val (.ref w3)]) rfl ?_
  refine t_aL X5 u d63_33 rfl rfl ?_
  have f6 := ((r6.keep Kq2 nin0).keep Kq4 (ninS (neL r5.lt p2_0) nin0))
  refine pt_cV [] [] 0 X5 u hZ hown (wd hw 252 rfl) (m_28 hw) e5 ((r5.keep Kq2).keep Kq4) (rm_a34_0 l Z a0 hw [] G GG w3 w4 T4.heap O4_ f6) rfl d63_35 rfl rfl (by decide) N4_ ?_
  intro T7 L7 X7 e7 N7_
  refine t_iN X7 u d63_38 rfl ?_
  refine t_icY 39 48 X7 u rfl d63_39 (flt r7).2.2.2 (by decide) ?_
  refine t_go 48 11 X7 u rfl d63_48 (by decide) ?_
  refine t_aL X7 u d63_11 rfl rfl ?_
  refine pt_cI [] [] 0 X7 u hZ hown (wd hw 222 rfl) (m_6 hw) e7 (p2_1.keep Kq4) (rm_a66_1 l Z a0 hw [] G GG b1q2 (1 : Int32) (2 : Int32) T4.heap O4_ p4_0 p4_2 (by decide)) rfl d63_13 rfl rfl (by decide) N7_ ?_
  intro T8 L8 X8 e8 N8_
  refine t_ifN X8 u d63_18 ((if0 _ _).trans (feq (by decide : ¬ ((1 : Int32) = (0 : Int32)))).1) ?_
  refine t_aL X8 u d63_21 rfl rfl ?_
  have f9 := ((r2.keep Kq2 nin0).keep Kq4 (ninS (neL r1.lt p2_0) nin0))
  obtain ⟨cq10, kq10, q10a, q10b, q10c⟩ := isOf hZ e8 (p2_1.keep Kq4)
  obtain ⟨_, _, ⟨T10, L10, k10, n10⟩, -, X10, ⟨Lc10, hQ10, l10, y10, z10⟩, st10⟩ := X8.interfaceBack hx (xi := (⟨"java/util/Iterator", "next", "()Ljava/lang/Object;"⟩ : MethodName)) (y := (⟨"java/util/ImmutableCollections$ListItr", "next", "()Ljava/lang/Object;"⟩ : MethodName)) hown (mvT hZ (wd hw 234 rfl)) (mvT hZ (wd hw 235 rfl)) (mvT hZ (wd hw 236 rfl)) (mvT hZ (wd hw 480 rfl)) (mvT hZ (wd hw 481 rfl)) (mvT hZ (wd hw 482 rfl)) (mvT hZ (wd hw 483 rfl)) (mvT hZ (wd hw 478 rfl)) (by decide) (backOfWith (W := 0) (rm_a67_1 l Z a0 hw [] G GG b1q2 (1 : Int32) w1 w2 (2 : Int32) (0 : Int32) T4.heap O4_ p4_0 p4_1 ((r1.keep Kq2).keep Kq4) (by decide) (by decide) f9 ((r3.keep Kq2).keep Kq4) (p2_1.keep Kq4) g_b1q2 p4_2 p4_3) hZ (wd hw 484 rfl) (wd hw 456 rfl) (by decide) (by decide)) q10a q10b q10c (g := (mkF m 23 #[.val (.ref x0), .val (.int x1), .val (.long x2), .second, .val (.ref b1q2), .val (.ref w3)] [(.ref b1q2)])) rfl (by rw [hml]; rfl) (Steps.refl _) (argsL := []) (rest := []) (lenOf pd_LRLjava_lang_Object_ rfl) rfl (by show 2 * 0 + _ ≤ _; exact Nat.le_of_eq rfl) (hb hby d63_23) (fun _ _ => ⟨rfl, e8, (by decide : 1 + 0 ≤ _), (by decide : 4 + 0 ≤ _)⟩)
  dsimp only [Pt.U, Pt.locs, Pt.cells, Pt.slots] at X10 l10 y10 z10 st10 hQ10
  subst y10 z10
  obtain ⟨rfl, Nq10, Kq10, p10_0, p10_1, p10_2, p10_3⟩ := hQ10
  have O10_ := extKeep O4_ Kq10 (allS g_b1q2 all0)
  have K10 := Keep.trans K4 Kq10 (allS (Or.inr sz_b1q2) all0)
  have N10_ := frA l10 N8_ Nq10
  refine Go.trans st10 ?_
  obtain ⟨T11, X11, e11, st11⟩ := castY X10 hx hZ hown (wd hw 138 rfl) rfl (Ins.self (((r3.keep Kq2).keep Kq4).keep Kq10)) (g := (mkF m 28 #[.val (.ref x0), .val (.int x1), .val (.long x2), .second, .val (.ref b1q2), .val (.ref w3)] [(.ref w2)])) rfl rfl (hb hby d63_28)
  refine Go.step st11 ?_
  refine t_asL X11 u d63_31 rfl (l' := #[.val (.ref x0), .val (.int x1), .val (.long x2), .second, .val (.ref b1q2), .val (.ref w2)]) rfl ?_
  refine t_aL X11 u d63_33 rfl rfl ?_
  have f12 := (((r8.keep Kq2 nin0).keep Kq4 (ninS (neL r3.lt p2_0) nin0)).keep Kq10 (ninS (neL r3.lt p2_0) nin0))
  refine pt_cV [] [] 0 X11 u hZ hown (wd hw 252 rfl) (m_28 hw) e11 (((r3.keep Kq2).keep Kq4).keep Kq10) (rm_a34_0 l Z a0 hw [] G GG w2 w5 T10.heap O10_ f12) rfl d63_35 rfl rfl (by decide) N10_ ?_
  intro T13 L13 X13 e13 N13_
  refine t_iN X13 u d63_38 rfl ?_
  refine t_icY 39 48 X13 u rfl d63_39 (flt r9).2.2.2 (by decide) ?_
  refine t_go 48 11 X13 u rfl d63_48 (by decide) ?_
  refine t_aL X13 u d63_11 rfl rfl ?_
  refine pt_cI [] [] 0 X13 u hZ hown (wd hw 222 rfl) (m_6 hw) e13 ((p2_1.keep Kq4).keep Kq10) (rm_a66_0 l Z a0 hw [] G GG b1q2 (2 : Int32) (2 : Int32) T10.heap O10_ p10_0 p10_2 (by decide)) rfl d63_13 rfl rfl (by decide) N13_ ?_
  intro T14 L14 X14 e14 N14_
  refine t_ifY 18 51 X14 u rfl d63_18 ((if0 _ _).trans (teq (by decide : (0 : Int32) = (0 : Int32))).1) (by decide) ?_
  refine t_lN X14 u d63_51 rfl ?_
  exact Go.retJ X14 hx hret hlk (hb hby d63_52) (by decide) (by decide) (by show Q_a63_5 ..; rw [e14]; exact ⟨rfl, N14_, K10⟩)
theorem pn_61 : plainName "com/example/clean_epoch/cleanepoch/log/Lineage" = true := by first | (simp [plainName, overriddenIn]; done) | decide +kernel
def Q_div (Z : State)  (h0 : Heap) (v : Option Value) (h : Heap) (L : List Loc) : Prop := ∃ (d : Int64), v = some (.long d) ∧ Fr Z.heap.size L ∧ Keep h0 h []
theorem rm_div (x0 x1 : Addr) (x2 : Int64) (t : Int32) (o : Int64) (h0 : Heap) (O0 : Ext Z.heap h0) (hLS : LS Z h0 G.el G.eo x0) (E_x1 : ex_2 Z h0 x1) (F_t : fl_1 Z h0 x1 (.int t)) (F_o : fl_26 Z h0 x1 (.long o)) :
    MF hw GG l y_61 prog_22_method_7_code 4 (some .long) ws ⟨4, 1, 4, 58⟩ h0 #[(.ref x0), (.ref x1), (.long x2)] (Q_div Z  h0) := by
  refine own_mF #[.val (.ref x0), .val (.ref x1), .val (.long x2), .second] (plainFor_of_name pn_61) (fun _ => rfl) ?_
  intro p e s m below meth c s₁ u hlk hret hZ hown hnm X0 e0 N0
  obtain ⟨hx, hby, hml⟩ := id u
  obtain ⟨Ex0, hsh_x0⟩ := id hLS
  rcases hsh_x0 with Fe_x0 | ⟨li, a1, p1, q1, Fe_x0, Eli, Fe0, Fe1, Ea1, Fp1, Fq1, np1, nq1⟩ | ⟨li, a1, p1, q1, a2, p2, q2, Fe_x0, Eli, Fe0, Fe1, Ea1, Fp1, Fq1, Ea2, Fp2, Fq2, np1, nq1, np2, nq2, hpp, hqq⟩
  · show Go _ _ _ _ _ _ _ _ s₁ (mkF m 0 #[.val (.ref x0), .val (.ref x1), .val (.long x2), .second] [])
    refine t_aN X0 u d61_0 rfl rfl ?_
    refine pt_cV [] [] 0 X0 u hZ hown (wd hw 438 rfl) (m_45 hw) e0 E_x1 (rm_a62_0 l Z a0 hw [] G GG x1 o h0 O0 F_o) rfl d61_1 rfl rfl (by decide) N0 ?_
    intro T1 L1 X1 e1 N1_
    refine t_aN X1 u d61_4 rfl rfl ?_
    refine t_aN X1 u d61_5 rfl rfl ?_
    refine pt_cV [] [(.ref x0), (.long o)] 3 X1 u hZ hown (wd hw 443 rfl) (m_46 hw) e1 E_x1 (rm_a3_0 l Z a0 hw [] G GG x1 t h0 O0 F_t) rfl d61_6 rfl rfl (by decide) N1_ ?_
    intro T2 L2 X2 e2 N2_
    refine t_lN X2 u d61_9 rfl ?_
    refine t_cV [(.int t), (.long x2)] [(.long o)] 2 X2 u hZ hown (wd hw 444 rfl) (m_47 hw) e2 Ex0 (rm_a63_0 l Z a0 hw [] G GG x0 t x2 h0 O0 Fe_x0) rfl d61_10 rfl rfl (by decide) ?_
    intro v3 T3 L3 Lc3 X3 hQ3 l3
    obtain ⟨rfl, Nq3, Kq3⟩ := hQ3
    have O3_ := extKeep O0 Kq3 all0
    have K3 := Keep.trans (Keep.refl h0 []) Kq3 all0
    have N3_ := frA l3 N2_ Nq3
    by_cases hs13_4 : (0 : Int32) < (lcmpW o x2)
    · refine pt_cS [(.long o), (.long x2)] [] 0 X3 u hZ hown (wd hw 486 rfl) (m_48 hw) rfl (rm_a68_0 l Z a0 hw [] G GG o x2 T3.heap O3_ hs13_4) rfl d61_13 rfl rfl (by decide) N3_ ?_
      intro T5 L5 X5 e5 N5_
      exact Go.retJ X5 hx hret hlk (hb hby d61_16) (by decide) (by decide) (by show Q_div ..; rw [e5]; exact ⟨x2, rfl, N5_, K3⟩)
    · refine pt_cS [(.long o), (.long x2)] [] 0 X3 u hZ hown (wd hw 486 rfl) (m_48 hw) rfl (rm_a68_1 l Z a0 hw [] G GG o x2 T3.heap O3_ hs13_4) rfl d61_13 rfl rfl (by decide) N3_ ?_
      intro T6 L6 X6 e6 N6_
      exact Go.retJ X6 hx hret hlk (hb hby d61_16) (by decide) (by decide) (by show Q_div ..; rw [e6]; exact ⟨o, rfl, N6_, K3⟩)
  · show Go _ _ _ _ _ _ _ _ s₁ (mkF m 0 #[.val (.ref x0), .val (.ref x1), .val (.long x2), .second] [])
    refine t_aN X0 u d61_0 rfl rfl ?_
    refine pt_cV [] [] 0 X0 u hZ hown (wd hw 438 rfl) (m_45 hw) e0 E_x1 (rm_a62_0 l Z a0 hw [] G GG x1 o h0 O0 F_o) rfl d61_1 rfl rfl (by decide) N0 ?_
    intro T7 L7 X7 e7 N7_
    refine t_aN X7 u d61_4 rfl rfl ?_
    refine t_aN X7 u d61_5 rfl rfl ?_
    refine pt_cV [] [(.ref x0), (.long o)] 3 X7 u hZ hown (wd hw 443 rfl) (m_46 hw) e7 E_x1 (rm_a3_0 l Z a0 hw [] G GG x1 t h0 O0 F_t) rfl d61_6 rfl rfl (by decide) N7_ ?_
    intro T8 L8 X8 e8 N8_
    refine t_lN X8 u d61_9 rfl ?_
    by_cases hs10_9 : t < p1
    · refine t_cV [(.int t), (.long x2)] [(.long o)] 2 X8 u hZ hown (wd hw 444 rfl) (m_47 hw) e8 Ex0 (rm_a63_1 l Z a0 hw [] G GG x0 t x2 li a1 p1 q1 h0 O0 Fe_x0 Eli Fe1 Fe0 Ea1 Fp1 hs10_9 Fq1) rfl d61_10 rfl rfl (by decide) ?_
      intro v10 T10 L10 Lc10 X10 hQ10 l10
      obtain ⟨rfl, Nq10, Kq10⟩ := hQ10
      have O10_ := extKeep O0 Kq10 all0
      have K10 := Keep.trans (Keep.refl h0 []) Kq10 all0
      have N10_ := frA l10 N8_ Nq10
      by_cases hs13_11 : (0 : Int32) < (lcmpW o q1)
      · refine pt_cS [(.long o), (.long q1)] [] 0 X10 u hZ hown (wd hw 486 rfl) (m_48 hw) rfl (rm_a68_0 l Z a0 hw [] G GG o q1 T10.heap O10_ hs13_11) rfl d61_13 rfl rfl (by decide) N10_ ?_
        intro T12 L12 X12 e12 N12_
        exact Go.retJ X12 hx hret hlk (hb hby d61_16) (by decide) (by decide) (by show Q_div ..; rw [e12]; exact ⟨q1, rfl, N12_, K10⟩)
      · refine pt_cS [(.long o), (.long q1)] [] 0 X10 u hZ hown (wd hw 486 rfl) (m_48 hw) rfl (rm_a68_1 l Z a0 hw [] G GG o q1 T10.heap O10_ hs13_11) rfl d61_13 rfl rfl (by decide) N10_ ?_
        intro T13 L13 X13 e13 N13_
        exact Go.retJ X13 hx hret hlk (hb hby d61_16) (by decide) (by decide) (by show Q_div ..; rw [e13]; exact ⟨o, rfl, N13_, K10⟩)
    · refine t_cV [(.int t), (.long x2)] [(.long o)] 2 X8 u hZ hown (wd hw 444 rfl) (m_47 hw) e8 Ex0 (rm_a63_2 l Z a0 hw [] G GG x0 t x2 li a1 p1 h0 O0 Fe_x0 Eli Fe1 Fe0 Ea1 Fp1 hs10_9) rfl d61_10 rfl rfl (by decide) ?_
      intro v14 T14 L14 Lc14 X14 hQ14 l14
      obtain ⟨rfl, Nq14, Kq14⟩ := hQ14
      have O14_ := extKeep O0 Kq14 all0
      have K14 := Keep.trans (Keep.refl h0 []) Kq14 all0
      have N14_ := frA l14 N8_ Nq14
      by_cases hs13_15 : (0 : Int32) < (lcmpW o x2)
      · refine pt_cS [(.long o), (.long x2)] [] 0 X14 u hZ hown (wd hw 486 rfl) (m_48 hw) rfl (rm_a68_0 l Z a0 hw [] G GG o x2 T14.heap O14_ hs13_15) rfl d61_13 rfl rfl (by decide) N14_ ?_
        intro T16 L16 X16 e16 N16_
        exact Go.retJ X16 hx hret hlk (hb hby d61_16) (by decide) (by decide) (by show Q_div ..; rw [e16]; exact ⟨x2, rfl, N16_, K14⟩)
      · refine pt_cS [(.long o), (.long x2)] [] 0 X14 u hZ hown (wd hw 486 rfl) (m_48 hw) rfl (rm_a68_1 l Z a0 hw [] G GG o x2 T14.heap O14_ hs13_15) rfl d61_13 rfl rfl (by decide) N14_ ?_
        intro T17 L17 X17 e17 N17_
        exact Go.retJ X17 hx hret hlk (hb hby d61_16) (by decide) (by decide) (by show Q_div ..; rw [e17]; exact ⟨o, rfl, N17_, K14⟩)
  · show Go _ _ _ _ _ _ _ _ s₁ (mkF m 0 #[.val (.ref x0), .val (.ref x1), .val (.long x2), .second] [])
    refine t_aN X0 u d61_0 rfl rfl ?_
    refine pt_cV [] [] 0 X0 u hZ hown (wd hw 438 rfl) (m_45 hw) e0 E_x1 (rm_a62_0 l Z a0 hw [] G GG x1 o h0 O0 F_o) rfl d61_1 rfl rfl (by decide) N0 ?_
    intro T18 L18 X18 e18 N18_
    refine t_aN X18 u d61_4 rfl rfl ?_
    refine t_aN X18 u d61_5 rfl rfl ?_
    refine pt_cV [] [(.ref x0), (.long o)] 3 X18 u hZ hown (wd hw 443 rfl) (m_46 hw) e18 E_x1 (rm_a3_0 l Z a0 hw [] G GG x1 t h0 O0 F_t) rfl d61_6 rfl rfl (by decide) N18_ ?_
    intro T19 L19 X19 e19 N19_
    refine t_lN X19 u d61_9 rfl ?_
    by_cases hs10_20 : t < p1
    · refine t_cV [(.int t), (.long x2)] [(.long o)] 2 X19 u hZ hown (wd hw 444 rfl) (m_47 hw) e19 Ex0 (rm_a63_3 l Z a0 hw [] G GG x0 t x2 li a2 a1 p1 q1 h0 O0 Fe_x0 Eli Fe1 Ea2 Fe0 Ea1 Fp1 hs10_20 Fq1) rfl d61_10 rfl rfl (by decide) ?_
      intro v21 T21 L21 Lc21 X21 hQ21 l21
      obtain ⟨rfl, Nq21, Kq21⟩ := hQ21
      have O21_ := extKeep O0 Kq21 all0
      have K21 := Keep.trans (Keep.refl h0 []) Kq21 all0
      have N21_ := frA l21 N19_ Nq21
      by_cases hs13_22 : (0 : Int32) < (lcmpW o q1)
      · refine pt_cS [(.long o), (.long q1)] [] 0 X21 u hZ hown (wd hw 486 rfl) (m_48 hw) rfl (rm_a68_0 l Z a0 hw [] G GG o q1 T21.heap O21_ hs13_22) rfl d61_13 rfl rfl (by decide) N21_ ?_
        intro T23 L23 X23 e23 N23_
        exact Go.retJ X23 hx hret hlk (hb hby d61_16) (by decide) (by decide) (by show Q_div ..; rw [e23]; exact ⟨q1, rfl, N23_, K21⟩)
      · refine pt_cS [(.long o), (.long q1)] [] 0 X21 u hZ hown (wd hw 486 rfl) (m_48 hw) rfl (rm_a68_1 l Z a0 hw [] G GG o q1 T21.heap O21_ hs13_22) rfl d61_13 rfl rfl (by decide) N21_ ?_
        intro T24 L24 X24 e24 N24_
        exact Go.retJ X24 hx hret hlk (hb hby d61_16) (by decide) (by decide) (by show Q_div ..; rw [e24]; exact ⟨o, rfl, N24_, K21⟩)
    · by_cases hs10_25 : t < p2
      · refine t_cV [(.int t), (.long x2)] [(.long o)] 2 X19 u hZ hown (wd hw 444 rfl) (m_47 hw) e19 Ex0 (rm_a63_4 l Z a0 hw [] G GG x0 t x2 li a2 a1 p1 p2 q2 h0 O0 Fe_x0 Eli Fe1 Ea2 Fe0 Ea1 Fp1 hs10_20 Fp2 hs10_25 Fq2) rfl d61_10 rfl rfl (by decide) ?_
        intro v26 T26 L26 Lc26 X26 hQ26 l26
        obtain ⟨rfl, Nq26, Kq26⟩ := hQ26
        have O26_ := extKeep O0 Kq26 all0
        have K26 := Keep.trans (Keep.refl h0 []) Kq26 all0
        have N26_ := frA l26 N19_ Nq26
        by_cases hs13_27 : (0 : Int32) < (lcmpW o q2)
        · refine pt_cS [(.long o), (.long q2)] [] 0 X26 u hZ hown (wd hw 486 rfl) (m_48 hw) rfl (rm_a68_0 l Z a0 hw [] G GG o q2 T26.heap O26_ hs13_27) rfl d61_13 rfl rfl (by decide) N26_ ?_
          intro T28 L28 X28 e28 N28_
          exact Go.retJ X28 hx hret hlk (hb hby d61_16) (by decide) (by decide) (by show Q_div ..; rw [e28]; exact ⟨q2, rfl, N28_, K26⟩)
        · refine pt_cS [(.long o), (.long q2)] [] 0 X26 u hZ hown (wd hw 486 rfl) (m_48 hw) rfl (rm_a68_1 l Z a0 hw [] G GG o q2 T26.heap O26_ hs13_27) rfl d61_13 rfl rfl (by decide) N26_ ?_
          intro T29 L29 X29 e29 N29_
          exact Go.retJ X29 hx hret hlk (hb hby d61_16) (by decide) (by decide) (by show Q_div ..; rw [e29]; exact ⟨o, rfl, N29_, K26⟩)
      · refine t_cV [(.int t), (.long x2)] [(.long o)] 2 X19 u hZ hown (wd hw 444 rfl) (m_47 hw) e19 Ex0 (rm_a63_5 l Z a0 hw [] G GG x0 t x2 li a2 a1 p1 p2 h0 O0 Fe_x0 Eli Fe1 Ea2 Fe0 Ea1 Fp1 hs10_20 Fp2 hs10_25) rfl d61_10 rfl rfl (by decide) ?_
        intro v30 T30 L30 Lc30 X30 hQ30 l30
        obtain ⟨rfl, Nq30, Kq30⟩ := hQ30
        have O30_ := extKeep O0 Kq30 all0
        have K30 := Keep.trans (Keep.refl h0 []) Kq30 all0
        have N30_ := frA l30 N19_ Nq30
        by_cases hs13_31 : (0 : Int32) < (lcmpW o x2)
        · refine pt_cS [(.long o), (.long x2)] [] 0 X30 u hZ hown (wd hw 486 rfl) (m_48 hw) rfl (rm_a68_0 l Z a0 hw [] G GG o x2 T30.heap O30_ hs13_31) rfl d61_13 rfl rfl (by decide) N30_ ?_
          intro T32 L32 X32 e32 N32_
          exact Go.retJ X32 hx hret hlk (hb hby d61_16) (by decide) (by decide) (by show Q_div ..; rw [e32]; exact ⟨x2, rfl, N32_, K30⟩)
        · refine pt_cS [(.long o), (.long x2)] [] 0 X30 u hZ hown (wd hw 486 rfl) (m_48 hw) rfl (rm_a68_1 l Z a0 hw [] G GG o x2 T30.heap O30_ hs13_31) rfl d61_13 rfl rfl (by decide) N30_ ?_
          intro T33 L33 X33 e33 N33_
          exact Go.retJ X33 hx hret hlk (hb hby d61_16) (by decide) (by decide) (by show Q_div ..; rw [e33]; exact ⟨o, rfl, N33_, K30⟩)
theorem pn_8 : plainName "com/example/clean_epoch/cleanepoch/log/DivergenceWalk" = true := by first | (simp [plainName, overriddenIn]; done) | decide +kernel
theorem rm_a8_0 (x0 : Addr) (w1 : Int32) (h0 : Heap) (O0 : Ext Z.heap h0) (r0 : fl_12 Z h0 x0 (.int w1)) :
    MF hw GG l y_8 prog_15_method_3_code 1 (some .boolean) ws ⟨0, 0, 0, 0⟩ h0 #[(.ref x0)] (Qp (some (.int (w1 &&& (1 : Int32)))) Z h0) := by
  refine own_mF #[.val (.ref x0)] (plainFor_of_name pn_8) (fun _ => rfl) ?_
  intro p e s m below meth c s₁ u hlk hret hZ hown hnm X0 e0 N0
  refine t_aN X0 u d8_0 rfl rfl ?_
  refine t_gF X0 u hZ hown (wd hw 66 rfl) e0 r0 d8_1 ?_
  intro T1 X1 e1
  exact t_rN X1 u hret hlk (by simp) rfl d8_4 e1 N0 (by decide)
theorem pn_6 : plainName "com/example/clean_epoch/cleanepoch/log/DivergenceWalk" = true := by first | (simp [plainName, overriddenIn]; done) | decide +kernel
theorem rm_a6_0 (x0 : Addr) (w1 : Int32) (h0 : Heap) (O0 : Ext Z.heap h0) (r0 : fl_13 Z h0 x0 (.int w1)) (r1 : ¬ (w1 = (0 : Int32))) :
    MF hw GG l y_6 prog_15_method_2_code 1 (some .boolean) ws ⟨0, 0, 0, 0⟩ h0 #[(.ref x0)] (Qp (some (.int (1 : Int32))) Z h0) := by
  refine own_mF #[.val (.ref x0)] (plainFor_of_name pn_6) (fun _ => rfl) ?_
  intro p e s m below meth c s₁ u hlk hret hZ hown hnm X0 e0 N0
  refine t_aN X0 u d6_0 rfl rfl ?_
  refine t_gF X0 u hZ hown (wd hw 50 rfl) e0 r0 d6_1 ?_
  intro T1 X1 e1
  refine t_ifY 4 14 X1 u rfl d6_4 ((if0 _ _).trans (feq r1).2) (by decide) ?_
  refine t_iC X1 u d6_14  ?_
  refine t_go 15 19 X1 u rfl d6_15 (by decide) ?_
  exact t_rN X1 u hret hlk (by simp) rfl d6_19 e1 N0 (by decide)
theorem rm_a6_1 (x0 : Addr) (w1 w2 : Int32) (h0 : Heap) (O0 : Ext Z.heap h0) (r0 : fl_13 Z h0 x0 (.int w1)) (r1 : w1 = (0 : Int32)) (r2 : fl_14 Z h0 x0 (.int w2)) (r3 : ¬ (w2 = (0 : Int32))) :
    MF hw GG l y_6 prog_15_method_2_code 1 (some .boolean) ws ⟨0, 0, 0, 0⟩ h0 #[(.ref x0)] (Qp (some (.int (1 : Int32))) Z h0) := by
  refine own_mF #[.val (.ref x0)] (plainFor_of_name pn_6) (fun _ => rfl) ?_
  intro p e s m below meth c s₁ u hlk hret hZ hown hnm X0 e0 N0
  refine t_aN X0 u d6_0 rfl rfl ?_
  refine t_gF X0 u hZ hown (wd hw 50 rfl) e0 r0 d6_1 ?_
  intro T1 X1 e1
  refine t_ifN X1 u d6_4 ((if0 _ _).trans (teq r1).2) ?_
  refine t_aN X1 u d6_7 rfl rfl ?_
  refine t_gF X1 u hZ hown (wd hw 388 rfl) e1 r2 d6_8 ?_
  intro T2 X2 e2
  refine t_ifN X2 u d6_11 ((if0 _ _).trans (feq r3).1) ?_
  refine t_iC X2 u d6_14  ?_
  refine t_go 15 19 X2 u rfl d6_15 (by decide) ?_
  exact t_rN X2 u hret hlk (by simp) rfl d6_19 e2 N0 (by decide)
theorem rm_a6_2 (x0 : Addr) (w1 w2 : Int32) (h0 : Heap) (O0 : Ext Z.heap h0) (r0 : fl_13 Z h0 x0 (.int w1)) (r1 : w1 = (0 : Int32)) (r2 : fl_14 Z h0 x0 (.int w2)) (r3 : w2 = (0 : Int32)) :
    MF hw GG l y_6 prog_15_method_2_code 1 (some .boolean) ws ⟨0, 0, 0, 0⟩ h0 #[(.ref x0)] (Qp (some (.int (0 : Int32))) Z h0) := by
  refine own_mF #[.val (.ref x0)] (plainFor_of_name pn_6) (fun _ => rfl) ?_
  intro p e s m below meth c s₁ u hlk hret hZ hown hnm X0 e0 N0
  refine t_aN X0 u d6_0 rfl rfl ?_
  refine t_gF X0 u hZ hown (wd hw 50 rfl) e0 r0 d6_1 ?_
  intro T1 X1 e1
  refine t_ifN X1 u d6_4 ((if0 _ _).trans (teq r1).2) ?_
  refine t_aN X1 u d6_7 rfl rfl ?_
  refine t_gF X1 u hZ hown (wd hw 388 rfl) e1 r2 d6_8 ?_
  intro T2 X2 e2
  refine t_ifY 11 18 X2 u rfl d6_11 ((if0 _ _).trans (teq r3).1) (by decide) ?_
  refine t_iC X2 u d6_18  ?_
  exact t_rN X2 u hret hlk (by simp) rfl d6_19 e2 N0 (by decide)
theorem pn_72 : plainName "com/example/clean_epoch/cleanepoch/log/DivergenceWalk" = true := by first | (simp [plainName, overriddenIn]; done) | decide +kernel
def Q_a72_0 (Z : State) (G : GT) (x0 : Addr) (w6 w7 w8 : Int32) (h0 : Heap) (v : Option Value) (h : Heap) (L : List Loc) : Prop := ∃ (z_x0_diverged : Int32) (z_x0_reached : Int64) (r8 : Addr), v = none ∧ Fr Z.heap.size L ∧ Keep h0 h [x0] ∧ fl_12 Z h x0 (.int (0 : Int32)) ∧ fl_10 Z h x0 (.int z_x0_diverged) ∧ fl_9 Z h x0 (.long z_x0_reached) ∧ fl_8 Z h x0 (.ref r8) ∧ fl_13 Z h x0 (.int (1 : Int32)) ∧ fl_7 Z h x0 (.int w6) ∧ fl_11 Z h x0 (.int w7) ∧ fl_14 Z h x0 (.int w8) ∧ h0.size ≤ r8 ∧ LS Z h G.el G.eo r8
theorem rm_a72_0 (x0 : Addr) (x1 : Int64) (w1 w2 : Int32) (w3 : Int64) (w4 : Addr) (w5 w6 w7 w8 : Int32) (h0 : Heap) (O0 : Ext Z.heap h0) (r0 : fl_12 Z h0 x0 (.int w1)) (r1 : ¬ (w1 = (0 : Int32))) (r2 : fl_10 Z h0 x0 (.int w2)) (r3 : w2 = (0 : Int32)) (r4 : ex_6 Z h0 x0) (r5 : fl_9 Z h0 x0 (.long w3)) (r6 : Z.heap.size ≤ x0) (r7 : fl_8 Z h0 x0 (.ref w4)) (r8 : LS Z h0 G.el G.eo w4) (r9 : ex_3 Z h0 w4) (r10 : fl_13 Z h0 x0 (.int w5)) (r11 : fl_7 Z h0 x0 (.int w6)) (r12 : fl_11 Z h0 x0 (.int w7)) (r13 : fl_14 Z h0 x0 (.int w8)) :
    MF hw GG l y_72 prog_15_method_6_code 3 none ws ⟨10, 9, 39, 136⟩ h0 #[(.ref x0), (.long x1)] (Q_a72_0 Z G x0 w6 w7 w8 h0) := by
  refine own_mF #[.val (.ref x0), .val (.long x1), .second] (plainFor_of_name pn_72) (fun _ => rfl) ?_
  intro p e s m below meth c s₁ u hlk hret hZ hown hnm X0 e0 N0
  obtain ⟨hx, hby, hml⟩ := id u
  refine t_aN X0 u d72_0 rfl rfl ?_
  refine t_gF X0 u hZ hown (wd hw 66 rfl) e0 r0 d72_1 ?_
  intro T1 X1 e1
  refine t_ifY 4 17 X1 u rfl d72_4 ((if0 _ _).trans (feq r1).2) (by decide) ?_
  refine t_aN X1 u d72_17 rfl rfl ?_
  refine t_aN X1 u d72_18 rfl rfl ?_
  refine t_gF X1 u hZ hown (wd hw 503 rfl) e1 r2 d72_19 ?_
  intro T2 X2 e2
  refine t_ifY 22 36 X2 u rfl d72_22 ((if0 _ _).trans (teq r3).1) (by decide) ?_
  refine t_lN X2 u d72_36 rfl ?_
  refine t_pF X2 u hZ hown (wd hw 48 rfl) e2 r5 r4 (Or.inl (wd hw 49 rfl)) (wd hw 5 rfl) pf_J rfl rfl d72_37 ?_
  intro T3 h3 X3 e3 W3
  have N3_ := Fr.snoc X3 N0 r6
  have O3_ := extWr O0 W3 r6
  have K3 := Keep.wr (Keep.refl h0 [x0]) W3 k0
  have F3 := Fld.same W3 r5
  refine t_aN X3 u d72_40 rfl rfl ?_
  refine t_iC X3 u d72_41  ?_
  refine t_pN X3 u hZ hown (wd hw 503 rfl) e3 (fR W3 r2 (sn_16 hw)) (Exa.wr W3 r4) (Or.inl (wd hw 504 rfl)) (wd hw 5 rfl) (.int (1 : Int32)) pf_Z rfl rfl d72_42 ?_
  intro T4 h4 X4 e4 W4
  have N4_ := Fr.snoc X4 N3_ r6
  have O4_ := extWr O3_ W4 r6
  have K4 := Keep.wr K3 W4 k0
  have F4 := Fld.same W4 (fR W3 r2 (sn_16 hw))
  refine t_aN X4 u d72_45 rfl rfl ?_
  refine t_aN X4 u d72_46 rfl rfl ?_
  refine t_gF X4 u hZ hown (wd hw 46 rfl) e4 (fR W4 (fR W3 r7 (sn_17 hw)) (sn_18 hw)) d72_47 ?_
  intro T5 X5 e5
  refine t_aN X5 u d72_50 rfl rfl ?_
  refine t_gF X5 u hZ hown (wd hw 48 rfl) e5 (fS W4 F3 (sn_16 hw)) d72_51 ?_
  intro T6 X6 e6
  have f7 := (LS.wr W4 (Exa.wr W3 r4) (by decide) (LS.wr W3 r4 (by decide) r8))
  refine t_cV [(.long x1)] [(.ref x0)] 1 X6 u hZ hown (wd hw 489 rfl) (m_51 hw) e6 (Exa.wr W4 (Exa.wr W3 r9)) (rm_wef l Z a0 hw [] G GG w4 x1 h4 O4_ f7) rfl d72_54 rfl rfl (by decide) ?_
  intro v8 T8 L8 Lc8 X8 hQ8 l8
  obtain ⟨r8, rfl, Nq8, Kq8, sz8, hL8⟩ := hQ8
  have O8_ := extKeep O4_ Kq8 all0
  have K8 := Keep.trans K4 Kq8 all0
  have N8_ := frA l8 N4_ Nq8
  have g_r8 : Z.heap.size ≤ r8 := Nat.le_trans O4_.1 sz8
  have sz_r8 : h0.size ≤ r8 := Nat.le_trans K4.1 sz8
  have f9 := ((fR W4 (fR W3 r7 (sn_17 hw)) (sn_18 hw)).keep Kq8 nin0)
  refine t_pF X8 u hZ hown (wd hw 46 rfl) rfl f9 ((Exa.wr W4 (Exa.wr W3 r4)).keep Kq8) (Or.inl (wd hw 47 rfl)) (wd hw 5 rfl) pf_Lcom_example_clean_epoch_cleanepoch_log_Lineage_ rfl rfl d72_57 ?_
  intro T10 h10 X10 e10 W10
  have N10_ := Fr.snoc X10 N8_ r6
  have O10_ := extWr O8_ W10 r6
  have K10 := Keep.wr K8 W10 k0
  have F10 := Fld.same W10 f9
  refine t_aN X10 u d72_60 rfl rfl ?_
  refine t_iC X10 u d72_61  ?_
  have f11 := (Exa.wr W10 ((Exa.wr W4 (Exa.wr W3 r4)).keep Kq8))
  have f12 := (fR W10 ((fR W4 (fR W3 r0 (sn_19 hw)) (sn_20 hw)).keep Kq8 nin0) (sn_21 hw))
  refine t_pN X10 u hZ hown (wd hw 66 rfl) e10 f12 f11 (Or.inl (wd hw 67 rfl)) (wd hw 5 rfl) (.int (0 : Int32)) pf_Z rfl rfl d72_62 ?_
  intro T13 h13 X13 e13 W13
  have N13_ := Fr.snoc X13 N10_ r6
  have O13_ := extWr O10_ W13 r6
  have K13 := Keep.wr K10 W13 k0
  have F13 := Fld.same W13 f12
  refine t_aN X13 u d72_65 rfl rfl ?_
  refine t_iC X13 u d72_66  ?_
  have f14 := (fR W10 ((fR W4 (fR W3 r10 (sn_22 hw)) (sn_23 hw)).keep Kq8 nin0) (sn_24 hw))
  refine t_pN X13 u hZ hown (wd hw 50 rfl) e13 (fR W13 f14 (sn_25 hw)) (Exa.wr W13 f11) (Or.inl (wd hw 51 rfl)) (wd hw 5 rfl) (.int (1 : Int32)) pf_Z rfl rfl d72_67 ?_
  intro T15 h15 X15 e15 W15
  have N15_ := Fr.snoc X15 N13_ r6
  have O15_ := extWr O13_ W15 r6
  have K15 := Keep.wr K13 W15 k0
  have F15 := Fld.same W15 (fR W13 f14 (sn_25 hw))
  have f16 := (fS W15 (fS W13 (fS W10 (F4.keep Kq8 nin0) (sn_18 hw)) (sn_20 hw)) (sn_23 hw))
  have f17 := (fS W13 (fS W10 ((fS W4 F3 (sn_16 hw)).keep Kq8 nin0) (sn_17 hw)) (sn_19 hw))
  have f18 := (fS W15 (fS W13 F10 (sn_21 hw)) (sn_24 hw))
  have f19 := (fR W10 ((fR W4 (fR W3 r11 (sn_26 hw)) (sn_27 hw)).keep Kq8 nin0) (sn_28 hw))
  have f20 := (fR W15 (fR W13 f19 (sn_29 hw)) (sn_30 hw))
  have f21 := (fR W10 ((fR W4 (fR W3 r12 (sn_31 hw)) (sn_32 hw)).keep Kq8 nin0) (sn_33 hw))
  have f22 := (fR W15 (fR W13 f21 (sn_34 hw)) (sn_35 hw))
  have f23 := (fR W10 ((fR W4 (fR W3 r13 (sn_36 hw)) (sn_37 hw)).keep Kq8 nin0) (sn_38 hw))
  have f24 := (fR W15 (fR W13 f23 (sn_39 hw)) (sn_40 hw))
  have f25 := (LS.wr W15 (Exa.wr W13 f11) (by decide) (LS.wr W13 f11 (by decide) (LS.wr W10 ((Exa.wr W4 (Exa.wr W3 r4)).keep Kq8) (by decide) hL8)))
  exact Go.retV X15 hx hret hlk (hb hby d72_70) (by decide) (by decide) (by show Q_a72_0 ..; rw [e15]; exact ⟨(1 : Int32), x1, r8, rfl, N15_, K15, (fS W15 F13 (sn_25 hw)), f16, (fS W15 f17 (sn_22 hw)), f18, F15, f20, f22, f24, sz_r8, f25⟩)
def Q_a72_1 (Z : State) (G : GT) (x0 : Addr) (w6 w7 w8 : Int32) (h0 : Heap) (v : Option Value) (h : Heap) (L : List Loc) : Prop := ∃ (z_x0_diverged : Int32) (z_x0_reached : Int64) (r10 : Addr), v = none ∧ Fr Z.heap.size L ∧ Keep h0 h [x0] ∧ fl_12 Z h x0 (.int (0 : Int32)) ∧ fl_10 Z h x0 (.int z_x0_diverged) ∧ fl_9 Z h x0 (.long z_x0_reached) ∧ fl_8 Z h x0 (.ref r10) ∧ fl_13 Z h x0 (.int (1 : Int32)) ∧ fl_7 Z h x0 (.int w6) ∧ fl_11 Z h x0 (.int w7) ∧ fl_14 Z h x0 (.int w8) ∧ h0.size ≤ r10 ∧ LS Z h G.el G.eo r10
theorem rm_a72_1 (x0 : Addr) (x1 : Int64) (w1 w2 : Int32) (w3 : Int64) (w4 : Addr) (w5 w6 w7 w8 : Int32) (h0 : Heap) (O0 : Ext Z.heap h0) (r0 : fl_12 Z h0 x0 (.int w1)) (r1 : ¬ (w1 = (0 : Int32))) (r2 : fl_10 Z h0 x0 (.int w2)) (r3 : ¬ (w2 = (0 : Int32))) (r4 : fl_9 Z h0 x0 (.long w3)) (r5 : (0 : Int32) < (lcmpW w3 x1)) (r6 : ex_6 Z h0 x0) (r7 : Z.heap.size ≤ x0) (r8 : fl_8 Z h0 x0 (.ref w4)) (r9 : LS Z h0 G.el G.eo w4) (r10 : ex_3 Z h0 w4) (r11 : fl_13 Z h0 x0 (.int w5)) (r12 : fl_7 Z h0 x0 (.int w6)) (r13 : fl_11 Z h0 x0 (.int w7)) (r14 : fl_14 Z h0 x0 (.int w8)) :
    MF hw GG l y_72 prog_15_method_6_code 3 none ws ⟨10, 9, 39, 136⟩ h0 #[(.ref x0), (.long x1)] (Q_a72_1 Z G x0 w6 w7 w8 h0) := by
  refine own_mF #[.val (.ref x0), .val (.long x1), .second] (plainFor_of_name pn_72) (fun _ => rfl) ?_
  intro p e s m below meth c s₁ u hlk hret hZ hown hnm X0 e0 N0
  obtain ⟨hx, hby, hml⟩ := id u
  refine t_aN X0 u d72_0 rfl rfl ?_
  refine t_gF X0 u hZ hown (wd hw 66 rfl) e0 r0 d72_1 ?_
  intro T1 X1 e1
  refine t_ifY 4 17 X1 u rfl d72_4 ((if0 _ _).trans (feq r1).2) (by decide) ?_
  refine t_aN X1 u d72_17 rfl rfl ?_
  refine t_aN X1 u d72_18 rfl rfl ?_
  refine t_gF X1 u hZ hown (wd hw 503 rfl) e1 r2 d72_19 ?_
  intro T2 X2 e2
  refine t_ifN X2 u d72_22 ((if0 _ _).trans (feq r3).1) ?_
  refine t_aN X2 u d72_25 rfl rfl ?_
  refine t_gF X2 u hZ hown (wd hw 48 rfl) e2 r4 d72_26 ?_
  intro T3 X3 e3
  refine t_lN X3 u d72_29 rfl ?_
  refine pt_cS [(.long w3), (.long x1)] [(.ref x0)] 1 X3 u hZ hown (wd hw 511 rfl) (m_48 hw) e3 (rm_a68_0 l Z a0 hw [] G GG w3 x1 h0 O0 r5) rfl d72_30 rfl rfl (by decide) N0 ?_
  intro T4 L4 X4 e4 N4_
  refine t_go 33 37 X4 u rfl d72_33 (by decide) ?_
  refine t_pF X4 u hZ hown (wd hw 48 rfl) e4 r4 r6 (Or.inl (wd hw 49 rfl)) (wd hw 5 rfl) pf_J rfl rfl d72_37 ?_
  intro T5 h5 X5 e5 W5
  have N5_ := Fr.snoc X5 N4_ r7
  have O5_ := extWr O0 W5 r7
  have K5 := Keep.wr (Keep.refl h0 [x0]) W5 k0
  have F5 := Fld.same W5 r4
  refine t_aN X5 u d72_40 rfl rfl ?_
  refine t_iC X5 u d72_41  ?_
  refine t_pN X5 u hZ hown (wd hw 503 rfl) e5 (fR W5 r2 (sn_16 hw)) (Exa.wr W5 r6) (Or.inl (wd hw 504 rfl)) (wd hw 5 rfl) (.int (1 : Int32)) pf_Z rfl rfl d72_42 ?_
  intro T6 h6 X6 e6 W6
  have N6_ := Fr.snoc X6 N5_ r7
  have O6_ := extWr O5_ W6 r7
  have K6 := Keep.wr K5 W6 k0
  have F6 := Fld.same W6 (fR W5 r2 (sn_16 hw))
  refine t_aN X6 u d72_45 rfl rfl ?_
  refine t_aN X6 u d72_46 rfl rfl ?_
  refine t_gF X6 u hZ hown (wd hw 46 rfl) e6 (fR W6 (fR W5 r8 (sn_17 hw)) (sn_18 hw)) d72_47 ?_
  intro T7 X7 e7
  refine t_aN X7 u d72_50 rfl rfl ?_
  refine t_gF X7 u hZ hown (wd hw 48 rfl) e7 (fS W6 F5 (sn_16 hw)) d72_51 ?_
  intro T8 X8 e8
  have f9 := (LS.wr W6 (Exa.wr W5 r6) (by decide) (LS.wr W5 r6 (by decide) r9))
  refine t_cV [(.long x1)] [(.ref x0)] 1 X8 u hZ hown (wd hw 489 rfl) (m_51 hw) e8 (Exa.wr W6 (Exa.wr W5 r10)) (rm_wef l Z a0 hw [] G GG w4 x1 h6 O6_ f9) rfl d72_54 rfl rfl (by decide) ?_
  intro v10 T10 L10 Lc10 X10 hQ10 l10
  obtain ⟨r10, rfl, Nq10, Kq10, sz10, hL10⟩ := hQ10
  have O10_ := extKeep O6_ Kq10 all0
  have K10 := Keep.trans K6 Kq10 all0
  have N10_ := frA l10 N6_ Nq10
  have g_r10 : Z.heap.size ≤ r10 := Nat.le_trans O6_.1 sz10
  have sz_r10 : h0.size ≤ r10 := Nat.le_trans K6.1 sz10
  have f11 := ((fR W6 (fR W5 r8 (sn_17 hw)) (sn_18 hw)).keep Kq10 nin0)
  refine t_pF X10 u hZ hown (wd hw 46 rfl) rfl f11 ((Exa.wr W6 (Exa.wr W5 r6)).keep Kq10) (Or.inl (wd hw 47 rfl)) (wd hw 5 rfl) pf_Lcom_example_clean_epoch_cleanepoch_log_Lineage_ rfl rfl d72_57 ?_
  intro T12 h12 X12 e12 W12
  have N12_ := Fr.snoc X12 N10_ r7
  have O12_ := extWr O10_ W12 r7
  have K12 := Keep.wr K10 W12 k0
  have F12 := Fld.same W12 f11
  refine t_aN X12 u d72_60 rfl rfl ?_
  refine t_iC X12 u d72_61  ?_
  have f13 := (Exa.wr W12 ((Exa.wr W6 (Exa.wr W5 r6)).keep Kq10))
  have f14 := (fR W12 ((fR W6 (fR W5 r0 (sn_19 hw)) (sn_20 hw)).keep Kq10 nin0) (sn_21 hw))
  refine t_pN X12 u hZ hown (wd hw 66 rfl) e12 f14 f13 (Or.inl (wd hw 67 rfl)) (wd hw 5 rfl) (.int (0 : Int32)) pf_Z rfl rfl d72_62 ?_
  intro T15 h15 X15 e15 W15
  have N15_ := Fr.snoc X15 N12_ r7
  have O15_ := extWr O12_ W15 r7
  have K15 := Keep.wr K12 W15 k0
  have F15 := Fld.same W15 f14
  refine t_aN X15 u d72_65 rfl rfl ?_
  refine t_iC X15 u d72_66  ?_
  have f16 := (fR W12 ((fR W6 (fR W5 r11 (sn_22 hw)) (sn_23 hw)).keep Kq10 nin0) (sn_24 hw))
  refine t_pN X15 u hZ hown (wd hw 50 rfl) e15 (fR W15 f16 (sn_25 hw)) (Exa.wr W15 f13) (Or.inl (wd hw 51 rfl)) (wd hw 5 rfl) (.int (1 : Int32)) pf_Z rfl rfl d72_67 ?_
  intro T17 h17 X17 e17 W17
  have N17_ := Fr.snoc X17 N15_ r7
  have O17_ := extWr O15_ W17 r7
  have K17 := Keep.wr K15 W17 k0
  have F17 := Fld.same W17 (fR W15 f16 (sn_25 hw))
  have f18 := (fS W17 (fS W15 (fS W12 (F6.keep Kq10 nin0) (sn_18 hw)) (sn_20 hw)) (sn_23 hw))
  have f19 := (fS W15 (fS W12 ((fS W6 F5 (sn_16 hw)).keep Kq10 nin0) (sn_17 hw)) (sn_19 hw))
  have f20 := (fS W17 (fS W15 F12 (sn_21 hw)) (sn_24 hw))
  have f21 := (fR W12 ((fR W6 (fR W5 r12 (sn_26 hw)) (sn_27 hw)).keep Kq10 nin0) (sn_28 hw))
  have f22 := (fR W17 (fR W15 f21 (sn_29 hw)) (sn_30 hw))
  have f23 := (fR W12 ((fR W6 (fR W5 r13 (sn_31 hw)) (sn_32 hw)).keep Kq10 nin0) (sn_33 hw))
  have f24 := (fR W17 (fR W15 f23 (sn_34 hw)) (sn_35 hw))
  have f25 := (fR W12 ((fR W6 (fR W5 r14 (sn_36 hw)) (sn_37 hw)).keep Kq10 nin0) (sn_38 hw))
  have f26 := (fR W17 (fR W15 f25 (sn_39 hw)) (sn_40 hw))
  have f27 := (LS.wr W17 (Exa.wr W15 f13) (by decide) (LS.wr W15 f13 (by decide) (LS.wr W12 ((Exa.wr W6 (Exa.wr W5 r6)).keep Kq10) (by decide) hL10)))
  exact Go.retV X17 hx hret hlk (hb hby d72_70) (by decide) (by decide) (by show Q_a72_1 ..; rw [e17]; exact ⟨(1 : Int32), x1, r10, rfl, N17_, K17, (fS W17 F15 (sn_25 hw)), f18, (fS W17 f19 (sn_22 hw)), f20, F17, f22, f24, f26, sz_r10, f27⟩)
def Q_a72_2 (Z : State) (G : GT) (x0 : Addr) (w6 w7 w8 : Int32) (h0 : Heap) (v : Option Value) (h : Heap) (L : List Loc) : Prop := ∃ (z_x0_diverged : Int32) (z_x0_reached : Int64) (r10 : Addr), v = none ∧ Fr Z.heap.size L ∧ Keep h0 h [x0] ∧ fl_12 Z h x0 (.int (0 : Int32)) ∧ fl_10 Z h x0 (.int z_x0_diverged) ∧ fl_9 Z h x0 (.long z_x0_reached) ∧ fl_8 Z h x0 (.ref r10) ∧ fl_13 Z h x0 (.int (1 : Int32)) ∧ fl_7 Z h x0 (.int w6) ∧ fl_11 Z h x0 (.int w7) ∧ fl_14 Z h x0 (.int w8) ∧ h0.size ≤ r10 ∧ LS Z h G.el G.eo r10
theorem rm_a72_2 (x0 : Addr) (x1 : Int64) (w1 w2 : Int32) (w3 : Int64) (w4 : Addr) (w5 w6 w7 w8 : Int32) (h0 : Heap) (O0 : Ext Z.heap h0) (r0 : fl_12 Z h0 x0 (.int w1)) (r1 : ¬ (w1 = (0 : Int32))) (r2 : fl_10 Z h0 x0 (.int w2)) (r3 : ¬ (w2 = (0 : Int32))) (r4 : fl_9 Z h0 x0 (.long w3)) (r5 : ¬ ((0 : Int32) < (lcmpW w3 x1))) (r6 : ex_6 Z h0 x0) (r7 : Z.heap.size ≤ x0) (r8 : fl_8 Z h0 x0 (.ref w4)) (r9 : LS Z h0 G.el G.eo w4) (r10 : ex_3 Z h0 w4) (r11 : fl_13 Z h0 x0 (.int w5)) (r12 : fl_7 Z h0 x0 (.int w6)) (r13 : fl_11 Z h0 x0 (.int w7)) (r14 : fl_14 Z h0 x0 (.int w8)) :
    MF hw GG l y_72 prog_15_method_6_code 3 none ws ⟨10, 9, 39, 136⟩ h0 #[(.ref x0), (.long x1)] (Q_a72_2 Z G x0 w6 w7 w8 h0) := by
  refine own_mF #[.val (.ref x0), .val (.long x1), .second] (plainFor_of_name pn_72) (fun _ => rfl) ?_
  intro p e s m below meth c s₁ u hlk hret hZ hown hnm X0 e0 N0
  obtain ⟨hx, hby, hml⟩ := id u
  refine t_aN X0 u d72_0 rfl rfl ?_
  refine t_gF X0 u hZ hown (wd hw 66 rfl) e0 r0 d72_1 ?_
  intro T1 X1 e1
  refine t_ifY 4 17 X1 u rfl d72_4 ((if0 _ _).trans (feq r1).2) (by decide) ?_
  refine t_aN X1 u d72_17 rfl rfl ?_
  refine t_aN X1 u d72_18 rfl rfl ?_
  refine t_gF X1 u hZ hown (wd hw 503 rfl) e1 r2 d72_19 ?_
  intro T2 X2 e2
  refine t_ifN X2 u d72_22 ((if0 _ _).trans (feq r3).1) ?_
  refine t_aN X2 u d72_25 rfl rfl ?_
  refine t_gF X2 u hZ hown (wd hw 48 rfl) e2 r4 d72_26 ?_
  intro T3 X3 e3
  refine t_lN X3 u d72_29 rfl ?_
  refine pt_cS [(.long w3), (.long x1)] [(.ref x0)] 1 X3 u hZ hown (wd hw 511 rfl) (m_48 hw) e3 (rm_a68_1 l Z a0 hw [] G GG w3 x1 h0 O0 r5) rfl d72_30 rfl rfl (by decide) N0 ?_
  intro T4 L4 X4 e4 N4_
  refine t_go 33 37 X4 u rfl d72_33 (by decide) ?_
  refine t_pF X4 u hZ hown (wd hw 48 rfl) e4 r4 r6 (Or.inl (wd hw 49 rfl)) (wd hw 5 rfl) pf_J rfl rfl d72_37 ?_
  intro T5 h5 X5 e5 W5
  have N5_ := Fr.snoc X5 N4_ r7
  have O5_ := extWr O0 W5 r7
  have K5 := Keep.wr (Keep.refl h0 [x0]) W5 k0
  have F5 := Fld.same W5 r4
  refine t_aN X5 u d72_40 rfl rfl ?_
  refine t_iC X5 u d72_41  ?_
  refine t_pN X5 u hZ hown (wd hw 503 rfl) e5 (fR W5 r2 (sn_16 hw)) (Exa.wr W5 r6) (Or.inl (wd hw 504 rfl)) (wd hw 5 rfl) (.int (1 : Int32)) pf_Z rfl rfl d72_42 ?_
  intro T6 h6 X6 e6 W6
  have N6_ := Fr.snoc X6 N5_ r7
  have O6_ := extWr O5_ W6 r7
  have K6 := Keep.wr K5 W6 k0
  have F6 := Fld.same W6 (fR W5 r2 (sn_16 hw))
  refine t_aN X6 u d72_45 rfl rfl ?_
  refine t_aN X6 u d72_46 rfl rfl ?_
  refine t_gF X6 u hZ hown (wd hw 46 rfl) e6 (fR W6 (fR W5 r8 (sn_17 hw)) (sn_18 hw)) d72_47 ?_
  intro T7 X7 e7
  refine t_aN X7 u d72_50 rfl rfl ?_
  refine t_gF X7 u hZ hown (wd hw 48 rfl) e7 (fS W6 F5 (sn_16 hw)) d72_51 ?_
  intro T8 X8 e8
  have f9 := (LS.wr W6 (Exa.wr W5 r6) (by decide) (LS.wr W5 r6 (by decide) r9))
  refine t_cV [(.long w3)] [(.ref x0)] 1 X8 u hZ hown (wd hw 489 rfl) (m_51 hw) e8 (Exa.wr W6 (Exa.wr W5 r10)) (rm_wef l Z a0 hw [] G GG w4 w3 h6 O6_ f9) rfl d72_54 rfl rfl (by decide) ?_
  intro v10 T10 L10 Lc10 X10 hQ10 l10
  obtain ⟨r10, rfl, Nq10, Kq10, sz10, hL10⟩ := hQ10
  have O10_ := extKeep O6_ Kq10 all0
  have K10 := Keep.trans K6 Kq10 all0
  have N10_ := frA l10 N6_ Nq10
  have g_r10 : Z.heap.size ≤ r10 := Nat.le_trans O6_.1 sz10
  have sz_r10 : h0.size ≤ r10 := Nat.le_trans K6.1 sz10
  have f11 := ((fR W6 (fR W5 r8 (sn_17 hw)) (sn_18 hw)).keep Kq10 nin0)
  refine t_pF X10 u hZ hown (wd hw 46 rfl) rfl f11 ((Exa.wr W6 (Exa.wr W5 r6)).keep Kq10) (Or.inl (wd hw 47 rfl)) (wd hw 5 rfl) pf_Lcom_example_clean_epoch_cleanepoch_log_Lineage_ rfl rfl d72_57 ?_
  intro T12 h12 X12 e12 W12
  have N12_ := Fr.snoc X12 N10_ r7
  have O12_ := extWr O10_ W12 r7
  have K12 := Keep.wr K10 W12 k0
  have F12 := Fld.same W12 f11
  refine t_aN X12 u d72_60 rfl rfl ?_
  refine t_iC X12 u d72_61  ?_
  have f13 := (Exa.wr W12 ((Exa.wr W6 (Exa.wr W5 r6)).keep Kq10))
  have f14 := (fR W12 ((fR W6 (fR W5 r0 (sn_19 hw)) (sn_20 hw)).keep Kq10 nin0) (sn_21 hw))
  refine t_pN X12 u hZ hown (wd hw 66 rfl) e12 f14 f13 (Or.inl (wd hw 67 rfl)) (wd hw 5 rfl) (.int (0 : Int32)) pf_Z rfl rfl d72_62 ?_
  intro T15 h15 X15 e15 W15
  have N15_ := Fr.snoc X15 N12_ r7
  have O15_ := extWr O12_ W15 r7
  have K15 := Keep.wr K12 W15 k0
  have F15 := Fld.same W15 f14
  refine t_aN X15 u d72_65 rfl rfl ?_
  refine t_iC X15 u d72_66  ?_
  have f16 := (fR W12 ((fR W6 (fR W5 r11 (sn_22 hw)) (sn_23 hw)).keep Kq10 nin0) (sn_24 hw))
  refine t_pN X15 u hZ hown (wd hw 50 rfl) e15 (fR W15 f16 (sn_25 hw)) (Exa.wr W15 f13) (Or.inl (wd hw 51 rfl)) (wd hw 5 rfl) (.int (1 : Int32)) pf_Z rfl rfl d72_67 ?_
  intro T17 h17 X17 e17 W17
  have N17_ := Fr.snoc X17 N15_ r7
  have O17_ := extWr O15_ W17 r7
  have K17 := Keep.wr K15 W17 k0
  have F17 := Fld.same W17 (fR W15 f16 (sn_25 hw))
  have f18 := (fS W17 (fS W15 (fS W12 (F6.keep Kq10 nin0) (sn_18 hw)) (sn_20 hw)) (sn_23 hw))
  have f19 := (fS W15 (fS W12 ((fS W6 F5 (sn_16 hw)).keep Kq10 nin0) (sn_17 hw)) (sn_19 hw))
  have f20 := (fS W17 (fS W15 F12 (sn_21 hw)) (sn_24 hw))
  have f21 := (fR W12 ((fR W6 (fR W5 r12 (sn_26 hw)) (sn_27 hw)).keep Kq10 nin0) (sn_28 hw))
  have f22 := (fR W17 (fR W15 f21 (sn_29 hw)) (sn_30 hw))
  have f23 := (fR W12 ((fR W6 (fR W5 r13 (sn_31 hw)) (sn_32 hw)).keep Kq10 nin0) (sn_33 hw))
  have f24 := (fR W17 (fR W15 f23 (sn_34 hw)) (sn_35 hw))
  have f25 := (fR W12 ((fR W6 (fR W5 r14 (sn_36 hw)) (sn_37 hw)).keep Kq10 nin0) (sn_38 hw))
  have f26 := (fR W17 (fR W15 f25 (sn_39 hw)) (sn_40 hw))
  have f27 := (LS.wr W17 (Exa.wr W15 f13) (by decide) (LS.wr W15 f13 (by decide) (LS.wr W12 ((Exa.wr W6 (Exa.wr W5 r6)).keep Kq10) (by decide) hL10)))
  exact Go.retV X17 hx hret hlk (hb hby d72_70) (by decide) (by decide) (by show Q_a72_2 ..; rw [e17]; exact ⟨(1 : Int32), w3, r10, rfl, N17_, K17, (fS W17 F15 (sn_25 hw)), f18, (fS W17 f19 (sn_22 hw)), f20, F17, f22, f24, f26, sz_r10, f27⟩)
theorem pn_54 : plainName "com/example/clean_epoch/cleanepoch/log/DivergenceWalk" = true := by first | (simp [plainName, overriddenIn]; done) | decide +kernel
theorem rm_a54_0 (x0 w1 : Addr) (h0 : Heap) (O0 : Ext Z.heap h0) (r0 : fl_8 Z h0 x0 (.ref w1)) :
    MF hw GG l y_54 prog_15_method_11_code 1 (some (.object "com/example/clean_epoch/cleanepoch/log/Lineage")) ws ⟨0, 0, 0, 0⟩ h0 #[(.ref x0)] (Qp (some (.ref w1)) Z h0) := by
  refine own_mF #[.val (.ref x0)] (plainFor_of_name pn_54) (fun _ => rfl) ?_
  intro p e s m below meth c s₁ u hlk hret hZ hown hnm X0 e0 N0
  refine t_aN X0 u d54_0 rfl rfl ?_
  refine t_gF X0 u hZ hown (wd hw 46 rfl) e0 r0 d54_1 ?_
  intro T1 X1 e1
  exact t_rA X1 u hret hlk rfl rfl d54_4 e1 N0 (by decide)
theorem pn_5 : plainName "java/util/ImmutableCollections$ListN" = true := by first | (simp [plainName, overriddenIn]; done) | decide +kernel
theorem rm_a5_0  (h0 : Heap) (O0 : Ext Z.heap h0) :
    MF hw GG l y_5 jdk_45_method_2_code 1 (some .boolean) ws ⟨0, 0, 0, 0⟩ h0 #[(.ref G.el)] (Qp (some (.int (1 : Int32))) Z h0) := by
  refine own_mF #[.val (.ref G.el)] (plainFor_of_name pn_5) (fun _ => rfl) ?_
  intro p e s m below meth c s₁ u hlk hret hZ hown hnm X0 e0 N0
  obtain ⟨hx, hby, hml⟩ := id u
  refine t_aN X0 u d5_0 rfl rfl ?_
  refine t_gF X0 u hZ hown (wd hw 42 rfl) e0 (Fld.ext O0 GG.G_elf) d5_1 ?_
  intro T1 X1 e1
  obtain ⟨cl2, Ar2, -, S2, N2, -, -⟩ := id (Arv.ext GG.G_eev O0)
  refine Go.step (X1.arraylength hx (by rw [e1]; exact Ar2.1) (State.isArrayOf_alike hZ.alike Ar2.2.1) (g := (mkF m 4 #[.val (.ref G.el)] [(.ref G.ee)])) rfl rfl (hb hby d5_4)) ?_
  rw [len_of S2 N2]
  show Go _ _ _ _ _ _ _ _ T1 (mkF m 5 #[.val (.ref G.el)] [(.int (0 : Int32))])
  refine t_ifN X1 u d5_5 ((if0 _ _).trans (teq (by decide : (0 : Int32) = (0 : Int32))).2) ?_
  refine t_iC X1 u d5_8  ?_
  refine t_go 9 13 X1 u rfl d5_9 (by decide) ?_
  exact t_rN X1 u hret hlk (by simp) rfl d5_13 e1 N0 (by decide)
theorem pn_4 : plainName "com/example/clean_epoch/cleanepoch/log/Lineage" = true := by first | (simp [plainName, overriddenIn]; done) | decide +kernel
theorem rm_a4_0 (x0 : Addr) (h0 : Heap) (O0 : Ext Z.heap h0) (r0 : fl_2 Z h0 x0 (.ref G.el)) :
    MF hw GG l y_4 prog_22_method_2_code 1 (some .boolean) ws ⟨1, 0, 0, 12⟩ h0 #[(.ref x0)] (Qp (some (.int (1 : Int32))) Z h0) := by
  refine own_mF #[.val (.ref x0)] (plainFor_of_name pn_4) (fun _ => rfl) ?_
  intro p e s m below meth c s₁ u hlk hret hZ hown hnm X0 e0 N0
  refine t_aN X0 u d4_0 rfl rfl ?_
  refine t_gF X0 u hZ hown (wd hw 30 rfl) e0 r0 d4_1 ?_
  intro T1 X1 e1
  refine pt_cI [] [] 0 X1 u hZ hown (wd hw 32 rfl) (m_54 hw) e1 (Exa.ext O0 GG.G_ele) (rm_a5_0 l Z a0 hw [] G GG  h0 O0 ) rfl d4_4 rfl rfl (by decide) N0 ?_
  intro T2 L2 X2 e2 N2_
  exact t_rN X2 u hret hlk (by simp) rfl d4_9 e2 N2_ (by decide)
theorem pn_55 : plainName "com/example/clean_epoch/cleanepoch/log/DivergenceWalk" = true := by first | (simp [plainName, overriddenIn]; done) | decide +kernel
theorem rm_a55_0 (x0 : Addr) (w1 w2 w3 : Int32) (w4 : Addr) (w5 : Int32) (h0 : Heap) (O0 : Ext Z.heap h0) (r0 : ex_6 Z h0 x0) (r1 : fl_13 Z h0 x0 (.int w1)) (r2 : w1 = (0 : Int32)) (r3 : fl_14 Z h0 x0 (.int w2)) (r4 : w2 = (0 : Int32)) (r5 : fl_12 Z h0 x0 (.int w3)) (r6 : w3 = (0 : Int32)) (r7 : fl_8 Z h0 x0 (.ref w4)) (r8 : ex_3 Z h0 w4) (r9 : fl_2 Z h0 w4 (.ref G.el)) (r10 : fl_7 Z h0 x0 (.int w5)) :
    MF hw GG l y_55 prog_15_method_4_code 1 (some .int) ws ⟨2, 0, 0, 24⟩ h0 #[(.ref x0)] (Qp (some (.int w5)) Z h0) := by
  refine own_mF #[.val (.ref x0)] (plainFor_of_name pn_55) (fun _ => rfl) ?_
  intro p e s m below meth c s₁ u hlk hret hZ hown hnm X0 e0 N0
  refine t_aN X0 u d55_0 rfl rfl ?_
  refine pt_cV [] [] 0 X0 u hZ hown (wd hw 401 rfl) (m_50 hw) e0 r0 (rm_a6_2 l Z a0 hw [] G GG x0 w1 w2 h0 O0 r1 r2 r3 r4) rfl d55_1 rfl rfl (by decide) N0 ?_
  intro T1 L1 X1 e1 N1_
  refine t_ifN X1 u d55_4 ((if0 _ _).trans (teq (by decide : (0 : Int32) = (0 : Int32))).2) ?_
  refine t_aN X1 u d55_7 rfl rfl ?_
  refine t_gF X1 u hZ hown (wd hw 66 rfl) e1 r5 d55_8 ?_
  intro T2 X2 e2
  refine t_ifY 11 24 X2 u rfl d55_11 ((if0 _ _).trans (teq r6).1) (by decide) ?_
  refine t_aN X2 u d55_24 rfl rfl ?_
  refine t_gF X2 u hZ hown (wd hw 46 rfl) e2 r7 d55_25 ?_
  intro T3 X3 e3
  refine pt_cV [] [] 0 X3 u hZ hown (wd hw 25 rfl) (m_55 hw) e3 r8 (rm_a4_0 l Z a0 hw [] G GG w4 h0 O0 r9) rfl d55_28 rfl rfl (by decide) N1_ ?_
  intro T4 L4 X4 e4 N4_
  refine t_ifN X4 u d55_31 ((if0 _ _).trans (feq (by decide : ¬ ((1 : Int32) = (0 : Int32)))).1) ?_
  refine t_aN X4 u d55_34 rfl rfl ?_
  refine t_gF X4 u hZ hown (wd hw 44 rfl) e4 r10 d55_35 ?_
  intro T5 X5 e5
  refine t_go 38 48 X5 u rfl d55_38 (by decide) ?_
  exact t_rI X5 u hret hlk d55_48 e5 N4_ (by decide)
theorem rm_a25_1 (x0 x1 : Int32) (h0 : Heap) (O0 : Ext Z.heap h0) (r0 : x0 < x1) :
    MF hw GG l y_25 jdk_29_method_65_code 2 (some .int) ws ⟨0, 0, 0, 0⟩ h0 #[(.int x0), (.int x1)] (Qp (some (.int x1)) Z h0) := by
  refine own_mF #[.val (.int x0), .val (.int x1)] (Jvm.Free.JP.mathPlain rfl (by decide +kernel)) (fun _ => rfl) ?_
  intro p e s m below meth c s₁ u hlk hret hZ hown hnm X0 e0 N0
  refine t_iN X0 u d25_0 rfl ?_
  refine t_iN X0 u d25_1 rfl ?_
  refine t_icY 2 9 X0 u rfl d25_2 (tlt r0).1 (by decide) ?_
  refine t_iN X0 u d25_9 rfl ?_
  exact t_rI X0 u hret hlk d25_10 e0 N0 (by decide)
theorem pn_58 : plainName "com/example/clean_epoch/cleanepoch/log/EpochEnd" = true := by first | (simp [plainName, overriddenIn]; done) | decide +kernel
def Q_a58_0 (Z : State) (x0 : Addr) (x1 : Int32) (x2 : Int64) (h0 : Heap) (v : Option Value) (h : Heap) (L : List Loc) : Prop := v = none ∧ Fr Z.heap.size L ∧ Keep h0 h [x0] ∧ fl_1 Z h x0 (.int x1) ∧ fl_26 Z h x0 (.long x2)
theorem rm_a58_0 (x0 : Addr) (x1 : Int32) (x2 : Int64) (w1 : Int32) (w2 : Int64) (h0 : Heap) (O0 : Ext Z.heap h0) (r0 : ex_2 Z h0 x0) (r1 : fl_1 Z h0 x0 (.int w1)) (r2 : Z.heap.size ≤ x0) (r3 : fl_26 Z h0 x0 (.long w2)) :
    MF hw GG l y_58 prog_19_method_1_code 4 none ws ⟨2, 0, 0, 24⟩ h0 #[(.ref x0), (.int x1), (.long x2)] (Q_a58_0 Z x0 x1 x2 h0) := by
  refine own_mF #[.val (.ref x0), .val (.int x1), .val (.long x2), .second] (plainFor_of_name pn_58) (fun _ => rfl) ?_
  intro p e s m below meth c s₁ u hlk hret hZ hown hnm X0 e0 N0
  obtain ⟨hx, hby, hml⟩ := id u
  refine t_aN X0 u d58_0 rfl rfl ?_
  refine pt_cN [] [] 0 X0 u hZ hown rfl (wd hw 418 rfl) (m_7 hw) e0 (rm_a19_0 l Z a0 hw [] G GG x0 h0 O0 ) rfl d58_1 rfl rfl (by decide) N0 ?_
  intro T1 L1 X1 e1 N1_
  refine t_aN X1 u d58_4 rfl rfl ?_
  refine t_iN X1 u d58_5 rfl ?_
  refine t_pF X1 u hZ hown (wd hw 21 rfl) e1 r1 r0 (Or.inr ⟨(wd hw 22 rfl), rfl, hnm⟩) (wd hw 414 rfl) pf_I rfl rfl d58_6 ?_
  intro T2 h2 X2 e2 W2
  have N2_ := Fr.snoc X2 N1_ r2
  have O2_ := extWr O0 W2 r2
  have K2 := Keep.wr (Keep.refl h0 [x0]) W2 k0
  have F2 := Fld.same W2 r1
  refine t_aN X2 u d58_9 rfl rfl ?_
  refine t_lN X2 u d58_10 rfl ?_
  refine t_pF X2 u hZ hown (wd hw 419 rfl) e2 (fR W2 r3 (sn_41 hw)) (Exa.wr W2 r0) (Or.inr ⟨(wd hw 420 rfl), rfl, hnm⟩) (wd hw 414 rfl) pf_J rfl rfl d58_11 ?_
  intro T3 h3 X3 e3 W3
  have N3_ := Fr.snoc X3 N2_ r2
  have O3_ := extWr O2_ W3 r2
  have K3 := Keep.wr K2 W3 k0
  have F3 := Fld.same W3 (fR W2 r3 (sn_41 hw))
  exact Go.retV X3 hx hret hlk (hb hby d58_14) (by decide) (by decide) (by show Q_a58_0 ..; rw [e3]; exact ⟨rfl, N3_, K3, (fS W3 F2 (sn_41 hw)), F3⟩)
theorem pn_60 : plainName "com/example/clean_epoch/cleanepoch/log/EpochEnd" = true := by first | (simp [plainName, overriddenIn]; done) | decide +kernel
theorem rm_a60_0 (x0 : Addr) (x1 w1 : Int32) (w2 : Int64) (h0 : Heap) (O0 : Ext Z.heap h0) (r0 : fl_1 Z h0 x0 (.int w1)) (r1 : ¬ (w1 = (-1 : Int32))) (r2 : ¬ (w1 < (0 : Int32))) (r3 : ¬ (x1 < w1)) (r4 : fl_26 Z h0 x0 (.long w2)) (r5 : ¬ ((lcmpW w2 (0 : Int64)) < (0 : Int32))) :
    MF hw GG l y_60 prog_19_method_2_code 2 (some .boolean) ws ⟨0, 0, 0, 0⟩ h0 #[(.ref x0), (.int x1)] (Qp (some (.int (1 : Int32))) Z h0) := by
  refine own_mF #[.val (.ref x0), .val (.int x1)] (plainFor_of_name pn_60) (fun _ => rfl) ?_
  intro p e s m below meth c s₁ u hlk hret hZ hown hnm X0 e0 N0
  obtain ⟨hx, hby, hml⟩ := id u
  refine t_aN X0 u d60_0 rfl rfl ?_
  refine t_gF X0 u hZ hown (wd hw 21 rfl) e0 r0 d60_1 ?_
  intro T1 X1 e1
  refine t_gS X1 u hZ hown (wd hw 432 rfl) e1 (Sta.ext O0 GG.G_nn) d60_4 ?_
  intro T2 X2 e2
  refine t_gF X2 u hZ hown (wd hw 21 rfl) e2 (Fld.ext O0 GG.G_nnf) d60_7 ?_
  intro T3 X3 e3
  refine t_icN X3 u d60_10 (feq r1).1 ?_
  refine t_aN X3 u d60_13 rfl rfl ?_
  refine t_gF X3 u hZ hown (wd hw 21 rfl) e3 r0 d60_14 ?_
  intro T4 X4 e4
  refine t_ifN X4 u d60_17 ((if0 _ _).trans (flt r2).1) ?_
  refine t_aN X4 u d60_20 rfl rfl ?_
  refine t_gF X4 u hZ hown (wd hw 21 rfl) e4 r0 d60_21 ?_
  intro T5 X5 e5
  refine t_iN X5 u d60_24 rfl ?_
  refine t_icN X5 u d60_25 (flt r3).2.2.1 ?_
  refine t_aN X5 u d60_28 rfl rfl ?_
  refine t_gF X5 u hZ hown (wd hw 419 rfl) e5 r4 d60_29 ?_
  intro T6 X6 e6
  refine Go.step (fun _ kt_ => XS.lconst X6.here hx rfl (hb hby d60_32)  kt_) ?_
  refine Go.step (fun _ kt_ => XS.lcmp X6.here hx rfl (hb hby d60_33) rfl kt_) ?_
  refine t_ifN X6 u d60_34 ((if0 _ _).trans (flt r5).1) ?_
  refine t_iC X6 u d60_37  ?_
  refine t_go 38 42 X6 u rfl d60_38 (by decide) ?_
  exact t_rN X6 u hret hlk (by simp) rfl d60_42 e6 N0 (by decide)
theorem rm_a3_1  (h0 : Heap) (O0 : Ext Z.heap h0) :
    MF hw GG l y_3 prog_19_method_6_code 1 (some .int) ws ⟨0, 0, 0, 0⟩ h0 #[(.ref G.nn)] (Qp (some (.int (-1 : Int32))) Z h0) := by
  refine own_mF #[.val (.ref G.nn)] (plainFor_of_name pn_3) (fun _ => rfl) ?_
  intro p e s m below meth c s₁ u hlk hret hZ hown hnm X0 e0 N0
  refine t_aN X0 u d3_0 rfl rfl ?_
  refine t_gF X0 u hZ hown (wd hw 21 rfl) e0 (Fld.ext O0 GG.G_nnf) d3_1 ?_
  intro T1 X1 e1
  exact t_rI X1 u hret hlk d3_4 e1 N0 (by decide)
theorem pn_59 : plainName "com/example/clean_epoch/cleanepoch/log/DivergenceWalk" = true := by first | (simp [plainName, overriddenIn]; done) | decide +kernel
def Q_a59_0 (Z : State) (G : GT) (x0 : Addr) (w3 w5 w6 : Int32) (h0 : Heap) (v : Option Value) (h : Heap) (L : List Loc) : Prop := ∃ (z_x0_diverged : Int32) (z_x0_reached : Int64) (ex0 : Addr), v = none ∧ Fr Z.heap.size L ∧ Keep h0 h [x0] ∧ fl_14 Z h x0 (.int (0 : Int32)) ∧ fl_10 Z h x0 (.int z_x0_diverged) ∧ fl_13 Z h x0 (.int (1 : Int32)) ∧ fl_7 Z h x0 (.int w5) ∧ fl_12 Z h x0 (.int w3) ∧ fl_8 Z h x0 (.ref ex0) ∧ fl_11 Z h x0 (.int w6) ∧ fl_9 Z h x0 (.long z_x0_reached) ∧ h0.size ≤ ex0 ∧ LS Z h G.el G.eo ex0
theorem rm_a59_0 (x0 x1 : Addr) (w1 w2 w3 : Int32) (w4 : Addr) (w5 w6 : Int32) (w7 : Int64) (w8 : Int32) (w9 : Int64) (w10 : Int32) (h0 : Heap) (O0 : Ext Z.heap h0) (r0 : ex_6 Z h0 x0) (r1 : fl_13 Z h0 x0 (.int w1)) (r2 : w1 = (0 : Int32)) (r3 : fl_14 Z h0 x0 (.int w2)) (r4 : w2 = (0 : Int32)) (r5 : fl_12 Z h0 x0 (.int w3)) (r6 : w3 = (0 : Int32)) (r7 : fl_8 Z h0 x0 (.ref w4)) (r8 : ex_3 Z h0 w4) (r9 : fl_2 Z h0 w4 (.ref G.el)) (r10 : fl_7 Z h0 x0 (.int w5)) (r11 : ex_2 Z h0 x1) (r12 : fl_1 Z h0 x1 (.int w6)) (r13 : ¬ (w6 = (-1 : Int32))) (r14 : ¬ (w6 < (0 : Int32))) (r15 : ¬ (w5 < w6)) (r16 : fl_26 Z h0 x1 (.long w7)) (r17 : ¬ ((lcmpW w7 (0 : Int64)) < (0 : Int32))) (r18 : fl_11 Z h0 x0 (.int w8)) (r19 : Z.heap.size ≤ x0) (r20 : fl_9 Z h0 x0 (.long w9)) (r21 : LS Z h0 G.el G.eo w4) (r22 : x1 ≠ x0) (r23 : fl_10 Z h0 x0 (.int w10)) (r24 : w6 = w5) :
    MF hw GG l y_59 prog_15_method_5_code 5 none ws ⟨10, 10, 43, 136⟩ h0 #[(.ref x0), (.ref x1)] (Q_a59_0 Z G x0 w3 w5 w6 h0) := by
  refine own_mF #[.val (.ref x0), .val (.ref x1), .unset, .unset, .unset] (plainFor_of_name pn_59) (fun _ => rfl) ?_
  intro p e s m below meth c s₁ u hlk hret hZ hown hnm X0 e0 N0
  obtain ⟨hx, hby, hml⟩ := id u
  refine t_aN X0 u d59_0 rfl rfl ?_
  refine pt_cV [] [] 0 X0 u hZ hown (wd hw 426 rfl) (m_56 hw) e0 r0 (rm_a55_0 l Z a0 hw [] G GG x0 w1 w2 w3 w4 w5 h0 O0 r0 r1 r2 r3 r4 r5 r6 r7 r8 r9 r10) rfl d59_1 rfl rfl (by decide) N0 ?_
  intro T1 L1 X1 e1 N1_
  refine t_isN X1 u d59_4 (l' := #[.val (.ref x0), .val (.ref x1), .val (.int w5), .unset, .unset]) rfl ?_
  refine t_aN X1 u d59_5 rfl rfl ?_
  refine t_iN X1 u d59_6 rfl ?_
  refine pt_cV [(.int w5)] [] 0 X1 u hZ hown (wd hw 427 rfl) (m_58 hw) e1 r11 (rm_a60_0 l Z a0 hw [] G GG x1 w5 w6 w7 h0 O0 r12 r13 r14 r15 r16 r17) rfl d59_7 rfl rfl (by decide) N1_ ?_
  intro T2 L2 X2 e2 N2_
  refine t_ifY 10 41 X2 u rfl d59_10 ((if0 _ _).trans (feq (by decide : ¬ ((1 : Int32) = (0 : Int32)))).2) (by decide) ?_
  refine t_aN X2 u d59_41 rfl rfl ?_
  refine t_aN X2 u d59_42 rfl rfl ?_
  refine pt_cV [] [(.ref x0)] 1 X2 u hZ hown (wd hw 16 rfl) (m_46 hw) e2 r11 (rm_a3_0 l Z a0 hw [] G GG x1 w6 h0 O0 r12) rfl d59_43 rfl rfl (by decide) N2_ ?_
  intro T3 L3 X3 e3 N3_
  refine t_pF X3 u hZ hown (wd hw 23 rfl) e3 r18 r0 (Or.inl (wd hw 24 rfl)) (wd hw 5 rfl) pf_I rfl rfl d59_46 ?_
  intro T4 h4 X4 e4 W4
  have N4_ := Fr.snoc X4 N3_ r19
  have O4_ := extWr O0 W4 r19
  have K4 := Keep.wr (Keep.refl h0 [x0]) W4 k0
  have F4 := Fld.same W4 r18
  refine t_aN X4 u d59_49 rfl rfl ?_
  refine t_gF X4 u hZ hown (wd hw 23 rfl) e4 F4 d59_50 ?_
  intro T5 X5 e5
  refine t_gS X5 u hZ hown (wd hw 13 rfl) e5 (Sta.ext O4_ GG.G_nn) d59_53 ?_
  intro T6 X6 e6
  refine pt_cV [] [(.int w6)] 1 X6 u hZ hown (wd hw 16 rfl) (m_46 hw) e6 (Exa.ext O4_ GG.G_nne) (rm_a3_1 l Z a0 hw [] G GG  h4 O4_ ) rfl d59_56 rfl rfl (by decide) N4_ ?_
  intro T7 L7 X7 e7 N7_
  refine t_icY 59 70 X7 u rfl d59_59 (feq r13).2 (by decide) ?_
  refine t_aN X7 u d59_70 rfl rfl ?_
  refine t_gF X7 u hZ hown (wd hw 46 rfl) e7 (fS W4 r7 (sn_33 hw)) d59_71 ?_
  intro T8 X8 e8
  refine t_aN X8 u d59_74 rfl rfl ?_
  refine t_aN X8 u d59_75 rfl rfl ?_
  refine t_gF X8 u hZ hown (wd hw 48 rfl) e8 (fS W4 r20 (sn_31 hw)) d59_76 ?_
  intro T9 X9 e9
  refine t_cV [(.ref x1), (.long w9)] [] 0 X9 u hZ hown (wd hw 433 rfl) (m_59 hw) e9 (Exa.wr W4 r8) (rm_div l Z a0 hw [] G GG w4 x1 w9 w6 w7 h4 O4_ (LS.wr W4 r0 (by decide) r21) (Exa.wr W4 r11) (fL W4 r12 r22) (fL W4 r16 r22)) rfl d59_79 rfl rfl (by decide) ?_
  intro v10 T10 L10 Lc10 X10 hQ10 l10
  obtain ⟨d10, rfl, Nq10, Kq10⟩ := hQ10
  have O10_ := extKeep O4_ Kq10 all0
  have K10 := Keep.trans K4 Kq10 all0
  have N10_ := frA l10 N7_ Nq10
  refine Go.step (fun _ kt_ => XS.lstoreN X10.here hx rfl (hb hby d59_82) rfl (l' := #[.val (.ref x0), .val (.ref x1), .val (.int w5), .val (.long d10), .second]) rfl kt_) ?_
  show Go _ _ _ _ _ _ _ _ T10 (mkF m 83 #[.val (.ref x0), .val (.ref x1), .val (.int w5), .val (.long d10), .second] [])
  have cont102 : ∀ (Tc16 : State) (Lc16 : List Loc) (hc16 : Heap) (Xc16 : Stand p l e ({ frames := 10, cells := 10, slots := 43, locals := 136 } : Room) s m #[(.ref x0), (.ref x1)] below meth c Tc16 Lc16 1 4) (ec16 : Tc16.heap = hc16) (Oc16 : Ext Z.heap hc16) (Nc16 : Fr Z.heap.size Lc16) (Kc16 : Keep h0 hc16 [x0]) (wc16_1 : Int64) (wc16_2 : Int32) (rc16_0 : fl_11 Z hc16 x0 (.int w6)) (rc16_1 : w6 = w5) (rc16_2 : ex_6 Z hc16 x0) (rc16_3 : fl_13 Z hc16 x0 (.int w1)) (rc16_4 : Z.heap.size ≤ x0) (rc16_5 : fl_14 Z hc16 x0 (.int w2)) (rc16_6 : fl_8 Z hc16 x0 (.ref w4)) (rc16_7 : fl_9 Z hc16 x0 (.long wc16_1)) (rc16_8 : LS Z hc16 G.el G.eo w4) (rc16_9 : ex_3 Z hc16 w4) (rc16_10 : fl_12 Z hc16 x0 (.int w3)) (rc16_11 : fl_7 Z hc16 x0 (.int w5)) (rc16_12 : fl_10 Z hc16 x0 (.int wc16_2)), Go FrameEnd p e below s (({ frames := 10, cells := 10, slots := 43, locals := 136 } : Room)).cells (({ frames := 10, cells := 10, slots := 43, locals := 136 } : Room)).slots (Q_a59_0 Z G x0 w3 w5 w6 h0) Tc16 (mkF m 102 #[.val (.ref x0), .val (.ref x1), .val (.int w5), .val (.long d10), .second] []) := by
    intro Tc16 Lc16 hc16 Xc16 ec16 Oc16 Nc16 Kc16 wc16_1 wc16_2 rc16_0 rc16_1 rc16_2 rc16_3 rc16_4 rc16_5 rc16_6 rc16_7 rc16_8 rc16_9 rc16_10 rc16_11 rc16_12
    refine t_aN Xc16 u d59_102 rfl rfl ?_
    refine t_aN Xc16 u d59_103 rfl rfl ?_
    refine t_gF Xc16 u hZ hown (wd hw 23 rfl) ec16 rc16_0 d59_104 ?_
    intro T17 X17 e17
    refine t_iN X17 u d59_107 rfl ?_
    refine t_icN X17 u d59_108 (teq rc16_1).2 ?_
    refine t_iC X17 u d59_111  ?_
    refine t_go 112 116 X17 u rfl d59_112 (by decide) ?_
    refine t_pN X17 u hZ hown (wd hw 50 rfl) e17 rc16_3 rc16_2 (Or.inl (wd hw 51 rfl)) (wd hw 5 rfl) (.int (1 : Int32)) pf_Z rfl rfl d59_116 ?_
    intro T18 h18 X18 e18 W18
    have N18_ := Fr.snoc X18 Nc16 rc16_4
    have O18_ := extWr Oc16 W18 rc16_4
    have K18 := Keep.wr Kc16 W18 k0
    have F18 := Fld.same W18 rc16_3
    refine t_aN X18 u d59_119 rfl rfl ?_
    refine t_aN X18 u d59_120 rfl rfl ?_
    refine t_gF X18 u hZ hown (wd hw 50 rfl) e18 F18 d59_121 ?_
    intro T19 X19 e19
    refine t_ifY 124 141 X19 u rfl d59_124 ((if0 _ _).trans (feq (by decide : ¬ ((1 : Int32) = (0 : Int32)))).2) (by decide) ?_
    refine t_iC X19 u d59_141  ?_
    refine t_pN X19 u hZ hown (wd hw 388 rfl) e19 (fR W18 rc16_5 (sn_40 hw)) (Exa.wr W18 rc16_2) (Or.inl (wd hw 389 rfl)) (wd hw 5 rfl) (.int (0 : Int32)) pf_Z rfl rfl d59_142 ?_
    intro T20 h20 X20 e20 W20
    have N20_ := Fr.snoc X20 N18_ rc16_4
    have O20_ := extWr O18_ W20 rc16_4
    have K20 := Keep.wr K18 W20 k0
    have F20 := Fld.same W20 (fR W18 rc16_5 (sn_40 hw))
    refine t_aN X20 u d59_145 rfl rfl ?_
    refine t_aN X20 u d59_146 rfl rfl ?_
    have f21 := (fS W20 (fS W18 rc16_6 (sn_24 hw)) (sn_38 hw))
    refine t_gF X20 u hZ hown (wd hw 46 rfl) e20 f21 d59_147 ?_
    intro T22 X22 e22
    refine t_aN X22 u d59_150 rfl rfl ?_
    have f23 := (fS W20 (fS W18 rc16_7 (sn_22 hw)) (sn_36 hw))
    refine t_gF X22 u hZ hown (wd hw 48 rfl) e22 f23 d59_151 ?_
    intro T24 X24 e24
    have f25 := (LS.wr W20 (Exa.wr W18 rc16_2) (by decide) (LS.wr W18 rc16_2 (by decide) rc16_8))
    refine t_cV [(.long wc16_1)] [(.ref x0)] 1 X24 u hZ hown (wd hw 489 rfl) (m_51 hw) e24 (Exa.wr W20 (Exa.wr W18 rc16_9)) (rm_wef l Z a0 hw [] G GG w4 wc16_1 h20 O20_ f25) rfl d59_154 rfl rfl (by decide) ?_
    intro v26 T26 L26 Lc26 X26 hQ26 l26
    obtain ⟨r26, rfl, Nq26, Kq26, sz26, hL26⟩ := hQ26
    have O26_ := extKeep O20_ Kq26 all0
    have K26 := Keep.trans K20 Kq26 all0
    have N26_ := frA l26 N20_ Nq26
    have g_r26 : Z.heap.size ≤ r26 := Nat.le_trans O20_.1 sz26
    have sz_r26 : h0.size ≤ r26 := Nat.le_trans K20.1 sz26
    have f27 := ((Exa.wr W20 (Exa.wr W18 rc16_2)).keep Kq26)
    refine t_pF X26 u hZ hown (wd hw 46 rfl) rfl (f21.keep Kq26 nin0) f27 (Or.inl (wd hw 47 rfl)) (wd hw 5 rfl) pf_Lcom_example_clean_epoch_cleanepoch_log_Lineage_ rfl rfl d59_157 ?_
    intro T28 h28 X28 e28 W28
    have N28_ := Fr.snoc X28 N26_ rc16_4
    have O28_ := extWr O26_ W28 rc16_4
    have K28 := Keep.wr K26 W28 k0
    have F28 := Fld.same W28 (f21.keep Kq26 nin0)
    have f29 := (fS W28 ((fS W20 (fS W18 rc16_12 (sn_23 hw)) (sn_37 hw)).keep Kq26 nin0) (sn_18 hw))
    have f30 := (fR W28 ((fS W20 F18 (sn_40 hw)).keep Kq26 nin0) (sn_24 hw))
    have f31 := (fR W28 ((fR W20 (fR W18 rc16_11 (sn_30 hw)) (sn_44 hw)).keep Kq26 nin0) (sn_28 hw))
    have f32 := (fR W28 ((fS W20 (fS W18 rc16_10 (sn_25 hw)) (sn_39 hw)).keep Kq26 nin0) (sn_21 hw))
    have f33 := (fR W28 ((fS W20 (fR W18 rc16_0 (sn_35 hw)) (sn_42 hw)).keep Kq26 nin0) (sn_33 hw))
    exact Go.retV X28 hx hret hlk (hb hby d59_160) (by decide) (by decide) (by show Q_a59_0 ..; rw [e28]; exact ⟨wc16_2, wc16_1, r26, rfl, N28_, K28, (fR W28 (F20.keep Kq26 nin0) (sn_38 hw)), f29, f30, f31, f32, F28, f33, (fS W28 (f23.keep Kq26 nin0) (sn_17 hw)), sz_r26, (LS.wr W28 f27 (by decide) hL26)⟩)
  refine t_lN X10 u d59_83 rfl ?_
  refine t_aN X10 u d59_84 rfl rfl ?_
  refine t_gF X10 u hZ hown (wd hw 48 rfl) rfl ((fS W4 r20 (sn_31 hw)).keep Kq10 nin0) d59_85 ?_
  intro T11 X11 e11
  refine Go.step (fun _ kt_ => XS.lcmp X11.here hx rfl (hb hby d59_88) rfl kt_) ?_
  by_cases hc89_12 : (lcmpW d10 w9) < (0 : Int32)
  · refine t_ifN X11 u d59_89 ((if0 _ _).trans (tlt hc89_12).2.1) ?_
    refine t_aN X11 u d59_92 rfl rfl ?_
    refine t_lN X11 u d59_93 rfl ?_
    refine t_pF X11 u hZ hown (wd hw 48 rfl) e11 ((fS W4 r20 (sn_31 hw)).keep Kq10 nin0) ((Exa.wr W4 r0).keep Kq10) (Or.inl (wd hw 49 rfl)) (wd hw 5 rfl) pf_J rfl rfl d59_94 ?_
    intro T13 h13 X13 e13 W13
    have N13_ := Fr.snoc X13 N10_ r19
    have O13_ := extWr O10_ W13 r19
    have K13 := Keep.wr K10 W13 k0
    have F13 := Fld.same W13 ((fS W4 r20 (sn_31 hw)).keep Kq10 nin0)
    refine t_aN X13 u d59_97 rfl rfl ?_
    refine t_iC X13 u d59_98  ?_
    have f14 := (fR W13 ((fS W4 r23 (sn_32 hw)).keep Kq10 nin0) (sn_16 hw))
    refine t_pN X13 u hZ hown (wd hw 503 rfl) e13 f14 (Exa.wr W13 ((Exa.wr W4 r0).keep Kq10)) (Or.inl (wd hw 504 rfl)) (wd hw 5 rfl) (.int (1 : Int32)) pf_Z rfl rfl d59_99 ?_
    intro T15 h15 X15 e15 W15
    have N15_ := Fr.snoc X15 N13_ r19
    have O15_ := extWr O13_ W15 r19
    have K15 := Keep.wr K13 W15 k0
    have F15 := Fld.same W15 f14
    show Go _ _ _ _ _ _ _ _ T15 (mkF m 102 #[.val (.ref x0), .val (.ref x1), .val (.int w5), .val (.long d10), .second] [])
    have f17 := (Exa.wr W15 (Exa.wr W13 ((Exa.wr W4 r0).keep Kq10)))
    have f18 := (fR W15 (fR W13 (F4.keep Kq10 nin0) (sn_31 hw)) (sn_32 hw))
    have f19 := (fR W15 (fR W13 ((fS W4 r1 (sn_35 hw)).keep Kq10 nin0) (sn_22 hw)) (sn_23 hw))
    have f20 := (fR W15 (fR W13 ((fR W4 r3 (sn_42 hw)).keep Kq10 nin0) (sn_36 hw)) (sn_37 hw))
    have f21 := (fR W15 (fR W13 ((fS W4 r7 (sn_33 hw)).keep Kq10 nin0) (sn_17 hw)) (sn_18 hw))
    have f22 := (LS.wr W15 (Exa.wr W13 ((Exa.wr W4 r0).keep Kq10)) (by decide) (LS.wr W13 ((Exa.wr W4 r0).keep Kq10) (by decide) (LS.keep Kq10 ls0 (LS.wr W4 r0 (by decide) r21))))
    have f23 := (Exa.wr W15 (Exa.wr W13 ((Exa.wr W4 r8).keep Kq10)))
    have f24 := (fR W15 (fR W13 ((fS W4 r5 (sn_34 hw)).keep Kq10 nin0) (sn_19 hw)) (sn_20 hw))
    have f25 := (fR W15 (fR W13 ((fR W4 r10 (sn_43 hw)).keep Kq10 nin0) (sn_26 hw)) (sn_27 hw))
    have f26 := (Exa.wr W15 (Exa.wr W13 ((Exa.wr W4 r0).keep Kq10)))
    have f27 := (fR W15 (fR W13 (F4.keep Kq10 nin0) (sn_31 hw)) (sn_32 hw))
    have f28 := (fR W15 (fR W13 ((fS W4 r1 (sn_35 hw)).keep Kq10 nin0) (sn_22 hw)) (sn_23 hw))
    have f29 := (fR W15 (fR W13 ((fR W4 r3 (sn_42 hw)).keep Kq10 nin0) (sn_36 hw)) (sn_37 hw))
    have f30 := (fR W15 (fR W13 ((fS W4 r7 (sn_33 hw)).keep Kq10 nin0) (sn_17 hw)) (sn_18 hw))
    have f31 := (LS.wr W15 (Exa.wr W13 ((Exa.wr W4 r0).keep Kq10)) (by decide) (LS.wr W13 ((Exa.wr W4 r0).keep Kq10) (by decide) (LS.keep Kq10 ls0 (LS.wr W4 r0 (by decide) r21))))
    have f32 := (Exa.wr W15 (Exa.wr W13 ((Exa.wr W4 r8).keep Kq10)))
    have f33 := (fR W15 (fR W13 ((fS W4 r5 (sn_34 hw)).keep Kq10 nin0) (sn_19 hw)) (sn_20 hw))
    have f34 := (fR W15 (fR W13 ((fR W4 r10 (sn_43 hw)).keep Kq10 nin0) (sn_26 hw)) (sn_27 hw))
    exact cont102 T15 _ _ (X15.more (by decide) (by decide)) e15 O15_ N15_ K15  d10 (1 : Int32) f27 r24 f26 f28 r19 f29 f30 (fS W15 F13 (sn_16 hw)) f31 f32 f33 f34 F15
  · refine t_ifY 89 102 X11 u rfl d59_89 ((if0 _ _).trans (flt hc89_12).2.1) (by decide) ?_
    show Go _ _ _ _ _ _ _ _ T11 (mkF m 102 #[.val (.ref x0), .val (.ref x1), .val (.int w5), .val (.long d10), .second] [])
    have f35 := (LS.keep Kq10 ls0 (LS.wr W4 r0 (by decide) r21))
    exact cont102 T11 _ _ (X11.more (by decide) (by decide)) e11 O10_ N10_ K10  w9 w10 (F4.keep Kq10 nin0) r24 ((Exa.wr W4 r0).keep Kq10) ((fS W4 r1 (sn_35 hw)).keep Kq10 nin0) r19 ((fR W4 r3 (sn_42 hw)).keep Kq10 nin0) ((fS W4 r7 (sn_33 hw)).keep Kq10 nin0) ((fS W4 r20 (sn_31 hw)).keep Kq10 nin0) f35 ((Exa.wr W4 r8).keep Kq10) ((fS W4 r5 (sn_34 hw)).keep Kq10 nin0) ((fR W4 r10 (sn_43 hw)).keep Kq10 nin0) ((fS W4 r23 (sn_32 hw)).keep Kq10 nin0)
def Q_a59_1 (Z : State) (G : GT) (x0 : Addr) (w3 w5 w6 : Int32) (h0 : Heap) (v : Option Value) (h : Heap) (L : List Loc) : Prop := ∃ (z_x0_diverged : Int32) (z_x0_reached : Int64) (ex0 : Addr), v = none ∧ Fr Z.heap.size L ∧ Keep h0 h [x0] ∧ fl_14 Z h x0 (.int (1 : Int32)) ∧ fl_10 Z h x0 (.int z_x0_diverged) ∧ fl_13 Z h x0 (.int (0 : Int32)) ∧ fl_7 Z h x0 (.int w5) ∧ fl_12 Z h x0 (.int w3) ∧ fl_8 Z h x0 (.ref ex0) ∧ fl_11 Z h x0 (.int w6) ∧ fl_9 Z h x0 (.long z_x0_reached) ∧ h0.size ≤ ex0 ∧ LS Z h G.el G.eo ex0
theorem rm_a59_1 (x0 x1 : Addr) (w1 w2 w3 : Int32) (w4 : Addr) (w5 w6 : Int32) (w7 : Int64) (w8 : Int32) (w9 : Int64) (w10 : Int32) (h0 : Heap) (O0 : Ext Z.heap h0) (r0 : ex_6 Z h0 x0) (r1 : fl_13 Z h0 x0 (.int w1)) (r2 : w1 = (0 : Int32)) (r3 : fl_14 Z h0 x0 (.int w2)) (r4 : w2 = (0 : Int32)) (r5 : fl_12 Z h0 x0 (.int w3)) (r6 : w3 = (0 : Int32)) (r7 : fl_8 Z h0 x0 (.ref w4)) (r8 : ex_3 Z h0 w4) (r9 : fl_2 Z h0 w4 (.ref G.el)) (r10 : fl_7 Z h0 x0 (.int w5)) (r11 : ex_2 Z h0 x1) (r12 : fl_1 Z h0 x1 (.int w6)) (r13 : ¬ (w6 = (-1 : Int32))) (r14 : ¬ (w6 < (0 : Int32))) (r15 : ¬ (w5 < w6)) (r16 : fl_26 Z h0 x1 (.long w7)) (r17 : ¬ ((lcmpW w7 (0 : Int64)) < (0 : Int32))) (r18 : fl_11 Z h0 x0 (.int w8)) (r19 : Z.heap.size ≤ x0) (r20 : fl_9 Z h0 x0 (.long w9)) (r21 : LS Z h0 G.el G.eo w4) (r22 : x1 ≠ x0) (r23 : fl_10 Z h0 x0 (.int w10)) (r24 : ¬ (w6 = w5)) (r25 : w4 ≠ x0) :
    MF hw GG l y_59 prog_15_method_5_code 5 none ws ⟨10, 10, 43, 136⟩ h0 #[(.ref x0), (.ref x1)] (Q_a59_1 Z G x0 w3 w5 w6 h0) := by
  refine own_mF #[.val (.ref x0), .val (.ref x1), .unset, .unset, .unset] (plainFor_of_name pn_59) (fun _ => rfl) ?_
  intro p e s m below meth c s₁ u hlk hret hZ hown hnm X0 e0 N0
  obtain ⟨hx, hby, hml⟩ := id u
  refine t_aN X0 u d59_0 rfl rfl ?_
  refine pt_cV [] [] 0 X0 u hZ hown (wd hw 426 rfl) (m_56 hw) e0 r0 (rm_a55_0 l Z a0 hw [] G GG x0 w1 w2 w3 w4 w5 h0 O0 r0 r1 r2 r3 r4 r5 r6 r7 r8 r9 r10) rfl d59_1 rfl rfl (by decide) N0 ?_
  intro T1 L1 X1 e1 N1_
  refine t_isN X1 u d59_4 (l' := #[.val (.ref x0), .val (.ref x1), .val (.int w5), .unset, .unset]) rfl ?_
  refine t_aN X1 u d59_5 rfl rfl ?_
  refine t_iN X1 u d59_6 rfl ?_
  refine pt_cV [(.int w5)] [] 0 X1 u hZ hown (wd hw 427 rfl) (m_58 hw) e1 r11 (rm_a60_0 l Z a0 hw [] G GG x1 w5 w6 w7 h0 O0 r12 r13 r14 r15 r16 r17) rfl d59_7 rfl rfl (by decide) N1_ ?_
  intro T2 L2 X2 e2 N2_
  refine t_ifY 10 41 X2 u rfl d59_10 ((if0 _ _).trans (feq (by decide : ¬ ((1 : Int32) = (0 : Int32)))).2) (by decide) ?_
  refine t_aN X2 u d59_41 rfl rfl ?_
  refine t_aN X2 u d59_42 rfl rfl ?_
  refine pt_cV [] [(.ref x0)] 1 X2 u hZ hown (wd hw 16 rfl) (m_46 hw) e2 r11 (rm_a3_0 l Z a0 hw [] G GG x1 w6 h0 O0 r12) rfl d59_43 rfl rfl (by decide) N2_ ?_
  intro T3 L3 X3 e3 N3_
  refine t_pF X3 u hZ hown (wd hw 23 rfl) e3 r18 r0 (Or.inl (wd hw 24 rfl)) (wd hw 5 rfl) pf_I rfl rfl d59_46 ?_
  intro T4 h4 X4 e4 W4
  have N4_ := Fr.snoc X4 N3_ r19
  have O4_ := extWr O0 W4 r19
  have K4 := Keep.wr (Keep.refl h0 [x0]) W4 k0
  have F4 := Fld.same W4 r18
  refine t_aN X4 u d59_49 rfl rfl ?_
  refine t_gF X4 u hZ hown (wd hw 23 rfl) e4 F4 d59_50 ?_
  intro T5 X5 e5
  refine t_gS X5 u hZ hown (wd hw 13 rfl) e5 (Sta.ext O4_ GG.G_nn) d59_53 ?_
  intro T6 X6 e6
  refine pt_cV [] [(.int w6)] 1 X6 u hZ hown (wd hw 16 rfl) (m_46 hw) e6 (Exa.ext O4_ GG.G_nne) (rm_a3_1 l Z a0 hw [] G GG  h4 O4_ ) rfl d59_56 rfl rfl (by decide) N4_ ?_
  intro T7 L7 X7 e7 N7_
  refine t_icY 59 70 X7 u rfl d59_59 (feq r13).2 (by decide) ?_
  refine t_aN X7 u d59_70 rfl rfl ?_
  refine t_gF X7 u hZ hown (wd hw 46 rfl) e7 (fS W4 r7 (sn_33 hw)) d59_71 ?_
  intro T8 X8 e8
  refine t_aN X8 u d59_74 rfl rfl ?_
  refine t_aN X8 u d59_75 rfl rfl ?_
  refine t_gF X8 u hZ hown (wd hw 48 rfl) e8 (fS W4 r20 (sn_31 hw)) d59_76 ?_
  intro T9 X9 e9
  refine t_cV [(.ref x1), (.long w9)] [] 0 X9 u hZ hown (wd hw 433 rfl) (m_59 hw) e9 (Exa.wr W4 r8) (rm_div l Z a0 hw [] G GG w4 x1 w9 w6 w7 h4 O4_ (LS.wr W4 r0 (by decide) r21) (Exa.wr W4 r11) (fL W4 r12 r22) (fL W4 r16 r22)) rfl d59_79 rfl rfl (by decide) ?_
  intro v10 T10 L10 Lc10 X10 hQ10 l10
  obtain ⟨d10, rfl, Nq10, Kq10⟩ := hQ10
  have O10_ := extKeep O4_ Kq10 all0
  have K10 := Keep.trans K4 Kq10 all0
  have N10_ := frA l10 N7_ Nq10
  refine Go.step (fun _ kt_ => XS.lstoreN X10.here hx rfl (hb hby d59_82) rfl (l' := #[.val (.ref x0), .val (.ref x1), .val (.int w5), .val (.long d10), .second]) rfl kt_) ?_
  show Go _ _ _ _ _ _ _ _ T10 (mkF m 83 #[.val (.ref x0), .val (.ref x1), .val (.int w5), .val (.long d10), .second] [])
  have cont102 : ∀ (Tc16 : State) (Lc16 : List Loc) (hc16 : Heap) (Xc16 : Stand p l e ({ frames := 10, cells := 10, slots := 43, locals := 136 } : Room) s m #[(.ref x0), (.ref x1)] below meth c Tc16 Lc16 1 4) (ec16 : Tc16.heap = hc16) (Oc16 : Ext Z.heap hc16) (Nc16 : Fr Z.heap.size Lc16) (Kc16 : Keep h0 hc16 [x0]) (wc16_1 : Int64) (wc16_2 : Int32) (rc16_0 : fl_11 Z hc16 x0 (.int w6)) (rc16_1 : ¬ (w6 = w5)) (rc16_2 : ex_6 Z hc16 x0) (rc16_3 : fl_13 Z hc16 x0 (.int w1)) (rc16_4 : Z.heap.size ≤ x0) (rc16_5 : fl_8 Z hc16 x0 (.ref w4)) (rc16_6 : ex_3 Z hc16 w4) (rc16_7 : fl_2 Z hc16 w4 (.ref G.el)) (rc16_8 : w4 ≠ x0) (rc16_9 : fl_14 Z hc16 x0 (.int w2)) (rc16_10 : fl_9 Z hc16 x0 (.long wc16_1)) (rc16_11 : LS Z hc16 G.el G.eo w4) (rc16_12 : fl_12 Z hc16 x0 (.int w3)) (rc16_13 : fl_7 Z hc16 x0 (.int w5)) (rc16_14 : fl_10 Z hc16 x0 (.int wc16_2)), Go FrameEnd p e below s (({ frames := 10, cells := 10, slots := 43, locals := 136 } : Room)).cells (({ frames := 10, cells := 10, slots := 43, locals := 136 } : Room)).slots (Q_a59_1 Z G x0 w3 w5 w6 h0) Tc16 (mkF m 102 #[.val (.ref x0), .val (.ref x1), .val (.int w5), .val (.long d10), .second] []) := by
    intro Tc16 Lc16 hc16 Xc16 ec16 Oc16 Nc16 Kc16 wc16_1 wc16_2 rc16_0 rc16_1 rc16_2 rc16_3 rc16_4 rc16_5 rc16_6 rc16_7 rc16_8 rc16_9 rc16_10 rc16_11 rc16_12 rc16_13 rc16_14
    refine t_aN Xc16 u d59_102 rfl rfl ?_
    refine t_aN Xc16 u d59_103 rfl rfl ?_
    refine t_gF Xc16 u hZ hown (wd hw 23 rfl) ec16 rc16_0 d59_104 ?_
    intro T17 X17 e17
    refine t_iN X17 u d59_107 rfl ?_
    refine t_icY 108 115 X17 u rfl d59_108 (feq rc16_1).2 (by decide) ?_
    refine t_iC X17 u d59_115  ?_
    refine t_pN X17 u hZ hown (wd hw 50 rfl) e17 rc16_3 rc16_2 (Or.inl (wd hw 51 rfl)) (wd hw 5 rfl) (.int (0 : Int32)) pf_Z rfl rfl d59_116 ?_
    intro T18 h18 X18 e18 W18
    have N18_ := Fr.snoc X18 Nc16 rc16_4
    have O18_ := extWr Oc16 W18 rc16_4
    have K18 := Keep.wr Kc16 W18 k0
    have F18 := Fld.same W18 rc16_3
    refine t_aN X18 u d59_119 rfl rfl ?_
    refine t_aN X18 u d59_120 rfl rfl ?_
    refine t_gF X18 u hZ hown (wd hw 50 rfl) e18 F18 d59_121 ?_
    intro T19 X19 e19
    refine t_ifN X19 u d59_124 ((if0 _ _).trans (teq (by decide : (0 : Int32) = (0 : Int32))).2) ?_
    refine t_aN X19 u d59_127 rfl rfl ?_
    refine t_gF X19 u hZ hown (wd hw 46 rfl) e19 (fS W18 rc16_5 (sn_24 hw)) d59_128 ?_
    intro T20 X20 e20
    refine pt_cV [] [(.ref x0)] 1 X20 u hZ hown (wd hw 25 rfl) (m_55 hw) e20 (Exa.wr W18 rc16_6) (rm_a4_0 l Z a0 hw [] G GG w4 h18 O18_ (fL W18 rc16_7 rc16_8)) rfl d59_131 rfl rfl (by decide) N18_ ?_
    intro T21 L21 X21 e21 N21_
    refine t_ifN X21 u d59_134 ((if0 _ _).trans (feq (by decide : ¬ ((1 : Int32) = (0 : Int32)))).1) ?_
    refine t_iC X21 u d59_137  ?_
    refine t_go 138 142 X21 u rfl d59_138 (by decide) ?_
    refine t_pN X21 u hZ hown (wd hw 388 rfl) e21 (fR W18 rc16_9 (sn_40 hw)) (Exa.wr W18 rc16_2) (Or.inl (wd hw 389 rfl)) (wd hw 5 rfl) (.int (1 : Int32)) pf_Z rfl rfl d59_142 ?_
    intro T22 h22 X22 e22 W22
    have N22_ := Fr.snoc X22 N21_ rc16_4
    have O22_ := extWr O18_ W22 rc16_4
    have K22 := Keep.wr K18 W22 k0
    have F22 := Fld.same W22 (fR W18 rc16_9 (sn_40 hw))
    refine t_aN X22 u d59_145 rfl rfl ?_
    refine t_aN X22 u d59_146 rfl rfl ?_
    have f23 := (fS W22 (fS W18 rc16_5 (sn_24 hw)) (sn_38 hw))
    refine t_gF X22 u hZ hown (wd hw 46 rfl) e22 f23 d59_147 ?_
    intro T24 X24 e24
    refine t_aN X24 u d59_150 rfl rfl ?_
    have f25 := (fS W22 (fS W18 rc16_10 (sn_22 hw)) (sn_36 hw))
    refine t_gF X24 u hZ hown (wd hw 48 rfl) e24 f25 d59_151 ?_
    intro T26 X26 e26
    have f27 := (LS.wr W22 (Exa.wr W18 rc16_2) (by decide) (LS.wr W18 rc16_2 (by decide) rc16_11))
    refine t_cV [(.long wc16_1)] [(.ref x0)] 1 X26 u hZ hown (wd hw 489 rfl) (m_51 hw) e26 (Exa.wr W22 (Exa.wr W18 rc16_6)) (rm_wef l Z a0 hw [] G GG w4 wc16_1 h22 O22_ f27) rfl d59_154 rfl rfl (by decide) ?_
    intro v28 T28 L28 Lc28 X28 hQ28 l28
    obtain ⟨r28, rfl, Nq28, Kq28, sz28, hL28⟩ := hQ28
    have O28_ := extKeep O22_ Kq28 all0
    have K28 := Keep.trans K22 Kq28 all0
    have N28_ := frA l28 N22_ Nq28
    have g_r28 : Z.heap.size ≤ r28 := Nat.le_trans O22_.1 sz28
    have sz_r28 : h0.size ≤ r28 := Nat.le_trans K22.1 sz28
    have f29 := ((Exa.wr W22 (Exa.wr W18 rc16_2)).keep Kq28)
    refine t_pF X28 u hZ hown (wd hw 46 rfl) rfl (f23.keep Kq28 nin0) f29 (Or.inl (wd hw 47 rfl)) (wd hw 5 rfl) pf_Lcom_example_clean_epoch_cleanepoch_log_Lineage_ rfl rfl d59_157 ?_
    intro T30 h30 X30 e30 W30
    have N30_ := Fr.snoc X30 N28_ rc16_4
    have O30_ := extWr O28_ W30 rc16_4
    have K30 := Keep.wr K28 W30 k0
    have F30 := Fld.same W30 (f23.keep Kq28 nin0)
    have f31 := (fS W30 ((fS W22 (fS W18 rc16_14 (sn_23 hw)) (sn_37 hw)).keep Kq28 nin0) (sn_18 hw))
    have f32 := (fR W30 ((fS W22 F18 (sn_40 hw)).keep Kq28 nin0) (sn_24 hw))
    have f33 := (fR W30 ((fR W22 (fR W18 rc16_13 (sn_30 hw)) (sn_44 hw)).keep Kq28 nin0) (sn_28 hw))
    have f34 := (fR W30 ((fS W22 (fS W18 rc16_12 (sn_25 hw)) (sn_39 hw)).keep Kq28 nin0) (sn_21 hw))
    have f35 := (fR W30 ((fS W22 (fR W18 rc16_0 (sn_35 hw)) (sn_42 hw)).keep Kq28 nin0) (sn_33 hw))
    exact Go.retV X30 hx hret hlk (hb hby d59_160) (by decide) (by decide) (by show Q_a59_1 ..; rw [e30]; exact ⟨wc16_2, wc16_1, r28, rfl, N30_, K30, (fR W30 (F22.keep Kq28 nin0) (sn_38 hw)), f31, f32, f33, f34, F30, f35, (fS W30 (f25.keep Kq28 nin0) (sn_17 hw)), sz_r28, (LS.wr W30 f29 (by decide) hL28)⟩)
  refine t_lN X10 u d59_83 rfl ?_
  refine t_aN X10 u d59_84 rfl rfl ?_
  refine t_gF X10 u hZ hown (wd hw 48 rfl) rfl ((fS W4 r20 (sn_31 hw)).keep Kq10 nin0) d59_85 ?_
  intro T11 X11 e11
  refine Go.step (fun _ kt_ => XS.lcmp X11.here hx rfl (hb hby d59_88) rfl kt_) ?_
  by_cases hc89_12 : (lcmpW d10 w9) < (0 : Int32)
  · refine t_ifN X11 u d59_89 ((if0 _ _).trans (tlt hc89_12).2.1) ?_
    refine t_aN X11 u d59_92 rfl rfl ?_
    refine t_lN X11 u d59_93 rfl ?_
    refine t_pF X11 u hZ hown (wd hw 48 rfl) e11 ((fS W4 r20 (sn_31 hw)).keep Kq10 nin0) ((Exa.wr W4 r0).keep Kq10) (Or.inl (wd hw 49 rfl)) (wd hw 5 rfl) pf_J rfl rfl d59_94 ?_
    intro T13 h13 X13 e13 W13
    have N13_ := Fr.snoc X13 N10_ r19
    have O13_ := extWr O10_ W13 r19
    have K13 := Keep.wr K10 W13 k0
    have F13 := Fld.same W13 ((fS W4 r20 (sn_31 hw)).keep Kq10 nin0)
    refine t_aN X13 u d59_97 rfl rfl ?_
    refine t_iC X13 u d59_98  ?_
    have f14 := (fR W13 ((fS W4 r23 (sn_32 hw)).keep Kq10 nin0) (sn_16 hw))
    refine t_pN X13 u hZ hown (wd hw 503 rfl) e13 f14 (Exa.wr W13 ((Exa.wr W4 r0).keep Kq10)) (Or.inl (wd hw 504 rfl)) (wd hw 5 rfl) (.int (1 : Int32)) pf_Z rfl rfl d59_99 ?_
    intro T15 h15 X15 e15 W15
    have N15_ := Fr.snoc X15 N13_ r19
    have O15_ := extWr O13_ W15 r19
    have K15 := Keep.wr K13 W15 k0
    have F15 := Fld.same W15 f14
    show Go _ _ _ _ _ _ _ _ T15 (mkF m 102 #[.val (.ref x0), .val (.ref x1), .val (.int w5), .val (.long d10), .second] [])
    have f17 := (Exa.wr W15 (Exa.wr W13 ((Exa.wr W4 r0).keep Kq10)))
    have f18 := (fR W15 (fR W13 (F4.keep Kq10 nin0) (sn_31 hw)) (sn_32 hw))
    have f19 := (fR W15 (fR W13 ((fS W4 r1 (sn_35 hw)).keep Kq10 nin0) (sn_22 hw)) (sn_23 hw))
    have f20 := (fR W15 (fR W13 ((fS W4 r7 (sn_33 hw)).keep Kq10 nin0) (sn_17 hw)) (sn_18 hw))
    have f21 := (Exa.wr W15 (Exa.wr W13 ((Exa.wr W4 r8).keep Kq10)))
    have f22 := (fL W15 (fL W13 ((fL W4 r9 r25).keep Kq10 nin0) r25) r25)
    have f23 := (fR W15 (fR W13 ((fR W4 r3 (sn_42 hw)).keep Kq10 nin0) (sn_36 hw)) (sn_37 hw))
    have f24 := (LS.wr W15 (Exa.wr W13 ((Exa.wr W4 r0).keep Kq10)) (by decide) (LS.wr W13 ((Exa.wr W4 r0).keep Kq10) (by decide) (LS.keep Kq10 ls0 (LS.wr W4 r0 (by decide) r21))))
    have f25 := (fR W15 (fR W13 ((fS W4 r5 (sn_34 hw)).keep Kq10 nin0) (sn_19 hw)) (sn_20 hw))
    have f26 := (fR W15 (fR W13 ((fR W4 r10 (sn_43 hw)).keep Kq10 nin0) (sn_26 hw)) (sn_27 hw))
    have f27 := (Exa.wr W15 (Exa.wr W13 ((Exa.wr W4 r0).keep Kq10)))
    have f28 := (fR W15 (fR W13 (F4.keep Kq10 nin0) (sn_31 hw)) (sn_32 hw))
    have f29 := (fR W15 (fR W13 ((fS W4 r1 (sn_35 hw)).keep Kq10 nin0) (sn_22 hw)) (sn_23 hw))
    have f30 := (fR W15 (fR W13 ((fS W4 r7 (sn_33 hw)).keep Kq10 nin0) (sn_17 hw)) (sn_18 hw))
    have f31 := (Exa.wr W15 (Exa.wr W13 ((Exa.wr W4 r8).keep Kq10)))
    have f32 := (fL W15 (fL W13 ((fL W4 r9 r25).keep Kq10 nin0) r25) r25)
    have f33 := (fR W15 (fR W13 ((fR W4 r3 (sn_42 hw)).keep Kq10 nin0) (sn_36 hw)) (sn_37 hw))
    have f34 := (LS.wr W15 (Exa.wr W13 ((Exa.wr W4 r0).keep Kq10)) (by decide) (LS.wr W13 ((Exa.wr W4 r0).keep Kq10) (by decide) (LS.keep Kq10 ls0 (LS.wr W4 r0 (by decide) r21))))
    have f35 := (fR W15 (fR W13 ((fS W4 r5 (sn_34 hw)).keep Kq10 nin0) (sn_19 hw)) (sn_20 hw))
    have f36 := (fR W15 (fR W13 ((fR W4 r10 (sn_43 hw)).keep Kq10 nin0) (sn_26 hw)) (sn_27 hw))
    exact cont102 T15 _ _ (X15.more (by decide) (by decide)) e15 O15_ N15_ K15  d10 (1 : Int32) f28 r24 f27 f29 r19 f30 f31 f32 r25 f33 (fS W15 F13 (sn_16 hw)) f34 f35 f36 F15
  · refine t_ifY 89 102 X11 u rfl d59_89 ((if0 _ _).trans (flt hc89_12).2.1) (by decide) ?_
    show Go _ _ _ _ _ _ _ _ T11 (mkF m 102 #[.val (.ref x0), .val (.ref x1), .val (.int w5), .val (.long d10), .second] [])
    have f37 := (LS.keep Kq10 ls0 (LS.wr W4 r0 (by decide) r21))
    exact cont102 T11 _ _ (X11.more (by decide) (by decide)) e11 O10_ N10_ K10  w9 w10 (F4.keep Kq10 nin0) r24 ((Exa.wr W4 r0).keep Kq10) ((fS W4 r1 (sn_35 hw)).keep Kq10 nin0) r19 ((fS W4 r7 (sn_33 hw)).keep Kq10 nin0) ((Exa.wr W4 r8).keep Kq10) ((fL W4 r9 r25).keep Kq10 nin0) r25 ((fR W4 r3 (sn_42 hw)).keep Kq10 nin0) ((fS W4 r20 (sn_31 hw)).keep Kq10 nin0) f37 ((fS W4 r5 (sn_34 hw)).keep Kq10 nin0) ((fR W4 r10 (sn_43 hw)).keep Kq10 nin0) ((fS W4 r23 (sn_32 hw)).keep Kq10 nin0)
theorem rm_a60_1 (x0 : Addr) (x1 w1 : Int32) (h0 : Heap) (O0 : Ext Z.heap h0) (r0 : fl_1 Z h0 x0 (.int w1)) (r1 : w1 = (-1 : Int32)) :
    MF hw GG l y_60 prog_19_method_2_code 2 (some .boolean) ws ⟨0, 0, 0, 0⟩ h0 #[(.ref x0), (.int x1)] (Qp (some (.int (1 : Int32))) Z h0) := by
  refine own_mF #[.val (.ref x0), .val (.int x1)] (plainFor_of_name pn_60) (fun _ => rfl) ?_
  intro p e s m below meth c s₁ u hlk hret hZ hown hnm X0 e0 N0
  refine t_aN X0 u d60_0 rfl rfl ?_
  refine t_gF X0 u hZ hown (wd hw 21 rfl) e0 r0 d60_1 ?_
  intro T1 X1 e1
  refine t_gS X1 u hZ hown (wd hw 432 rfl) e1 (Sta.ext O0 GG.G_nn) d60_4 ?_
  intro T2 X2 e2
  refine t_gF X2 u hZ hown (wd hw 21 rfl) e2 (Fld.ext O0 GG.G_nnf) d60_7 ?_
  intro T3 X3 e3
  refine t_icY 10 37 X3 u rfl d60_10 (teq r1).1 (by decide) ?_
  refine t_iC X3 u d60_37  ?_
  refine t_go 38 42 X3 u rfl d60_38 (by decide) ?_
  exact t_rN X3 u hret hlk (by simp) rfl d60_42 e3 N0 (by decide)
def Q_a59_2 (Z : State) (x0 : Addr) (w1 w2 : Int32) (w4 : Addr) (w5 w6 : Int32) (h0 : Heap) (v : Option Value) (h : Heap) (L : List Loc) : Prop := ∃ (z_x0_diverged : Int32) (z_x0_reached : Int64), v = none ∧ Fr Z.heap.size L ∧ Keep h0 h [x0] ∧ fl_14 Z h x0 (.int w2) ∧ fl_10 Z h x0 (.int z_x0_diverged) ∧ fl_13 Z h x0 (.int w1) ∧ fl_7 Z h x0 (.int w5) ∧ fl_12 Z h x0 (.int (1 : Int32)) ∧ fl_8 Z h x0 (.ref w4) ∧ fl_11 Z h x0 (.int w6) ∧ fl_9 Z h x0 (.long z_x0_reached)
theorem rm_a59_2 (x0 x1 : Addr) (w1 w2 w3 : Int32) (w4 : Addr) (w5 w6 w7 : Int32) (w8 : Int64) (w9 : Int32) (h0 : Heap) (O0 : Ext Z.heap h0) (r0 : ex_6 Z h0 x0) (r1 : fl_13 Z h0 x0 (.int w1)) (r2 : w1 = (0 : Int32)) (r3 : fl_14 Z h0 x0 (.int w2)) (r4 : w2 = (0 : Int32)) (r5 : fl_12 Z h0 x0 (.int w3)) (r6 : w3 = (0 : Int32)) (r7 : fl_8 Z h0 x0 (.ref w4)) (r8 : ex_3 Z h0 w4) (r9 : fl_2 Z h0 w4 (.ref G.el)) (r10 : fl_7 Z h0 x0 (.int w5)) (r11 : ex_2 Z h0 x1) (r12 : fl_1 Z h0 x1 (.int w6)) (r13 : w6 = (-1 : Int32)) (r14 : fl_11 Z h0 x0 (.int w7)) (r15 : Z.heap.size ≤ x0) (r16 : fl_9 Z h0 x0 (.long w8)) (r17 : fl_10 Z h0 x0 (.int w9)) :
    MF hw GG l y_59 prog_15_method_5_code 5 none ws ⟨3, 0, 0, 36⟩ h0 #[(.ref x0), (.ref x1)] (Q_a59_2 Z x0 w1 w2 w4 w5 w6 h0) := by
  refine own_mF #[.val (.ref x0), .val (.ref x1), .unset, .unset, .unset] (plainFor_of_name pn_59) (fun _ => rfl) ?_
  intro p e s m below meth c s₁ u hlk hret hZ hown hnm X0 e0 N0
  obtain ⟨hx, hby, hml⟩ := id u
  refine t_aN X0 u d59_0 rfl rfl ?_
  refine pt_cV [] [] 0 X0 u hZ hown (wd hw 426 rfl) (m_56 hw) e0 r0 (rm_a55_0 l Z a0 hw [] G GG x0 w1 w2 w3 w4 w5 h0 O0 r0 r1 r2 r3 r4 r5 r6 r7 r8 r9 r10) rfl d59_1 rfl rfl (by decide) N0 ?_
  intro T1 L1 X1 e1 N1_
  refine t_isN X1 u d59_4 (l' := #[.val (.ref x0), .val (.ref x1), .val (.int w5), .unset, .unset]) rfl ?_
  refine t_aN X1 u d59_5 rfl rfl ?_
  refine t_iN X1 u d59_6 rfl ?_
  refine pt_cV [(.int w5)] [] 0 X1 u hZ hown (wd hw 427 rfl) (m_58 hw) e1 r11 (rm_a60_1 l Z a0 hw [] G GG x1 w5 w6 h0 O0 r12 r13) rfl d59_7 rfl rfl (by decide) N1_ ?_
  intro T2 L2 X2 e2 N2_
  refine t_ifY 10 41 X2 u rfl d59_10 ((if0 _ _).trans (feq (by decide : ¬ ((1 : Int32) = (0 : Int32)))).2) (by decide) ?_
  refine t_aN X2 u d59_41 rfl rfl ?_
  refine t_aN X2 u d59_42 rfl rfl ?_
  refine pt_cV [] [(.ref x0)] 1 X2 u hZ hown (wd hw 16 rfl) (m_46 hw) e2 r11 (rm_a3_0 l Z a0 hw [] G GG x1 w6 h0 O0 r12) rfl d59_43 rfl rfl (by decide) N2_ ?_
  intro T3 L3 X3 e3 N3_
  refine t_pF X3 u hZ hown (wd hw 23 rfl) e3 r14 r0 (Or.inl (wd hw 24 rfl)) (wd hw 5 rfl) pf_I rfl rfl d59_46 ?_
  intro T4 h4 X4 e4 W4
  have N4_ := Fr.snoc X4 N3_ r15
  have O4_ := extWr O0 W4 r15
  have K4 := Keep.wr (Keep.refl h0 [x0]) W4 k0
  have F4 := Fld.same W4 r14
  refine t_aN X4 u d59_49 rfl rfl ?_
  refine t_gF X4 u hZ hown (wd hw 23 rfl) e4 F4 d59_50 ?_
  intro T5 X5 e5
  refine t_gS X5 u hZ hown (wd hw 13 rfl) e5 (Sta.ext O4_ GG.G_nn) d59_53 ?_
  intro T6 X6 e6
  refine pt_cV [] [(.int w6)] 1 X6 u hZ hown (wd hw 16 rfl) (m_46 hw) e6 (Exa.ext O4_ GG.G_nne) (rm_a3_1 l Z a0 hw [] G GG  h4 O4_ ) rfl d59_56 rfl rfl (by decide) N4_ ?_
  intro T7 L7 X7 e7 N7_
  refine t_icN X7 u d59_59 (teq r13).2 ?_
  refine t_aN X7 u d59_62 rfl rfl ?_
  refine t_iC X7 u d59_63  ?_
  refine t_pN X7 u hZ hown (wd hw 66 rfl) e7 (fS W4 r5 (sn_34 hw)) (Exa.wr W4 r0) (Or.inl (wd hw 67 rfl)) (wd hw 5 rfl) (.int (1 : Int32)) pf_Z rfl rfl d59_64 ?_
  intro T8 h8 X8 e8 W8
  have N8_ := Fr.snoc X8 N7_ r15
  have O8_ := extWr O4_ W8 r15
  have K8 := Keep.wr K4 W8 k0
  have F8 := Fld.same W8 (fS W4 r5 (sn_34 hw))
  refine t_go 67 160 X8 u rfl d59_67 (by decide) ?_
  have f9 := (fS W8 (fS W4 r17 (sn_32 hw)) (sn_20 hw))
  have f10 := (fR W8 (fR W4 r10 (sn_43 hw)) (sn_29 hw))
  have f11 := (fS W8 (fS W4 r16 (sn_31 hw)) (sn_19 hw))
  exact Go.retV X8 hx hret hlk (hb hby d59_160) (by decide) (by decide) (by show Q_a59_2 ..; rw [e8]; exact ⟨w9, w8, rfl, N8_, K8, (fR W8 (fR W4 r3 (sn_42 hw)) (sn_39 hw)), f9, (fR W8 (fS W4 r1 (sn_35 hw)) (sn_25 hw)), f10, F8, (fS W8 (fS W4 r7 (sn_33 hw)) (sn_21 hw)), (fR W8 F4 (sn_34 hw)), f11⟩)
theorem pn_51 : plainName "java/util/ImmutableCollections$List12" = true := by first | (simp [plainName, overriddenIn]; done) | decide +kernel
theorem rm_a51_0 (x0 : Addr) (h0 : Heap) (O0 : Ext Z.heap h0) :
    MF hw GG l y_51 jdk_44_method_4_code 1 (some .boolean) ws ⟨0, 0, 0, 0⟩ h0 #[(.ref x0)] (Qp (some (.int (0 : Int32))) Z h0) := by
  refine own_mF #[.val (.ref x0)] (plainFor_of_name pn_51) (fun _ => rfl) ?_
  intro p e s m below meth c s₁ u hlk hret hZ hown hnm X0 e0 N0
  refine t_iC X0 u d51_0  ?_
  exact t_rN X0 u hret hlk (by simp) rfl d51_1 e0 N0 (by decide)
theorem rm_a4_1 (x0 w1 : Addr) (h0 : Heap) (O0 : Ext Z.heap h0) (r0 : fl_2 Z h0 x0 (.ref w1)) (r1 : ex_4 Z h0 w1) :
    MF hw GG l y_4 prog_22_method_2_code 1 (some .boolean) ws ⟨1, 0, 0, 12⟩ h0 #[(.ref x0)] (Qp (some (.int (0 : Int32))) Z h0) := by
  refine own_mF #[.val (.ref x0)] (plainFor_of_name pn_4) (fun _ => rfl) ?_
  intro p e s m below meth c s₁ u hlk hret hZ hown hnm X0 e0 N0
  refine t_aN X0 u d4_0 rfl rfl ?_
  refine t_gF X0 u hZ hown (wd hw 30 rfl) e0 r0 d4_1 ?_
  intro T1 X1 e1
  refine pt_cI [] [] 0 X1 u hZ hown (wd hw 32 rfl) (m_61 hw) e1 r1 (rm_a51_0 l Z a0 hw [] G GG w1 h0 O0 ) rfl d4_4 rfl rfl (by decide) N0 ?_
  intro T2 L2 X2 e2 N2_
  exact t_rN X2 u hret hlk (by simp) rfl d4_9 e2 N2_ (by decide)
theorem pn_56 : plainName "com/example/clean_epoch/cleanepoch/log/Lineage" = true := by first | (simp [plainName, overriddenIn]; done) | decide +kernel
theorem rm_a56_0 (x0 w1 w2 : Addr) (w3 : Int32) (h0 : Heap) (O0 : Ext Z.heap h0) (r0 : fl_2 Z h0 x0 (.ref w1)) (r1 : ex_4 Z h0 w1) (r2 : fl_4 Z h0 w1 (.ref G.eo)) (r3 : fl_3 Z h0 w1 (.ref w2)) (r4 : ex_5 Z h0 w2) (r5 : fl_5 Z h0 w2 (.int w3)) :
    MF hw GG l y_56 prog_22_method_3_code 1 (some .int) ws ⟨1, 0, 0, 13⟩ h0 #[(.ref x0)] (Qp (some (.int w3)) Z h0) := by
  refine own_mF #[.val (.ref x0)] (plainFor_of_name pn_56) (fun _ => rfl) ?_
  intro p e s m below meth c s₁ u hlk hret hZ hown hnm X0 e0 N0
  obtain ⟨hx, hby, hml⟩ := id u
  refine t_aN X0 u d56_0 rfl rfl ?_
  refine t_gF X0 u hZ hown (wd hw 30 rfl) e0 r0 d56_1 ?_
  intro T1 X1 e1
  refine pt_cI [] [] 0 X1 u hZ hown (wd hw 32 rfl) (m_61 hw) e1 r1 (rm_a51_0 l Z a0 hw [] G GG w1 h0 O0 ) rfl d56_4 rfl rfl (by decide) N0 ?_
  intro T2 L2 X2 e2 N2_
  refine t_ifY 9 16 X2 u rfl d56_9 ((if0 _ _).trans (teq (by decide : (0 : Int32) = (0 : Int32))).1) (by decide) ?_
  refine t_aN X2 u d56_16 rfl rfl ?_
  refine t_gF X2 u hZ hown (wd hw 30 rfl) e2 r0 d56_17 ?_
  intro T3 X3 e3
  refine t_aN X3 u d56_20 rfl rfl ?_
  refine t_gF X3 u hZ hown (wd hw 30 rfl) e3 r0 d56_21 ?_
  intro T4 X4 e4
  refine pt_cI [] [(.ref w1)] 1 X4 u hZ hown (wd hw 338 rfl) (m_62 hw) e4 r1 (rm_a57_0 l Z a0 hw [] G GG w1 h0 O0 r2) rfl d56_24 rfl rfl (by decide) N2_ ?_
  intro T5 L5 X5 e5 N5_
  refine t_iC X5 u d56_29  ?_
  refine t_isub X5 u d56_30  ?_
  refine pt_cI [(.int (0 : Int32))] [] 0 X5 u hZ hown (wd hw 346 rfl) (m_18 hw) e5 r1 (rm_a53_0 l Z a0 hw [] G GG w1 (0 : Int32) w2 h0 O0 (by decide) r3) rfl d56_31 rfl rfl (by decide) N5_ ?_
  intro T6 L6 X6 e6 N6_
  obtain ⟨T7, X7, e7, st7⟩ := castY X6 hx hZ hown (wd hw 138 rfl) e6 (Ins.self r4) (g := (mkF m 36 #[.val (.ref x0)] [(.ref w2)])) rfl rfl (hb hby d56_36)
  refine Go.step st7 ?_
  refine pt_cV [] [] 0 X7 u hZ hown (wd hw 252 rfl) (m_28 hw) e7 r4 (rm_a34_0 l Z a0 hw [] G GG w2 w3 h0 O0 r5) rfl d56_39 rfl rfl (by decide) N6_ ?_
  intro T8 L8 X8 e8 N8_
  exact t_rI X8 u hret hlk d56_42 e8 N8_ (by decide)
theorem rm_a55_1 (x0 : Addr) (w1 w2 w3 : Int32) (w4 w5 w6 : Addr) (w7 : Int32) (h0 : Heap) (O0 : Ext Z.heap h0) (r0 : ex_6 Z h0 x0) (r1 : fl_13 Z h0 x0 (.int w1)) (r2 : w1 = (0 : Int32)) (r3 : fl_14 Z h0 x0 (.int w2)) (r4 : w2 = (0 : Int32)) (r5 : fl_12 Z h0 x0 (.int w3)) (r6 : w3 = (0 : Int32)) (r7 : fl_8 Z h0 x0 (.ref w4)) (r8 : ex_3 Z h0 w4) (r9 : fl_2 Z h0 w4 (.ref w5)) (r10 : ex_4 Z h0 w5) (r11 : fl_4 Z h0 w5 (.ref G.eo)) (r12 : fl_3 Z h0 w5 (.ref w6)) (r13 : ex_5 Z h0 w6) (r14 : fl_5 Z h0 w6 (.int w7)) :
    MF hw GG l y_55 prog_15_method_4_code 1 (some .int) ws ⟨2, 0, 0, 25⟩ h0 #[(.ref x0)] (Qp (some (.int w7)) Z h0) := by
  refine own_mF #[.val (.ref x0)] (plainFor_of_name pn_55) (fun _ => rfl) ?_
  intro p e s m below meth c s₁ u hlk hret hZ hown hnm X0 e0 N0
  refine t_aN X0 u d55_0 rfl rfl ?_
  refine pt_cV [] [] 0 X0 u hZ hown (wd hw 401 rfl) (m_50 hw) e0 r0 (rm_a6_2 l Z a0 hw [] G GG x0 w1 w2 h0 O0 r1 r2 r3 r4) rfl d55_1 rfl rfl (by decide) N0 ?_
  intro T1 L1 X1 e1 N1_
  refine t_ifN X1 u d55_4 ((if0 _ _).trans (teq (by decide : (0 : Int32) = (0 : Int32))).2) ?_
  refine t_aN X1 u d55_7 rfl rfl ?_
  refine t_gF X1 u hZ hown (wd hw 66 rfl) e1 r5 d55_8 ?_
  intro T2 X2 e2
  refine t_ifY 11 24 X2 u rfl d55_11 ((if0 _ _).trans (teq r6).1) (by decide) ?_
  refine t_aN X2 u d55_24 rfl rfl ?_
  refine t_gF X2 u hZ hown (wd hw 46 rfl) e2 r7 d55_25 ?_
  intro T3 X3 e3
  refine pt_cV [] [] 0 X3 u hZ hown (wd hw 25 rfl) (m_55 hw) e3 r8 (rm_a4_1 l Z a0 hw [] G GG w4 w5 h0 O0 r9 r10) rfl d55_28 rfl rfl (by decide) N1_ ?_
  intro T4 L4 X4 e4 N4_
  refine t_ifY 31 41 X4 u rfl d55_31 ((if0 _ _).trans (teq (by decide : (0 : Int32) = (0 : Int32))).1) (by decide) ?_
  refine t_aN X4 u d55_41 rfl rfl ?_
  refine t_gF X4 u hZ hown (wd hw 46 rfl) e4 r7 d55_42 ?_
  intro T5 X5 e5
  refine pt_cV [] [] 0 X5 u hZ hown (wd hw 402 rfl) (m_63 hw) e5 r8 (rm_a56_0 l Z a0 hw [] G GG w4 w5 w6 w7 h0 O0 r9 r10 r11 r12 r13 r14) rfl d55_45 rfl rfl (by decide) N4_ ?_
  intro T6 L6 X6 e6 N6_
  exact t_rI X6 u hret hlk d55_48 e6 N6_ (by decide)
def Q_a59_3 (Z : State) (G : GT) (x0 : Addr) (w3 w8 w13 : Int32) (h0 : Heap) (v : Option Value) (h : Heap) (L : List Loc) : Prop := ∃ (z_x0_diverged : Int32) (z_x0_reached : Int64) (ex0 : Addr), v = none ∧ Fr Z.heap.size L ∧ Keep h0 h [x0] ∧ fl_14 Z h x0 (.int (0 : Int32)) ∧ fl_10 Z h x0 (.int z_x0_diverged) ∧ fl_13 Z h x0 (.int (1 : Int32)) ∧ fl_7 Z h x0 (.int w13) ∧ fl_12 Z h x0 (.int w3) ∧ fl_8 Z h x0 (.ref ex0) ∧ fl_11 Z h x0 (.int w8) ∧ fl_9 Z h x0 (.long z_x0_reached) ∧ h0.size ≤ ex0 ∧ LS Z h G.el G.eo ex0
theorem rm_a59_3 (x0 x1 : Addr) (w1 w2 w3 : Int32) (w4 w5 w6 : Addr) (w7 w8 : Int32) (w9 : Int64) (w10 : Int32) (w11 : Int64) (w12 w13 : Int32) (h0 : Heap) (O0 : Ext Z.heap h0) (r0 : ex_6 Z h0 x0) (r1 : fl_13 Z h0 x0 (.int w1)) (r2 : w1 = (0 : Int32)) (r3 : fl_14 Z h0 x0 (.int w2)) (r4 : w2 = (0 : Int32)) (r5 : fl_12 Z h0 x0 (.int w3)) (r6 : w3 = (0 : Int32)) (r7 : fl_8 Z h0 x0 (.ref w4)) (r8 : ex_3 Z h0 w4) (r9 : fl_2 Z h0 w4 (.ref w5)) (r10 : ex_4 Z h0 w5) (r11 : fl_4 Z h0 w5 (.ref G.eo)) (r12 : fl_3 Z h0 w5 (.ref w6)) (r13 : ex_5 Z h0 w6) (r14 : fl_5 Z h0 w6 (.int w7)) (r15 : ex_2 Z h0 x1) (r16 : fl_1 Z h0 x1 (.int w8)) (r17 : ¬ (w8 = (-1 : Int32))) (r18 : ¬ (w8 < (0 : Int32))) (r19 : ¬ (w7 < w8)) (r20 : fl_26 Z h0 x1 (.long w9)) (r21 : ¬ ((lcmpW w9 (0 : Int64)) < (0 : Int32))) (r22 : fl_11 Z h0 x0 (.int w10)) (r23 : Z.heap.size ≤ x0) (r24 : fl_9 Z h0 x0 (.long w11)) (r25 : LS Z h0 G.el G.eo w4) (r26 : x1 ≠ x0) (r27 : fl_10 Z h0 x0 (.int w12)) (r28 : w8 = w7) (r29 : fl_7 Z h0 x0 (.int w13)) :
    MF hw GG l y_59 prog_15_method_5_code 5 none ws ⟨10, 10, 43, 136⟩ h0 #[(.ref x0), (.ref x1)] (Q_a59_3 Z G x0 w3 w8 w13 h0) := by
  refine own_mF #[.val (.ref x0), .val (.ref x1), .unset, .unset, .unset] (plainFor_of_name pn_59) (fun _ => rfl) ?_
  intro p e s m below meth c s₁ u hlk hret hZ hown hnm X0 e0 N0
  obtain ⟨hx, hby, hml⟩ := id u
  refine t_aN X0 u d59_0 rfl rfl ?_
  refine pt_cV [] [] 0 X0 u hZ hown (wd hw 426 rfl) (m_56 hw) e0 r0 (rm_a55_1 l Z a0 hw [] G GG x0 w1 w2 w3 w4 w5 w6 w7 h0 O0 r0 r1 r2 r3 r4 r5 r6 r7 r8 r9 r10 r11 r12 r13 r14) rfl d59_1 rfl rfl (by decide) N0 ?_
  intro T1 L1 X1 e1 N1_
  refine t_isN X1 u d59_4 (l' := #[.val (.ref x0), .val (.ref x1), .val (.int w7), .unset, .unset]) rfl ?_
  refine t_aN X1 u d59_5 rfl rfl ?_
  refine t_iN X1 u d59_6 rfl ?_
  refine pt_cV [(.int w7)] [] 0 X1 u hZ hown (wd hw 427 rfl) (m_58 hw) e1 r15 (rm_a60_0 l Z a0 hw [] G GG x1 w7 w8 w9 h0 O0 r16 r17 r18 r19 r20 r21) rfl d59_7 rfl rfl (by decide) N1_ ?_
  intro T2 L2 X2 e2 N2_
  refine t_ifY 10 41 X2 u rfl d59_10 ((if0 _ _).trans (feq (by decide : ¬ ((1 : Int32) = (0 : Int32)))).2) (by decide) ?_
  refine t_aN X2 u d59_41 rfl rfl ?_
  refine t_aN X2 u d59_42 rfl rfl ?_
  refine pt_cV [] [(.ref x0)] 1 X2 u hZ hown (wd hw 16 rfl) (m_46 hw) e2 r15 (rm_a3_0 l Z a0 hw [] G GG x1 w8 h0 O0 r16) rfl d59_43 rfl rfl (by decide) N2_ ?_
  intro T3 L3 X3 e3 N3_
  refine t_pF X3 u hZ hown (wd hw 23 rfl) e3 r22 r0 (Or.inl (wd hw 24 rfl)) (wd hw 5 rfl) pf_I rfl rfl d59_46 ?_
  intro T4 h4 X4 e4 W4
  have N4_ := Fr.snoc X4 N3_ r23
  have O4_ := extWr O0 W4 r23
  have K4 := Keep.wr (Keep.refl h0 [x0]) W4 k0
  have F4 := Fld.same W4 r22
  refine t_aN X4 u d59_49 rfl rfl ?_
  refine t_gF X4 u hZ hown (wd hw 23 rfl) e4 F4 d59_50 ?_
  intro T5 X5 e5
  refine t_gS X5 u hZ hown (wd hw 13 rfl) e5 (Sta.ext O4_ GG.G_nn) d59_53 ?_
  intro T6 X6 e6
  refine pt_cV [] [(.int w8)] 1 X6 u hZ hown (wd hw 16 rfl) (m_46 hw) e6 (Exa.ext O4_ GG.G_nne) (rm_a3_1 l Z a0 hw [] G GG  h4 O4_ ) rfl d59_56 rfl rfl (by decide) N4_ ?_
  intro T7 L7 X7 e7 N7_
  refine t_icY 59 70 X7 u rfl d59_59 (feq r17).2 (by decide) ?_
  refine t_aN X7 u d59_70 rfl rfl ?_
  refine t_gF X7 u hZ hown (wd hw 46 rfl) e7 (fS W4 r7 (sn_33 hw)) d59_71 ?_
  intro T8 X8 e8
  refine t_aN X8 u d59_74 rfl rfl ?_
  refine t_aN X8 u d59_75 rfl rfl ?_
  refine t_gF X8 u hZ hown (wd hw 48 rfl) e8 (fS W4 r24 (sn_31 hw)) d59_76 ?_
  intro T9 X9 e9
  refine t_cV [(.ref x1), (.long w11)] [] 0 X9 u hZ hown (wd hw 433 rfl) (m_59 hw) e9 (Exa.wr W4 r8) (rm_div l Z a0 hw [] G GG w4 x1 w11 w8 w9 h4 O4_ (LS.wr W4 r0 (by decide) r25) (Exa.wr W4 r15) (fL W4 r16 r26) (fL W4 r20 r26)) rfl d59_79 rfl rfl (by decide) ?_
  intro v10 T10 L10 Lc10 X10 hQ10 l10
  obtain ⟨d10, rfl, Nq10, Kq10⟩ := hQ10
  have O10_ := extKeep O4_ Kq10 all0
  have K10 := Keep.trans K4 Kq10 all0
  have N10_ := frA l10 N7_ Nq10
  refine Go.step (fun _ kt_ => XS.lstoreN X10.here hx rfl (hb hby d59_82) rfl (l' := #[.val (.ref x0), .val (.ref x1), .val (.int w7), .val (.long d10), .second]) rfl kt_) ?_
  show Go _ _ _ _ _ _ _ _ T10 (mkF m 83 #[.val (.ref x0), .val (.ref x1), .val (.int w7), .val (.long d10), .second] [])
  have cont102 : ∀ (Tc16 : State) (Lc16 : List Loc) (hc16 : Heap) (Xc16 : Stand p l e ({ frames := 10, cells := 10, slots := 43, locals := 136 } : Room) s m #[(.ref x0), (.ref x1)] below meth c Tc16 Lc16 1 4) (ec16 : Tc16.heap = hc16) (Oc16 : Ext Z.heap hc16) (Nc16 : Fr Z.heap.size Lc16) (Kc16 : Keep h0 hc16 [x0]) (wc16_1 : Int64) (wc16_2 : Int32) (rc16_0 : fl_11 Z hc16 x0 (.int w8)) (rc16_1 : w8 = w7) (rc16_2 : ex_6 Z hc16 x0) (rc16_3 : fl_13 Z hc16 x0 (.int w1)) (rc16_4 : Z.heap.size ≤ x0) (rc16_5 : fl_14 Z hc16 x0 (.int w2)) (rc16_6 : fl_8 Z hc16 x0 (.ref w4)) (rc16_7 : fl_9 Z hc16 x0 (.long wc16_1)) (rc16_8 : LS Z hc16 G.el G.eo w4) (rc16_9 : ex_3 Z hc16 w4) (rc16_10 : fl_12 Z hc16 x0 (.int w3)) (rc16_11 : fl_10 Z hc16 x0 (.int wc16_2)) (rc16_12 : fl_7 Z hc16 x0 (.int w13)), Go FrameEnd p e below s (({ frames := 10, cells := 10, slots := 43, locals := 136 } : Room)).cells (({ frames := 10, cells := 10, slots := 43, locals := 136 } : Room)).slots (Q_a59_3 Z G x0 w3 w8 w13 h0) Tc16 (mkF m 102 #[.val (.ref x0), .val (.ref x1), .val (.int w7), .val (.long d10), .second] []) := by
    intro Tc16 Lc16 hc16 Xc16 ec16 Oc16 Nc16 Kc16 wc16_1 wc16_2 rc16_0 rc16_1 rc16_2 rc16_3 rc16_4 rc16_5 rc16_6 rc16_7 rc16_8 rc16_9 rc16_10 rc16_11 rc16_12
    refine t_aN Xc16 u d59_102 rfl rfl ?_
    refine t_aN Xc16 u d59_103 rfl rfl ?_
    refine t_gF Xc16 u hZ hown (wd hw 23 rfl) ec16 rc16_0 d59_104 ?_
    intro T17 X17 e17
    refine t_iN X17 u d59_107 rfl ?_
    refine t_icN X17 u d59_108 (teq rc16_1).2 ?_
    refine t_iC X17 u d59_111  ?_
    refine t_go 112 116 X17 u rfl d59_112 (by decide) ?_
    refine t_pN X17 u hZ hown (wd hw 50 rfl) e17 rc16_3 rc16_2 (Or.inl (wd hw 51 rfl)) (wd hw 5 rfl) (.int (1 : Int32)) pf_Z rfl rfl d59_116 ?_
    intro T18 h18 X18 e18 W18
    have N18_ := Fr.snoc X18 Nc16 rc16_4
    have O18_ := extWr Oc16 W18 rc16_4
    have K18 := Keep.wr Kc16 W18 k0
    have F18 := Fld.same W18 rc16_3
    refine t_aN X18 u d59_119 rfl rfl ?_
    refine t_aN X18 u d59_120 rfl rfl ?_
    refine t_gF X18 u hZ hown (wd hw 50 rfl) e18 F18 d59_121 ?_
    intro T19 X19 e19
    refine t_ifY 124 141 X19 u rfl d59_124 ((if0 _ _).trans (feq (by decide : ¬ ((1 : Int32) = (0 : Int32)))).2) (by decide) ?_
    refine t_iC X19 u d59_141  ?_
    refine t_pN X19 u hZ hown (wd hw 388 rfl) e19 (fR W18 rc16_5 (sn_40 hw)) (Exa.wr W18 rc16_2) (Or.inl (wd hw 389 rfl)) (wd hw 5 rfl) (.int (0 : Int32)) pf_Z rfl rfl d59_142 ?_
    intro T20 h20 X20 e20 W20
    have N20_ := Fr.snoc X20 N18_ rc16_4
    have O20_ := extWr O18_ W20 rc16_4
    have K20 := Keep.wr K18 W20 k0
    have F20 := Fld.same W20 (fR W18 rc16_5 (sn_40 hw))
    refine t_aN X20 u d59_145 rfl rfl ?_
    refine t_aN X20 u d59_146 rfl rfl ?_
    have f21 := (fS W20 (fS W18 rc16_6 (sn_24 hw)) (sn_38 hw))
    refine t_gF X20 u hZ hown (wd hw 46 rfl) e20 f21 d59_147 ?_
    intro T22 X22 e22
    refine t_aN X22 u d59_150 rfl rfl ?_
    have f23 := (fS W20 (fS W18 rc16_7 (sn_22 hw)) (sn_36 hw))
    refine t_gF X22 u hZ hown (wd hw 48 rfl) e22 f23 d59_151 ?_
    intro T24 X24 e24
    have f25 := (LS.wr W20 (Exa.wr W18 rc16_2) (by decide) (LS.wr W18 rc16_2 (by decide) rc16_8))
    refine t_cV [(.long wc16_1)] [(.ref x0)] 1 X24 u hZ hown (wd hw 489 rfl) (m_51 hw) e24 (Exa.wr W20 (Exa.wr W18 rc16_9)) (rm_wef l Z a0 hw [] G GG w4 wc16_1 h20 O20_ f25) rfl d59_154 rfl rfl (by decide) ?_
    intro v26 T26 L26 Lc26 X26 hQ26 l26
    obtain ⟨r26, rfl, Nq26, Kq26, sz26, hL26⟩ := hQ26
    have O26_ := extKeep O20_ Kq26 all0
    have K26 := Keep.trans K20 Kq26 all0
    have N26_ := frA l26 N20_ Nq26
    have g_r26 : Z.heap.size ≤ r26 := Nat.le_trans O20_.1 sz26
    have sz_r26 : h0.size ≤ r26 := Nat.le_trans K20.1 sz26
    have f27 := ((Exa.wr W20 (Exa.wr W18 rc16_2)).keep Kq26)
    refine t_pF X26 u hZ hown (wd hw 46 rfl) rfl (f21.keep Kq26 nin0) f27 (Or.inl (wd hw 47 rfl)) (wd hw 5 rfl) pf_Lcom_example_clean_epoch_cleanepoch_log_Lineage_ rfl rfl d59_157 ?_
    intro T28 h28 X28 e28 W28
    have N28_ := Fr.snoc X28 N26_ rc16_4
    have O28_ := extWr O26_ W28 rc16_4
    have K28 := Keep.wr K26 W28 k0
    have F28 := Fld.same W28 (f21.keep Kq26 nin0)
    have f29 := (fS W28 ((fS W20 (fS W18 rc16_11 (sn_23 hw)) (sn_37 hw)).keep Kq26 nin0) (sn_18 hw))
    have f30 := (fR W28 ((fS W20 F18 (sn_40 hw)).keep Kq26 nin0) (sn_24 hw))
    have f31 := (fR W28 ((fR W20 (fR W18 rc16_12 (sn_30 hw)) (sn_44 hw)).keep Kq26 nin0) (sn_28 hw))
    have f32 := (fR W28 ((fS W20 (fS W18 rc16_10 (sn_25 hw)) (sn_39 hw)).keep Kq26 nin0) (sn_21 hw))
    have f33 := (fR W28 ((fS W20 (fR W18 rc16_0 (sn_35 hw)) (sn_42 hw)).keep Kq26 nin0) (sn_33 hw))
    exact Go.retV X28 hx hret hlk (hb hby d59_160) (by decide) (by decide) (by show Q_a59_3 ..; rw [e28]; exact ⟨wc16_2, wc16_1, r26, rfl, N28_, K28, (fR W28 (F20.keep Kq26 nin0) (sn_38 hw)), f29, f30, f31, f32, F28, f33, (fS W28 (f23.keep Kq26 nin0) (sn_17 hw)), sz_r26, (LS.wr W28 f27 (by decide) hL26)⟩)
  refine t_lN X10 u d59_83 rfl ?_
  refine t_aN X10 u d59_84 rfl rfl ?_
  refine t_gF X10 u hZ hown (wd hw 48 rfl) rfl ((fS W4 r24 (sn_31 hw)).keep Kq10 nin0) d59_85 ?_
  intro T11 X11 e11
  refine Go.step (fun _ kt_ => XS.lcmp X11.here hx rfl (hb hby d59_88) rfl kt_) ?_
  by_cases hc89_12 : (lcmpW d10 w11) < (0 : Int32)
  · refine t_ifN X11 u d59_89 ((if0 _ _).trans (tlt hc89_12).2.1) ?_
    refine t_aN X11 u d59_92 rfl rfl ?_
    refine t_lN X11 u d59_93 rfl ?_
    refine t_pF X11 u hZ hown (wd hw 48 rfl) e11 ((fS W4 r24 (sn_31 hw)).keep Kq10 nin0) ((Exa.wr W4 r0).keep Kq10) (Or.inl (wd hw 49 rfl)) (wd hw 5 rfl) pf_J rfl rfl d59_94 ?_
    intro T13 h13 X13 e13 W13
    have N13_ := Fr.snoc X13 N10_ r23
    have O13_ := extWr O10_ W13 r23
    have K13 := Keep.wr K10 W13 k0
    have F13 := Fld.same W13 ((fS W4 r24 (sn_31 hw)).keep Kq10 nin0)
    refine t_aN X13 u d59_97 rfl rfl ?_
    refine t_iC X13 u d59_98  ?_
    have f14 := (fR W13 ((fS W4 r27 (sn_32 hw)).keep Kq10 nin0) (sn_16 hw))
    refine t_pN X13 u hZ hown (wd hw 503 rfl) e13 f14 (Exa.wr W13 ((Exa.wr W4 r0).keep Kq10)) (Or.inl (wd hw 504 rfl)) (wd hw 5 rfl) (.int (1 : Int32)) pf_Z rfl rfl d59_99 ?_
    intro T15 h15 X15 e15 W15
    have N15_ := Fr.snoc X15 N13_ r23
    have O15_ := extWr O13_ W15 r23
    have K15 := Keep.wr K13 W15 k0
    have F15 := Fld.same W15 f14
    show Go _ _ _ _ _ _ _ _ T15 (mkF m 102 #[.val (.ref x0), .val (.ref x1), .val (.int w7), .val (.long d10), .second] [])
    have f17 := (Exa.wr W15 (Exa.wr W13 ((Exa.wr W4 r0).keep Kq10)))
    have f18 := (fR W15 (fR W13 (F4.keep Kq10 nin0) (sn_31 hw)) (sn_32 hw))
    have f19 := (fR W15 (fR W13 ((fS W4 r1 (sn_35 hw)).keep Kq10 nin0) (sn_22 hw)) (sn_23 hw))
    have f20 := (fR W15 (fR W13 ((fR W4 r3 (sn_42 hw)).keep Kq10 nin0) (sn_36 hw)) (sn_37 hw))
    have f21 := (fR W15 (fR W13 ((fS W4 r7 (sn_33 hw)).keep Kq10 nin0) (sn_17 hw)) (sn_18 hw))
    have f22 := (LS.wr W15 (Exa.wr W13 ((Exa.wr W4 r0).keep Kq10)) (by decide) (LS.wr W13 ((Exa.wr W4 r0).keep Kq10) (by decide) (LS.keep Kq10 ls0 (LS.wr W4 r0 (by decide) r25))))
    have f23 := (Exa.wr W15 (Exa.wr W13 ((Exa.wr W4 r8).keep Kq10)))
    have f24 := (fR W15 (fR W13 ((fS W4 r5 (sn_34 hw)).keep Kq10 nin0) (sn_19 hw)) (sn_20 hw))
    have f25 := (fR W15 (fR W13 ((fR W4 r29 (sn_43 hw)).keep Kq10 nin0) (sn_26 hw)) (sn_27 hw))
    have f26 := (Exa.wr W15 (Exa.wr W13 ((Exa.wr W4 r0).keep Kq10)))
    have f27 := (fR W15 (fR W13 (F4.keep Kq10 nin0) (sn_31 hw)) (sn_32 hw))
    have f28 := (fR W15 (fR W13 ((fS W4 r1 (sn_35 hw)).keep Kq10 nin0) (sn_22 hw)) (sn_23 hw))
    have f29 := (fR W15 (fR W13 ((fR W4 r3 (sn_42 hw)).keep Kq10 nin0) (sn_36 hw)) (sn_37 hw))
    have f30 := (fR W15 (fR W13 ((fS W4 r7 (sn_33 hw)).keep Kq10 nin0) (sn_17 hw)) (sn_18 hw))
    have f31 := (LS.wr W15 (Exa.wr W13 ((Exa.wr W4 r0).keep Kq10)) (by decide) (LS.wr W13 ((Exa.wr W4 r0).keep Kq10) (by decide) (LS.keep Kq10 ls0 (LS.wr W4 r0 (by decide) r25))))
    have f32 := (Exa.wr W15 (Exa.wr W13 ((Exa.wr W4 r8).keep Kq10)))
    have f33 := (fR W15 (fR W13 ((fS W4 r5 (sn_34 hw)).keep Kq10 nin0) (sn_19 hw)) (sn_20 hw))
    have f34 := (fR W15 (fR W13 ((fR W4 r29 (sn_43 hw)).keep Kq10 nin0) (sn_26 hw)) (sn_27 hw))
    exact cont102 T15 _ _ (X15.more (by decide) (by decide)) e15 O15_ N15_ K15  d10 (1 : Int32) f27 r28 f26 f28 r23 f29 f30 (fS W15 F13 (sn_16 hw)) f31 f32 f33 F15 f34
  · refine t_ifY 89 102 X11 u rfl d59_89 ((if0 _ _).trans (flt hc89_12).2.1) (by decide) ?_
    show Go _ _ _ _ _ _ _ _ T11 (mkF m 102 #[.val (.ref x0), .val (.ref x1), .val (.int w7), .val (.long d10), .second] [])
    have f35 := (LS.keep Kq10 ls0 (LS.wr W4 r0 (by decide) r25))
    exact cont102 T11 _ _ (X11.more (by decide) (by decide)) e11 O10_ N10_ K10  w11 w12 (F4.keep Kq10 nin0) r28 ((Exa.wr W4 r0).keep Kq10) ((fS W4 r1 (sn_35 hw)).keep Kq10 nin0) r23 ((fR W4 r3 (sn_42 hw)).keep Kq10 nin0) ((fS W4 r7 (sn_33 hw)).keep Kq10 nin0) ((fS W4 r24 (sn_31 hw)).keep Kq10 nin0) f35 ((Exa.wr W4 r8).keep Kq10) ((fS W4 r5 (sn_34 hw)).keep Kq10 nin0) ((fS W4 r27 (sn_32 hw)).keep Kq10 nin0) ((fR W4 r29 (sn_43 hw)).keep Kq10 nin0)
def Q_a59_4 (Z : State) (G : GT) (x0 : Addr) (w3 w8 w13 : Int32) (h0 : Heap) (v : Option Value) (h : Heap) (L : List Loc) : Prop := ∃ (z_x0_diverged : Int32) (z_x0_reached : Int64) (ex0 : Addr), v = none ∧ Fr Z.heap.size L ∧ Keep h0 h [x0] ∧ fl_14 Z h x0 (.int (0 : Int32)) ∧ fl_10 Z h x0 (.int z_x0_diverged) ∧ fl_13 Z h x0 (.int (0 : Int32)) ∧ fl_7 Z h x0 (.int w13) ∧ fl_12 Z h x0 (.int w3) ∧ fl_8 Z h x0 (.ref ex0) ∧ fl_11 Z h x0 (.int w8) ∧ fl_9 Z h x0 (.long z_x0_reached) ∧ h0.size ≤ ex0 ∧ LS Z h G.el G.eo ex0
theorem rm_a59_4 (x0 x1 : Addr) (w1 w2 w3 : Int32) (w4 w5 w6 : Addr) (w7 w8 : Int32) (w9 : Int64) (w10 : Int32) (w11 : Int64) (w12 w13 : Int32) (h0 : Heap) (O0 : Ext Z.heap h0) (r0 : ex_6 Z h0 x0) (r1 : fl_13 Z h0 x0 (.int w1)) (r2 : w1 = (0 : Int32)) (r3 : fl_14 Z h0 x0 (.int w2)) (r4 : w2 = (0 : Int32)) (r5 : fl_12 Z h0 x0 (.int w3)) (r6 : w3 = (0 : Int32)) (r7 : fl_8 Z h0 x0 (.ref w4)) (r8 : ex_3 Z h0 w4) (r9 : fl_2 Z h0 w4 (.ref w5)) (r10 : ex_4 Z h0 w5) (r11 : fl_4 Z h0 w5 (.ref G.eo)) (r12 : fl_3 Z h0 w5 (.ref w6)) (r13 : ex_5 Z h0 w6) (r14 : fl_5 Z h0 w6 (.int w7)) (r15 : ex_2 Z h0 x1) (r16 : fl_1 Z h0 x1 (.int w8)) (r17 : ¬ (w8 = (-1 : Int32))) (r18 : ¬ (w8 < (0 : Int32))) (r19 : ¬ (w7 < w8)) (r20 : fl_26 Z h0 x1 (.long w9)) (r21 : ¬ ((lcmpW w9 (0 : Int64)) < (0 : Int32))) (r22 : fl_11 Z h0 x0 (.int w10)) (r23 : Z.heap.size ≤ x0) (r24 : fl_9 Z h0 x0 (.long w11)) (r25 : LS Z h0 G.el G.eo w4) (r26 : x1 ≠ x0) (r27 : fl_10 Z h0 x0 (.int w12)) (r28 : ¬ (w8 = w7)) (r29 : w4 ≠ x0) (r30 : fl_7 Z h0 x0 (.int w13)) :
    MF hw GG l y_59 prog_15_method_5_code 5 none ws ⟨10, 10, 43, 136⟩ h0 #[(.ref x0), (.ref x1)] (Q_a59_4 Z G x0 w3 w8 w13 h0) := by
  refine own_mF #[.val (.ref x0), .val (.ref x1), .unset, .unset, .unset] (plainFor_of_name pn_59) (fun _ => rfl) ?_
  intro p e s m below meth c s₁ u hlk hret hZ hown hnm X0 e0 N0
  obtain ⟨hx, hby, hml⟩ := id u
  refine t_aN X0 u d59_0 rfl rfl ?_
  refine pt_cV [] [] 0 X0 u hZ hown (wd hw 426 rfl) (m_56 hw) e0 r0 (rm_a55_1 l Z a0 hw [] G GG x0 w1 w2 w3 w4 w5 w6 w7 h0 O0 r0 r1 r2 r3 r4 r5 r6 r7 r8 r9 r10 r11 r12 r13 r14) rfl d59_1 rfl rfl (by decide) N0 ?_
  intro T1 L1 X1 e1 N1_
  refine t_isN X1 u d59_4 (l' := #[.val (.ref x0), .val (.ref x1), .val (.int w7), .unset, .unset]) rfl ?_
  refine t_aN X1 u d59_5 rfl rfl ?_
  refine t_iN X1 u d59_6 rfl ?_
  refine pt_cV [(.int w7)] [] 0 X1 u hZ hown (wd hw 427 rfl) (m_58 hw) e1 r15 (rm_a60_0 l Z a0 hw [] G GG x1 w7 w8 w9 h0 O0 r16 r17 r18 r19 r20 r21) rfl d59_7 rfl rfl (by decide) N1_ ?_
  intro T2 L2 X2 e2 N2_
  refine t_ifY 10 41 X2 u rfl d59_10 ((if0 _ _).trans (feq (by decide : ¬ ((1 : Int32) = (0 : Int32)))).2) (by decide) ?_
  refine t_aN X2 u d59_41 rfl rfl ?_
  refine t_aN X2 u d59_42 rfl rfl ?_
  refine pt_cV [] [(.ref x0)] 1 X2 u hZ hown (wd hw 16 rfl) (m_46 hw) e2 r15 (rm_a3_0 l Z a0 hw [] G GG x1 w8 h0 O0 r16) rfl d59_43 rfl rfl (by decide) N2_ ?_
  intro T3 L3 X3 e3 N3_
  refine t_pF X3 u hZ hown (wd hw 23 rfl) e3 r22 r0 (Or.inl (wd hw 24 rfl)) (wd hw 5 rfl) pf_I rfl rfl d59_46 ?_
  intro T4 h4 X4 e4 W4
  have N4_ := Fr.snoc X4 N3_ r23
  have O4_ := extWr O0 W4 r23
  have K4 := Keep.wr (Keep.refl h0 [x0]) W4 k0
  have F4 := Fld.same W4 r22
  refine t_aN X4 u d59_49 rfl rfl ?_
  refine t_gF X4 u hZ hown (wd hw 23 rfl) e4 F4 d59_50 ?_
  intro T5 X5 e5
  refine t_gS X5 u hZ hown (wd hw 13 rfl) e5 (Sta.ext O4_ GG.G_nn) d59_53 ?_
  intro T6 X6 e6
  refine pt_cV [] [(.int w8)] 1 X6 u hZ hown (wd hw 16 rfl) (m_46 hw) e6 (Exa.ext O4_ GG.G_nne) (rm_a3_1 l Z a0 hw [] G GG  h4 O4_ ) rfl d59_56 rfl rfl (by decide) N4_ ?_
  intro T7 L7 X7 e7 N7_
  refine t_icY 59 70 X7 u rfl d59_59 (feq r17).2 (by decide) ?_
  refine t_aN X7 u d59_70 rfl rfl ?_
  refine t_gF X7 u hZ hown (wd hw 46 rfl) e7 (fS W4 r7 (sn_33 hw)) d59_71 ?_
  intro T8 X8 e8
  refine t_aN X8 u d59_74 rfl rfl ?_
  refine t_aN X8 u d59_75 rfl rfl ?_
  refine t_gF X8 u hZ hown (wd hw 48 rfl) e8 (fS W4 r24 (sn_31 hw)) d59_76 ?_
  intro T9 X9 e9
  refine t_cV [(.ref x1), (.long w11)] [] 0 X9 u hZ hown (wd hw 433 rfl) (m_59 hw) e9 (Exa.wr W4 r8) (rm_div l Z a0 hw [] G GG w4 x1 w11 w8 w9 h4 O4_ (LS.wr W4 r0 (by decide) r25) (Exa.wr W4 r15) (fL W4 r16 r26) (fL W4 r20 r26)) rfl d59_79 rfl rfl (by decide) ?_
  intro v10 T10 L10 Lc10 X10 hQ10 l10
  obtain ⟨d10, rfl, Nq10, Kq10⟩ := hQ10
  have O10_ := extKeep O4_ Kq10 all0
  have K10 := Keep.trans K4 Kq10 all0
  have N10_ := frA l10 N7_ Nq10
  refine Go.step (fun _ kt_ => XS.lstoreN X10.here hx rfl (hb hby d59_82) rfl (l' := #[.val (.ref x0), .val (.ref x1), .val (.int w7), .val (.long d10), .second]) rfl kt_) ?_
  show Go _ _ _ _ _ _ _ _ T10 (mkF m 83 #[.val (.ref x0), .val (.ref x1), .val (.int w7), .val (.long d10), .second] [])
  have cont102 : ∀ (Tc16 : State) (Lc16 : List Loc) (hc16 : Heap) (Xc16 : Stand p l e ({ frames := 10, cells := 10, slots := 43, locals := 136 } : Room) s m #[(.ref x0), (.ref x1)] below meth c Tc16 Lc16 1 4) (ec16 : Tc16.heap = hc16) (Oc16 : Ext Z.heap hc16) (Nc16 : Fr Z.heap.size Lc16) (Kc16 : Keep h0 hc16 [x0]) (wc16_1 : Int64) (wc16_2 : Int32) (rc16_0 : fl_11 Z hc16 x0 (.int w8)) (rc16_1 : ¬ (w8 = w7)) (rc16_2 : ex_6 Z hc16 x0) (rc16_3 : fl_13 Z hc16 x0 (.int w1)) (rc16_4 : Z.heap.size ≤ x0) (rc16_5 : fl_8 Z hc16 x0 (.ref w4)) (rc16_6 : ex_3 Z hc16 w4) (rc16_7 : fl_2 Z hc16 w4 (.ref w5)) (rc16_8 : w4 ≠ x0) (rc16_9 : ex_4 Z hc16 w5) (rc16_10 : fl_14 Z hc16 x0 (.int w2)) (rc16_11 : fl_9 Z hc16 x0 (.long wc16_1)) (rc16_12 : LS Z hc16 G.el G.eo w4) (rc16_13 : fl_12 Z hc16 x0 (.int w3)) (rc16_14 : fl_10 Z hc16 x0 (.int wc16_2)) (rc16_15 : fl_7 Z hc16 x0 (.int w13)), Go FrameEnd p e below s (({ frames := 10, cells := 10, slots := 43, locals := 136 } : Room)).cells (({ frames := 10, cells := 10, slots := 43, locals := 136 } : Room)).slots (Q_a59_4 Z G x0 w3 w8 w13 h0) Tc16 (mkF m 102 #[.val (.ref x0), .val (.ref x1), .val (.int w7), .val (.long d10), .second] []) := by
    intro Tc16 Lc16 hc16 Xc16 ec16 Oc16 Nc16 Kc16 wc16_1 wc16_2 rc16_0 rc16_1 rc16_2 rc16_3 rc16_4 rc16_5 rc16_6 rc16_7 rc16_8 rc16_9 rc16_10 rc16_11 rc16_12 rc16_13 rc16_14 rc16_15
    refine t_aN Xc16 u d59_102 rfl rfl ?_
    refine t_aN Xc16 u d59_103 rfl rfl ?_
    refine t_gF Xc16 u hZ hown (wd hw 23 rfl) ec16 rc16_0 d59_104 ?_
    intro T17 X17 e17
    refine t_iN X17 u d59_107 rfl ?_
    refine t_icY 108 115 X17 u rfl d59_108 (feq rc16_1).2 (by decide) ?_
    refine t_iC X17 u d59_115  ?_
    refine t_pN X17 u hZ hown (wd hw 50 rfl) e17 rc16_3 rc16_2 (Or.inl (wd hw 51 rfl)) (wd hw 5 rfl) (.int (0 : Int32)) pf_Z rfl rfl d59_116 ?_
    intro T18 h18 X18 e18 W18
    have N18_ := Fr.snoc X18 Nc16 rc16_4
    have O18_ := extWr Oc16 W18 rc16_4
    have K18 := Keep.wr Kc16 W18 k0
    have F18 := Fld.same W18 rc16_3
    refine t_aN X18 u d59_119 rfl rfl ?_
    refine t_aN X18 u d59_120 rfl rfl ?_
    refine t_gF X18 u hZ hown (wd hw 50 rfl) e18 F18 d59_121 ?_
    intro T19 X19 e19
    refine t_ifN X19 u d59_124 ((if0 _ _).trans (teq (by decide : (0 : Int32) = (0 : Int32))).2) ?_
    refine t_aN X19 u d59_127 rfl rfl ?_
    refine t_gF X19 u hZ hown (wd hw 46 rfl) e19 (fS W18 rc16_5 (sn_24 hw)) d59_128 ?_
    intro T20 X20 e20
    refine pt_cV [] [(.ref x0)] 1 X20 u hZ hown (wd hw 25 rfl) (m_55 hw) e20 (Exa.wr W18 rc16_6) (rm_a4_1 l Z a0 hw [] G GG w4 w5 h18 O18_ (fL W18 rc16_7 rc16_8) (Exa.wr W18 rc16_9)) rfl d59_131 rfl rfl (by decide) N18_ ?_
    intro T21 L21 X21 e21 N21_
    refine t_ifY 134 141 X21 u rfl d59_134 ((if0 _ _).trans (teq (by decide : (0 : Int32) = (0 : Int32))).1) (by decide) ?_
    refine t_iC X21 u d59_141  ?_
    refine t_pN X21 u hZ hown (wd hw 388 rfl) e21 (fR W18 rc16_10 (sn_40 hw)) (Exa.wr W18 rc16_2) (Or.inl (wd hw 389 rfl)) (wd hw 5 rfl) (.int (0 : Int32)) pf_Z rfl rfl d59_142 ?_
    intro T22 h22 X22 e22 W22
    have N22_ := Fr.snoc X22 N21_ rc16_4
    have O22_ := extWr O18_ W22 rc16_4
    have K22 := Keep.wr K18 W22 k0
    have F22 := Fld.same W22 (fR W18 rc16_10 (sn_40 hw))
    refine t_aN X22 u d59_145 rfl rfl ?_
    refine t_aN X22 u d59_146 rfl rfl ?_
    have f23 := (fS W22 (fS W18 rc16_5 (sn_24 hw)) (sn_38 hw))
    refine t_gF X22 u hZ hown (wd hw 46 rfl) e22 f23 d59_147 ?_
    intro T24 X24 e24
    refine t_aN X24 u d59_150 rfl rfl ?_
    have f25 := (fS W22 (fS W18 rc16_11 (sn_22 hw)) (sn_36 hw))
    refine t_gF X24 u hZ hown (wd hw 48 rfl) e24 f25 d59_151 ?_
    intro T26 X26 e26
    have f27 := (LS.wr W22 (Exa.wr W18 rc16_2) (by decide) (LS.wr W18 rc16_2 (by decide) rc16_12))
    refine t_cV [(.long wc16_1)] [(.ref x0)] 1 X26 u hZ hown (wd hw 489 rfl) (m_51 hw) e26 (Exa.wr W22 (Exa.wr W18 rc16_6)) (rm_wef l Z a0 hw [] G GG w4 wc16_1 h22 O22_ f27) rfl d59_154 rfl rfl (by decide) ?_
    intro v28 T28 L28 Lc28 X28 hQ28 l28
    obtain ⟨r28, rfl, Nq28, Kq28, sz28, hL28⟩ := hQ28
    have O28_ := extKeep O22_ Kq28 all0
    have K28 := Keep.trans K22 Kq28 all0
    have N28_ := frA l28 N22_ Nq28
    have g_r28 : Z.heap.size ≤ r28 := Nat.le_trans O22_.1 sz28
    have sz_r28 : h0.size ≤ r28 := Nat.le_trans K22.1 sz28
    have f29 := ((Exa.wr W22 (Exa.wr W18 rc16_2)).keep Kq28)
    refine t_pF X28 u hZ hown (wd hw 46 rfl) rfl (f23.keep Kq28 nin0) f29 (Or.inl (wd hw 47 rfl)) (wd hw 5 rfl) pf_Lcom_example_clean_epoch_cleanepoch_log_Lineage_ rfl rfl d59_157 ?_
    intro T30 h30 X30 e30 W30
    have N30_ := Fr.snoc X30 N28_ rc16_4
    have O30_ := extWr O28_ W30 rc16_4
    have K30 := Keep.wr K28 W30 k0
    have F30 := Fld.same W30 (f23.keep Kq28 nin0)
    have f31 := (fS W30 ((fS W22 (fS W18 rc16_14 (sn_23 hw)) (sn_37 hw)).keep Kq28 nin0) (sn_18 hw))
    have f32 := (fR W30 ((fS W22 F18 (sn_40 hw)).keep Kq28 nin0) (sn_24 hw))
    have f33 := (fR W30 ((fR W22 (fR W18 rc16_15 (sn_30 hw)) (sn_44 hw)).keep Kq28 nin0) (sn_28 hw))
    have f34 := (fR W30 ((fS W22 (fS W18 rc16_13 (sn_25 hw)) (sn_39 hw)).keep Kq28 nin0) (sn_21 hw))
    have f35 := (fR W30 ((fS W22 (fR W18 rc16_0 (sn_35 hw)) (sn_42 hw)).keep Kq28 nin0) (sn_33 hw))
    exact Go.retV X30 hx hret hlk (hb hby d59_160) (by decide) (by decide) (by show Q_a59_4 ..; rw [e30]; exact ⟨wc16_2, wc16_1, r28, rfl, N30_, K30, (fR W30 (F22.keep Kq28 nin0) (sn_38 hw)), f31, f32, f33, f34, F30, f35, (fS W30 (f25.keep Kq28 nin0) (sn_17 hw)), sz_r28, (LS.wr W30 f29 (by decide) hL28)⟩)
  refine t_lN X10 u d59_83 rfl ?_
  refine t_aN X10 u d59_84 rfl rfl ?_
  refine t_gF X10 u hZ hown (wd hw 48 rfl) rfl ((fS W4 r24 (sn_31 hw)).keep Kq10 nin0) d59_85 ?_
  intro T11 X11 e11
  refine Go.step (fun _ kt_ => XS.lcmp X11.here hx rfl (hb hby d59_88) rfl kt_) ?_
  by_cases hc89_12 : (lcmpW d10 w11) < (0 : Int32)
  · refine t_ifN X11 u d59_89 ((if0 _ _).trans (tlt hc89_12).2.1) ?_
    refine t_aN X11 u d59_92 rfl rfl ?_
    refine t_lN X11 u d59_93 rfl ?_
    refine t_pF X11 u hZ hown (wd hw 48 rfl) e11 ((fS W4 r24 (sn_31 hw)).keep Kq10 nin0) ((Exa.wr W4 r0).keep Kq10) (Or.inl (wd hw 49 rfl)) (wd hw 5 rfl) pf_J rfl rfl d59_94 ?_
    intro T13 h13 X13 e13 W13
    have N13_ := Fr.snoc X13 N10_ r23
    have O13_ := extWr O10_ W13 r23
    have K13 := Keep.wr K10 W13 k0
    have F13 := Fld.same W13 ((fS W4 r24 (sn_31 hw)).keep Kq10 nin0)
    refine t_aN X13 u d59_97 rfl rfl ?_
    refine t_iC X13 u d59_98  ?_
    have f14 := (fR W13 ((fS W4 r27 (sn_32 hw)).keep Kq10 nin0) (sn_16 hw))
    refine t_pN X13 u hZ hown (wd hw 503 rfl) e13 f14 (Exa.wr W13 ((Exa.wr W4 r0).keep Kq10)) (Or.inl (wd hw 504 rfl)) (wd hw 5 rfl) (.int (1 : Int32)) pf_Z rfl rfl d59_99 ?_
    intro T15 h15 X15 e15 W15
    have N15_ := Fr.snoc X15 N13_ r23
    have O15_ := extWr O13_ W15 r23
    have K15 := Keep.wr K13 W15 k0
    have F15 := Fld.same W15 f14
    show Go _ _ _ _ _ _ _ _ T15 (mkF m 102 #[.val (.ref x0), .val (.ref x1), .val (.int w7), .val (.long d10), .second] [])
    have f17 := (Exa.wr W15 (Exa.wr W13 ((Exa.wr W4 r0).keep Kq10)))
    have f18 := (fR W15 (fR W13 (F4.keep Kq10 nin0) (sn_31 hw)) (sn_32 hw))
    have f19 := (fR W15 (fR W13 ((fS W4 r1 (sn_35 hw)).keep Kq10 nin0) (sn_22 hw)) (sn_23 hw))
    have f20 := (fR W15 (fR W13 ((fS W4 r7 (sn_33 hw)).keep Kq10 nin0) (sn_17 hw)) (sn_18 hw))
    have f21 := (Exa.wr W15 (Exa.wr W13 ((Exa.wr W4 r8).keep Kq10)))
    have f22 := (fL W15 (fL W13 ((fL W4 r9 r29).keep Kq10 nin0) r29) r29)
    have f23 := (Exa.wr W15 (Exa.wr W13 ((Exa.wr W4 r10).keep Kq10)))
    have f24 := (fR W15 (fR W13 ((fR W4 r3 (sn_42 hw)).keep Kq10 nin0) (sn_36 hw)) (sn_37 hw))
    have f25 := (LS.wr W15 (Exa.wr W13 ((Exa.wr W4 r0).keep Kq10)) (by decide) (LS.wr W13 ((Exa.wr W4 r0).keep Kq10) (by decide) (LS.keep Kq10 ls0 (LS.wr W4 r0 (by decide) r25))))
    have f26 := (fR W15 (fR W13 ((fS W4 r5 (sn_34 hw)).keep Kq10 nin0) (sn_19 hw)) (sn_20 hw))
    have f27 := (fR W15 (fR W13 ((fR W4 r30 (sn_43 hw)).keep Kq10 nin0) (sn_26 hw)) (sn_27 hw))
    have f28 := (Exa.wr W15 (Exa.wr W13 ((Exa.wr W4 r0).keep Kq10)))
    have f29 := (fR W15 (fR W13 (F4.keep Kq10 nin0) (sn_31 hw)) (sn_32 hw))
    have f30 := (fR W15 (fR W13 ((fS W4 r1 (sn_35 hw)).keep Kq10 nin0) (sn_22 hw)) (sn_23 hw))
    have f31 := (fR W15 (fR W13 ((fS W4 r7 (sn_33 hw)).keep Kq10 nin0) (sn_17 hw)) (sn_18 hw))
    have f32 := (Exa.wr W15 (Exa.wr W13 ((Exa.wr W4 r8).keep Kq10)))
    have f33 := (fL W15 (fL W13 ((fL W4 r9 r29).keep Kq10 nin0) r29) r29)
    have f34 := (Exa.wr W15 (Exa.wr W13 ((Exa.wr W4 r10).keep Kq10)))
    have f35 := (fR W15 (fR W13 ((fR W4 r3 (sn_42 hw)).keep Kq10 nin0) (sn_36 hw)) (sn_37 hw))
    have f36 := (LS.wr W15 (Exa.wr W13 ((Exa.wr W4 r0).keep Kq10)) (by decide) (LS.wr W13 ((Exa.wr W4 r0).keep Kq10) (by decide) (LS.keep Kq10 ls0 (LS.wr W4 r0 (by decide) r25))))
    have f37 := (fR W15 (fR W13 ((fS W4 r5 (sn_34 hw)).keep Kq10 nin0) (sn_19 hw)) (sn_20 hw))
    have f38 := (fR W15 (fR W13 ((fR W4 r30 (sn_43 hw)).keep Kq10 nin0) (sn_26 hw)) (sn_27 hw))
    exact cont102 T15 _ _ (X15.more (by decide) (by decide)) e15 O15_ N15_ K15  d10 (1 : Int32) f29 r28 f28 f30 r23 f31 f32 f33 r29 f34 f35 (fS W15 F13 (sn_16 hw)) f36 f37 F15 f38
  · refine t_ifY 89 102 X11 u rfl d59_89 ((if0 _ _).trans (flt hc89_12).2.1) (by decide) ?_
    show Go _ _ _ _ _ _ _ _ T11 (mkF m 102 #[.val (.ref x0), .val (.ref x1), .val (.int w7), .val (.long d10), .second] [])
    have f39 := (LS.keep Kq10 ls0 (LS.wr W4 r0 (by decide) r25))
    exact cont102 T11 _ _ (X11.more (by decide) (by decide)) e11 O10_ N10_ K10  w11 w12 (F4.keep Kq10 nin0) r28 ((Exa.wr W4 r0).keep Kq10) ((fS W4 r1 (sn_35 hw)).keep Kq10 nin0) r23 ((fS W4 r7 (sn_33 hw)).keep Kq10 nin0) ((Exa.wr W4 r8).keep Kq10) ((fL W4 r9 r29).keep Kq10 nin0) r29 ((Exa.wr W4 r10).keep Kq10) ((fR W4 r3 (sn_42 hw)).keep Kq10 nin0) ((fS W4 r24 (sn_31 hw)).keep Kq10 nin0) f39 ((fS W4 r5 (sn_34 hw)).keep Kq10 nin0) ((fS W4 r27 (sn_32 hw)).keep Kq10 nin0) ((fR W4 r30 (sn_43 hw)).keep Kq10 nin0)
def Q_a59_5 (Z : State) (x0 : Addr) (w1 w2 : Int32) (w4 : Addr) (w8 w10 : Int32) (h0 : Heap) (v : Option Value) (h : Heap) (L : List Loc) : Prop := ∃ (z_x0_diverged : Int32) (z_x0_reached : Int64), v = none ∧ Fr Z.heap.size L ∧ Keep h0 h [x0] ∧ fl_14 Z h x0 (.int w2) ∧ fl_10 Z h x0 (.int z_x0_diverged) ∧ fl_13 Z h x0 (.int w1) ∧ fl_7 Z h x0 (.int w10) ∧ fl_12 Z h x0 (.int (1 : Int32)) ∧ fl_8 Z h x0 (.ref w4) ∧ fl_11 Z h x0 (.int w8) ∧ fl_9 Z h x0 (.long z_x0_reached)
theorem rm_a59_5 (x0 x1 : Addr) (w1 w2 w3 : Int32) (w4 w5 w6 : Addr) (w7 w8 w9 w10 : Int32) (w11 : Int64) (w12 : Int32) (h0 : Heap) (O0 : Ext Z.heap h0) (r0 : ex_6 Z h0 x0) (r1 : fl_13 Z h0 x0 (.int w1)) (r2 : w1 = (0 : Int32)) (r3 : fl_14 Z h0 x0 (.int w2)) (r4 : w2 = (0 : Int32)) (r5 : fl_12 Z h0 x0 (.int w3)) (r6 : w3 = (0 : Int32)) (r7 : fl_8 Z h0 x0 (.ref w4)) (r8 : ex_3 Z h0 w4) (r9 : fl_2 Z h0 w4 (.ref w5)) (r10 : ex_4 Z h0 w5) (r11 : fl_4 Z h0 w5 (.ref G.eo)) (r12 : fl_3 Z h0 w5 (.ref w6)) (r13 : ex_5 Z h0 w6) (r14 : fl_5 Z h0 w6 (.int w7)) (r15 : ex_2 Z h0 x1) (r16 : fl_1 Z h0 x1 (.int w8)) (r17 : w8 = (-1 : Int32)) (r18 : fl_11 Z h0 x0 (.int w9)) (r19 : Z.heap.size ≤ x0) (r20 : fl_7 Z h0 x0 (.int w10)) (r21 : fl_9 Z h0 x0 (.long w11)) (r22 : fl_10 Z h0 x0 (.int w12)) :
    MF hw GG l y_59 prog_15_method_5_code 5 none ws ⟨3, 0, 0, 37⟩ h0 #[(.ref x0), (.ref x1)] (Q_a59_5 Z x0 w1 w2 w4 w8 w10 h0) := by
  refine own_mF #[.val (.ref x0), .val (.ref x1), .unset, .unset, .unset] (plainFor_of_name pn_59) (fun _ => rfl) ?_
  intro p e s m below meth c s₁ u hlk hret hZ hown hnm X0 e0 N0
  obtain ⟨hx, hby, hml⟩ := id u
  refine t_aN X0 u d59_0 rfl rfl ?_
  refine pt_cV [] [] 0 X0 u hZ hown (wd hw 426 rfl) (m_56 hw) e0 r0 (rm_a55_1 l Z a0 hw [] G GG x0 w1 w2 w3 w4 w5 w6 w7 h0 O0 r0 r1 r2 r3 r4 r5 r6 r7 r8 r9 r10 r11 r12 r13 r14) rfl d59_1 rfl rfl (by decide) N0 ?_
  intro T1 L1 X1 e1 N1_
  refine t_isN X1 u d59_4 (l' := #[.val (.ref x0), .val (.ref x1), .val (.int w7), .unset, .unset]) rfl ?_
  refine t_aN X1 u d59_5 rfl rfl ?_
  refine t_iN X1 u d59_6 rfl ?_
  refine pt_cV [(.int w7)] [] 0 X1 u hZ hown (wd hw 427 rfl) (m_58 hw) e1 r15 (rm_a60_1 l Z a0 hw [] G GG x1 w7 w8 h0 O0 r16 r17) rfl d59_7 rfl rfl (by decide) N1_ ?_
  intro T2 L2 X2 e2 N2_
  refine t_ifY 10 41 X2 u rfl d59_10 ((if0 _ _).trans (feq (by decide : ¬ ((1 : Int32) = (0 : Int32)))).2) (by decide) ?_
  refine t_aN X2 u d59_41 rfl rfl ?_
  refine t_aN X2 u d59_42 rfl rfl ?_
  refine pt_cV [] [(.ref x0)] 1 X2 u hZ hown (wd hw 16 rfl) (m_46 hw) e2 r15 (rm_a3_0 l Z a0 hw [] G GG x1 w8 h0 O0 r16) rfl d59_43 rfl rfl (by decide) N2_ ?_
  intro T3 L3 X3 e3 N3_
  refine t_pF X3 u hZ hown (wd hw 23 rfl) e3 r18 r0 (Or.inl (wd hw 24 rfl)) (wd hw 5 rfl) pf_I rfl rfl d59_46 ?_
  intro T4 h4 X4 e4 W4
  have N4_ := Fr.snoc X4 N3_ r19
  have O4_ := extWr O0 W4 r19
  have K4 := Keep.wr (Keep.refl h0 [x0]) W4 k0
  have F4 := Fld.same W4 r18
  refine t_aN X4 u d59_49 rfl rfl ?_
  refine t_gF X4 u hZ hown (wd hw 23 rfl) e4 F4 d59_50 ?_
  intro T5 X5 e5
  refine t_gS X5 u hZ hown (wd hw 13 rfl) e5 (Sta.ext O4_ GG.G_nn) d59_53 ?_
  intro T6 X6 e6
  refine pt_cV [] [(.int w8)] 1 X6 u hZ hown (wd hw 16 rfl) (m_46 hw) e6 (Exa.ext O4_ GG.G_nne) (rm_a3_1 l Z a0 hw [] G GG  h4 O4_ ) rfl d59_56 rfl rfl (by decide) N4_ ?_
  intro T7 L7 X7 e7 N7_
  refine t_icN X7 u d59_59 (teq r17).2 ?_
  refine t_aN X7 u d59_62 rfl rfl ?_
  refine t_iC X7 u d59_63  ?_
  refine t_pN X7 u hZ hown (wd hw 66 rfl) e7 (fS W4 r5 (sn_34 hw)) (Exa.wr W4 r0) (Or.inl (wd hw 67 rfl)) (wd hw 5 rfl) (.int (1 : Int32)) pf_Z rfl rfl d59_64 ?_
  intro T8 h8 X8 e8 W8
  have N8_ := Fr.snoc X8 N7_ r19
  have O8_ := extWr O4_ W8 r19
  have K8 := Keep.wr K4 W8 k0
  have F8 := Fld.same W8 (fS W4 r5 (sn_34 hw))
  refine t_go 67 160 X8 u rfl d59_67 (by decide) ?_
  have f9 := (fS W8 (fS W4 r22 (sn_32 hw)) (sn_20 hw))
  have f10 := (fR W8 (fR W4 r20 (sn_43 hw)) (sn_29 hw))
  have f11 := (fS W8 (fS W4 r21 (sn_31 hw)) (sn_19 hw))
  exact Go.retV X8 hx hret hlk (hb hby d59_160) (by decide) (by decide) (by show Q_a59_5 ..; rw [e8]; exact ⟨w12, w11, rfl, N8_, K8, (fR W8 (fR W4 r3 (sn_42 hw)) (sn_39 hw)), f9, (fR W8 (fS W4 r1 (sn_35 hw)) (sn_25 hw)), f10, F8, (fS W8 (fS W4 r7 (sn_33 hw)) (sn_21 hw)), (fR W8 F4 (sn_34 hw)), f11⟩)
theorem rm_a56_1 (x0 w1 w2 : Addr) (w3 : Int32) (h0 : Heap) (O0 : Ext Z.heap h0) (r0 : fl_2 Z h0 x0 (.ref w1)) (r1 : ex_4 Z h0 w1) (r2 : fl_4 Z h0 w1 (.ref w2)) (r3 : ex_5 Z h0 w2) (r4 : fl_5 Z h0 w2 (.int w3)) :
    MF hw GG l y_56 prog_22_method_3_code 1 (some .int) ws ⟨1, 0, 0, 13⟩ h0 #[(.ref x0)] (Qp (some (.int w3)) Z h0) := by
  refine own_mF #[.val (.ref x0)] (plainFor_of_name pn_56) (fun _ => rfl) ?_
  intro p e s m below meth c s₁ u hlk hret hZ hown hnm X0 e0 N0
  obtain ⟨hx, hby, hml⟩ := id u
  refine t_aN X0 u d56_0 rfl rfl ?_
  refine t_gF X0 u hZ hown (wd hw 30 rfl) e0 r0 d56_1 ?_
  intro T1 X1 e1
  refine pt_cI [] [] 0 X1 u hZ hown (wd hw 32 rfl) (m_61 hw) e1 r1 (rm_a51_0 l Z a0 hw [] G GG w1 h0 O0 ) rfl d56_4 rfl rfl (by decide) N0 ?_
  intro T2 L2 X2 e2 N2_
  refine t_ifY 9 16 X2 u rfl d56_9 ((if0 _ _).trans (teq (by decide : (0 : Int32) = (0 : Int32))).1) (by decide) ?_
  refine t_aN X2 u d56_16 rfl rfl ?_
  refine t_gF X2 u hZ hown (wd hw 30 rfl) e2 r0 d56_17 ?_
  intro T3 X3 e3
  refine t_aN X3 u d56_20 rfl rfl ?_
  refine t_gF X3 u hZ hown (wd hw 30 rfl) e3 r0 d56_21 ?_
  intro T4 X4 e4
  refine pt_cI [] [(.ref w1)] 1 X4 u hZ hown (wd hw 338 rfl) (m_62 hw) e4 r1 (rm_a57_1 l Z a0 hw [] G GG w1 w2 h0 O0 r2 r3) rfl d56_24 rfl rfl (by decide) N2_ ?_
  intro T5 L5 X5 e5 N5_
  refine t_iC X5 u d56_29  ?_
  refine t_isub X5 u d56_30  ?_
  refine pt_cI [(.int (1 : Int32))] [] 0 X5 u hZ hown (wd hw 346 rfl) (m_18 hw) e5 r1 (rm_a53_1 l Z a0 hw [] G GG w1 (1 : Int32) w2 h0 O0 (by decide) (by decide) r2 r3) rfl d56_31 rfl rfl (by decide) N5_ ?_
  intro T6 L6 X6 e6 N6_
  obtain ⟨T7, X7, e7, st7⟩ := castY X6 hx hZ hown (wd hw 138 rfl) e6 (Ins.self r3) (g := (mkF m 36 #[.val (.ref x0)] [(.ref w2)])) rfl rfl (hb hby d56_36)
  refine Go.step st7 ?_
  refine pt_cV [] [] 0 X7 u hZ hown (wd hw 252 rfl) (m_28 hw) e7 r3 (rm_a34_0 l Z a0 hw [] G GG w2 w3 h0 O0 r4) rfl d56_39 rfl rfl (by decide) N6_ ?_
  intro T8 L8 X8 e8 N8_
  exact t_rI X8 u hret hlk d56_42 e8 N8_ (by decide)
theorem rm_a55_2 (x0 : Addr) (w1 w2 w3 : Int32) (w4 w5 w6 : Addr) (w7 : Int32) (h0 : Heap) (O0 : Ext Z.heap h0) (r0 : ex_6 Z h0 x0) (r1 : fl_13 Z h0 x0 (.int w1)) (r2 : w1 = (0 : Int32)) (r3 : fl_14 Z h0 x0 (.int w2)) (r4 : w2 = (0 : Int32)) (r5 : fl_12 Z h0 x0 (.int w3)) (r6 : w3 = (0 : Int32)) (r7 : fl_8 Z h0 x0 (.ref w4)) (r8 : ex_3 Z h0 w4) (r9 : fl_2 Z h0 w4 (.ref w5)) (r10 : ex_4 Z h0 w5) (r11 : fl_4 Z h0 w5 (.ref w6)) (r12 : ex_5 Z h0 w6) (r13 : fl_5 Z h0 w6 (.int w7)) :
    MF hw GG l y_55 prog_15_method_4_code 1 (some .int) ws ⟨2, 0, 0, 25⟩ h0 #[(.ref x0)] (Qp (some (.int w7)) Z h0) := by
  refine own_mF #[.val (.ref x0)] (plainFor_of_name pn_55) (fun _ => rfl) ?_
  intro p e s m below meth c s₁ u hlk hret hZ hown hnm X0 e0 N0
  refine t_aN X0 u d55_0 rfl rfl ?_
  refine pt_cV [] [] 0 X0 u hZ hown (wd hw 401 rfl) (m_50 hw) e0 r0 (rm_a6_2 l Z a0 hw [] G GG x0 w1 w2 h0 O0 r1 r2 r3 r4) rfl d55_1 rfl rfl (by decide) N0 ?_
  intro T1 L1 X1 e1 N1_
  refine t_ifN X1 u d55_4 ((if0 _ _).trans (teq (by decide : (0 : Int32) = (0 : Int32))).2) ?_
  refine t_aN X1 u d55_7 rfl rfl ?_
  refine t_gF X1 u hZ hown (wd hw 66 rfl) e1 r5 d55_8 ?_
  intro T2 X2 e2
  refine t_ifY 11 24 X2 u rfl d55_11 ((if0 _ _).trans (teq r6).1) (by decide) ?_
  refine t_aN X2 u d55_24 rfl rfl ?_
  refine t_gF X2 u hZ hown (wd hw 46 rfl) e2 r7 d55_25 ?_
  intro T3 X3 e3
  refine pt_cV [] [] 0 X3 u hZ hown (wd hw 25 rfl) (m_55 hw) e3 r8 (rm_a4_1 l Z a0 hw [] G GG w4 w5 h0 O0 r9 r10) rfl d55_28 rfl rfl (by decide) N1_ ?_
  intro T4 L4 X4 e4 N4_
  refine t_ifY 31 41 X4 u rfl d55_31 ((if0 _ _).trans (teq (by decide : (0 : Int32) = (0 : Int32))).1) (by decide) ?_
  refine t_aN X4 u d55_41 rfl rfl ?_
  refine t_gF X4 u hZ hown (wd hw 46 rfl) e4 r7 d55_42 ?_
  intro T5 X5 e5
  refine pt_cV [] [] 0 X5 u hZ hown (wd hw 402 rfl) (m_63 hw) e5 r8 (rm_a56_1 l Z a0 hw [] G GG w4 w5 w6 w7 h0 O0 r9 r10 r11 r12 r13) rfl d55_45 rfl rfl (by decide) N4_ ?_
  intro T6 L6 X6 e6 N6_
  exact t_rI X6 u hret hlk d55_48 e6 N6_ (by decide)
def Q_a59_6 (Z : State) (G : GT) (x0 : Addr) (w3 w8 w13 : Int32) (h0 : Heap) (v : Option Value) (h : Heap) (L : List Loc) : Prop := ∃ (z_x0_diverged : Int32) (z_x0_reached : Int64) (ex0 : Addr), v = none ∧ Fr Z.heap.size L ∧ Keep h0 h [x0] ∧ fl_14 Z h x0 (.int (0 : Int32)) ∧ fl_10 Z h x0 (.int z_x0_diverged) ∧ fl_13 Z h x0 (.int (1 : Int32)) ∧ fl_7 Z h x0 (.int w13) ∧ fl_12 Z h x0 (.int w3) ∧ fl_8 Z h x0 (.ref ex0) ∧ fl_11 Z h x0 (.int w8) ∧ fl_9 Z h x0 (.long z_x0_reached) ∧ h0.size ≤ ex0 ∧ LS Z h G.el G.eo ex0
theorem rm_a59_6 (x0 x1 : Addr) (w1 w2 w3 : Int32) (w4 w5 w6 : Addr) (w7 w8 : Int32) (w9 : Int64) (w10 : Int32) (w11 : Int64) (w12 w13 : Int32) (h0 : Heap) (O0 : Ext Z.heap h0) (r0 : ex_6 Z h0 x0) (r1 : fl_13 Z h0 x0 (.int w1)) (r2 : w1 = (0 : Int32)) (r3 : fl_14 Z h0 x0 (.int w2)) (r4 : w2 = (0 : Int32)) (r5 : fl_12 Z h0 x0 (.int w3)) (r6 : w3 = (0 : Int32)) (r7 : fl_8 Z h0 x0 (.ref w4)) (r8 : ex_3 Z h0 w4) (r9 : fl_2 Z h0 w4 (.ref w5)) (r10 : ex_4 Z h0 w5) (r11 : fl_4 Z h0 w5 (.ref w6)) (r12 : ex_5 Z h0 w6) (r13 : fl_5 Z h0 w6 (.int w7)) (r14 : ex_2 Z h0 x1) (r15 : fl_1 Z h0 x1 (.int w8)) (r16 : ¬ (w8 = (-1 : Int32))) (r17 : ¬ (w8 < (0 : Int32))) (r18 : ¬ (w7 < w8)) (r19 : fl_26 Z h0 x1 (.long w9)) (r20 : ¬ ((lcmpW w9 (0 : Int64)) < (0 : Int32))) (r21 : fl_11 Z h0 x0 (.int w10)) (r22 : Z.heap.size ≤ x0) (r23 : fl_9 Z h0 x0 (.long w11)) (r24 : LS Z h0 G.el G.eo w4) (r25 : x1 ≠ x0) (r26 : fl_10 Z h0 x0 (.int w12)) (r27 : w8 = w7) (r28 : fl_7 Z h0 x0 (.int w13)) :
    MF hw GG l y_59 prog_15_method_5_code 5 none ws ⟨10, 10, 43, 136⟩ h0 #[(.ref x0), (.ref x1)] (Q_a59_6 Z G x0 w3 w8 w13 h0) := by
  refine own_mF #[.val (.ref x0), .val (.ref x1), .unset, .unset, .unset] (plainFor_of_name pn_59) (fun _ => rfl) ?_
  intro p e s m below meth c s₁ u hlk hret hZ hown hnm X0 e0 N0
  obtain ⟨hx, hby, hml⟩ := id u
  refine t_aN X0 u d59_0 rfl rfl ?_
  refine pt_cV [] [] 0 X0 u hZ hown (wd hw 426 rfl) (m_56 hw) e0 r0 (rm_a55_2 l Z a0 hw [] G GG x0 w1 w2 w3 w4 w5 w6 w7 h0 O0 r0 r1 r2 r3 r4 r5 r6 r7 r8 r9 r10 r11 r12 r13) rfl d59_1 rfl rfl (by decide) N0 ?_
  intro T1 L1 X1 e1 N1_
  refine t_isN X1 u d59_4 (l' := #[.val (.ref x0), .val (.ref x1), .val (.int w7), .unset, .unset]) rfl ?_
  refine t_aN X1 u d59_5 rfl rfl ?_
  refine t_iN X1 u d59_6 rfl ?_
  refine pt_cV [(.int w7)] [] 0 X1 u hZ hown (wd hw 427 rfl) (m_58 hw) e1 r14 (rm_a60_0 l Z a0 hw [] G GG x1 w7 w8 w9 h0 O0 r15 r16 r17 r18 r19 r20) rfl d59_7 rfl rfl (by decide) N1_ ?_
  intro T2 L2 X2 e2 N2_
  refine t_ifY 10 41 X2 u rfl d59_10 ((if0 _ _).trans (feq (by decide : ¬ ((1 : Int32) = (0 : Int32)))).2) (by decide) ?_
  refine t_aN X2 u d59_41 rfl rfl ?_
  refine t_aN X2 u d59_42 rfl rfl ?_
  refine pt_cV [] [(.ref x0)] 1 X2 u hZ hown (wd hw 16 rfl) (m_46 hw) e2 r14 (rm_a3_0 l Z a0 hw [] G GG x1 w8 h0 O0 r15) rfl d59_43 rfl rfl (by decide) N2_ ?_
  intro T3 L3 X3 e3 N3_
  refine t_pF X3 u hZ hown (wd hw 23 rfl) e3 r21 r0 (Or.inl (wd hw 24 rfl)) (wd hw 5 rfl) pf_I rfl rfl d59_46 ?_
  intro T4 h4 X4 e4 W4
  have N4_ := Fr.snoc X4 N3_ r22
  have O4_ := extWr O0 W4 r22
  have K4 := Keep.wr (Keep.refl h0 [x0]) W4 k0
  have F4 := Fld.same W4 r21
  refine t_aN X4 u d59_49 rfl rfl ?_
  refine t_gF X4 u hZ hown (wd hw 23 rfl) e4 F4 d59_50 ?_
  intro T5 X5 e5
  refine t_gS X5 u hZ hown (wd hw 13 rfl) e5 (Sta.ext O4_ GG.G_nn) d59_53 ?_
  intro T6 X6 e6
  refine pt_cV [] [(.int w8)] 1 X6 u hZ hown (wd hw 16 rfl) (m_46 hw) e6 (Exa.ext O4_ GG.G_nne) (rm_a3_1 l Z a0 hw [] G GG  h4 O4_ ) rfl d59_56 rfl rfl (by decide) N4_ ?_
  intro T7 L7 X7 e7 N7_
  refine t_icY 59 70 X7 u rfl d59_59 (feq r16).2 (by decide) ?_
  refine t_aN X7 u d59_70 rfl rfl ?_
  refine t_gF X7 u hZ hown (wd hw 46 rfl) e7 (fS W4 r7 (sn_33 hw)) d59_71 ?_
  intro T8 X8 e8
  refine t_aN X8 u d59_74 rfl rfl ?_
  refine t_aN X8 u d59_75 rfl rfl ?_
  refine t_gF X8 u hZ hown (wd hw 48 rfl) e8 (fS W4 r23 (sn_31 hw)) d59_76 ?_
  intro T9 X9 e9
  refine t_cV [(.ref x1), (.long w11)] [] 0 X9 u hZ hown (wd hw 433 rfl) (m_59 hw) e9 (Exa.wr W4 r8) (rm_div l Z a0 hw [] G GG w4 x1 w11 w8 w9 h4 O4_ (LS.wr W4 r0 (by decide) r24) (Exa.wr W4 r14) (fL W4 r15 r25) (fL W4 r19 r25)) rfl d59_79 rfl rfl (by decide) ?_
  intro v10 T10 L10 Lc10 X10 hQ10 l10
  obtain ⟨d10, rfl, Nq10, Kq10⟩ := hQ10
  have O10_ := extKeep O4_ Kq10 all0
  have K10 := Keep.trans K4 Kq10 all0
  have N10_ := frA l10 N7_ Nq10
  refine Go.step (fun _ kt_ => XS.lstoreN X10.here hx rfl (hb hby d59_82) rfl (l' := #[.val (.ref x0), .val (.ref x1), .val (.int w7), .val (.long d10), .second]) rfl kt_) ?_
  show Go _ _ _ _ _ _ _ _ T10 (mkF m 83 #[.val (.ref x0), .val (.ref x1), .val (.int w7), .val (.long d10), .second] [])
  have cont102 : ∀ (Tc16 : State) (Lc16 : List Loc) (hc16 : Heap) (Xc16 : Stand p l e ({ frames := 10, cells := 10, slots := 43, locals := 136 } : Room) s m #[(.ref x0), (.ref x1)] below meth c Tc16 Lc16 1 4) (ec16 : Tc16.heap = hc16) (Oc16 : Ext Z.heap hc16) (Nc16 : Fr Z.heap.size Lc16) (Kc16 : Keep h0 hc16 [x0]) (wc16_1 : Int64) (wc16_2 : Int32) (rc16_0 : fl_11 Z hc16 x0 (.int w8)) (rc16_1 : w8 = w7) (rc16_2 : ex_6 Z hc16 x0) (rc16_3 : fl_13 Z hc16 x0 (.int w1)) (rc16_4 : Z.heap.size ≤ x0) (rc16_5 : fl_14 Z hc16 x0 (.int w2)) (rc16_6 : fl_8 Z hc16 x0 (.ref w4)) (rc16_7 : fl_9 Z hc16 x0 (.long wc16_1)) (rc16_8 : LS Z hc16 G.el G.eo w4) (rc16_9 : ex_3 Z hc16 w4) (rc16_10 : fl_12 Z hc16 x0 (.int w3)) (rc16_11 : fl_10 Z hc16 x0 (.int wc16_2)) (rc16_12 : fl_7 Z hc16 x0 (.int w13)), Go FrameEnd p e below s (({ frames := 10, cells := 10, slots := 43, locals := 136 } : Room)).cells (({ frames := 10, cells := 10, slots := 43, locals := 136 } : Room)).slots (Q_a59_6 Z G x0 w3 w8 w13 h0) Tc16 (mkF m 102 #[.val (.ref x0), .val (.ref x1), .val (.int w7), .val (.long d10), .second] []) := by
    intro Tc16 Lc16 hc16 Xc16 ec16 Oc16 Nc16 Kc16 wc16_1 wc16_2 rc16_0 rc16_1 rc16_2 rc16_3 rc16_4 rc16_5 rc16_6 rc16_7 rc16_8 rc16_9 rc16_10 rc16_11 rc16_12
    refine t_aN Xc16 u d59_102 rfl rfl ?_
    refine t_aN Xc16 u d59_103 rfl rfl ?_
    refine t_gF Xc16 u hZ hown (wd hw 23 rfl) ec16 rc16_0 d59_104 ?_
    intro T17 X17 e17
    refine t_iN X17 u d59_107 rfl ?_
    refine t_icN X17 u d59_108 (teq rc16_1).2 ?_
    refine t_iC X17 u d59_111  ?_
    refine t_go 112 116 X17 u rfl d59_112 (by decide) ?_
    refine t_pN X17 u hZ hown (wd hw 50 rfl) e17 rc16_3 rc16_2 (Or.inl (wd hw 51 rfl)) (wd hw 5 rfl) (.int (1 : Int32)) pf_Z rfl rfl d59_116 ?_
    intro T18 h18 X18 e18 W18
    have N18_ := Fr.snoc X18 Nc16 rc16_4
    have O18_ := extWr Oc16 W18 rc16_4
    have K18 := Keep.wr Kc16 W18 k0
    have F18 := Fld.same W18 rc16_3
    refine t_aN X18 u d59_119 rfl rfl ?_
    refine t_aN X18 u d59_120 rfl rfl ?_
    refine t_gF X18 u hZ hown (wd hw 50 rfl) e18 F18 d59_121 ?_
    intro T19 X19 e19
    refine t_ifY 124 141 X19 u rfl d59_124 ((if0 _ _).trans (feq (by decide : ¬ ((1 : Int32) = (0 : Int32)))).2) (by decide) ?_
    refine t_iC X19 u d59_141  ?_
    refine t_pN X19 u hZ hown (wd hw 388 rfl) e19 (fR W18 rc16_5 (sn_40 hw)) (Exa.wr W18 rc16_2) (Or.inl (wd hw 389 rfl)) (wd hw 5 rfl) (.int (0 : Int32)) pf_Z rfl rfl d59_142 ?_
    intro T20 h20 X20 e20 W20
    have N20_ := Fr.snoc X20 N18_ rc16_4
    have O20_ := extWr O18_ W20 rc16_4
    have K20 := Keep.wr K18 W20 k0
    have F20 := Fld.same W20 (fR W18 rc16_5 (sn_40 hw))
    refine t_aN X20 u d59_145 rfl rfl ?_
    refine t_aN X20 u d59_146 rfl rfl ?_
    have f21 := (fS W20 (fS W18 rc16_6 (sn_24 hw)) (sn_38 hw))
    refine t_gF X20 u hZ hown (wd hw 46 rfl) e20 f21 d59_147 ?_
    intro T22 X22 e22
    refine t_aN X22 u d59_150 rfl rfl ?_
    have f23 := (fS W20 (fS W18 rc16_7 (sn_22 hw)) (sn_36 hw))
    refine t_gF X22 u hZ hown (wd hw 48 rfl) e22 f23 d59_151 ?_
    intro T24 X24 e24
    have f25 := (LS.wr W20 (Exa.wr W18 rc16_2) (by decide) (LS.wr W18 rc16_2 (by decide) rc16_8))
    refine t_cV [(.long wc16_1)] [(.ref x0)] 1 X24 u hZ hown (wd hw 489 rfl) (m_51 hw) e24 (Exa.wr W20 (Exa.wr W18 rc16_9)) (rm_wef l Z a0 hw [] G GG w4 wc16_1 h20 O20_ f25) rfl d59_154 rfl rfl (by decide) ?_
    intro v26 T26 L26 Lc26 X26 hQ26 l26
    obtain ⟨r26, rfl, Nq26, Kq26, sz26, hL26⟩ := hQ26
    have O26_ := extKeep O20_ Kq26 all0
    have K26 := Keep.trans K20 Kq26 all0
    have N26_ := frA l26 N20_ Nq26
    have g_r26 : Z.heap.size ≤ r26 := Nat.le_trans O20_.1 sz26
    have sz_r26 : h0.size ≤ r26 := Nat.le_trans K20.1 sz26
    have f27 := ((Exa.wr W20 (Exa.wr W18 rc16_2)).keep Kq26)
    refine t_pF X26 u hZ hown (wd hw 46 rfl) rfl (f21.keep Kq26 nin0) f27 (Or.inl (wd hw 47 rfl)) (wd hw 5 rfl) pf_Lcom_example_clean_epoch_cleanepoch_log_Lineage_ rfl rfl d59_157 ?_
    intro T28 h28 X28 e28 W28
    have N28_ := Fr.snoc X28 N26_ rc16_4
    have O28_ := extWr O26_ W28 rc16_4
    have K28 := Keep.wr K26 W28 k0
    have F28 := Fld.same W28 (f21.keep Kq26 nin0)
    have f29 := (fS W28 ((fS W20 (fS W18 rc16_11 (sn_23 hw)) (sn_37 hw)).keep Kq26 nin0) (sn_18 hw))
    have f30 := (fR W28 ((fS W20 F18 (sn_40 hw)).keep Kq26 nin0) (sn_24 hw))
    have f31 := (fR W28 ((fR W20 (fR W18 rc16_12 (sn_30 hw)) (sn_44 hw)).keep Kq26 nin0) (sn_28 hw))
    have f32 := (fR W28 ((fS W20 (fS W18 rc16_10 (sn_25 hw)) (sn_39 hw)).keep Kq26 nin0) (sn_21 hw))
    have f33 := (fR W28 ((fS W20 (fR W18 rc16_0 (sn_35 hw)) (sn_42 hw)).keep Kq26 nin0) (sn_33 hw))
    exact Go.retV X28 hx hret hlk (hb hby d59_160) (by decide) (by decide) (by show Q_a59_6 ..; rw [e28]; exact ⟨wc16_2, wc16_1, r26, rfl, N28_, K28, (fR W28 (F20.keep Kq26 nin0) (sn_38 hw)), f29, f30, f31, f32, F28, f33, (fS W28 (f23.keep Kq26 nin0) (sn_17 hw)), sz_r26, (LS.wr W28 f27 (by decide) hL26)⟩)
  refine t_lN X10 u d59_83 rfl ?_
  refine t_aN X10 u d59_84 rfl rfl ?_
  refine t_gF X10 u hZ hown (wd hw 48 rfl) rfl ((fS W4 r23 (sn_31 hw)).keep Kq10 nin0) d59_85 ?_
  intro T11 X11 e11
  refine Go.step (fun _ kt_ => XS.lcmp X11.here hx rfl (hb hby d59_88) rfl kt_) ?_
  by_cases hc89_12 : (lcmpW d10 w11) < (0 : Int32)
  · refine t_ifN X11 u d59_89 ((if0 _ _).trans (tlt hc89_12).2.1) ?_
    refine t_aN X11 u d59_92 rfl rfl ?_
    refine t_lN X11 u d59_93 rfl ?_
    refine t_pF X11 u hZ hown (wd hw 48 rfl) e11 ((fS W4 r23 (sn_31 hw)).keep Kq10 nin0) ((Exa.wr W4 r0).keep Kq10) (Or.inl (wd hw 49 rfl)) (wd hw 5 rfl) pf_J rfl rfl d59_94 ?_
    intro T13 h13 X13 e13 W13
    have N13_ := Fr.snoc X13 N10_ r22
    have O13_ := extWr O10_ W13 r22
    have K13 := Keep.wr K10 W13 k0
    have F13 := Fld.same W13 ((fS W4 r23 (sn_31 hw)).keep Kq10 nin0)
    refine t_aN X13 u d59_97 rfl rfl ?_
    refine t_iC X13 u d59_98  ?_
    have f14 := (fR W13 ((fS W4 r26 (sn_32 hw)).keep Kq10 nin0) (sn_16 hw))
    refine t_pN X13 u hZ hown (wd hw 503 rfl) e13 f14 (Exa.wr W13 ((Exa.wr W4 r0).keep Kq10)) (Or.inl (wd hw 504 rfl)) (wd hw 5 rfl) (.int (1 : Int32)) pf_Z rfl rfl d59_99 ?_
    intro T15 h15 X15 e15 W15
    have N15_ := Fr.snoc X15 N13_ r22
    have O15_ := extWr O13_ W15 r22
    have K15 := Keep.wr K13 W15 k0
    have F15 := Fld.same W15 f14
    show Go _ _ _ _ _ _ _ _ T15 (mkF m 102 #[.val (.ref x0), .val (.ref x1), .val (.int w7), .val (.long d10), .second] [])
    have f17 := (Exa.wr W15 (Exa.wr W13 ((Exa.wr W4 r0).keep Kq10)))
    have f18 := (fR W15 (fR W13 (F4.keep Kq10 nin0) (sn_31 hw)) (sn_32 hw))
    have f19 := (fR W15 (fR W13 ((fS W4 r1 (sn_35 hw)).keep Kq10 nin0) (sn_22 hw)) (sn_23 hw))
    have f20 := (fR W15 (fR W13 ((fR W4 r3 (sn_42 hw)).keep Kq10 nin0) (sn_36 hw)) (sn_37 hw))
    have f21 := (fR W15 (fR W13 ((fS W4 r7 (sn_33 hw)).keep Kq10 nin0) (sn_17 hw)) (sn_18 hw))
    have f22 := (LS.wr W15 (Exa.wr W13 ((Exa.wr W4 r0).keep Kq10)) (by decide) (LS.wr W13 ((Exa.wr W4 r0).keep Kq10) (by decide) (LS.keep Kq10 ls0 (LS.wr W4 r0 (by decide) r24))))
    have f23 := (Exa.wr W15 (Exa.wr W13 ((Exa.wr W4 r8).keep Kq10)))
    have f24 := (fR W15 (fR W13 ((fS W4 r5 (sn_34 hw)).keep Kq10 nin0) (sn_19 hw)) (sn_20 hw))
    have f25 := (fR W15 (fR W13 ((fR W4 r28 (sn_43 hw)).keep Kq10 nin0) (sn_26 hw)) (sn_27 hw))
    have f26 := (Exa.wr W15 (Exa.wr W13 ((Exa.wr W4 r0).keep Kq10)))
    have f27 := (fR W15 (fR W13 (F4.keep Kq10 nin0) (sn_31 hw)) (sn_32 hw))
    have f28 := (fR W15 (fR W13 ((fS W4 r1 (sn_35 hw)).keep Kq10 nin0) (sn_22 hw)) (sn_23 hw))
    have f29 := (fR W15 (fR W13 ((fR W4 r3 (sn_42 hw)).keep Kq10 nin0) (sn_36 hw)) (sn_37 hw))
    have f30 := (fR W15 (fR W13 ((fS W4 r7 (sn_33 hw)).keep Kq10 nin0) (sn_17 hw)) (sn_18 hw))
    have f31 := (LS.wr W15 (Exa.wr W13 ((Exa.wr W4 r0).keep Kq10)) (by decide) (LS.wr W13 ((Exa.wr W4 r0).keep Kq10) (by decide) (LS.keep Kq10 ls0 (LS.wr W4 r0 (by decide) r24))))
    have f32 := (Exa.wr W15 (Exa.wr W13 ((Exa.wr W4 r8).keep Kq10)))
    have f33 := (fR W15 (fR W13 ((fS W4 r5 (sn_34 hw)).keep Kq10 nin0) (sn_19 hw)) (sn_20 hw))
    have f34 := (fR W15 (fR W13 ((fR W4 r28 (sn_43 hw)).keep Kq10 nin0) (sn_26 hw)) (sn_27 hw))
    exact cont102 T15 _ _ (X15.more (by decide) (by decide)) e15 O15_ N15_ K15  d10 (1 : Int32) f27 r27 f26 f28 r22 f29 f30 (fS W15 F13 (sn_16 hw)) f31 f32 f33 F15 f34
  · refine t_ifY 89 102 X11 u rfl d59_89 ((if0 _ _).trans (flt hc89_12).2.1) (by decide) ?_
    show Go _ _ _ _ _ _ _ _ T11 (mkF m 102 #[.val (.ref x0), .val (.ref x1), .val (.int w7), .val (.long d10), .second] [])
    have f35 := (LS.keep Kq10 ls0 (LS.wr W4 r0 (by decide) r24))
    exact cont102 T11 _ _ (X11.more (by decide) (by decide)) e11 O10_ N10_ K10  w11 w12 (F4.keep Kq10 nin0) r27 ((Exa.wr W4 r0).keep Kq10) ((fS W4 r1 (sn_35 hw)).keep Kq10 nin0) r22 ((fR W4 r3 (sn_42 hw)).keep Kq10 nin0) ((fS W4 r7 (sn_33 hw)).keep Kq10 nin0) ((fS W4 r23 (sn_31 hw)).keep Kq10 nin0) f35 ((Exa.wr W4 r8).keep Kq10) ((fS W4 r5 (sn_34 hw)).keep Kq10 nin0) ((fS W4 r26 (sn_32 hw)).keep Kq10 nin0) ((fR W4 r28 (sn_43 hw)).keep Kq10 nin0)
def Q_a59_7 (Z : State) (G : GT) (x0 : Addr) (w3 w8 w13 : Int32) (h0 : Heap) (v : Option Value) (h : Heap) (L : List Loc) : Prop := ∃ (z_x0_diverged : Int32) (z_x0_reached : Int64) (ex0 : Addr), v = none ∧ Fr Z.heap.size L ∧ Keep h0 h [x0] ∧ fl_14 Z h x0 (.int (0 : Int32)) ∧ fl_10 Z h x0 (.int z_x0_diverged) ∧ fl_13 Z h x0 (.int (0 : Int32)) ∧ fl_7 Z h x0 (.int w13) ∧ fl_12 Z h x0 (.int w3) ∧ fl_8 Z h x0 (.ref ex0) ∧ fl_11 Z h x0 (.int w8) ∧ fl_9 Z h x0 (.long z_x0_reached) ∧ h0.size ≤ ex0 ∧ LS Z h G.el G.eo ex0
theorem rm_a59_7 (x0 x1 : Addr) (w1 w2 w3 : Int32) (w4 w5 w6 : Addr) (w7 w8 : Int32) (w9 : Int64) (w10 : Int32) (w11 : Int64) (w12 w13 : Int32) (h0 : Heap) (O0 : Ext Z.heap h0) (r0 : ex_6 Z h0 x0) (r1 : fl_13 Z h0 x0 (.int w1)) (r2 : w1 = (0 : Int32)) (r3 : fl_14 Z h0 x0 (.int w2)) (r4 : w2 = (0 : Int32)) (r5 : fl_12 Z h0 x0 (.int w3)) (r6 : w3 = (0 : Int32)) (r7 : fl_8 Z h0 x0 (.ref w4)) (r8 : ex_3 Z h0 w4) (r9 : fl_2 Z h0 w4 (.ref w5)) (r10 : ex_4 Z h0 w5) (r11 : fl_4 Z h0 w5 (.ref w6)) (r12 : ex_5 Z h0 w6) (r13 : fl_5 Z h0 w6 (.int w7)) (r14 : ex_2 Z h0 x1) (r15 : fl_1 Z h0 x1 (.int w8)) (r16 : ¬ (w8 = (-1 : Int32))) (r17 : ¬ (w8 < (0 : Int32))) (r18 : ¬ (w7 < w8)) (r19 : fl_26 Z h0 x1 (.long w9)) (r20 : ¬ ((lcmpW w9 (0 : Int64)) < (0 : Int32))) (r21 : fl_11 Z h0 x0 (.int w10)) (r22 : Z.heap.size ≤ x0) (r23 : fl_9 Z h0 x0 (.long w11)) (r24 : LS Z h0 G.el G.eo w4) (r25 : x1 ≠ x0) (r26 : fl_10 Z h0 x0 (.int w12)) (r27 : ¬ (w8 = w7)) (r28 : w4 ≠ x0) (r29 : fl_7 Z h0 x0 (.int w13)) :
    MF hw GG l y_59 prog_15_method_5_code 5 none ws ⟨10, 10, 43, 136⟩ h0 #[(.ref x0), (.ref x1)] (Q_a59_7 Z G x0 w3 w8 w13 h0) := by
  refine own_mF #[.val (.ref x0), .val (.ref x1), .unset, .unset, .unset] (plainFor_of_name pn_59) (fun _ => rfl) ?_
  intro p e s m below meth c s₁ u hlk hret hZ hown hnm X0 e0 N0
  obtain ⟨hx, hby, hml⟩ := id u
  refine t_aN X0 u d59_0 rfl rfl ?_
  refine pt_cV [] [] 0 X0 u hZ hown (wd hw 426 rfl) (m_56 hw) e0 r0 (rm_a55_2 l Z a0 hw [] G GG x0 w1 w2 w3 w4 w5 w6 w7 h0 O0 r0 r1 r2 r3 r4 r5 r6 r7 r8 r9 r10 r11 r12 r13) rfl d59_1 rfl rfl (by decide) N0 ?_
  intro T1 L1 X1 e1 N1_
  refine t_isN X1 u d59_4 (l' := #[.val (.ref x0), .val (.ref x1), .val (.int w7), .unset, .unset]) rfl ?_
  refine t_aN X1 u d59_5 rfl rfl ?_
  refine t_iN X1 u d59_6 rfl ?_
  refine pt_cV [(.int w7)] [] 0 X1 u hZ hown (wd hw 427 rfl) (m_58 hw) e1 r14 (rm_a60_0 l Z a0 hw [] G GG x1 w7 w8 w9 h0 O0 r15 r16 r17 r18 r19 r20) rfl d59_7 rfl rfl (by decide) N1_ ?_
  intro T2 L2 X2 e2 N2_
  refine t_ifY 10 41 X2 u rfl d59_10 ((if0 _ _).trans (feq (by decide : ¬ ((1 : Int32) = (0 : Int32)))).2) (by decide) ?_
  refine t_aN X2 u d59_41 rfl rfl ?_
  refine t_aN X2 u d59_42 rfl rfl ?_
  refine pt_cV [] [(.ref x0)] 1 X2 u hZ hown (wd hw 16 rfl) (m_46 hw) e2 r14 (rm_a3_0 l Z a0 hw [] G GG x1 w8 h0 O0 r15) rfl d59_43 rfl rfl (by decide) N2_ ?_
  intro T3 L3 X3 e3 N3_
  refine t_pF X3 u hZ hown (wd hw 23 rfl) e3 r21 r0 (Or.inl (wd hw 24 rfl)) (wd hw 5 rfl) pf_I rfl rfl d59_46 ?_
  intro T4 h4 X4 e4 W4
  have N4_ := Fr.snoc X4 N3_ r22
  have O4_ := extWr O0 W4 r22
  have K4 := Keep.wr (Keep.refl h0 [x0]) W4 k0
  have F4 := Fld.same W4 r21
  refine t_aN X4 u d59_49 rfl rfl ?_
  refine t_gF X4 u hZ hown (wd hw 23 rfl) e4 F4 d59_50 ?_
  intro T5 X5 e5
  refine t_gS X5 u hZ hown (wd hw 13 rfl) e5 (Sta.ext O4_ GG.G_nn) d59_53 ?_
  intro T6 X6 e6
  refine pt_cV [] [(.int w8)] 1 X6 u hZ hown (wd hw 16 rfl) (m_46 hw) e6 (Exa.ext O4_ GG.G_nne) (rm_a3_1 l Z a0 hw [] G GG  h4 O4_ ) rfl d59_56 rfl rfl (by decide) N4_ ?_
  intro T7 L7 X7 e7 N7_
  refine t_icY 59 70 X7 u rfl d59_59 (feq r16).2 (by decide) ?_
  refine t_aN X7 u d59_70 rfl rfl ?_
  refine t_gF X7 u hZ hown (wd hw 46 rfl) e7 (fS W4 r7 (sn_33 hw)) d59_71 ?_
  intro T8 X8 e8
  refine t_aN X8 u d59_74 rfl rfl ?_
  refine t_aN X8 u d59_75 rfl rfl ?_
  refine t_gF X8 u hZ hown (wd hw 48 rfl) e8 (fS W4 r23 (sn_31 hw)) d59_76 ?_
  intro T9 X9 e9
  refine t_cV [(.ref x1), (.long w11)] [] 0 X9 u hZ hown (wd hw 433 rfl) (m_59 hw) e9 (Exa.wr W4 r8) (rm_div l Z a0 hw [] G GG w4 x1 w11 w8 w9 h4 O4_ (LS.wr W4 r0 (by decide) r24) (Exa.wr W4 r14) (fL W4 r15 r25) (fL W4 r19 r25)) rfl d59_79 rfl rfl (by decide) ?_
  intro v10 T10 L10 Lc10 X10 hQ10 l10
  obtain ⟨d10, rfl, Nq10, Kq10⟩ := hQ10
  have O10_ := extKeep O4_ Kq10 all0
  have K10 := Keep.trans K4 Kq10 all0
  have N10_ := frA l10 N7_ Nq10
  refine Go.step (fun _ kt_ => XS.lstoreN X10.here hx rfl (hb hby d59_82) rfl (l' := #[.val (.ref x0), .val (.ref x1), .val (.int w7), .val (.long d10), .second]) rfl kt_) ?_
  show Go _ _ _ _ _ _ _ _ T10 (mkF m 83 #[.val (.ref x0), .val (.ref x1), .val (.int w7), .val (.long d10), .second] [])
  have cont102 : ∀ (Tc16 : State) (Lc16 : List Loc) (hc16 : Heap) (Xc16 : Stand p l e ({ frames := 10, cells := 10, slots := 43, locals := 136 } : Room) s m #[(.ref x0), (.ref x1)] below meth c Tc16 Lc16 1 4) (ec16 : Tc16.heap = hc16) (Oc16 : Ext Z.heap hc16) (Nc16 : Fr Z.heap.size Lc16) (Kc16 : Keep h0 hc16 [x0]) (wc16_1 : Int64) (wc16_2 : Int32) (rc16_0 : fl_11 Z hc16 x0 (.int w8)) (rc16_1 : ¬ (w8 = w7)) (rc16_2 : ex_6 Z hc16 x0) (rc16_3 : fl_13 Z hc16 x0 (.int w1)) (rc16_4 : Z.heap.size ≤ x0) (rc16_5 : fl_8 Z hc16 x0 (.ref w4)) (rc16_6 : ex_3 Z hc16 w4) (rc16_7 : fl_2 Z hc16 w4 (.ref w5)) (rc16_8 : w4 ≠ x0) (rc16_9 : ex_4 Z hc16 w5) (rc16_10 : fl_14 Z hc16 x0 (.int w2)) (rc16_11 : fl_9 Z hc16 x0 (.long wc16_1)) (rc16_12 : LS Z hc16 G.el G.eo w4) (rc16_13 : fl_12 Z hc16 x0 (.int w3)) (rc16_14 : fl_10 Z hc16 x0 (.int wc16_2)) (rc16_15 : fl_7 Z hc16 x0 (.int w13)), Go FrameEnd p e below s (({ frames := 10, cells := 10, slots := 43, locals := 136 } : Room)).cells (({ frames := 10, cells := 10, slots := 43, locals := 136 } : Room)).slots (Q_a59_7 Z G x0 w3 w8 w13 h0) Tc16 (mkF m 102 #[.val (.ref x0), .val (.ref x1), .val (.int w7), .val (.long d10), .second] []) := by
    intro Tc16 Lc16 hc16 Xc16 ec16 Oc16 Nc16 Kc16 wc16_1 wc16_2 rc16_0 rc16_1 rc16_2 rc16_3 rc16_4 rc16_5 rc16_6 rc16_7 rc16_8 rc16_9 rc16_10 rc16_11 rc16_12 rc16_13 rc16_14 rc16_15
    refine t_aN Xc16 u d59_102 rfl rfl ?_
    refine t_aN Xc16 u d59_103 rfl rfl ?_
    refine t_gF Xc16 u hZ hown (wd hw 23 rfl) ec16 rc16_0 d59_104 ?_
    intro T17 X17 e17
    refine t_iN X17 u d59_107 rfl ?_
    refine t_icY 108 115 X17 u rfl d59_108 (feq rc16_1).2 (by decide) ?_
    refine t_iC X17 u d59_115  ?_
    refine t_pN X17 u hZ hown (wd hw 50 rfl) e17 rc16_3 rc16_2 (Or.inl (wd hw 51 rfl)) (wd hw 5 rfl) (.int (0 : Int32)) pf_Z rfl rfl d59_116 ?_
    intro T18 h18 X18 e18 W18
    have N18_ := Fr.snoc X18 Nc16 rc16_4
    have O18_ := extWr Oc16 W18 rc16_4
    have K18 := Keep.wr Kc16 W18 k0
    have F18 := Fld.same W18 rc16_3
    refine t_aN X18 u d59_119 rfl rfl ?_
    refine t_aN X18 u d59_120 rfl rfl ?_
    refine t_gF X18 u hZ hown (wd hw 50 rfl) e18 F18 d59_121 ?_
    intro T19 X19 e19
    refine t_ifN X19 u d59_124 ((if0 _ _).trans (teq (by decide : (0 : Int32) = (0 : Int32))).2) ?_
    refine t_aN X19 u d59_127 rfl rfl ?_
    refine t_gF X19 u hZ hown (wd hw 46 rfl) e19 (fS W18 rc16_5 (sn_24 hw)) d59_128 ?_
    intro T20 X20 e20
    refine pt_cV [] [(.ref x0)] 1 X20 u hZ hown (wd hw 25 rfl) (m_55 hw) e20 (Exa.wr W18 rc16_6) (rm_a4_1 l Z a0 hw [] G GG w4 w5 h18 O18_ (fL W18 rc16_7 rc16_8) (Exa.wr W18 rc16_9)) rfl d59_131 rfl rfl (by decide) N18_ ?_
    intro T21 L21 X21 e21 N21_
    refine t_ifY 134 141 X21 u rfl d59_134 ((if0 _ _).trans (teq (by decide : (0 : Int32) = (0 : Int32))).1) (by decide) ?_
    refine t_iC X21 u d59_141  ?_
    refine t_pN X21 u hZ hown (wd hw 388 rfl) e21 (fR W18 rc16_10 (sn_40 hw)) (Exa.wr W18 rc16_2) (Or.inl (wd hw 389 rfl)) (wd hw 5 rfl) (.int (0 : Int32)) pf_Z rfl rfl d59_142 ?_
    intro T22 h22 X22 e22 W22
    have N22_ := Fr.snoc X22 N21_ rc16_4
    have O22_ := extWr O18_ W22 rc16_4
    have K22 := Keep.wr K18 W22 k0
    have F22 := Fld.same W22 (fR W18 rc16_10 (sn_40 hw))
    refine t_aN X22 u d59_145 rfl rfl ?_
    refine t_aN X22 u d59_146 rfl rfl ?_
    have f23 := (fS W22 (fS W18 rc16_5 (sn_24 hw)) (sn_38 hw))
    refine t_gF X22 u hZ hown (wd hw 46 rfl) e22 f23 d59_147 ?_
    intro T24 X24 e24
    refine t_aN X24 u d59_150 rfl rfl ?_
    have f25 := (fS W22 (fS W18 rc16_11 (sn_22 hw)) (sn_36 hw))
    refine t_gF X24 u hZ hown (wd hw 48 rfl) e24 f25 d59_151 ?_
    intro T26 X26 e26
    have f27 := (LS.wr W22 (Exa.wr W18 rc16_2) (by decide) (LS.wr W18 rc16_2 (by decide) rc16_12))
    refine t_cV [(.long wc16_1)] [(.ref x0)] 1 X26 u hZ hown (wd hw 489 rfl) (m_51 hw) e26 (Exa.wr W22 (Exa.wr W18 rc16_6)) (rm_wef l Z a0 hw [] G GG w4 wc16_1 h22 O22_ f27) rfl d59_154 rfl rfl (by decide) ?_
    intro v28 T28 L28 Lc28 X28 hQ28 l28
    obtain ⟨r28, rfl, Nq28, Kq28, sz28, hL28⟩ := hQ28
    have O28_ := extKeep O22_ Kq28 all0
    have K28 := Keep.trans K22 Kq28 all0
    have N28_ := frA l28 N22_ Nq28
    have g_r28 : Z.heap.size ≤ r28 := Nat.le_trans O22_.1 sz28
    have sz_r28 : h0.size ≤ r28 := Nat.le_trans K22.1 sz28
    have f29 := ((Exa.wr W22 (Exa.wr W18 rc16_2)).keep Kq28)
    refine t_pF X28 u hZ hown (wd hw 46 rfl) rfl (f23.keep Kq28 nin0) f29 (Or.inl (wd hw 47 rfl)) (wd hw 5 rfl) pf_Lcom_example_clean_epoch_cleanepoch_log_Lineage_ rfl rfl d59_157 ?_
    intro T30 h30 X30 e30 W30
    have N30_ := Fr.snoc X30 N28_ rc16_4
    have O30_ := extWr O28_ W30 rc16_4
    have K30 := Keep.wr K28 W30 k0
    have F30 := Fld.same W30 (f23.keep Kq28 nin0)
    have f31 := (fS W30 ((fS W22 (fS W18 rc16_14 (sn_23 hw)) (sn_37 hw)).keep Kq28 nin0) (sn_18 hw))
    have f32 := (fR W30 ((fS W22 F18 (sn_40 hw)).keep Kq28 nin0) (sn_24 hw))
    have f33 := (fR W30 ((fR W22 (fR W18 rc16_15 (sn_30 hw)) (sn_44 hw)).keep Kq28 nin0) (sn_28 hw))
    have f34 := (fR W30 ((fS W22 (fS W18 rc16_13 (sn_25 hw)) (sn_39 hw)).keep Kq28 nin0) (sn_21 hw))
    have f35 := (fR W30 ((fS W22 (fR W18 rc16_0 (sn_35 hw)) (sn_42 hw)).keep Kq28 nin0) (sn_33 hw))
    exact Go.retV X30 hx hret hlk (hb hby d59_160) (by decide) (by decide) (by show Q_a59_7 ..; rw [e30]; exact ⟨wc16_2, wc16_1, r28, rfl, N30_, K30, (fR W30 (F22.keep Kq28 nin0) (sn_38 hw)), f31, f32, f33, f34, F30, f35, (fS W30 (f25.keep Kq28 nin0) (sn_17 hw)), sz_r28, (LS.wr W30 f29 (by decide) hL28)⟩)
  refine t_lN X10 u d59_83 rfl ?_
  refine t_aN X10 u d59_84 rfl rfl ?_
  refine t_gF X10 u hZ hown (wd hw 48 rfl) rfl ((fS W4 r23 (sn_31 hw)).keep Kq10 nin0) d59_85 ?_
  intro T11 X11 e11
  refine Go.step (fun _ kt_ => XS.lcmp X11.here hx rfl (hb hby d59_88) rfl kt_) ?_
  by_cases hc89_12 : (lcmpW d10 w11) < (0 : Int32)
  · refine t_ifN X11 u d59_89 ((if0 _ _).trans (tlt hc89_12).2.1) ?_
    refine t_aN X11 u d59_92 rfl rfl ?_
    refine t_lN X11 u d59_93 rfl ?_
    refine t_pF X11 u hZ hown (wd hw 48 rfl) e11 ((fS W4 r23 (sn_31 hw)).keep Kq10 nin0) ((Exa.wr W4 r0).keep Kq10) (Or.inl (wd hw 49 rfl)) (wd hw 5 rfl) pf_J rfl rfl d59_94 ?_
    intro T13 h13 X13 e13 W13
    have N13_ := Fr.snoc X13 N10_ r22
    have O13_ := extWr O10_ W13 r22
    have K13 := Keep.wr K10 W13 k0
    have F13 := Fld.same W13 ((fS W4 r23 (sn_31 hw)).keep Kq10 nin0)
    refine t_aN X13 u d59_97 rfl rfl ?_
    refine t_iC X13 u d59_98  ?_
    have f14 := (fR W13 ((fS W4 r26 (sn_32 hw)).keep Kq10 nin0) (sn_16 hw))
    refine t_pN X13 u hZ hown (wd hw 503 rfl) e13 f14 (Exa.wr W13 ((Exa.wr W4 r0).keep Kq10)) (Or.inl (wd hw 504 rfl)) (wd hw 5 rfl) (.int (1 : Int32)) pf_Z rfl rfl d59_99 ?_
    intro T15 h15 X15 e15 W15
    have N15_ := Fr.snoc X15 N13_ r22
    have O15_ := extWr O13_ W15 r22
    have K15 := Keep.wr K13 W15 k0
    have F15 := Fld.same W15 f14
    show Go _ _ _ _ _ _ _ _ T15 (mkF m 102 #[.val (.ref x0), .val (.ref x1), .val (.int w7), .val (.long d10), .second] [])
    have f17 := (Exa.wr W15 (Exa.wr W13 ((Exa.wr W4 r0).keep Kq10)))
    have f18 := (fR W15 (fR W13 (F4.keep Kq10 nin0) (sn_31 hw)) (sn_32 hw))
    have f19 := (fR W15 (fR W13 ((fS W4 r1 (sn_35 hw)).keep Kq10 nin0) (sn_22 hw)) (sn_23 hw))
    have f20 := (fR W15 (fR W13 ((fS W4 r7 (sn_33 hw)).keep Kq10 nin0) (sn_17 hw)) (sn_18 hw))
    have f21 := (Exa.wr W15 (Exa.wr W13 ((Exa.wr W4 r8).keep Kq10)))
    have f22 := (fL W15 (fL W13 ((fL W4 r9 r28).keep Kq10 nin0) r28) r28)
    have f23 := (Exa.wr W15 (Exa.wr W13 ((Exa.wr W4 r10).keep Kq10)))
    have f24 := (fR W15 (fR W13 ((fR W4 r3 (sn_42 hw)).keep Kq10 nin0) (sn_36 hw)) (sn_37 hw))
    have f25 := (LS.wr W15 (Exa.wr W13 ((Exa.wr W4 r0).keep Kq10)) (by decide) (LS.wr W13 ((Exa.wr W4 r0).keep Kq10) (by decide) (LS.keep Kq10 ls0 (LS.wr W4 r0 (by decide) r24))))
    have f26 := (fR W15 (fR W13 ((fS W4 r5 (sn_34 hw)).keep Kq10 nin0) (sn_19 hw)) (sn_20 hw))
    have f27 := (fR W15 (fR W13 ((fR W4 r29 (sn_43 hw)).keep Kq10 nin0) (sn_26 hw)) (sn_27 hw))
    have f28 := (Exa.wr W15 (Exa.wr W13 ((Exa.wr W4 r0).keep Kq10)))
    have f29 := (fR W15 (fR W13 (F4.keep Kq10 nin0) (sn_31 hw)) (sn_32 hw))
    have f30 := (fR W15 (fR W13 ((fS W4 r1 (sn_35 hw)).keep Kq10 nin0) (sn_22 hw)) (sn_23 hw))
    have f31 := (fR W15 (fR W13 ((fS W4 r7 (sn_33 hw)).keep Kq10 nin0) (sn_17 hw)) (sn_18 hw))
    have f32 := (Exa.wr W15 (Exa.wr W13 ((Exa.wr W4 r8).keep Kq10)))
    have f33 := (fL W15 (fL W13 ((fL W4 r9 r28).keep Kq10 nin0) r28) r28)
    have f34 := (Exa.wr W15 (Exa.wr W13 ((Exa.wr W4 r10).keep Kq10)))
    have f35 := (fR W15 (fR W13 ((fR W4 r3 (sn_42 hw)).keep Kq10 nin0) (sn_36 hw)) (sn_37 hw))
    have f36 := (LS.wr W15 (Exa.wr W13 ((Exa.wr W4 r0).keep Kq10)) (by decide) (LS.wr W13 ((Exa.wr W4 r0).keep Kq10) (by decide) (LS.keep Kq10 ls0 (LS.wr W4 r0 (by decide) r24))))
    have f37 := (fR W15 (fR W13 ((fS W4 r5 (sn_34 hw)).keep Kq10 nin0) (sn_19 hw)) (sn_20 hw))
    have f38 := (fR W15 (fR W13 ((fR W4 r29 (sn_43 hw)).keep Kq10 nin0) (sn_26 hw)) (sn_27 hw))
    exact cont102 T15 _ _ (X15.more (by decide) (by decide)) e15 O15_ N15_ K15  d10 (1 : Int32) f29 r27 f28 f30 r22 f31 f32 f33 r28 f34 f35 (fS W15 F13 (sn_16 hw)) f36 f37 F15 f38
  · refine t_ifY 89 102 X11 u rfl d59_89 ((if0 _ _).trans (flt hc89_12).2.1) (by decide) ?_
    show Go _ _ _ _ _ _ _ _ T11 (mkF m 102 #[.val (.ref x0), .val (.ref x1), .val (.int w7), .val (.long d10), .second] [])
    have f39 := (LS.keep Kq10 ls0 (LS.wr W4 r0 (by decide) r24))
    exact cont102 T11 _ _ (X11.more (by decide) (by decide)) e11 O10_ N10_ K10  w11 w12 (F4.keep Kq10 nin0) r27 ((Exa.wr W4 r0).keep Kq10) ((fS W4 r1 (sn_35 hw)).keep Kq10 nin0) r22 ((fS W4 r7 (sn_33 hw)).keep Kq10 nin0) ((Exa.wr W4 r8).keep Kq10) ((fL W4 r9 r28).keep Kq10 nin0) r28 ((Exa.wr W4 r10).keep Kq10) ((fR W4 r3 (sn_42 hw)).keep Kq10 nin0) ((fS W4 r23 (sn_31 hw)).keep Kq10 nin0) f39 ((fS W4 r5 (sn_34 hw)).keep Kq10 nin0) ((fS W4 r26 (sn_32 hw)).keep Kq10 nin0) ((fR W4 r29 (sn_43 hw)).keep Kq10 nin0)
def Q_a59_8 (Z : State) (x0 : Addr) (w1 w2 : Int32) (w4 : Addr) (w8 w10 : Int32) (h0 : Heap) (v : Option Value) (h : Heap) (L : List Loc) : Prop := ∃ (z_x0_diverged : Int32) (z_x0_reached : Int64), v = none ∧ Fr Z.heap.size L ∧ Keep h0 h [x0] ∧ fl_14 Z h x0 (.int w2) ∧ fl_10 Z h x0 (.int z_x0_diverged) ∧ fl_13 Z h x0 (.int w1) ∧ fl_7 Z h x0 (.int w10) ∧ fl_12 Z h x0 (.int (1 : Int32)) ∧ fl_8 Z h x0 (.ref w4) ∧ fl_11 Z h x0 (.int w8) ∧ fl_9 Z h x0 (.long z_x0_reached)
theorem rm_a59_8 (x0 x1 : Addr) (w1 w2 w3 : Int32) (w4 w5 w6 : Addr) (w7 w8 w9 w10 : Int32) (w11 : Int64) (w12 : Int32) (h0 : Heap) (O0 : Ext Z.heap h0) (r0 : ex_6 Z h0 x0) (r1 : fl_13 Z h0 x0 (.int w1)) (r2 : w1 = (0 : Int32)) (r3 : fl_14 Z h0 x0 (.int w2)) (r4 : w2 = (0 : Int32)) (r5 : fl_12 Z h0 x0 (.int w3)) (r6 : w3 = (0 : Int32)) (r7 : fl_8 Z h0 x0 (.ref w4)) (r8 : ex_3 Z h0 w4) (r9 : fl_2 Z h0 w4 (.ref w5)) (r10 : ex_4 Z h0 w5) (r11 : fl_4 Z h0 w5 (.ref w6)) (r12 : ex_5 Z h0 w6) (r13 : fl_5 Z h0 w6 (.int w7)) (r14 : ex_2 Z h0 x1) (r15 : fl_1 Z h0 x1 (.int w8)) (r16 : w8 = (-1 : Int32)) (r17 : fl_11 Z h0 x0 (.int w9)) (r18 : Z.heap.size ≤ x0) (r19 : fl_7 Z h0 x0 (.int w10)) (r20 : fl_9 Z h0 x0 (.long w11)) (r21 : fl_10 Z h0 x0 (.int w12)) :
    MF hw GG l y_59 prog_15_method_5_code 5 none ws ⟨3, 0, 0, 37⟩ h0 #[(.ref x0), (.ref x1)] (Q_a59_8 Z x0 w1 w2 w4 w8 w10 h0) := by
  refine own_mF #[.val (.ref x0), .val (.ref x1), .unset, .unset, .unset] (plainFor_of_name pn_59) (fun _ => rfl) ?_
  intro p e s m below meth c s₁ u hlk hret hZ hown hnm X0 e0 N0
  obtain ⟨hx, hby, hml⟩ := id u
  refine t_aN X0 u d59_0 rfl rfl ?_
  refine pt_cV [] [] 0 X0 u hZ hown (wd hw 426 rfl) (m_56 hw) e0 r0 (rm_a55_2 l Z a0 hw [] G GG x0 w1 w2 w3 w4 w5 w6 w7 h0 O0 r0 r1 r2 r3 r4 r5 r6 r7 r8 r9 r10 r11 r12 r13) rfl d59_1 rfl rfl (by decide) N0 ?_
  intro T1 L1 X1 e1 N1_
  refine t_isN X1 u d59_4 (l' := #[.val (.ref x0), .val (.ref x1), .val (.int w7), .unset, .unset]) rfl ?_
  refine t_aN X1 u d59_5 rfl rfl ?_
  refine t_iN X1 u d59_6 rfl ?_
  refine pt_cV [(.int w7)] [] 0 X1 u hZ hown (wd hw 427 rfl) (m_58 hw) e1 r14 (rm_a60_1 l Z a0 hw [] G GG x1 w7 w8 h0 O0 r15 r16) rfl d59_7 rfl rfl (by decide) N1_ ?_
  intro T2 L2 X2 e2 N2_
  refine t_ifY 10 41 X2 u rfl d59_10 ((if0 _ _).trans (feq (by decide : ¬ ((1 : Int32) = (0 : Int32)))).2) (by decide) ?_
  refine t_aN X2 u d59_41 rfl rfl ?_
  refine t_aN X2 u d59_42 rfl rfl ?_
  refine pt_cV [] [(.ref x0)] 1 X2 u hZ hown (wd hw 16 rfl) (m_46 hw) e2 r14 (rm_a3_0 l Z a0 hw [] G GG x1 w8 h0 O0 r15) rfl d59_43 rfl rfl (by decide) N2_ ?_
  intro T3 L3 X3 e3 N3_
  refine t_pF X3 u hZ hown (wd hw 23 rfl) e3 r17 r0 (Or.inl (wd hw 24 rfl)) (wd hw 5 rfl) pf_I rfl rfl d59_46 ?_
  intro T4 h4 X4 e4 W4
  have N4_ := Fr.snoc X4 N3_ r18
  have O4_ := extWr O0 W4 r18
  have K4 := Keep.wr (Keep.refl h0 [x0]) W4 k0
  have F4 := Fld.same W4 r17
  refine t_aN X4 u d59_49 rfl rfl ?_
  refine t_gF X4 u hZ hown (wd hw 23 rfl) e4 F4 d59_50 ?_
  intro T5 X5 e5
  refine t_gS X5 u hZ hown (wd hw 13 rfl) e5 (Sta.ext O4_ GG.G_nn) d59_53 ?_
  intro T6 X6 e6
  refine pt_cV [] [(.int w8)] 1 X6 u hZ hown (wd hw 16 rfl) (m_46 hw) e6 (Exa.ext O4_ GG.G_nne) (rm_a3_1 l Z a0 hw [] G GG  h4 O4_ ) rfl d59_56 rfl rfl (by decide) N4_ ?_
  intro T7 L7 X7 e7 N7_
  refine t_icN X7 u d59_59 (teq r16).2 ?_
  refine t_aN X7 u d59_62 rfl rfl ?_
  refine t_iC X7 u d59_63  ?_
  refine t_pN X7 u hZ hown (wd hw 66 rfl) e7 (fS W4 r5 (sn_34 hw)) (Exa.wr W4 r0) (Or.inl (wd hw 67 rfl)) (wd hw 5 rfl) (.int (1 : Int32)) pf_Z rfl rfl d59_64 ?_
  intro T8 h8 X8 e8 W8
  have N8_ := Fr.snoc X8 N7_ r18
  have O8_ := extWr O4_ W8 r18
  have K8 := Keep.wr K4 W8 k0
  have F8 := Fld.same W8 (fS W4 r5 (sn_34 hw))
  refine t_go 67 160 X8 u rfl d59_67 (by decide) ?_
  have f9 := (fS W8 (fS W4 r21 (sn_32 hw)) (sn_20 hw))
  have f10 := (fR W8 (fR W4 r19 (sn_43 hw)) (sn_29 hw))
  have f11 := (fS W8 (fS W4 r20 (sn_31 hw)) (sn_19 hw))
  exact Go.retV X8 hx hret hlk (hb hby d59_160) (by decide) (by decide) (by show Q_a59_8 ..; rw [e8]; exact ⟨w12, w11, rfl, N8_, K8, (fR W8 (fR W4 r3 (sn_42 hw)) (sn_39 hw)), f9, (fR W8 (fS W4 r1 (sn_35 hw)) (sn_25 hw)), f10, F8, (fS W8 (fS W4 r7 (sn_33 hw)) (sn_21 hw)), (fR W8 F4 (sn_34 hw)), f11⟩)
theorem pn_7 : plainName "com/example/clean_epoch/cleanepoch/log/DivergenceWalkDonePinLaw" = true := by first | (simp [plainName, overriddenIn]; done) | decide +kernel
def Q_step (Z : State) (G : GT) (x0 : Addr) (h0 : Heap) (v : Option Value) (h : Heap) (L : List Loc) : Prop := v = some (.int 1) ∧ Fr Z.heap.size L ∧ Keep h0 h [x0] ∧ WS Z h G.el G.eo x0
theorem rm_step (x0 : Addr) (x1 : Int32) (x2 : Int64) (h0 : Heap) (O0 : Ext Z.heap h0) (hWS : WS Z h0 G.el G.eo x0) :
    MF hw GG l y_7 method_3_code 10 (some .boolean) ws ⟨11, 11, 45, 152⟩ h0 #[(.ref x0), (.int x1), (.long x2)] (Q_step Z G x0 h0) := by
  refine own_mF #[.val (.ref x0), .val (.int x1), .val (.long x2), .second, .unset, .unset, .unset, .unset, .unset, .unset] (plainFor_of_name pn_7) (fun _ => rfl) ?_
  intro p e s m below meth c s₁ u hlk hret hZ hown hnm X0 e0 N0
  obtain ⟨hx, hby, hml⟩ := id u
  obtain ⟨fe, lf, rc, dv, nd, E_w, g_x0, F_fe, F_lf, F_rc, F_dv, F_nd, hst⟩ := id hWS
  rcases hst with ⟨bd, F_du, F_ex, F_bd⟩ | ⟨F_du, F_ex, F_bd⟩ | ⟨F_du, F_ex, F_bd, hLS⟩ | ⟨F_du, F_ex, F_bd, nfe, hLS⟩
  · show Go _ _ _ _ _ _ _ _ s₁ (mkF m 0 #[.val (.ref x0), .val (.int x1), .val (.long x2), .second, .unset, .unset, .unset, .unset, .unset, .unset] [])
    refine t_aN X0 u d7_0 rfl rfl ?_
    refine pt_cV [] [] 0 X0 u hZ hown (wd hw 61 rfl) (m_49 hw) e0 E_w (rm_a8_0 l Z a0 hw [] G GG x0 (0 : Int32) h0 O0 F_du) rfl d7_1 rfl rfl (by decide) N0 ?_
    intro T1 L1 X1 e1 N1_
    refine t_ifY 4 36 X1 u rfl d7_4 ((if0 _ _).trans (teq (by decide : (0 : Int32) = (0 : Int32))).1) (by decide) ?_
    refine t_aN X1 u d7_36 rfl rfl ?_
    refine pt_cV [] [] 0 X1 u hZ hown (wd hw 52 rfl) (m_50 hw) e1 E_w (rm_a6_0 l Z a0 hw [] G GG x0 (1 : Int32) h0 O0 F_ex (by decide)) rfl d7_37 rfl rfl (by decide) N1_ ?_
    intro T2 L2 X2 e2 N2_
    refine t_ifN X2 u d7_40 ((if0 _ _).trans (feq (by decide : ¬ ((1 : Int32) = (0 : Int32)))).1) ?_
    refine t_iC X2 u d7_43  ?_
    exact Go.retN X2 hx (t := .boolean) hret (by simp) hlk (hb hby d7_44) (by decide) (by decide) (by show Q_step ..; rw [e2]; exact ⟨rfl, N2_, (Keep.refl h0 [x0]), ⟨fe, lf, rc, dv, nd, E_w, g_x0, F_fe, F_lf, F_rc, F_dv, F_nd, Or.inl ⟨bd, F_du, F_ex, F_bd⟩⟩⟩)
  · show Go _ _ _ _ _ _ _ _ s₁ (mkF m 0 #[.val (.ref x0), .val (.int x1), .val (.long x2), .second, .unset, .unset, .unset, .unset, .unset, .unset] [])
    refine t_aN X0 u d7_0 rfl rfl ?_
    refine pt_cV [] [] 0 X0 u hZ hown (wd hw 61 rfl) (m_49 hw) e0 E_w (rm_a8_0 l Z a0 hw [] G GG x0 (0 : Int32) h0 O0 F_du) rfl d7_1 rfl rfl (by decide) N0 ?_
    intro T3 L3 X3 e3 N3_
    refine t_ifY 4 36 X3 u rfl d7_4 ((if0 _ _).trans (teq (by decide : (0 : Int32) = (0 : Int32))).1) (by decide) ?_
    refine t_aN X3 u d7_36 rfl rfl ?_
    refine pt_cV [] [] 0 X3 u hZ hown (wd hw 52 rfl) (m_50 hw) e3 E_w (rm_a6_1 l Z a0 hw [] G GG x0 (0 : Int32) (1 : Int32) h0 O0 F_ex (by decide) F_bd (by decide)) rfl d7_37 rfl rfl (by decide) N3_ ?_
    intro T4 L4 X4 e4 N4_
    refine t_ifN X4 u d7_40 ((if0 _ _).trans (feq (by decide : ¬ ((1 : Int32) = (0 : Int32)))).1) ?_
    refine t_iC X4 u d7_43  ?_
    exact Go.retN X4 hx (t := .boolean) hret (by simp) hlk (hb hby d7_44) (by decide) (by decide) (by show Q_step ..; rw [e4]; exact ⟨rfl, N4_, (Keep.refl h0 [x0]), ⟨fe, lf, rc, dv, nd, E_w, g_x0, F_fe, F_lf, F_rc, F_dv, F_nd, Or.inr (Or.inl ⟨F_du, F_ex, F_bd⟩)⟩⟩)
  · show Go _ _ _ _ _ _ _ _ s₁ (mkF m 0 #[.val (.ref x0), .val (.int x1), .val (.long x2), .second, .unset, .unset, .unset, .unset, .unset, .unset] [])
    refine t_aN X0 u d7_0 rfl rfl ?_
    refine pt_cV [] [] 0 X0 u hZ hown (wd hw 61 rfl) (m_49 hw) e0 E_w (rm_a8_0 l Z a0 hw [] G GG x0 (1 : Int32) h0 O0 F_du) rfl d7_1 rfl rfl (by decide) N0 ?_
    intro T5 L5 X5 e5 N5_
    refine t_ifN X5 u d7_4 ((if0 _ _).trans (feq (by decide : ¬ ((1 : Int32) = (0 : Int32)))).1) ?_
    refine t_aN X5 u d7_7 rfl rfl ?_
    refine pt_cV [] [] 0 X5 u hZ hown (wd hw 52 rfl) (m_50 hw) e5 E_w (rm_a6_2 l Z a0 hw [] G GG x0 (0 : Int32) (0 : Int32) h0 O0 F_ex (by decide) F_bd (by decide)) rfl d7_8 rfl rfl (by decide) N5_ ?_
    intro T6 L6 X6 e6 N6_
    refine t_isL X6 u d7_11 (l' := #[.val (.ref x0), .val (.int x1), .val (.long x2), .second, .val (.int (0 : Int32)), .unset, .unset, .unset, .unset, .unset]) rfl ?_
    refine t_aN X6 u d7_13 rfl rfl ?_
    refine t_lN X6 u d7_14 rfl ?_
    by_cases hs15_7 : dv = (0 : Int32)
    · refine t_cV [(.long x2)] [] 0 X6 u hZ hown (wd hw 506 rfl) (m_52 hw) e6 E_w (rm_a72_0 l Z a0 hw [] G GG x0 x2 (1 : Int32) dv rc lf (0 : Int32) fe nd (0 : Int32) h0 O0 F_du (by decide) F_dv hs15_7 E_w F_rc g_x0 F_lf hLS hLS.1 F_ex F_fe F_nd F_bd) rfl d7_15 rfl rfl (by decide) ?_
      intro v8 T8 L8 Lc8 X8 hQ8 l8
      obtain ⟨z_x0_divergedq8, z_x0_reachedq8, r8q8, rfl, Nq8, Kq8, p8_0, p8_1, p8_2, p8_3, p8_4, p8_5, p8_6, p8_7, p8_8, p8_9⟩ := hQ8
      have O8_ := extKeep O0 Kq8 (allS g_x0 all0)
      have K8 := Keep.trans (Keep.refl h0 [x0]) Kq8 (allS k0 all0)
      have N8_ := frA l8 N6_ Nq8
      have g_r8q8 := Nat.le_trans O0.1 p8_8
      have sz_r8q8 := Nat.le_trans (Keep.refl h0 [x0]).1 p8_8
      refine t_iL X8 u d7_18 rfl ?_
      refine t_ifN X8 u d7_20 ((if0 _ _).trans (teq (by decide : (0 : Int32) = (0 : Int32))).2) ?_
      refine t_aN X8 u d7_23 rfl rfl ?_
      refine pt_cV [] [] 0 X8 u hZ hown (wd hw 52 rfl) (m_50 hw) rfl (E_w.keep Kq8) (rm_a6_0 l Z a0 hw [] G GG x0 (1 : Int32) T8.heap O8_ p8_4 (by decide)) rfl d7_24 rfl rfl (by decide) N8_ ?_
      intro T9 L9 X9 e9 N9_
      refine t_ifN X9 u d7_27 ((if0 _ _).trans (feq (by decide : ¬ ((1 : Int32) = (0 : Int32)))).1) ?_
      refine t_iC X9 u d7_30  ?_
      refine t_go 31 35 X9 u rfl d7_31 (by decide) ?_
      exact Go.retN X9 hx (t := .boolean) hret (by simp) hlk (hb hby d7_35) (by decide) (by decide) (by show Q_step ..; rw [e9]; exact ⟨rfl, N9_, K8, ⟨fe, r8q8, z_x0_reachedq8, z_x0_divergedq8, nd, (E_w.keep Kq8), g_x0, p8_5, p8_3, p8_2, p8_1, p8_6, Or.inl ⟨(0 : Int32), p8_0, p8_4, p8_7⟩⟩⟩)
    · by_cases hs15_10 : (0 : Int32) < (lcmpW rc x2)
      · refine t_cV [(.long x2)] [] 0 X6 u hZ hown (wd hw 506 rfl) (m_52 hw) e6 E_w (rm_a72_1 l Z a0 hw [] G GG x0 x2 (1 : Int32) dv rc lf (0 : Int32) fe nd (0 : Int32) h0 O0 F_du (by decide) F_dv hs15_7 F_rc hs15_10 E_w g_x0 F_lf hLS hLS.1 F_ex F_fe F_nd F_bd) rfl d7_15 rfl rfl (by decide) ?_
        intro v11 T11 L11 Lc11 X11 hQ11 l11
        obtain ⟨z_x0_divergedq11, z_x0_reachedq11, r10q11, rfl, Nq11, Kq11, p11_0, p11_1, p11_2, p11_3, p11_4, p11_5, p11_6, p11_7, p11_8, p11_9⟩ := hQ11
        have O11_ := extKeep O0 Kq11 (allS g_x0 all0)
        have K11 := Keep.trans (Keep.refl h0 [x0]) Kq11 (allS k0 all0)
        have N11_ := frA l11 N6_ Nq11
        have g_r10q11 := Nat.le_trans O0.1 p11_8
        have sz_r10q11 := Nat.le_trans (Keep.refl h0 [x0]).1 p11_8
        refine t_iL X11 u d7_18 rfl ?_
        refine t_ifN X11 u d7_20 ((if0 _ _).trans (teq (by decide : (0 : Int32) = (0 : Int32))).2) ?_
        refine t_aN X11 u d7_23 rfl rfl ?_
        refine pt_cV [] [] 0 X11 u hZ hown (wd hw 52 rfl) (m_50 hw) rfl (E_w.keep Kq11) (rm_a6_0 l Z a0 hw [] G GG x0 (1 : Int32) T11.heap O11_ p11_4 (by decide)) rfl d7_24 rfl rfl (by decide) N11_ ?_
        intro T12 L12 X12 e12 N12_
        refine t_ifN X12 u d7_27 ((if0 _ _).trans (feq (by decide : ¬ ((1 : Int32) = (0 : Int32)))).1) ?_
        refine t_iC X12 u d7_30  ?_
        refine t_go 31 35 X12 u rfl d7_31 (by decide) ?_
        exact Go.retN X12 hx (t := .boolean) hret (by simp) hlk (hb hby d7_35) (by decide) (by decide) (by show Q_step ..; rw [e12]; exact ⟨rfl, N12_, K11, ⟨fe, r10q11, z_x0_reachedq11, z_x0_divergedq11, nd, (E_w.keep Kq11), g_x0, p11_5, p11_3, p11_2, p11_1, p11_6, Or.inl ⟨(0 : Int32), p11_0, p11_4, p11_7⟩⟩⟩)
      · refine t_cV [(.long x2)] [] 0 X6 u hZ hown (wd hw 506 rfl) (m_52 hw) e6 E_w (rm_a72_2 l Z a0 hw [] G GG x0 x2 (1 : Int32) dv rc lf (0 : Int32) fe nd (0 : Int32) h0 O0 F_du (by decide) F_dv hs15_7 F_rc hs15_10 E_w g_x0 F_lf hLS hLS.1 F_ex F_fe F_nd F_bd) rfl d7_15 rfl rfl (by decide) ?_
        intro v13 T13 L13 Lc13 X13 hQ13 l13
        obtain ⟨z_x0_divergedq13, z_x0_reachedq13, r10q13, rfl, Nq13, Kq13, p13_0, p13_1, p13_2, p13_3, p13_4, p13_5, p13_6, p13_7, p13_8, p13_9⟩ := hQ13
        have O13_ := extKeep O0 Kq13 (allS g_x0 all0)
        have K13 := Keep.trans (Keep.refl h0 [x0]) Kq13 (allS k0 all0)
        have N13_ := frA l13 N6_ Nq13
        have g_r10q13 := Nat.le_trans O0.1 p13_8
        have sz_r10q13 := Nat.le_trans (Keep.refl h0 [x0]).1 p13_8
        refine t_iL X13 u d7_18 rfl ?_
        refine t_ifN X13 u d7_20 ((if0 _ _).trans (teq (by decide : (0 : Int32) = (0 : Int32))).2) ?_
        refine t_aN X13 u d7_23 rfl rfl ?_
        refine pt_cV [] [] 0 X13 u hZ hown (wd hw 52 rfl) (m_50 hw) rfl (E_w.keep Kq13) (rm_a6_0 l Z a0 hw [] G GG x0 (1 : Int32) T13.heap O13_ p13_4 (by decide)) rfl d7_24 rfl rfl (by decide) N13_ ?_
        intro T14 L14 X14 e14 N14_
        refine t_ifN X14 u d7_27 ((if0 _ _).trans (feq (by decide : ¬ ((1 : Int32) = (0 : Int32)))).1) ?_
        refine t_iC X14 u d7_30  ?_
        refine t_go 31 35 X14 u rfl d7_31 (by decide) ?_
        exact Go.retN X14 hx (t := .boolean) hret (by simp) hlk (hb hby d7_35) (by decide) (by decide) (by show Q_step ..; rw [e14]; exact ⟨rfl, N14_, K13, ⟨fe, r10q13, z_x0_reachedq13, z_x0_divergedq13, nd, (E_w.keep Kq13), g_x0, p13_5, p13_3, p13_2, p13_1, p13_6, Or.inl ⟨(0 : Int32), p13_0, p13_4, p13_7⟩⟩⟩)
  · show Go _ _ _ _ _ _ _ _ s₁ (mkF m 0 #[.val (.ref x0), .val (.int x1), .val (.long x2), .second, .unset, .unset, .unset, .unset, .unset, .unset] [])
    refine t_aN X0 u d7_0 rfl rfl ?_
    refine pt_cV [] [] 0 X0 u hZ hown (wd hw 61 rfl) (m_49 hw) e0 E_w (rm_a8_0 l Z a0 hw [] G GG x0 (0 : Int32) h0 O0 F_du) rfl d7_1 rfl rfl (by decide) N0 ?_
    intro T15 L15 X15 e15 N15_
    refine t_ifY 4 36 X15 u rfl d7_4 ((if0 _ _).trans (teq (by decide : (0 : Int32) = (0 : Int32))).1) (by decide) ?_
    refine t_aN X15 u d7_36 rfl rfl ?_
    refine pt_cV [] [] 0 X15 u hZ hown (wd hw 52 rfl) (m_50 hw) e15 E_w (rm_a6_2 l Z a0 hw [] G GG x0 (0 : Int32) (0 : Int32) h0 O0 F_ex (by decide) F_bd (by decide)) rfl d7_37 rfl rfl (by decide) N15_ ?_
    intro T16 L16 X16 e16 N16_
    refine t_ifY 40 45 X16 u rfl d7_40 ((if0 _ _).trans (teq (by decide : (0 : Int32) = (0 : Int32))).1) (by decide) ?_
    show Go _ _ _ _ _ _ _ _ T16 (mkF m 45 #[.val (.ref x0), .val (.int x1), .val (.long x2), .second, .unset, .unset, .unset, .unset, .unset, .unset] [])
    obtain ⟨Elf, hsh_lf⟩ := id hLS
    rcases hsh_lf with Fe_lf | ⟨li, a1, p1, q1, Fe_lf, Eli, Fe0, Fe1, Ea1, Fp1, Fq1, np1, nq1⟩ | ⟨li, a1, p1, q1, a2, p2, q2, Fe_lf, Eli, Fe0, Fe1, Ea1, Fp1, Fq1, Ea2, Fp2, Fq2, np1, nq1, np2, nq2, hpp, hqq⟩
    · show Go _ _ _ _ _ _ _ _ T16 (mkF m 45 #[.val (.ref x0), .val (.int x1), .val (.long x2), .second, .unset, .unset, .unset, .unset, .unset, .unset] [])
      refine t_aN X16 u d7_45 rfl rfl ?_
      refine pt_cV [] [] 0 X16 u hZ hown (wd hw 390 rfl) (m_53 hw) e16 E_w (rm_a54_0 l Z a0 hw [] G GG x0 lf h0 O0 F_lf) rfl d7_46 rfl rfl (by decide) N16_ ?_
      intro T17 L17 X17 e17 N17_
      refine pt_cV [] [] 0 X17 u hZ hown (wd hw 395 rfl) (m_55 hw) e17 Elf (rm_a4_0 l Z a0 hw [] G GG lf h0 O0 Fe_lf) rfl d7_49 rfl rfl (by decide) N17_ ?_
      intro T18 L18 X18 e18 N18_
      refine t_isL X18 u d7_52 (l' := #[.val (.ref x0), .val (.int x1), .val (.long x2), .second, .val (.int (1 : Int32)), .unset, .unset, .unset, .unset, .unset]) rfl ?_
      refine t_aN X18 u d7_54 rfl rfl ?_
      refine pt_cV [] [] 0 X18 u hZ hown (wd hw 396 rfl) (m_56 hw) e18 E_w (rm_a55_0 l Z a0 hw [] G GG x0 (0 : Int32) (0 : Int32) (0 : Int32) lf fe h0 O0 E_w F_ex (by decide) F_bd (by decide) F_du (by decide) F_lf Elf Fe_lf F_fe) rfl d7_55 rfl rfl (by decide) N18_ ?_
      intro T19 L19 X19 e19 N19_
      refine t_isL X19 u d7_58 (l' := #[.val (.ref x0), .val (.int x1), .val (.long x2), .second, .val (.int (1 : Int32)), .val (.int fe), .unset, .unset, .unset, .unset]) rfl ?_
      refine t_iC X19 u d7_60  ?_
      refine t_iL X19 u d7_61 rfl ?_
      refine t_iN X19 u d7_63 rfl ?_
      refine t_iC X19 u d7_64  ?_
      refine t_iand X19 u d7_65  ?_
      refine t_isub X19 u d7_66  ?_
      by_cases hs67_20 : (-1 : Int32) < (fe - (x1 &&& (3 : Int32)))
      · refine pt_cS [(.int (-1 : Int32)), (.int (fe - (x1 &&& (3 : Int32))))] [] 0 X19 u hZ hown (wd hw 412 rfl) (m_20 hw) e19 (rm_a25_1 l Z a0 hw [] G GG (-1 : Int32) (fe - (x1 &&& (3 : Int32))) h0 O0 hs67_20) rfl d7_67 rfl rfl (by decide) N19_ ?_
        intro T21 L21 X21 e21 N21_
        refine t_isL X21 u d7_70 (l' := #[.val (.ref x0), .val (.int x1), .val (.long x2), .second, .val (.int (1 : Int32)), .val (.int fe), .val (.int (fe - (x1 &&& (3 : Int32)))), .unset, .unset, .unset]) rfl ?_
        refine t_iL X21 u d7_72 rfl ?_
        refine t_ifY 74 83 X21 u rfl d7_74 ((if0 _ _).trans (flt (own_t1 hs67_20)).2.1) (by decide) ?_
        refine t_iN X21 u d7_83 rfl ?_
        refine t_iC X21 u d7_84  ?_
        refine Go.step (fun _ kt_ => XS.iushr X21.here hx rfl (hb hby d7_85) rfl kt_) ?_
        show Go _ _ _ _ _ _ _ _ T21 (mkF m 86 #[.val (.ref x0), .val (.int x1), .val (.long x2), .second, .val (.int (1 : Int32)), .val (.int fe), .val (.int (fe - (x1 &&& (3 : Int32)))), .unset, .unset, .unset] [(.int ((x1.toUInt32 >>> ((2 : Int32) &&& 31).toUInt32).toInt32))])
        refine t_bP X21 u d7_86  ?_
        refine t_iand X21 u d7_88  ?_
        refine Go.step (fun _ kt_ => XS.i2l X21.here hx rfl (hb hby d7_89) rfl kt_) ?_
        refine Go.step (fun _ kt_ => XS.lstore X21.here hx rfl (hb hby d7_90) rfl (l' := #[.val (.ref x0), .val (.int x1), .val (.long x2), .second, .val (.int (1 : Int32)), .val (.int fe), .val (.int (fe - (x1 &&& (3 : Int32)))), .val (.long ((((x1.toUInt32 >>> ((2 : Int32) &&& 31).toUInt32).toInt32) &&& (31 : Int32)).toInt64)), .second, .unset]) rfl kt_) ?_
        refine t_aN X21 u d7_92 rfl rfl ?_
        refine t_new X21 u hZ hown (wd hw 413 rfl) (wd hw 414 rfl) (wd hw 14 rfl) e21 d7_93 (by decide) ?_
        intro T22 h22 b22 X22 e22 E22 hb22 A22 D22
        have g_b22 := leE O0.1 hb22
        have O22_ := extTr O0 E22
        have sz_b22 := leE (Keep.refl h0 [x0]).1 hb22
        have K22 := Keep.ext (Keep.refl h0 [x0]) E22
        have F22_epoch : fl_1 Z h22 b22 (.int (0 : Int32)) := D22 (Or.inr (wd hw 22 rfl)) (ty := .int) pf_I
        have F22_endOffset : fl_26 Z h22 b22 (.long (0 : Int64)) := D22 (Or.inr (wd hw 420 rfl)) (ty := .long) pf_J
        refine t_dup X22 u d7_96 rfl ?_
        refine t_iL X22 u d7_97 rfl ?_
        refine t_lL X22 u d7_99 rfl ?_
        refine t_cN [(.int (fe - (x1 &&& (3 : Int32)))), (.long ((((x1.toUInt32 >>> ((2 : Int32) &&& 31).toUInt32).toInt32) &&& (31 : Int32)).toInt64))] [(.ref b22), (.ref x0)] 2 X22 u hZ hown rfl (wd hw 415 rfl) (m_57 hw) e22 (rm_a58_0 l Z a0 hw [] G GG b22 (fe - (x1 &&& (3 : Int32))) ((((x1.toUInt32 >>> ((2 : Int32) &&& 31).toUInt32).toInt32) &&& (31 : Int32)).toInt64) (0 : Int32) (0 : Int64) h22 O22_ A22 F22_epoch g_b22 F22_endOffset) rfl d7_101 rfl rfl (by decide) ?_
        intro v23 T23 L23 Lc23 X23 hQ23 l23
        obtain ⟨rfl, Nq23, Kq23, p23_0, p23_1⟩ := hQ23
        have O23_ := extKeep O22_ Kq23 (allS g_b22 all0)
        have K23 := Keep.trans K22 Kq23 (allS (Or.inr sz_b22) all0)
        have N23_ := frA l23 N21_ Nq23
        by_cases hs104_34 : (fe - (x1 &&& (3 : Int32))) = fe
        · have f35 := ((Fld.ext E22 F_ex).keep Kq23 (ninS (neE E_w.lt hb22) nin0))
          have f36 := ((Fld.ext E22 F_bd).keep Kq23 (ninS (neE E_w.lt hb22) nin0))
          have f37 := ((Fld.ext E22 F_du).keep Kq23 (ninS (neE E_w.lt hb22) nin0))
          have f38 := ((Fld.ext E22 F_lf).keep Kq23 (ninS (neE E_w.lt hb22) nin0))
          have f39 := ((Fld.ext E22 Fe_lf).keep Kq23 (ninS (neE Elf.lt hb22) nin0))
          have f40 := ((Fld.ext E22 F_fe).keep Kq23 (ninS (neE E_w.lt hb22) nin0))
          have f41 := ((Fld.ext E22 F_nd).keep Kq23 (ninS (neE E_w.lt hb22) nin0))
          have f42 := ((Fld.ext E22 F_rc).keep Kq23 (ninS (neE E_w.lt hb22) nin0))
          have f43 := (LS.keep Kq23 (lsS A22 (by decide) ls0) (LS.ext E22 hLS))
          have f44 := ((Fld.ext E22 F_dv).keep Kq23 (ninS (neE E_w.lt hb22) nin0))
          have f45 := ((Fld.ext E22 F_ex).keep Kq23 (ninS (neE E_w.lt hb22) nin0))
          have f46 := ((Fld.ext E22 F_bd).keep Kq23 (ninS (neE E_w.lt hb22) nin0))
          have f47 := ((Fld.ext E22 F_du).keep Kq23 (ninS (neE E_w.lt hb22) nin0))
          have f48 := ((Fld.ext E22 F_lf).keep Kq23 (ninS (neE E_w.lt hb22) nin0))
          have f49 := ((Fld.ext E22 Fe_lf).keep Kq23 (ninS (neE Elf.lt hb22) nin0))
          have f50 := ((Fld.ext E22 F_fe).keep Kq23 (ninS (neE E_w.lt hb22) nin0))
          have f51 := ((Fld.ext E22 F_nd).keep Kq23 (ninS (neE E_w.lt hb22) nin0))
          have f52 := ((Fld.ext E22 F_rc).keep Kq23 (ninS (neE E_w.lt hb22) nin0))
          have f53 := (LS.keep Kq23 (lsS A22 (by decide) ls0) (LS.ext E22 hLS))
          have f54 := ((Fld.ext E22 F_dv).keep Kq23 (ninS (neE E_w.lt hb22) nin0))
          have f55 := ((Fld.ext E22 F_ex).keep Kq23 (ninS (neE E_w.lt hb22) nin0))
          have f56 := ((Fld.ext E22 F_bd).keep Kq23 (ninS (neE E_w.lt hb22) nin0))
          have f57 := ((Fld.ext E22 F_du).keep Kq23 (ninS (neE E_w.lt hb22) nin0))
          have f58 := ((Fld.ext E22 F_lf).keep Kq23 (ninS (neE E_w.lt hb22) nin0))
          have f59 := ((Fld.ext E22 Fe_lf).keep Kq23 (ninS (neE Elf.lt hb22) nin0))
          have f60 := ((Fld.ext E22 F_fe).keep Kq23 (ninS (neE E_w.lt hb22) nin0))
          have f61 := ((Fld.ext E22 F_nd).keep Kq23 (ninS (neE E_w.lt hb22) nin0))
          have f62 := ((Fld.ext E22 F_rc).keep Kq23 (ninS (neE E_w.lt hb22) nin0))
          have f63 := (LS.keep Kq23 (lsS A22 (by decide) ls0) (LS.ext E22 hLS))
          have f64 := ((Fld.ext E22 F_dv).keep Kq23 (ninS (neE E_w.lt hb22) nin0))
          refine t_cV [(.ref b22)] [] 0 X23 u hZ hown (wd hw 421 rfl) (m_60 hw) rfl ((Exa.ext E22 E_w).keep Kq23) (rm_a59_0 l Z a0 hw [] G GG x0 b22 (0 : Int32) (0 : Int32) (0 : Int32) lf fe (fe - (x1 &&& (3 : Int32))) ((((x1.toUInt32 >>> ((2 : Int32) &&& 31).toUInt32).toInt32) &&& (31 : Int32)).toInt64) nd rc dv T23.heap O23_ ((Exa.ext E22 E_w).keep Kq23) f55 (by decide) f56 (by decide) f57 (by decide) f58 ((Exa.ext E22 Elf).keep Kq23) f59 f60 (A22.keep Kq23) p23_0 (own_t2 hs67_20) (own_t1 hs67_20) (own_t3 nfe) p23_1 (own_t4 _) f61 g_x0 f62 f63 (Ne.symm (neE E_w.lt hb22)) f64 hs104_34) rfl d7_104 rfl rfl (by decide) ?_
          intro v65 T65 L65 Lc65 X65 hQ65 l65
          obtain ⟨z_x0_divergedq65, z_x0_reachedq65, ex0q65, rfl, Nq65, Kq65, p65_0, p65_1, p65_2, p65_3, p65_4, p65_5, p65_6, p65_7, p65_8, p65_9⟩ := hQ65
          have O65_ := extKeep O23_ Kq65 (allS g_x0 all0)
          have K65 := Keep.trans K23 Kq65 (allS k0 all0)
          have N65_ := frA l65 N23_ Nq65
          have g_ex0q65 := Nat.le_trans O23_.1 p65_8
          have sz_ex0q65 := Nat.le_trans K23.1 p65_8
          refine t_iL X65 u d7_107 rfl ?_
          refine t_iL X65 u d7_109 rfl ?_
          refine t_icY 111 124 X65 u rfl d7_111 (teq hs104_34).1 (by decide) ?_
          refine t_iC X65 u d7_124  ?_
          refine t_go 125 129 X65 u rfl d7_125 (by decide) ?_
          refine t_isL X65 u d7_129 (l' := #[.val (.ref x0), .val (.int x1), .val (.long x2), .second, .val (.int (1 : Int32)), .val (.int fe), .val (.int (fe - (x1 &&& (3 : Int32)))), .val (.long ((((x1.toUInt32 >>> ((2 : Int32) &&& 31).toUInt32).toInt32) &&& (31 : Int32)).toInt64)), .second, .val (.int (1 : Int32))]) rfl ?_
          refine t_aN X65 u d7_131 rfl rfl ?_
          have f66 := (((Exa.ext E22 E_w).keep Kq23).keep Kq65)
          refine pt_cV [] [] 0 X65 u hZ hown (wd hw 52 rfl) (m_50 hw) rfl f66 (rm_a6_0 l Z a0 hw [] G GG x0 (1 : Int32) T65.heap O65_ p65_2 (by decide)) rfl d7_132 rfl rfl (by decide) N65_ ?_
          intro T67 L67 X67 e67 N67_
          refine t_iL X67 u d7_135 rfl ?_
          refine t_icN X67 u d7_137 (teq (by decide : (1 : Int32) = (1 : Int32))).2 ?_
          refine t_aN X67 u d7_140 rfl rfl ?_
          refine pt_cV [] [] 0 X67 u hZ hown (wd hw 61 rfl) (m_49 hw) e67 f66 (rm_a8_0 l Z a0 hw [] G GG x0 (0 : Int32) T65.heap O65_ p65_4) rfl d7_141 rfl rfl (by decide) N67_ ?_
          intro T68 L68 X68 e68 N68_
          refine t_iL X68 u d7_144 rfl ?_
          refine t_ifY 146 153 X68 u rfl d7_146 ((if0 _ _).trans (flt (own_t1 hs67_20)).2.1) (by decide) ?_
          refine t_iC X68 u d7_153  ?_
          refine t_icN X68 u d7_154 (teq (by decide : (0 : Int32) = (0 : Int32))).2 ?_
          refine t_iC X68 u d7_157  ?_
          refine t_go 158 162 X68 u rfl d7_158 (by decide) ?_
          exact Go.retN X68 hx (t := .boolean) hret (by simp) hlk (hb hby d7_162) (by decide) (by decide) (by show Q_step ..; rw [e68]; exact ⟨rfl, N68_, K65, ⟨fe, ex0q65, z_x0_reachedq65, z_x0_divergedq65, (fe - (x1 &&& (3 : Int32))), f66, g_x0, p65_3, p65_5, p65_7, p65_1, p65_6, Or.inl ⟨(0 : Int32), p65_4, p65_2, p65_0⟩⟩⟩)
        · have f69 := ((Fld.ext E22 F_ex).keep Kq23 (ninS (neE E_w.lt hb22) nin0))
          have f70 := ((Fld.ext E22 F_bd).keep Kq23 (ninS (neE E_w.lt hb22) nin0))
          have f71 := ((Fld.ext E22 F_du).keep Kq23 (ninS (neE E_w.lt hb22) nin0))
          have f72 := ((Fld.ext E22 F_lf).keep Kq23 (ninS (neE E_w.lt hb22) nin0))
          have f73 := ((Fld.ext E22 Fe_lf).keep Kq23 (ninS (neE Elf.lt hb22) nin0))
          have f74 := ((Fld.ext E22 F_fe).keep Kq23 (ninS (neE E_w.lt hb22) nin0))
          have f75 := ((Fld.ext E22 F_nd).keep Kq23 (ninS (neE E_w.lt hb22) nin0))
          have f76 := ((Fld.ext E22 F_rc).keep Kq23 (ninS (neE E_w.lt hb22) nin0))
          have f77 := (LS.keep Kq23 (lsS A22 (by decide) ls0) (LS.ext E22 hLS))
          have f78 := ((Fld.ext E22 F_dv).keep Kq23 (ninS (neE E_w.lt hb22) nin0))
          refine t_cV [(.ref b22)] [] 0 X23 u hZ hown (wd hw 421 rfl) (m_60 hw) rfl ((Exa.ext E22 E_w).keep Kq23) (rm_a59_1 l Z a0 hw [] G GG x0 b22 (0 : Int32) (0 : Int32) (0 : Int32) lf fe (fe - (x1 &&& (3 : Int32))) ((((x1.toUInt32 >>> ((2 : Int32) &&& 31).toUInt32).toInt32) &&& (31 : Int32)).toInt64) nd rc dv T23.heap O23_ ((Exa.ext E22 E_w).keep Kq23) f69 (by decide) f70 (by decide) f71 (by decide) f72 ((Exa.ext E22 Elf).keep Kq23) f73 f74 (A22.keep Kq23) p23_0 (own_t2 hs67_20) (own_t1 hs67_20) (own_t3 nfe) p23_1 (own_t4 _) f75 g_x0 f76 f77 (Ne.symm (neE E_w.lt hb22)) f78 hs104_34 (exa_ne ((Exa.ext E22 Elf).keep Kq23) ((Exa.ext E22 E_w).keep Kq23) (by decide))) rfl d7_104 rfl rfl (by decide) ?_
          intro v79 T79 L79 Lc79 X79 hQ79 l79
          obtain ⟨z_x0_divergedq79, z_x0_reachedq79, ex0q79, rfl, Nq79, Kq79, p79_0, p79_1, p79_2, p79_3, p79_4, p79_5, p79_6, p79_7, p79_8, p79_9⟩ := hQ79
          have O79_ := extKeep O23_ Kq79 (allS g_x0 all0)
          have K79 := Keep.trans K23 Kq79 (allS k0 all0)
          have N79_ := frA l79 N23_ Nq79
          have g_ex0q79 := Nat.le_trans O23_.1 p79_8
          have sz_ex0q79 := Nat.le_trans K23.1 p79_8
          refine t_iL X79 u d7_107 rfl ?_
          refine t_iL X79 u d7_109 rfl ?_
          refine t_icN X79 u d7_111 (feq hs104_34).1 ?_
          refine t_iL X79 u d7_114 rfl ?_
          refine t_ifN X79 u d7_116 ((if0 _ _).trans (flt (own_t1 hs67_20)).1) ?_
          refine t_iL X79 u d7_119 rfl ?_
          refine t_ifN X79 u d7_121 ((if0 _ _).trans (feq (by decide : ¬ ((1 : Int32) = (0 : Int32)))).1) ?_
          refine t_iC X79 u d7_124  ?_
          refine t_go 125 129 X79 u rfl d7_125 (by decide) ?_
          refine t_isL X79 u d7_129 (l' := #[.val (.ref x0), .val (.int x1), .val (.long x2), .second, .val (.int (1 : Int32)), .val (.int fe), .val (.int (fe - (x1 &&& (3 : Int32)))), .val (.long ((((x1.toUInt32 >>> ((2 : Int32) &&& 31).toUInt32).toInt32) &&& (31 : Int32)).toInt64)), .second, .val (.int (1 : Int32))]) rfl ?_
          refine t_aN X79 u d7_131 rfl rfl ?_
          have f80 := (((Exa.ext E22 E_w).keep Kq23).keep Kq79)
          refine pt_cV [] [] 0 X79 u hZ hown (wd hw 52 rfl) (m_50 hw) rfl f80 (rm_a6_1 l Z a0 hw [] G GG x0 (0 : Int32) (1 : Int32) T79.heap O79_ p79_2 (by decide) p79_0 (by decide)) rfl d7_132 rfl rfl (by decide) N79_ ?_
          intro T81 L81 X81 e81 N81_
          refine t_iL X81 u d7_135 rfl ?_
          refine t_icN X81 u d7_137 (teq (by decide : (1 : Int32) = (1 : Int32))).2 ?_
          refine t_aN X81 u d7_140 rfl rfl ?_
          refine pt_cV [] [] 0 X81 u hZ hown (wd hw 61 rfl) (m_49 hw) e81 f80 (rm_a8_0 l Z a0 hw [] G GG x0 (0 : Int32) T79.heap O79_ p79_4) rfl d7_141 rfl rfl (by decide) N81_ ?_
          intro T82 L82 X82 e82 N82_
          refine t_iL X82 u d7_144 rfl ?_
          refine t_ifY 146 153 X82 u rfl d7_146 ((if0 _ _).trans (flt (own_t1 hs67_20)).2.1) (by decide) ?_
          refine t_iC X82 u d7_153  ?_
          refine t_icN X82 u d7_154 (teq (by decide : (0 : Int32) = (0 : Int32))).2 ?_
          refine t_iC X82 u d7_157  ?_
          refine t_go 158 162 X82 u rfl d7_158 (by decide) ?_
          exact Go.retN X82 hx (t := .boolean) hret (by simp) hlk (hb hby d7_162) (by decide) (by decide) (by show Q_step ..; rw [e82]; exact ⟨rfl, N82_, K79, ⟨fe, ex0q79, z_x0_reachedq79, z_x0_divergedq79, (fe - (x1 &&& (3 : Int32))), f80, g_x0, p79_3, p79_5, p79_7, p79_1, p79_6, Or.inr (Or.inl ⟨p79_4, p79_2, p79_0⟩)⟩⟩)
      · refine pt_cS [(.int (-1 : Int32)), (.int (fe - (x1 &&& (3 : Int32))))] [] 0 X19 u hZ hown (wd hw 412 rfl) (m_20 hw) e19 (rm_a25_0 l Z a0 hw [] G GG (-1 : Int32) (fe - (x1 &&& (3 : Int32))) h0 O0 hs67_20) rfl d7_67 rfl rfl (by decide) N19_ ?_
        intro T83 L83 X83 e83 N83_
        refine t_isL X83 u d7_70 (l' := #[.val (.ref x0), .val (.int x1), .val (.long x2), .second, .val (.int (1 : Int32)), .val (.int fe), .val (.int (-1 : Int32)), .unset, .unset, .unset]) rfl ?_
        refine t_iL X83 u d7_72 rfl ?_
        refine t_ifN X83 u d7_74 ((if0 _ _).trans (tlt (by decide : (-1 : Int32) < (0 : Int32))).2.1) ?_
        refine Go.step (X83.ldc2Long hx hown (mvT hZ (wd hw 505 rfl)) (g := (mkF m 77 #[.val (.ref x0), .val (.int x1), .val (.long x2), .second, .val (.int (1 : Int32)), .val (.int fe), .val (.int (-1 : Int32)), .unset, .unset, .unset] [])) rfl (hb hby d7_77)) ?_
        refine t_go 80 90 X83 u rfl d7_80 (by decide) ?_
        refine Go.step (fun _ kt_ => XS.lstore X83.here hx rfl (hb hby d7_90) rfl (l' := #[.val (.ref x0), .val (.int x1), .val (.long x2), .second, .val (.int (1 : Int32)), .val (.int fe), .val (.int (-1 : Int32)), .val (.long (-1 : Int64)), .second, .unset]) rfl kt_) ?_
        refine t_aN X83 u d7_92 rfl rfl ?_
        refine t_new X83 u hZ hown (wd hw 413 rfl) (wd hw 414 rfl) (wd hw 14 rfl) e83 d7_93 (by decide) ?_
        intro T84 h84 b84 X84 e84 E84 hb84 A84 D84
        have g_b84 := leE O0.1 hb84
        have O84_ := extTr O0 E84
        have sz_b84 := leE (Keep.refl h0 [x0]).1 hb84
        have K84 := Keep.ext (Keep.refl h0 [x0]) E84
        have F84_epoch : fl_1 Z h84 b84 (.int (0 : Int32)) := D84 (Or.inr (wd hw 22 rfl)) (ty := .int) pf_I
        have F84_endOffset : fl_26 Z h84 b84 (.long (0 : Int64)) := D84 (Or.inr (wd hw 420 rfl)) (ty := .long) pf_J
        refine t_dup X84 u d7_96 rfl ?_
        refine t_iL X84 u d7_97 rfl ?_
        refine t_lL X84 u d7_99 rfl ?_
        refine t_cN [(.int (-1 : Int32)), (.long (-1 : Int64))] [(.ref b84), (.ref x0)] 2 X84 u hZ hown rfl (wd hw 415 rfl) (m_57 hw) e84 (rm_a58_0 l Z a0 hw [] G GG b84 (-1 : Int32) (-1 : Int64) (0 : Int32) (0 : Int64) h84 O84_ A84 F84_epoch g_b84 F84_endOffset) rfl d7_101 rfl rfl (by decide) ?_
        intro v85 T85 L85 Lc85 X85 hQ85 l85
        obtain ⟨rfl, Nq85, Kq85, p85_0, p85_1⟩ := hQ85
        have O85_ := extKeep O84_ Kq85 (allS g_b84 all0)
        have K85 := Keep.trans K84 Kq85 (allS (Or.inr sz_b84) all0)
        have N85_ := frA l85 N83_ Nq85
        have f86 := ((Fld.ext E84 F_ex).keep Kq85 (ninS (neE E_w.lt hb84) nin0))
        have f87 := ((Fld.ext E84 F_bd).keep Kq85 (ninS (neE E_w.lt hb84) nin0))
        have f88 := ((Fld.ext E84 F_du).keep Kq85 (ninS (neE E_w.lt hb84) nin0))
        have f89 := ((Fld.ext E84 F_lf).keep Kq85 (ninS (neE E_w.lt hb84) nin0))
        have f90 := ((Fld.ext E84 Fe_lf).keep Kq85 (ninS (neE Elf.lt hb84) nin0))
        have f91 := ((Fld.ext E84 F_fe).keep Kq85 (ninS (neE E_w.lt hb84) nin0))
        have f92 := ((Fld.ext E84 F_nd).keep Kq85 (ninS (neE E_w.lt hb84) nin0))
        have f93 := ((Fld.ext E84 F_nd).keep Kq85 (ninS (neE E_w.lt hb84) nin0))
        have f94 := ((Fld.ext E84 F_rc).keep Kq85 (ninS (neE E_w.lt hb84) nin0))
        have f95 := ((Fld.ext E84 F_dv).keep Kq85 (ninS (neE E_w.lt hb84) nin0))
        have f96 := ((Fld.ext E84 F_nd).keep Kq85 (ninS (neE E_w.lt hb84) nin0))
        have f97 := ((Fld.ext E84 F_rc).keep Kq85 (ninS (neE E_w.lt hb84) nin0))
        have f98 := ((Fld.ext E84 F_dv).keep Kq85 (ninS (neE E_w.lt hb84) nin0))
        refine t_cV [(.ref b84)] [] 0 X85 u hZ hown (wd hw 421 rfl) (m_60 hw) rfl ((Exa.ext E84 E_w).keep Kq85) (rm_a59_2 l Z a0 hw [] G GG x0 b84 (0 : Int32) (0 : Int32) (0 : Int32) lf fe (-1 : Int32) nd rc dv T85.heap O85_ ((Exa.ext E84 E_w).keep Kq85) f86 (by decide) f87 (by decide) f88 (by decide) f89 ((Exa.ext E84 Elf).keep Kq85) f90 f91 (A84.keep Kq85) p85_0 (by decide) f96 g_x0 f97 f98) rfl d7_104 rfl rfl (by decide) ?_
        intro v99 T99 L99 Lc99 X99 hQ99 l99
        obtain ⟨z_x0_divergedq99, z_x0_reachedq99, rfl, Nq99, Kq99, p99_0, p99_1, p99_2, p99_3, p99_4, p99_5, p99_6, p99_7⟩ := hQ99
        have O99_ := extKeep O85_ Kq99 (allS g_x0 all0)
        have K99 := Keep.trans K85 Kq99 (allS k0 all0)
        have N99_ := frA l99 N85_ Nq99
        refine t_iL X99 u d7_107 rfl ?_
        refine t_iL X99 u d7_109 rfl ?_
        refine t_icN X99 u d7_111 (feq (own_t5 nfe)).1 ?_
        refine t_iL X99 u d7_114 rfl ?_
        refine t_ifY 116 128 X99 u rfl d7_116 ((if0 _ _).trans (tlt (by decide : (-1 : Int32) < (0 : Int32))).1) (by decide) ?_
        refine t_iC X99 u d7_128  ?_
        refine t_isL X99 u d7_129 (l' := #[.val (.ref x0), .val (.int x1), .val (.long x2), .second, .val (.int (1 : Int32)), .val (.int fe), .val (.int (-1 : Int32)), .val (.long (-1 : Int64)), .second, .val (.int (0 : Int32))]) rfl ?_
        refine t_aN X99 u d7_131 rfl rfl ?_
        have f100 := (((Exa.ext E84 E_w).keep Kq85).keep Kq99)
        refine pt_cV [] [] 0 X99 u hZ hown (wd hw 52 rfl) (m_50 hw) rfl f100 (rm_a6_2 l Z a0 hw [] G GG x0 (0 : Int32) (0 : Int32) T99.heap O99_ p99_2 (by decide) p99_0 (by decide)) rfl d7_132 rfl rfl (by decide) N99_ ?_
        intro T101 L101 X101 e101 N101_
        refine t_iL X101 u d7_135 rfl ?_
        refine t_icN X101 u d7_137 (teq (by decide : (0 : Int32) = (0 : Int32))).2 ?_
        refine t_aN X101 u d7_140 rfl rfl ?_
        refine pt_cV [] [] 0 X101 u hZ hown (wd hw 61 rfl) (m_49 hw) e101 f100 (rm_a8_0 l Z a0 hw [] G GG x0 (1 : Int32) T99.heap O99_ p99_4) rfl d7_141 rfl rfl (by decide) N101_ ?_
        intro T102 L102 X102 e102 N102_
        refine t_iL X102 u d7_144 rfl ?_
        refine t_ifN X102 u d7_146 ((if0 _ _).trans (tlt (by decide : (-1 : Int32) < (0 : Int32))).2.1) ?_
        refine t_iC X102 u d7_149  ?_
        refine t_go 150 154 X102 u rfl d7_150 (by decide) ?_
        refine t_icN X102 u d7_154 (teq (by decide : (1 : Int32) = (1 : Int32))).2 ?_
        refine t_iC X102 u d7_157  ?_
        refine t_go 158 162 X102 u rfl d7_158 (by decide) ?_
        have f103 := (LS.keep Kq99 (lsS ((Exa.ext E84 E_w).keep Kq85) (by decide) ls0) (LS.keep Kq85 (lsS A84 (by decide) ls0) (LS.ext E84 hLS)))
        exact Go.retN X102 hx (t := .boolean) hret (by simp) hlk (hb hby d7_162) (by decide) (by decide) (by show Q_step ..; rw [e102]; exact ⟨rfl, N102_, K99, ⟨fe, lf, z_x0_reachedq99, z_x0_divergedq99, (-1 : Int32), f100, g_x0, p99_3, p99_5, p99_7, p99_1, p99_6, Or.inr (Or.inr (Or.inl ⟨p99_4, p99_2, p99_0, f103⟩))⟩⟩)
    · show Go _ _ _ _ _ _ _ _ T16 (mkF m 45 #[.val (.ref x0), .val (.int x1), .val (.long x2), .second, .unset, .unset, .unset, .unset, .unset, .unset] [])
      refine t_aN X16 u d7_45 rfl rfl ?_
      refine pt_cV [] [] 0 X16 u hZ hown (wd hw 390 rfl) (m_53 hw) e16 E_w (rm_a54_0 l Z a0 hw [] G GG x0 lf h0 O0 F_lf) rfl d7_46 rfl rfl (by decide) N16_ ?_
      intro T104 L104 X104 e104 N104_
      refine pt_cV [] [] 0 X104 u hZ hown (wd hw 395 rfl) (m_55 hw) e104 Elf (rm_a4_1 l Z a0 hw [] G GG lf li h0 O0 Fe_lf Eli) rfl d7_49 rfl rfl (by decide) N104_ ?_
      intro T105 L105 X105 e105 N105_
      refine t_isL X105 u d7_52 (l' := #[.val (.ref x0), .val (.int x1), .val (.long x2), .second, .val (.int (0 : Int32)), .unset, .unset, .unset, .unset, .unset]) rfl ?_
      refine t_aN X105 u d7_54 rfl rfl ?_
      refine pt_cV [] [] 0 X105 u hZ hown (wd hw 396 rfl) (m_56 hw) e105 E_w (rm_a55_1 l Z a0 hw [] G GG x0 (0 : Int32) (0 : Int32) (0 : Int32) lf li a1 p1 h0 O0 E_w F_ex (by decide) F_bd (by decide) F_du (by decide) F_lf Elf Fe_lf Eli Fe1 Fe0 Ea1 Fp1) rfl d7_55 rfl rfl (by decide) N105_ ?_
      intro T106 L106 X106 e106 N106_
      refine t_isL X106 u d7_58 (l' := #[.val (.ref x0), .val (.int x1), .val (.long x2), .second, .val (.int (0 : Int32)), .val (.int p1), .unset, .unset, .unset, .unset]) rfl ?_
      refine t_iC X106 u d7_60  ?_
      refine t_iL X106 u d7_61 rfl ?_
      refine t_iN X106 u d7_63 rfl ?_
      refine t_iC X106 u d7_64  ?_
      refine t_iand X106 u d7_65  ?_
      refine t_isub X106 u d7_66  ?_
      by_cases hs67_107 : (-1 : Int32) < (p1 - (x1 &&& (3 : Int32)))
      · refine pt_cS [(.int (-1 : Int32)), (.int (p1 - (x1 &&& (3 : Int32))))] [] 0 X106 u hZ hown (wd hw 412 rfl) (m_20 hw) e106 (rm_a25_1 l Z a0 hw [] G GG (-1 : Int32) (p1 - (x1 &&& (3 : Int32))) h0 O0 hs67_107) rfl d7_67 rfl rfl (by decide) N106_ ?_
        intro T108 L108 X108 e108 N108_
        refine t_isL X108 u d7_70 (l' := #[.val (.ref x0), .val (.int x1), .val (.long x2), .second, .val (.int (0 : Int32)), .val (.int p1), .val (.int (p1 - (x1 &&& (3 : Int32)))), .unset, .unset, .unset]) rfl ?_
        refine t_iL X108 u d7_72 rfl ?_
        refine t_ifY 74 83 X108 u rfl d7_74 ((if0 _ _).trans (flt (own_t1 hs67_107)).2.1) (by decide) ?_
        refine t_iN X108 u d7_83 rfl ?_
        refine t_iC X108 u d7_84  ?_
        refine Go.step (fun _ kt_ => XS.iushr X108.here hx rfl (hb hby d7_85) rfl kt_) ?_
        show Go _ _ _ _ _ _ _ _ T108 (mkF m 86 #[.val (.ref x0), .val (.int x1), .val (.long x2), .second, .val (.int (0 : Int32)), .val (.int p1), .val (.int (p1 - (x1 &&& (3 : Int32)))), .unset, .unset, .unset] [(.int ((x1.toUInt32 >>> ((2 : Int32) &&& 31).toUInt32).toInt32))])
        refine t_bP X108 u d7_86  ?_
        refine t_iand X108 u d7_88  ?_
        refine Go.step (fun _ kt_ => XS.i2l X108.here hx rfl (hb hby d7_89) rfl kt_) ?_
        refine Go.step (fun _ kt_ => XS.lstore X108.here hx rfl (hb hby d7_90) rfl (l' := #[.val (.ref x0), .val (.int x1), .val (.long x2), .second, .val (.int (0 : Int32)), .val (.int p1), .val (.int (p1 - (x1 &&& (3 : Int32)))), .val (.long ((((x1.toUInt32 >>> ((2 : Int32) &&& 31).toUInt32).toInt32) &&& (31 : Int32)).toInt64)), .second, .unset]) rfl kt_) ?_
        refine t_aN X108 u d7_92 rfl rfl ?_
        refine t_new X108 u hZ hown (wd hw 413 rfl) (wd hw 414 rfl) (wd hw 14 rfl) e108 d7_93 (by decide) ?_
        intro T109 h109 b109 X109 e109 E109 hb109 A109 D109
        have g_b109 := leE O0.1 hb109
        have O109_ := extTr O0 E109
        have sz_b109 := leE (Keep.refl h0 [x0]).1 hb109
        have K109 := Keep.ext (Keep.refl h0 [x0]) E109
        have F109_epoch : fl_1 Z h109 b109 (.int (0 : Int32)) := D109 (Or.inr (wd hw 22 rfl)) (ty := .int) pf_I
        have F109_endOffset : fl_26 Z h109 b109 (.long (0 : Int64)) := D109 (Or.inr (wd hw 420 rfl)) (ty := .long) pf_J
        refine t_dup X109 u d7_96 rfl ?_
        refine t_iL X109 u d7_97 rfl ?_
        refine t_lL X109 u d7_99 rfl ?_
        refine t_cN [(.int (p1 - (x1 &&& (3 : Int32)))), (.long ((((x1.toUInt32 >>> ((2 : Int32) &&& 31).toUInt32).toInt32) &&& (31 : Int32)).toInt64))] [(.ref b109), (.ref x0)] 2 X109 u hZ hown rfl (wd hw 415 rfl) (m_57 hw) e109 (rm_a58_0 l Z a0 hw [] G GG b109 (p1 - (x1 &&& (3 : Int32))) ((((x1.toUInt32 >>> ((2 : Int32) &&& 31).toUInt32).toInt32) &&& (31 : Int32)).toInt64) (0 : Int32) (0 : Int64) h109 O109_ A109 F109_epoch g_b109 F109_endOffset) rfl d7_101 rfl rfl (by decide) ?_
        intro v110 T110 L110 Lc110 X110 hQ110 l110
        obtain ⟨rfl, Nq110, Kq110, p110_0, p110_1⟩ := hQ110
        have O110_ := extKeep O109_ Kq110 (allS g_b109 all0)
        have K110 := Keep.trans K109 Kq110 (allS (Or.inr sz_b109) all0)
        have N110_ := frA l110 N108_ Nq110
        by_cases hs104_123 : (p1 - (x1 &&& (3 : Int32))) = p1
        · have f124 := ((Fld.ext E109 F_ex).keep Kq110 (ninS (neE E_w.lt hb109) nin0))
          have f125 := ((Fld.ext E109 F_bd).keep Kq110 (ninS (neE E_w.lt hb109) nin0))
          have f126 := ((Fld.ext E109 F_du).keep Kq110 (ninS (neE E_w.lt hb109) nin0))
          have f127 := ((Fld.ext E109 F_lf).keep Kq110 (ninS (neE E_w.lt hb109) nin0))
          have f128 := ((Fld.ext E109 Fe_lf).keep Kq110 (ninS (neE Elf.lt hb109) nin0))
          have f129 := ((Fld.ext E109 Fe1).keep Kq110 (ninS (neE Eli.lt hb109) nin0))
          have f130 := ((Fld.ext E109 Fe0).keep Kq110 (ninS (neE Eli.lt hb109) nin0))
          have f131 := ((Fld.ext E109 Fp1).keep Kq110 (ninS (neE Ea1.lt hb109) nin0))
          have f132 := ((Fld.ext E109 F_nd).keep Kq110 (ninS (neE E_w.lt hb109) nin0))
          have f133 := ((Fld.ext E109 F_rc).keep Kq110 (ninS (neE E_w.lt hb109) nin0))
          have f134 := (LS.keep Kq110 (lsS A109 (by decide) ls0) (LS.ext E109 hLS))
          have f135 := ((Fld.ext E109 F_dv).keep Kq110 (ninS (neE E_w.lt hb109) nin0))
          have f136 := ((Fld.ext E109 Fe1).keep Kq110 (ninS (neE Eli.lt hb109) nin0))
          have f137 := ((Fld.ext E109 Fe0).keep Kq110 (ninS (neE Eli.lt hb109) nin0))
          have f138 := ((Fld.ext E109 Fp1).keep Kq110 (ninS (neE Ea1.lt hb109) nin0))
          have f139 := ((Fld.ext E109 F_nd).keep Kq110 (ninS (neE E_w.lt hb109) nin0))
          have f140 := ((Fld.ext E109 F_rc).keep Kq110 (ninS (neE E_w.lt hb109) nin0))
          have f141 := (LS.keep Kq110 (lsS A109 (by decide) ls0) (LS.ext E109 hLS))
          have f142 := ((Fld.ext E109 F_dv).keep Kq110 (ninS (neE E_w.lt hb109) nin0))
          have f143 := ((Fld.ext E109 F_fe).keep Kq110 (ninS (neE E_w.lt hb109) nin0))
          have f144 := ((Fld.ext E109 Fe1).keep Kq110 (ninS (neE Eli.lt hb109) nin0))
          have f145 := ((Fld.ext E109 Fe0).keep Kq110 (ninS (neE Eli.lt hb109) nin0))
          have f146 := ((Fld.ext E109 Fp1).keep Kq110 (ninS (neE Ea1.lt hb109) nin0))
          have f147 := ((Fld.ext E109 F_nd).keep Kq110 (ninS (neE E_w.lt hb109) nin0))
          have f148 := ((Fld.ext E109 F_rc).keep Kq110 (ninS (neE E_w.lt hb109) nin0))
          have f149 := (LS.keep Kq110 (lsS A109 (by decide) ls0) (LS.ext E109 hLS))
          have f150 := ((Fld.ext E109 F_dv).keep Kq110 (ninS (neE E_w.lt hb109) nin0))
          have f151 := ((Fld.ext E109 F_fe).keep Kq110 (ninS (neE E_w.lt hb109) nin0))
          refine t_cV [(.ref b109)] [] 0 X110 u hZ hown (wd hw 421 rfl) (m_60 hw) rfl ((Exa.ext E109 E_w).keep Kq110) (rm_a59_3 l Z a0 hw [] G GG x0 b109 (0 : Int32) (0 : Int32) (0 : Int32) lf li a1 p1 (p1 - (x1 &&& (3 : Int32))) ((((x1.toUInt32 >>> ((2 : Int32) &&& 31).toUInt32).toInt32) &&& (31 : Int32)).toInt64) nd rc dv fe T110.heap O110_ ((Exa.ext E109 E_w).keep Kq110) f124 (by decide) f125 (by decide) f126 (by decide) f127 ((Exa.ext E109 Elf).keep Kq110) f128 ((Exa.ext E109 Eli).keep Kq110) f144 f145 ((Exa.ext E109 Ea1).keep Kq110) f146 (A109.keep Kq110) p110_0 (own_t2 hs67_107) (own_t1 hs67_107) (own_t3 np1) p110_1 (own_t4 _) f147 g_x0 f148 f149 (Ne.symm (neE E_w.lt hb109)) f150 hs104_123 f151) rfl d7_104 rfl rfl (by decide) ?_
          intro v152 T152 L152 Lc152 X152 hQ152 l152
          obtain ⟨z_x0_divergedq152, z_x0_reachedq152, ex0q152, rfl, Nq152, Kq152, p152_0, p152_1, p152_2, p152_3, p152_4, p152_5, p152_6, p152_7, p152_8, p152_9⟩ := hQ152
          have O152_ := extKeep O110_ Kq152 (allS g_x0 all0)
          have K152 := Keep.trans K110 Kq152 (allS k0 all0)
          have N152_ := frA l152 N110_ Nq152
          have g_ex0q152 := Nat.le_trans O110_.1 p152_8
          have sz_ex0q152 := Nat.le_trans K110.1 p152_8
          refine t_iL X152 u d7_107 rfl ?_
          refine t_iL X152 u d7_109 rfl ?_
          refine t_icY 111 124 X152 u rfl d7_111 (teq hs104_123).1 (by decide) ?_
          refine t_iC X152 u d7_124  ?_
          refine t_go 125 129 X152 u rfl d7_125 (by decide) ?_
          refine t_isL X152 u d7_129 (l' := #[.val (.ref x0), .val (.int x1), .val (.long x2), .second, .val (.int (0 : Int32)), .val (.int p1), .val (.int (p1 - (x1 &&& (3 : Int32)))), .val (.long ((((x1.toUInt32 >>> ((2 : Int32) &&& 31).toUInt32).toInt32) &&& (31 : Int32)).toInt64)), .second, .val (.int (1 : Int32))]) rfl ?_
          refine t_aN X152 u d7_131 rfl rfl ?_
          have f153 := (((Exa.ext E109 E_w).keep Kq110).keep Kq152)
          refine pt_cV [] [] 0 X152 u hZ hown (wd hw 52 rfl) (m_50 hw) rfl f153 (rm_a6_0 l Z a0 hw [] G GG x0 (1 : Int32) T152.heap O152_ p152_2 (by decide)) rfl d7_132 rfl rfl (by decide) N152_ ?_
          intro T154 L154 X154 e154 N154_
          refine t_iL X154 u d7_135 rfl ?_
          refine t_icN X154 u d7_137 (teq (by decide : (1 : Int32) = (1 : Int32))).2 ?_
          refine t_aN X154 u d7_140 rfl rfl ?_
          refine pt_cV [] [] 0 X154 u hZ hown (wd hw 61 rfl) (m_49 hw) e154 f153 (rm_a8_0 l Z a0 hw [] G GG x0 (0 : Int32) T152.heap O152_ p152_4) rfl d7_141 rfl rfl (by decide) N154_ ?_
          intro T155 L155 X155 e155 N155_
          refine t_iL X155 u d7_144 rfl ?_
          refine t_ifY 146 153 X155 u rfl d7_146 ((if0 _ _).trans (flt (own_t1 hs67_107)).2.1) (by decide) ?_
          refine t_iC X155 u d7_153  ?_
          refine t_icN X155 u d7_154 (teq (by decide : (0 : Int32) = (0 : Int32))).2 ?_
          refine t_iC X155 u d7_157  ?_
          refine t_go 158 162 X155 u rfl d7_158 (by decide) ?_
          exact Go.retN X155 hx (t := .boolean) hret (by simp) hlk (hb hby d7_162) (by decide) (by decide) (by show Q_step ..; rw [e155]; exact ⟨rfl, N155_, K152, ⟨fe, ex0q152, z_x0_reachedq152, z_x0_divergedq152, (p1 - (x1 &&& (3 : Int32))), f153, g_x0, p152_3, p152_5, p152_7, p152_1, p152_6, Or.inl ⟨(0 : Int32), p152_4, p152_2, p152_0⟩⟩⟩)
        · have f156 := ((Fld.ext E109 F_ex).keep Kq110 (ninS (neE E_w.lt hb109) nin0))
          have f157 := ((Fld.ext E109 F_bd).keep Kq110 (ninS (neE E_w.lt hb109) nin0))
          have f158 := ((Fld.ext E109 F_du).keep Kq110 (ninS (neE E_w.lt hb109) nin0))
          have f159 := ((Fld.ext E109 F_lf).keep Kq110 (ninS (neE E_w.lt hb109) nin0))
          have f160 := ((Fld.ext E109 Fe_lf).keep Kq110 (ninS (neE Elf.lt hb109) nin0))
          have f161 := ((Fld.ext E109 Fe1).keep Kq110 (ninS (neE Eli.lt hb109) nin0))
          have f162 := ((Fld.ext E109 Fe0).keep Kq110 (ninS (neE Eli.lt hb109) nin0))
          have f163 := ((Fld.ext E109 Fp1).keep Kq110 (ninS (neE Ea1.lt hb109) nin0))
          have f164 := ((Fld.ext E109 F_nd).keep Kq110 (ninS (neE E_w.lt hb109) nin0))
          have f165 := ((Fld.ext E109 F_rc).keep Kq110 (ninS (neE E_w.lt hb109) nin0))
          have f166 := (LS.keep Kq110 (lsS A109 (by decide) ls0) (LS.ext E109 hLS))
          have f167 := ((Fld.ext E109 F_dv).keep Kq110 (ninS (neE E_w.lt hb109) nin0))
          have f168 := ((Fld.ext E109 F_fe).keep Kq110 (ninS (neE E_w.lt hb109) nin0))
          have f169 := ((Fld.ext E109 F_fe).keep Kq110 (ninS (neE E_w.lt hb109) nin0))
          refine t_cV [(.ref b109)] [] 0 X110 u hZ hown (wd hw 421 rfl) (m_60 hw) rfl ((Exa.ext E109 E_w).keep Kq110) (rm_a59_4 l Z a0 hw [] G GG x0 b109 (0 : Int32) (0 : Int32) (0 : Int32) lf li a1 p1 (p1 - (x1 &&& (3 : Int32))) ((((x1.toUInt32 >>> ((2 : Int32) &&& 31).toUInt32).toInt32) &&& (31 : Int32)).toInt64) nd rc dv fe T110.heap O110_ ((Exa.ext E109 E_w).keep Kq110) f156 (by decide) f157 (by decide) f158 (by decide) f159 ((Exa.ext E109 Elf).keep Kq110) f160 ((Exa.ext E109 Eli).keep Kq110) f161 f162 ((Exa.ext E109 Ea1).keep Kq110) f163 (A109.keep Kq110) p110_0 (own_t2 hs67_107) (own_t1 hs67_107) (own_t3 np1) p110_1 (own_t4 _) f164 g_x0 f165 f166 (Ne.symm (neE E_w.lt hb109)) f167 hs104_123 (exa_ne ((Exa.ext E109 Elf).keep Kq110) ((Exa.ext E109 E_w).keep Kq110) (by decide)) f169) rfl d7_104 rfl rfl (by decide) ?_
          intro v170 T170 L170 Lc170 X170 hQ170 l170
          obtain ⟨z_x0_divergedq170, z_x0_reachedq170, ex0q170, rfl, Nq170, Kq170, p170_0, p170_1, p170_2, p170_3, p170_4, p170_5, p170_6, p170_7, p170_8, p170_9⟩ := hQ170
          have O170_ := extKeep O110_ Kq170 (allS g_x0 all0)
          have K170 := Keep.trans K110 Kq170 (allS k0 all0)
          have N170_ := frA l170 N110_ Nq170
          have g_ex0q170 := Nat.le_trans O110_.1 p170_8
          have sz_ex0q170 := Nat.le_trans K110.1 p170_8
          refine t_iL X170 u d7_107 rfl ?_
          refine t_iL X170 u d7_109 rfl ?_
          refine t_icN X170 u d7_111 (feq hs104_123).1 ?_
          refine t_iL X170 u d7_114 rfl ?_
          refine t_ifN X170 u d7_116 ((if0 _ _).trans (flt (own_t1 hs67_107)).1) ?_
          refine t_iL X170 u d7_119 rfl ?_
          refine t_ifY 121 128 X170 u rfl d7_121 ((if0 _ _).trans (teq (by decide : (0 : Int32) = (0 : Int32))).1) (by decide) ?_
          refine t_iC X170 u d7_128  ?_
          refine t_isL X170 u d7_129 (l' := #[.val (.ref x0), .val (.int x1), .val (.long x2), .second, .val (.int (0 : Int32)), .val (.int p1), .val (.int (p1 - (x1 &&& (3 : Int32)))), .val (.long ((((x1.toUInt32 >>> ((2 : Int32) &&& 31).toUInt32).toInt32) &&& (31 : Int32)).toInt64)), .second, .val (.int (0 : Int32))]) rfl ?_
          refine t_aN X170 u d7_131 rfl rfl ?_
          have f171 := (((Exa.ext E109 E_w).keep Kq110).keep Kq170)
          refine pt_cV [] [] 0 X170 u hZ hown (wd hw 52 rfl) (m_50 hw) rfl f171 (rm_a6_2 l Z a0 hw [] G GG x0 (0 : Int32) (0 : Int32) T170.heap O170_ p170_2 (by decide) p170_0 (by decide)) rfl d7_132 rfl rfl (by decide) N170_ ?_
          intro T172 L172 X172 e172 N172_
          refine t_iL X172 u d7_135 rfl ?_
          refine t_icN X172 u d7_137 (teq (by decide : (0 : Int32) = (0 : Int32))).2 ?_
          refine t_aN X172 u d7_140 rfl rfl ?_
          refine pt_cV [] [] 0 X172 u hZ hown (wd hw 61 rfl) (m_49 hw) e172 f171 (rm_a8_0 l Z a0 hw [] G GG x0 (0 : Int32) T170.heap O170_ p170_4) rfl d7_141 rfl rfl (by decide) N172_ ?_
          intro T173 L173 X173 e173 N173_
          refine t_iL X173 u d7_144 rfl ?_
          refine t_ifY 146 153 X173 u rfl d7_146 ((if0 _ _).trans (flt (own_t1 hs67_107)).2.1) (by decide) ?_
          refine t_iC X173 u d7_153  ?_
          refine t_icN X173 u d7_154 (teq (by decide : (0 : Int32) = (0 : Int32))).2 ?_
          refine t_iC X173 u d7_157  ?_
          refine t_go 158 162 X173 u rfl d7_158 (by decide) ?_
          exact Go.retN X173 hx (t := .boolean) hret (by simp) hlk (hb hby d7_162) (by decide) (by decide) (by show Q_step ..; rw [e173]; exact ⟨rfl, N173_, K170, ⟨fe, ex0q170, z_x0_reachedq170, z_x0_divergedq170, (p1 - (x1 &&& (3 : Int32))), f171, g_x0, p170_3, p170_5, p170_7, p170_1, p170_6, Or.inr (Or.inr (Or.inr ⟨p170_4, p170_2, p170_0, nfe, p170_9⟩))⟩⟩)
      · refine pt_cS [(.int (-1 : Int32)), (.int (p1 - (x1 &&& (3 : Int32))))] [] 0 X106 u hZ hown (wd hw 412 rfl) (m_20 hw) e106 (rm_a25_0 l Z a0 hw [] G GG (-1 : Int32) (p1 - (x1 &&& (3 : Int32))) h0 O0 hs67_107) rfl d7_67 rfl rfl (by decide) N106_ ?_
        intro T174 L174 X174 e174 N174_
        refine t_isL X174 u d7_70 (l' := #[.val (.ref x0), .val (.int x1), .val (.long x2), .second, .val (.int (0 : Int32)), .val (.int p1), .val (.int (-1 : Int32)), .unset, .unset, .unset]) rfl ?_
        refine t_iL X174 u d7_72 rfl ?_
        refine t_ifN X174 u d7_74 ((if0 _ _).trans (tlt (by decide : (-1 : Int32) < (0 : Int32))).2.1) ?_
        refine Go.step (X174.ldc2Long hx hown (mvT hZ (wd hw 505 rfl)) (g := (mkF m 77 #[.val (.ref x0), .val (.int x1), .val (.long x2), .second, .val (.int (0 : Int32)), .val (.int p1), .val (.int (-1 : Int32)), .unset, .unset, .unset] [])) rfl (hb hby d7_77)) ?_
        refine t_go 80 90 X174 u rfl d7_80 (by decide) ?_
        refine Go.step (fun _ kt_ => XS.lstore X174.here hx rfl (hb hby d7_90) rfl (l' := #[.val (.ref x0), .val (.int x1), .val (.long x2), .second, .val (.int (0 : Int32)), .val (.int p1), .val (.int (-1 : Int32)), .val (.long (-1 : Int64)), .second, .unset]) rfl kt_) ?_
        refine t_aN X174 u d7_92 rfl rfl ?_
        refine t_new X174 u hZ hown (wd hw 413 rfl) (wd hw 414 rfl) (wd hw 14 rfl) e174 d7_93 (by decide) ?_
        intro T175 h175 b175 X175 e175 E175 hb175 A175 D175
        have g_b175 := leE O0.1 hb175
        have O175_ := extTr O0 E175
        have sz_b175 := leE (Keep.refl h0 [x0]).1 hb175
        have K175 := Keep.ext (Keep.refl h0 [x0]) E175
        have F175_epoch : fl_1 Z h175 b175 (.int (0 : Int32)) := D175 (Or.inr (wd hw 22 rfl)) (ty := .int) pf_I
        have F175_endOffset : fl_26 Z h175 b175 (.long (0 : Int64)) := D175 (Or.inr (wd hw 420 rfl)) (ty := .long) pf_J
        refine t_dup X175 u d7_96 rfl ?_
        refine t_iL X175 u d7_97 rfl ?_
        refine t_lL X175 u d7_99 rfl ?_
        refine t_cN [(.int (-1 : Int32)), (.long (-1 : Int64))] [(.ref b175), (.ref x0)] 2 X175 u hZ hown rfl (wd hw 415 rfl) (m_57 hw) e175 (rm_a58_0 l Z a0 hw [] G GG b175 (-1 : Int32) (-1 : Int64) (0 : Int32) (0 : Int64) h175 O175_ A175 F175_epoch g_b175 F175_endOffset) rfl d7_101 rfl rfl (by decide) ?_
        intro v176 T176 L176 Lc176 X176 hQ176 l176
        obtain ⟨rfl, Nq176, Kq176, p176_0, p176_1⟩ := hQ176
        have O176_ := extKeep O175_ Kq176 (allS g_b175 all0)
        have K176 := Keep.trans K175 Kq176 (allS (Or.inr sz_b175) all0)
        have N176_ := frA l176 N174_ Nq176
        have f177 := ((Fld.ext E175 F_ex).keep Kq176 (ninS (neE E_w.lt hb175) nin0))
        have f178 := ((Fld.ext E175 F_bd).keep Kq176 (ninS (neE E_w.lt hb175) nin0))
        have f179 := ((Fld.ext E175 F_du).keep Kq176 (ninS (neE E_w.lt hb175) nin0))
        have f180 := ((Fld.ext E175 F_lf).keep Kq176 (ninS (neE E_w.lt hb175) nin0))
        have f181 := ((Fld.ext E175 Fe_lf).keep Kq176 (ninS (neE Elf.lt hb175) nin0))
        have f182 := ((Fld.ext E175 Fe1).keep Kq176 (ninS (neE Eli.lt hb175) nin0))
        have f183 := ((Fld.ext E175 Fe0).keep Kq176 (ninS (neE Eli.lt hb175) nin0))
        have f184 := ((Fld.ext E175 Fp1).keep Kq176 (ninS (neE Ea1.lt hb175) nin0))
        have f185 := ((Fld.ext E175 F_nd).keep Kq176 (ninS (neE E_w.lt hb175) nin0))
        have f186 := ((Fld.ext E175 F_nd).keep Kq176 (ninS (neE E_w.lt hb175) nin0))
        have f187 := ((Fld.ext E175 F_fe).keep Kq176 (ninS (neE E_w.lt hb175) nin0))
        have f188 := ((Fld.ext E175 F_rc).keep Kq176 (ninS (neE E_w.lt hb175) nin0))
        have f189 := ((Fld.ext E175 F_dv).keep Kq176 (ninS (neE E_w.lt hb175) nin0))
        have f190 := ((Fld.ext E175 F_nd).keep Kq176 (ninS (neE E_w.lt hb175) nin0))
        have f191 := ((Fld.ext E175 F_fe).keep Kq176 (ninS (neE E_w.lt hb175) nin0))
        have f192 := ((Fld.ext E175 F_rc).keep Kq176 (ninS (neE E_w.lt hb175) nin0))
        have f193 := ((Fld.ext E175 F_dv).keep Kq176 (ninS (neE E_w.lt hb175) nin0))
        refine t_cV [(.ref b175)] [] 0 X176 u hZ hown (wd hw 421 rfl) (m_60 hw) rfl ((Exa.ext E175 E_w).keep Kq176) (rm_a59_5 l Z a0 hw [] G GG x0 b175 (0 : Int32) (0 : Int32) (0 : Int32) lf li a1 p1 (-1 : Int32) nd fe rc dv T176.heap O176_ ((Exa.ext E175 E_w).keep Kq176) f177 (by decide) f178 (by decide) f179 (by decide) f180 ((Exa.ext E175 Elf).keep Kq176) f181 ((Exa.ext E175 Eli).keep Kq176) f182 f183 ((Exa.ext E175 Ea1).keep Kq176) f184 (A175.keep Kq176) p176_0 (by decide) f190 g_x0 f191 f192 f193) rfl d7_104 rfl rfl (by decide) ?_
        intro v194 T194 L194 Lc194 X194 hQ194 l194
        obtain ⟨z_x0_divergedq194, z_x0_reachedq194, rfl, Nq194, Kq194, p194_0, p194_1, p194_2, p194_3, p194_4, p194_5, p194_6, p194_7⟩ := hQ194
        have O194_ := extKeep O176_ Kq194 (allS g_x0 all0)
        have K194 := Keep.trans K176 Kq194 (allS k0 all0)
        have N194_ := frA l194 N176_ Nq194
        refine t_iL X194 u d7_107 rfl ?_
        refine t_iL X194 u d7_109 rfl ?_
        refine t_icN X194 u d7_111 (feq (own_t5 np1)).1 ?_
        refine t_iL X194 u d7_114 rfl ?_
        refine t_ifY 116 128 X194 u rfl d7_116 ((if0 _ _).trans (tlt (by decide : (-1 : Int32) < (0 : Int32))).1) (by decide) ?_
        refine t_iC X194 u d7_128  ?_
        refine t_isL X194 u d7_129 (l' := #[.val (.ref x0), .val (.int x1), .val (.long x2), .second, .val (.int (0 : Int32)), .val (.int p1), .val (.int (-1 : Int32)), .val (.long (-1 : Int64)), .second, .val (.int (0 : Int32))]) rfl ?_
        refine t_aN X194 u d7_131 rfl rfl ?_
        have f195 := (((Exa.ext E175 E_w).keep Kq176).keep Kq194)
        refine pt_cV [] [] 0 X194 u hZ hown (wd hw 52 rfl) (m_50 hw) rfl f195 (rm_a6_2 l Z a0 hw [] G GG x0 (0 : Int32) (0 : Int32) T194.heap O194_ p194_2 (by decide) p194_0 (by decide)) rfl d7_132 rfl rfl (by decide) N194_ ?_
        intro T196 L196 X196 e196 N196_
        refine t_iL X196 u d7_135 rfl ?_
        refine t_icN X196 u d7_137 (teq (by decide : (0 : Int32) = (0 : Int32))).2 ?_
        refine t_aN X196 u d7_140 rfl rfl ?_
        refine pt_cV [] [] 0 X196 u hZ hown (wd hw 61 rfl) (m_49 hw) e196 f195 (rm_a8_0 l Z a0 hw [] G GG x0 (1 : Int32) T194.heap O194_ p194_4) rfl d7_141 rfl rfl (by decide) N196_ ?_
        intro T197 L197 X197 e197 N197_
        refine t_iL X197 u d7_144 rfl ?_
        refine t_ifN X197 u d7_146 ((if0 _ _).trans (tlt (by decide : (-1 : Int32) < (0 : Int32))).2.1) ?_
        refine t_iC X197 u d7_149  ?_
        refine t_go 150 154 X197 u rfl d7_150 (by decide) ?_
        refine t_icN X197 u d7_154 (teq (by decide : (1 : Int32) = (1 : Int32))).2 ?_
        refine t_iC X197 u d7_157  ?_
        refine t_go 158 162 X197 u rfl d7_158 (by decide) ?_
        have f198 := (LS.keep Kq194 (lsS ((Exa.ext E175 E_w).keep Kq176) (by decide) ls0) (LS.keep Kq176 (lsS A175 (by decide) ls0) (LS.ext E175 hLS)))
        exact Go.retN X197 hx (t := .boolean) hret (by simp) hlk (hb hby d7_162) (by decide) (by decide) (by show Q_step ..; rw [e197]; exact ⟨rfl, N197_, K194, ⟨fe, lf, z_x0_reachedq194, z_x0_divergedq194, (-1 : Int32), f195, g_x0, p194_3, p194_5, p194_7, p194_1, p194_6, Or.inr (Or.inr (Or.inl ⟨p194_4, p194_2, p194_0, f198⟩))⟩⟩)
    · show Go _ _ _ _ _ _ _ _ T16 (mkF m 45 #[.val (.ref x0), .val (.int x1), .val (.long x2), .second, .unset, .unset, .unset, .unset, .unset, .unset] [])
      refine t_aN X16 u d7_45 rfl rfl ?_
      refine pt_cV [] [] 0 X16 u hZ hown (wd hw 390 rfl) (m_53 hw) e16 E_w (rm_a54_0 l Z a0 hw [] G GG x0 lf h0 O0 F_lf) rfl d7_46 rfl rfl (by decide) N16_ ?_
      intro T199 L199 X199 e199 N199_
      refine pt_cV [] [] 0 X199 u hZ hown (wd hw 395 rfl) (m_55 hw) e199 Elf (rm_a4_1 l Z a0 hw [] G GG lf li h0 O0 Fe_lf Eli) rfl d7_49 rfl rfl (by decide) N199_ ?_
      intro T200 L200 X200 e200 N200_
      refine t_isL X200 u d7_52 (l' := #[.val (.ref x0), .val (.int x1), .val (.long x2), .second, .val (.int (0 : Int32)), .unset, .unset, .unset, .unset, .unset]) rfl ?_
      refine t_aN X200 u d7_54 rfl rfl ?_
      refine pt_cV [] [] 0 X200 u hZ hown (wd hw 396 rfl) (m_56 hw) e200 E_w (rm_a55_2 l Z a0 hw [] G GG x0 (0 : Int32) (0 : Int32) (0 : Int32) lf li a2 p2 h0 O0 E_w F_ex (by decide) F_bd (by decide) F_du (by decide) F_lf Elf Fe_lf Eli Fe1 Ea2 Fp2) rfl d7_55 rfl rfl (by decide) N200_ ?_
      intro T201 L201 X201 e201 N201_
      refine t_isL X201 u d7_58 (l' := #[.val (.ref x0), .val (.int x1), .val (.long x2), .second, .val (.int (0 : Int32)), .val (.int p2), .unset, .unset, .unset, .unset]) rfl ?_
      refine t_iC X201 u d7_60  ?_
      refine t_iL X201 u d7_61 rfl ?_
      refine t_iN X201 u d7_63 rfl ?_
      refine t_iC X201 u d7_64  ?_
      refine t_iand X201 u d7_65  ?_
      refine t_isub X201 u d7_66  ?_
      by_cases hs67_202 : (-1 : Int32) < (p2 - (x1 &&& (3 : Int32)))
      · refine pt_cS [(.int (-1 : Int32)), (.int (p2 - (x1 &&& (3 : Int32))))] [] 0 X201 u hZ hown (wd hw 412 rfl) (m_20 hw) e201 (rm_a25_1 l Z a0 hw [] G GG (-1 : Int32) (p2 - (x1 &&& (3 : Int32))) h0 O0 hs67_202) rfl d7_67 rfl rfl (by decide) N201_ ?_
        intro T203 L203 X203 e203 N203_
        refine t_isL X203 u d7_70 (l' := #[.val (.ref x0), .val (.int x1), .val (.long x2), .second, .val (.int (0 : Int32)), .val (.int p2), .val (.int (p2 - (x1 &&& (3 : Int32)))), .unset, .unset, .unset]) rfl ?_
        refine t_iL X203 u d7_72 rfl ?_
        refine t_ifY 74 83 X203 u rfl d7_74 ((if0 _ _).trans (flt (own_t1 hs67_202)).2.1) (by decide) ?_
        refine t_iN X203 u d7_83 rfl ?_
        refine t_iC X203 u d7_84  ?_
        refine Go.step (fun _ kt_ => XS.iushr X203.here hx rfl (hb hby d7_85) rfl kt_) ?_
        show Go _ _ _ _ _ _ _ _ T203 (mkF m 86 #[.val (.ref x0), .val (.int x1), .val (.long x2), .second, .val (.int (0 : Int32)), .val (.int p2), .val (.int (p2 - (x1 &&& (3 : Int32)))), .unset, .unset, .unset] [(.int ((x1.toUInt32 >>> ((2 : Int32) &&& 31).toUInt32).toInt32))])
        refine t_bP X203 u d7_86  ?_
        refine t_iand X203 u d7_88  ?_
        refine Go.step (fun _ kt_ => XS.i2l X203.here hx rfl (hb hby d7_89) rfl kt_) ?_
        refine Go.step (fun _ kt_ => XS.lstore X203.here hx rfl (hb hby d7_90) rfl (l' := #[.val (.ref x0), .val (.int x1), .val (.long x2), .second, .val (.int (0 : Int32)), .val (.int p2), .val (.int (p2 - (x1 &&& (3 : Int32)))), .val (.long ((((x1.toUInt32 >>> ((2 : Int32) &&& 31).toUInt32).toInt32) &&& (31 : Int32)).toInt64)), .second, .unset]) rfl kt_) ?_
        refine t_aN X203 u d7_92 rfl rfl ?_
        refine t_new X203 u hZ hown (wd hw 413 rfl) (wd hw 414 rfl) (wd hw 14 rfl) e203 d7_93 (by decide) ?_
        intro T204 h204 b204 X204 e204 E204 hb204 A204 D204
        have g_b204 := leE O0.1 hb204
        have O204_ := extTr O0 E204
        have sz_b204 := leE (Keep.refl h0 [x0]).1 hb204
        have K204 := Keep.ext (Keep.refl h0 [x0]) E204
        have F204_epoch : fl_1 Z h204 b204 (.int (0 : Int32)) := D204 (Or.inr (wd hw 22 rfl)) (ty := .int) pf_I
        have F204_endOffset : fl_26 Z h204 b204 (.long (0 : Int64)) := D204 (Or.inr (wd hw 420 rfl)) (ty := .long) pf_J
        refine t_dup X204 u d7_96 rfl ?_
        refine t_iL X204 u d7_97 rfl ?_
        refine t_lL X204 u d7_99 rfl ?_
        refine t_cN [(.int (p2 - (x1 &&& (3 : Int32)))), (.long ((((x1.toUInt32 >>> ((2 : Int32) &&& 31).toUInt32).toInt32) &&& (31 : Int32)).toInt64))] [(.ref b204), (.ref x0)] 2 X204 u hZ hown rfl (wd hw 415 rfl) (m_57 hw) e204 (rm_a58_0 l Z a0 hw [] G GG b204 (p2 - (x1 &&& (3 : Int32))) ((((x1.toUInt32 >>> ((2 : Int32) &&& 31).toUInt32).toInt32) &&& (31 : Int32)).toInt64) (0 : Int32) (0 : Int64) h204 O204_ A204 F204_epoch g_b204 F204_endOffset) rfl d7_101 rfl rfl (by decide) ?_
        intro v205 T205 L205 Lc205 X205 hQ205 l205
        obtain ⟨rfl, Nq205, Kq205, p205_0, p205_1⟩ := hQ205
        have O205_ := extKeep O204_ Kq205 (allS g_b204 all0)
        have K205 := Keep.trans K204 Kq205 (allS (Or.inr sz_b204) all0)
        have N205_ := frA l205 N203_ Nq205
        by_cases hs104_217 : (p2 - (x1 &&& (3 : Int32))) = p2
        · have f218 := ((Fld.ext E204 F_ex).keep Kq205 (ninS (neE E_w.lt hb204) nin0))
          have f219 := ((Fld.ext E204 F_bd).keep Kq205 (ninS (neE E_w.lt hb204) nin0))
          have f220 := ((Fld.ext E204 F_du).keep Kq205 (ninS (neE E_w.lt hb204) nin0))
          have f221 := ((Fld.ext E204 F_lf).keep Kq205 (ninS (neE E_w.lt hb204) nin0))
          have f222 := ((Fld.ext E204 Fe_lf).keep Kq205 (ninS (neE Elf.lt hb204) nin0))
          have f223 := ((Fld.ext E204 Fe1).keep Kq205 (ninS (neE Eli.lt hb204) nin0))
          have f224 := ((Fld.ext E204 Fp2).keep Kq205 (ninS (neE Ea2.lt hb204) nin0))
          have f225 := ((Fld.ext E204 F_nd).keep Kq205 (ninS (neE E_w.lt hb204) nin0))
          have f226 := ((Fld.ext E204 F_rc).keep Kq205 (ninS (neE E_w.lt hb204) nin0))
          have f227 := (LS.keep Kq205 (lsS A204 (by decide) ls0) (LS.ext E204 hLS))
          have f228 := ((Fld.ext E204 F_dv).keep Kq205 (ninS (neE E_w.lt hb204) nin0))
          have f229 := ((Fld.ext E204 Fp2).keep Kq205 (ninS (neE Ea2.lt hb204) nin0))
          have f230 := ((Fld.ext E204 F_nd).keep Kq205 (ninS (neE E_w.lt hb204) nin0))
          have f231 := ((Fld.ext E204 F_rc).keep Kq205 (ninS (neE E_w.lt hb204) nin0))
          have f232 := (LS.keep Kq205 (lsS A204 (by decide) ls0) (LS.ext E204 hLS))
          have f233 := ((Fld.ext E204 F_dv).keep Kq205 (ninS (neE E_w.lt hb204) nin0))
          have f234 := ((Fld.ext E204 F_fe).keep Kq205 (ninS (neE E_w.lt hb204) nin0))
          have f235 := ((Fld.ext E204 Fp2).keep Kq205 (ninS (neE Ea2.lt hb204) nin0))
          have f236 := ((Fld.ext E204 F_nd).keep Kq205 (ninS (neE E_w.lt hb204) nin0))
          have f237 := ((Fld.ext E204 F_rc).keep Kq205 (ninS (neE E_w.lt hb204) nin0))
          have f238 := (LS.keep Kq205 (lsS A204 (by decide) ls0) (LS.ext E204 hLS))
          have f239 := ((Fld.ext E204 F_dv).keep Kq205 (ninS (neE E_w.lt hb204) nin0))
          have f240 := ((Fld.ext E204 F_fe).keep Kq205 (ninS (neE E_w.lt hb204) nin0))
          refine t_cV [(.ref b204)] [] 0 X205 u hZ hown (wd hw 421 rfl) (m_60 hw) rfl ((Exa.ext E204 E_w).keep Kq205) (rm_a59_6 l Z a0 hw [] G GG x0 b204 (0 : Int32) (0 : Int32) (0 : Int32) lf li a2 p2 (p2 - (x1 &&& (3 : Int32))) ((((x1.toUInt32 >>> ((2 : Int32) &&& 31).toUInt32).toInt32) &&& (31 : Int32)).toInt64) nd rc dv fe T205.heap O205_ ((Exa.ext E204 E_w).keep Kq205) f218 (by decide) f219 (by decide) f220 (by decide) f221 ((Exa.ext E204 Elf).keep Kq205) f222 ((Exa.ext E204 Eli).keep Kq205) f223 ((Exa.ext E204 Ea2).keep Kq205) f235 (A204.keep Kq205) p205_0 (own_t2 hs67_202) (own_t1 hs67_202) (own_t3 np2) p205_1 (own_t4 _) f236 g_x0 f237 f238 (Ne.symm (neE E_w.lt hb204)) f239 hs104_217 f240) rfl d7_104 rfl rfl (by decide) ?_
          intro v241 T241 L241 Lc241 X241 hQ241 l241
          obtain ⟨z_x0_divergedq241, z_x0_reachedq241, ex0q241, rfl, Nq241, Kq241, p241_0, p241_1, p241_2, p241_3, p241_4, p241_5, p241_6, p241_7, p241_8, p241_9⟩ := hQ241
          have O241_ := extKeep O205_ Kq241 (allS g_x0 all0)
          have K241 := Keep.trans K205 Kq241 (allS k0 all0)
          have N241_ := frA l241 N205_ Nq241
          have g_ex0q241 := Nat.le_trans O205_.1 p241_8
          have sz_ex0q241 := Nat.le_trans K205.1 p241_8
          refine t_iL X241 u d7_107 rfl ?_
          refine t_iL X241 u d7_109 rfl ?_
          refine t_icY 111 124 X241 u rfl d7_111 (teq hs104_217).1 (by decide) ?_
          refine t_iC X241 u d7_124  ?_
          refine t_go 125 129 X241 u rfl d7_125 (by decide) ?_
          refine t_isL X241 u d7_129 (l' := #[.val (.ref x0), .val (.int x1), .val (.long x2), .second, .val (.int (0 : Int32)), .val (.int p2), .val (.int (p2 - (x1 &&& (3 : Int32)))), .val (.long ((((x1.toUInt32 >>> ((2 : Int32) &&& 31).toUInt32).toInt32) &&& (31 : Int32)).toInt64)), .second, .val (.int (1 : Int32))]) rfl ?_
          refine t_aN X241 u d7_131 rfl rfl ?_
          have f242 := (((Exa.ext E204 E_w).keep Kq205).keep Kq241)
          refine pt_cV [] [] 0 X241 u hZ hown (wd hw 52 rfl) (m_50 hw) rfl f242 (rm_a6_0 l Z a0 hw [] G GG x0 (1 : Int32) T241.heap O241_ p241_2 (by decide)) rfl d7_132 rfl rfl (by decide) N241_ ?_
          intro T243 L243 X243 e243 N243_
          refine t_iL X243 u d7_135 rfl ?_
          refine t_icN X243 u d7_137 (teq (by decide : (1 : Int32) = (1 : Int32))).2 ?_
          refine t_aN X243 u d7_140 rfl rfl ?_
          refine pt_cV [] [] 0 X243 u hZ hown (wd hw 61 rfl) (m_49 hw) e243 f242 (rm_a8_0 l Z a0 hw [] G GG x0 (0 : Int32) T241.heap O241_ p241_4) rfl d7_141 rfl rfl (by decide) N243_ ?_
          intro T244 L244 X244 e244 N244_
          refine t_iL X244 u d7_144 rfl ?_
          refine t_ifY 146 153 X244 u rfl d7_146 ((if0 _ _).trans (flt (own_t1 hs67_202)).2.1) (by decide) ?_
          refine t_iC X244 u d7_153  ?_
          refine t_icN X244 u d7_154 (teq (by decide : (0 : Int32) = (0 : Int32))).2 ?_
          refine t_iC X244 u d7_157  ?_
          refine t_go 158 162 X244 u rfl d7_158 (by decide) ?_
          exact Go.retN X244 hx (t := .boolean) hret (by simp) hlk (hb hby d7_162) (by decide) (by decide) (by show Q_step ..; rw [e244]; exact ⟨rfl, N244_, K241, ⟨fe, ex0q241, z_x0_reachedq241, z_x0_divergedq241, (p2 - (x1 &&& (3 : Int32))), f242, g_x0, p241_3, p241_5, p241_7, p241_1, p241_6, Or.inl ⟨(0 : Int32), p241_4, p241_2, p241_0⟩⟩⟩)
        · have f245 := ((Fld.ext E204 F_ex).keep Kq205 (ninS (neE E_w.lt hb204) nin0))
          have f246 := ((Fld.ext E204 F_bd).keep Kq205 (ninS (neE E_w.lt hb204) nin0))
          have f247 := ((Fld.ext E204 F_du).keep Kq205 (ninS (neE E_w.lt hb204) nin0))
          have f248 := ((Fld.ext E204 F_lf).keep Kq205 (ninS (neE E_w.lt hb204) nin0))
          have f249 := ((Fld.ext E204 Fe_lf).keep Kq205 (ninS (neE Elf.lt hb204) nin0))
          have f250 := ((Fld.ext E204 Fe1).keep Kq205 (ninS (neE Eli.lt hb204) nin0))
          have f251 := ((Fld.ext E204 Fp2).keep Kq205 (ninS (neE Ea2.lt hb204) nin0))
          have f252 := ((Fld.ext E204 F_nd).keep Kq205 (ninS (neE E_w.lt hb204) nin0))
          have f253 := ((Fld.ext E204 F_rc).keep Kq205 (ninS (neE E_w.lt hb204) nin0))
          have f254 := (LS.keep Kq205 (lsS A204 (by decide) ls0) (LS.ext E204 hLS))
          have f255 := ((Fld.ext E204 F_dv).keep Kq205 (ninS (neE E_w.lt hb204) nin0))
          have f256 := ((Fld.ext E204 F_fe).keep Kq205 (ninS (neE E_w.lt hb204) nin0))
          have f257 := ((Fld.ext E204 F_fe).keep Kq205 (ninS (neE E_w.lt hb204) nin0))
          refine t_cV [(.ref b204)] [] 0 X205 u hZ hown (wd hw 421 rfl) (m_60 hw) rfl ((Exa.ext E204 E_w).keep Kq205) (rm_a59_7 l Z a0 hw [] G GG x0 b204 (0 : Int32) (0 : Int32) (0 : Int32) lf li a2 p2 (p2 - (x1 &&& (3 : Int32))) ((((x1.toUInt32 >>> ((2 : Int32) &&& 31).toUInt32).toInt32) &&& (31 : Int32)).toInt64) nd rc dv fe T205.heap O205_ ((Exa.ext E204 E_w).keep Kq205) f245 (by decide) f246 (by decide) f247 (by decide) f248 ((Exa.ext E204 Elf).keep Kq205) f249 ((Exa.ext E204 Eli).keep Kq205) f250 ((Exa.ext E204 Ea2).keep Kq205) f251 (A204.keep Kq205) p205_0 (own_t2 hs67_202) (own_t1 hs67_202) (own_t3 np2) p205_1 (own_t4 _) f252 g_x0 f253 f254 (Ne.symm (neE E_w.lt hb204)) f255 hs104_217 (exa_ne ((Exa.ext E204 Elf).keep Kq205) ((Exa.ext E204 E_w).keep Kq205) (by decide)) f257) rfl d7_104 rfl rfl (by decide) ?_
          intro v258 T258 L258 Lc258 X258 hQ258 l258
          obtain ⟨z_x0_divergedq258, z_x0_reachedq258, ex0q258, rfl, Nq258, Kq258, p258_0, p258_1, p258_2, p258_3, p258_4, p258_5, p258_6, p258_7, p258_8, p258_9⟩ := hQ258
          have O258_ := extKeep O205_ Kq258 (allS g_x0 all0)
          have K258 := Keep.trans K205 Kq258 (allS k0 all0)
          have N258_ := frA l258 N205_ Nq258
          have g_ex0q258 := Nat.le_trans O205_.1 p258_8
          have sz_ex0q258 := Nat.le_trans K205.1 p258_8
          refine t_iL X258 u d7_107 rfl ?_
          refine t_iL X258 u d7_109 rfl ?_
          refine t_icN X258 u d7_111 (feq hs104_217).1 ?_
          refine t_iL X258 u d7_114 rfl ?_
          refine t_ifN X258 u d7_116 ((if0 _ _).trans (flt (own_t1 hs67_202)).1) ?_
          refine t_iL X258 u d7_119 rfl ?_
          refine t_ifY 121 128 X258 u rfl d7_121 ((if0 _ _).trans (teq (by decide : (0 : Int32) = (0 : Int32))).1) (by decide) ?_
          refine t_iC X258 u d7_128  ?_
          refine t_isL X258 u d7_129 (l' := #[.val (.ref x0), .val (.int x1), .val (.long x2), .second, .val (.int (0 : Int32)), .val (.int p2), .val (.int (p2 - (x1 &&& (3 : Int32)))), .val (.long ((((x1.toUInt32 >>> ((2 : Int32) &&& 31).toUInt32).toInt32) &&& (31 : Int32)).toInt64)), .second, .val (.int (0 : Int32))]) rfl ?_
          refine t_aN X258 u d7_131 rfl rfl ?_
          have f259 := (((Exa.ext E204 E_w).keep Kq205).keep Kq258)
          refine pt_cV [] [] 0 X258 u hZ hown (wd hw 52 rfl) (m_50 hw) rfl f259 (rm_a6_2 l Z a0 hw [] G GG x0 (0 : Int32) (0 : Int32) T258.heap O258_ p258_2 (by decide) p258_0 (by decide)) rfl d7_132 rfl rfl (by decide) N258_ ?_
          intro T260 L260 X260 e260 N260_
          refine t_iL X260 u d7_135 rfl ?_
          refine t_icN X260 u d7_137 (teq (by decide : (0 : Int32) = (0 : Int32))).2 ?_
          refine t_aN X260 u d7_140 rfl rfl ?_
          refine pt_cV [] [] 0 X260 u hZ hown (wd hw 61 rfl) (m_49 hw) e260 f259 (rm_a8_0 l Z a0 hw [] G GG x0 (0 : Int32) T258.heap O258_ p258_4) rfl d7_141 rfl rfl (by decide) N260_ ?_
          intro T261 L261 X261 e261 N261_
          refine t_iL X261 u d7_144 rfl ?_
          refine t_ifY 146 153 X261 u rfl d7_146 ((if0 _ _).trans (flt (own_t1 hs67_202)).2.1) (by decide) ?_
          refine t_iC X261 u d7_153  ?_
          refine t_icN X261 u d7_154 (teq (by decide : (0 : Int32) = (0 : Int32))).2 ?_
          refine t_iC X261 u d7_157  ?_
          refine t_go 158 162 X261 u rfl d7_158 (by decide) ?_
          exact Go.retN X261 hx (t := .boolean) hret (by simp) hlk (hb hby d7_162) (by decide) (by decide) (by show Q_step ..; rw [e261]; exact ⟨rfl, N261_, K258, ⟨fe, ex0q258, z_x0_reachedq258, z_x0_divergedq258, (p2 - (x1 &&& (3 : Int32))), f259, g_x0, p258_3, p258_5, p258_7, p258_1, p258_6, Or.inr (Or.inr (Or.inr ⟨p258_4, p258_2, p258_0, nfe, p258_9⟩))⟩⟩)
      · refine pt_cS [(.int (-1 : Int32)), (.int (p2 - (x1 &&& (3 : Int32))))] [] 0 X201 u hZ hown (wd hw 412 rfl) (m_20 hw) e201 (rm_a25_0 l Z a0 hw [] G GG (-1 : Int32) (p2 - (x1 &&& (3 : Int32))) h0 O0 hs67_202) rfl d7_67 rfl rfl (by decide) N201_ ?_
        intro T262 L262 X262 e262 N262_
        refine t_isL X262 u d7_70 (l' := #[.val (.ref x0), .val (.int x1), .val (.long x2), .second, .val (.int (0 : Int32)), .val (.int p2), .val (.int (-1 : Int32)), .unset, .unset, .unset]) rfl ?_
        refine t_iL X262 u d7_72 rfl ?_
        refine t_ifN X262 u d7_74 ((if0 _ _).trans (tlt (by decide : (-1 : Int32) < (0 : Int32))).2.1) ?_
        refine Go.step (X262.ldc2Long hx hown (mvT hZ (wd hw 505 rfl)) (g := (mkF m 77 #[.val (.ref x0), .val (.int x1), .val (.long x2), .second, .val (.int (0 : Int32)), .val (.int p2), .val (.int (-1 : Int32)), .unset, .unset, .unset] [])) rfl (hb hby d7_77)) ?_
        refine t_go 80 90 X262 u rfl d7_80 (by decide) ?_
        refine Go.step (fun _ kt_ => XS.lstore X262.here hx rfl (hb hby d7_90) rfl (l' := #[.val (.ref x0), .val (.int x1), .val (.long x2), .second, .val (.int (0 : Int32)), .val (.int p2), .val (.int (-1 : Int32)), .val (.long (-1 : Int64)), .second, .unset]) rfl kt_) ?_
        refine t_aN X262 u d7_92 rfl rfl ?_
        refine t_new X262 u hZ hown (wd hw 413 rfl) (wd hw 414 rfl) (wd hw 14 rfl) e262 d7_93 (by decide) ?_
        intro T263 h263 b263 X263 e263 E263 hb263 A263 D263
        have g_b263 := leE O0.1 hb263
        have O263_ := extTr O0 E263
        have sz_b263 := leE (Keep.refl h0 [x0]).1 hb263
        have K263 := Keep.ext (Keep.refl h0 [x0]) E263
        have F263_epoch : fl_1 Z h263 b263 (.int (0 : Int32)) := D263 (Or.inr (wd hw 22 rfl)) (ty := .int) pf_I
        have F263_endOffset : fl_26 Z h263 b263 (.long (0 : Int64)) := D263 (Or.inr (wd hw 420 rfl)) (ty := .long) pf_J
        refine t_dup X263 u d7_96 rfl ?_
        refine t_iL X263 u d7_97 rfl ?_
        refine t_lL X263 u d7_99 rfl ?_
        refine t_cN [(.int (-1 : Int32)), (.long (-1 : Int64))] [(.ref b263), (.ref x0)] 2 X263 u hZ hown rfl (wd hw 415 rfl) (m_57 hw) e263 (rm_a58_0 l Z a0 hw [] G GG b263 (-1 : Int32) (-1 : Int64) (0 : Int32) (0 : Int64) h263 O263_ A263 F263_epoch g_b263 F263_endOffset) rfl d7_101 rfl rfl (by decide) ?_
        intro v264 T264 L264 Lc264 X264 hQ264 l264
        obtain ⟨rfl, Nq264, Kq264, p264_0, p264_1⟩ := hQ264
        have O264_ := extKeep O263_ Kq264 (allS g_b263 all0)
        have K264 := Keep.trans K263 Kq264 (allS (Or.inr sz_b263) all0)
        have N264_ := frA l264 N262_ Nq264
        have f265 := ((Fld.ext E263 F_ex).keep Kq264 (ninS (neE E_w.lt hb263) nin0))
        have f266 := ((Fld.ext E263 F_bd).keep Kq264 (ninS (neE E_w.lt hb263) nin0))
        have f267 := ((Fld.ext E263 F_du).keep Kq264 (ninS (neE E_w.lt hb263) nin0))
        have f268 := ((Fld.ext E263 F_lf).keep Kq264 (ninS (neE E_w.lt hb263) nin0))
        have f269 := ((Fld.ext E263 Fe_lf).keep Kq264 (ninS (neE Elf.lt hb263) nin0))
        have f270 := ((Fld.ext E263 Fe1).keep Kq264 (ninS (neE Eli.lt hb263) nin0))
        have f271 := ((Fld.ext E263 Fp2).keep Kq264 (ninS (neE Ea2.lt hb263) nin0))
        have f272 := ((Fld.ext E263 F_nd).keep Kq264 (ninS (neE E_w.lt hb263) nin0))
        have f273 := ((Fld.ext E263 F_nd).keep Kq264 (ninS (neE E_w.lt hb263) nin0))
        have f274 := ((Fld.ext E263 F_fe).keep Kq264 (ninS (neE E_w.lt hb263) nin0))
        have f275 := ((Fld.ext E263 F_rc).keep Kq264 (ninS (neE E_w.lt hb263) nin0))
        have f276 := ((Fld.ext E263 F_dv).keep Kq264 (ninS (neE E_w.lt hb263) nin0))
        have f277 := ((Fld.ext E263 F_nd).keep Kq264 (ninS (neE E_w.lt hb263) nin0))
        have f278 := ((Fld.ext E263 F_fe).keep Kq264 (ninS (neE E_w.lt hb263) nin0))
        have f279 := ((Fld.ext E263 F_rc).keep Kq264 (ninS (neE E_w.lt hb263) nin0))
        have f280 := ((Fld.ext E263 F_dv).keep Kq264 (ninS (neE E_w.lt hb263) nin0))
        refine t_cV [(.ref b263)] [] 0 X264 u hZ hown (wd hw 421 rfl) (m_60 hw) rfl ((Exa.ext E263 E_w).keep Kq264) (rm_a59_8 l Z a0 hw [] G GG x0 b263 (0 : Int32) (0 : Int32) (0 : Int32) lf li a2 p2 (-1 : Int32) nd fe rc dv T264.heap O264_ ((Exa.ext E263 E_w).keep Kq264) f265 (by decide) f266 (by decide) f267 (by decide) f268 ((Exa.ext E263 Elf).keep Kq264) f269 ((Exa.ext E263 Eli).keep Kq264) f270 ((Exa.ext E263 Ea2).keep Kq264) f271 (A263.keep Kq264) p264_0 (by decide) f277 g_x0 f278 f279 f280) rfl d7_104 rfl rfl (by decide) ?_
        intro v281 T281 L281 Lc281 X281 hQ281 l281
        obtain ⟨z_x0_divergedq281, z_x0_reachedq281, rfl, Nq281, Kq281, p281_0, p281_1, p281_2, p281_3, p281_4, p281_5, p281_6, p281_7⟩ := hQ281
        have O281_ := extKeep O264_ Kq281 (allS g_x0 all0)
        have K281 := Keep.trans K264 Kq281 (allS k0 all0)
        have N281_ := frA l281 N264_ Nq281
        refine t_iL X281 u d7_107 rfl ?_
        refine t_iL X281 u d7_109 rfl ?_
        refine t_icN X281 u d7_111 (feq (own_t5 np2)).1 ?_
        refine t_iL X281 u d7_114 rfl ?_
        refine t_ifY 116 128 X281 u rfl d7_116 ((if0 _ _).trans (tlt (by decide : (-1 : Int32) < (0 : Int32))).1) (by decide) ?_
        refine t_iC X281 u d7_128  ?_
        refine t_isL X281 u d7_129 (l' := #[.val (.ref x0), .val (.int x1), .val (.long x2), .second, .val (.int (0 : Int32)), .val (.int p2), .val (.int (-1 : Int32)), .val (.long (-1 : Int64)), .second, .val (.int (0 : Int32))]) rfl ?_
        refine t_aN X281 u d7_131 rfl rfl ?_
        have f282 := (((Exa.ext E263 E_w).keep Kq264).keep Kq281)
        refine pt_cV [] [] 0 X281 u hZ hown (wd hw 52 rfl) (m_50 hw) rfl f282 (rm_a6_2 l Z a0 hw [] G GG x0 (0 : Int32) (0 : Int32) T281.heap O281_ p281_2 (by decide) p281_0 (by decide)) rfl d7_132 rfl rfl (by decide) N281_ ?_
        intro T283 L283 X283 e283 N283_
        refine t_iL X283 u d7_135 rfl ?_
        refine t_icN X283 u d7_137 (teq (by decide : (0 : Int32) = (0 : Int32))).2 ?_
        refine t_aN X283 u d7_140 rfl rfl ?_
        refine pt_cV [] [] 0 X283 u hZ hown (wd hw 61 rfl) (m_49 hw) e283 f282 (rm_a8_0 l Z a0 hw [] G GG x0 (1 : Int32) T281.heap O281_ p281_4) rfl d7_141 rfl rfl (by decide) N283_ ?_
        intro T284 L284 X284 e284 N284_
        refine t_iL X284 u d7_144 rfl ?_
        refine t_ifN X284 u d7_146 ((if0 _ _).trans (tlt (by decide : (-1 : Int32) < (0 : Int32))).2.1) ?_
        refine t_iC X284 u d7_149  ?_
        refine t_go 150 154 X284 u rfl d7_150 (by decide) ?_
        refine t_icN X284 u d7_154 (teq (by decide : (1 : Int32) = (1 : Int32))).2 ?_
        refine t_iC X284 u d7_157  ?_
        refine t_go 158 162 X284 u rfl d7_158 (by decide) ?_
        have f285 := (LS.keep Kq281 (lsS ((Exa.ext E263 E_w).keep Kq264) (by decide) ls0) (LS.keep Kq264 (lsS A263 (by decide) ls0) (LS.ext E263 hLS)))
        exact Go.retN X284 hx (t := .boolean) hret (by simp) hlk (hb hby d7_162) (by decide) (by decide) (by show Q_step ..; rw [e284]; exact ⟨rfl, N284_, K281, ⟨fe, lf, z_x0_reachedq281, z_x0_divergedq281, (-1 : Int32), f282, g_x0, p281_3, p281_5, p281_7, p281_1, p281_6, Or.inr (Or.inr (Or.inl ⟨p281_4, p281_2, p281_0, f285⟩))⟩⟩)
theorem own_es (x0 : Int32) : (((x0 &&& (2147483647 : Int32)) % (3 : Int32)) = 0 ∨ ((x0 &&& (2147483647 : Int32)) % (3 : Int32)) = 1 ∨ ((x0 &&& (2147483647 : Int32)) % (3 : Int32)) = 2) ∧ ¬ (((x0 >>> ((2 : Int32) &&& 31)) &&& (3 : Int32)) < (0 : Int32)) ∧ ¬ (((((x0 >>> ((2 : Int32) &&& 31)) &&& (3 : Int32)) + (1 : Int32)) + ((x0 >>> ((4 : Int32) &&& 31)) &&& (3 : Int32))) < (0 : Int32)) ∧ ((x0 >>> ((2 : Int32) &&& 31)) &&& (3 : Int32)) < ((((x0 >>> ((2 : Int32) &&& 31)) &&& (3 : Int32)) + (1 : Int32)) + ((x0 >>> ((4 : Int32) &&& 31)) &&& (3 : Int32))) ∧ ¬ ((lcmpW (((x0 >>> ((6 : Int32) &&& 31)) &&& (15 : Int32)).toInt64) (0 : Int64)) < (0 : Int32)) ∧ ¬ ((lcmpW (((((x0 >>> ((6 : Int32) &&& 31)) &&& (15 : Int32)).toInt64) + (1 : Int64)) + (((x0 >>> ((10 : Int32) &&& 31)) &&& (15 : Int32)).toInt64)) (0 : Int64)) < (0 : Int32)) ∧ (0 : Int32) < (lcmpW (((((x0 >>> ((6 : Int32) &&& 31)) &&& (15 : Int32)).toInt64) + (1 : Int64)) + (((x0 >>> ((10 : Int32) &&& 31)) &&& (15 : Int32)).toInt64)) (((x0 >>> ((6 : Int32) &&& 31)) &&& (15 : Int32)).toInt64)) ∧ ¬ ((lcmpW (((x0 >>> ((6 : Int32) &&& 31)) &&& (15 : Int32)).toInt64) (((((x0 >>> ((6 : Int32) &&& 31)) &&& (15 : Int32)).toInt64) + (1 : Int64)) + (((x0 >>> ((10 : Int32) &&& 31)) &&& (15 : Int32)).toInt64))) = (0 : Int32)) := by
  have h1 := c_mask x0 2147483647 31 (by decide) (by decide)
  have h2 := (c_irem (x0 &&& 2147483647) 3 3 rfl).1 (by rw [h1]; omega)
  have hn : ∀ k : Int32, k.toInt = ((x0 &&& (2147483647 : Int32)) % (3 : Int32)).toInt → (k = 0 ∨ k = 1 ∨ k = 2) := fun k hk => by
    rw [h2] at hk
    rcases (by omega : k.toInt = 0 ∨ k.toInt = 1 ∨ k.toInt = 2) with q | q | q
    · exact Or.inl (Int32.toInt_inj.mp q)
    · exact Or.inr (Or.inl (Int32.toInt_inj.mp q))
    · exact Or.inr (Or.inr (Int32.toInt_inj.mp q))
  refine ⟨hn _ rfl, ?_⟩
  generalize (x0 >>> ((2 : Int32) &&& 31)) = y2
  generalize (x0 >>> ((4 : Int32) &&& 31)) = y4
  generalize (x0 >>> ((6 : Int32) &&& 31)) = y6
  generalize (x0 >>> ((10 : Int32) &&& 31)) = y10
  have m2 := c_mask y2 3 2 (by decide) (by decide)
  have m4 := c_mask y4 3 2 (by decide) (by decide)
  have m6 := c_mask y6 15 4 (by decide) (by decide)
  have m10 := c_mask y10 15 4 (by decide) (by decide)
  have t6 : ((y6 &&& (15 : Int32)).toInt64).toInt = (y6 &&& 15).toInt := Int32.toInt_toInt64 _
  have t10 : ((y10 &&& (15 : Int32)).toInt64).toInt = (y10 &&& 15).toInt := Int32.toInt_toInt64 _
  generalize (y2 &&& (3 : Int32)) = z2 at *
  generalize (y4 &&& (3 : Int32)) = z4 at *
  generalize (y6 &&& (15 : Int32)).toInt64 = z6 at *
  generalize (y10 &&& (15 : Int32)).toInt64 = z10 at *
  have a1 := c_iadd z2 1
  have a2 := c_iadd (z2 + 1) z4
  have r1 := rng32 (z2 + 1)
  have r2 := rng32 ((z2 + 1) + z4)
  have b1 := c_ladd z6 1
  have b2 := c_ladd (z6 + 1) z10
  have r3 := rng64 (z6 + 1)
  have r4 := rng64 ((z6 + 1) + z10)
  have i0 : (0 : Int32).toInt = 0 := rfl
  have i1 : (1 : Int32).toInt = 1 := rfl
  have j0 : (0 : Int64).toInt = 0 := rfl
  have j1 : (1 : Int64).toInt = 1 := rfl
  rw [(own_lc _ _).1, (own_lc _ _).1, (own_lc _ _).2.1, (own_lc _ _).2.2, Int32.lt_iff_toInt_lt, Int32.lt_iff_toInt_lt, Int32.lt_iff_toInt_lt, Int64.lt_iff_toInt_lt, Int64.lt_iff_toInt_lt, Int64.lt_iff_toInt_lt, ← Int64.toInt_inj]
  refine ⟨?_, ?_, ?_, ?_, ?_, ?_, ?_⟩ <;> omega
theorem rm_a5_1  (h0 : Heap) (O0 : Ext Z.heap h0) :
    MF hw GG l y_5 jdk_45_method_2_code 1 (some .boolean) ws ⟨0, 0, 0, 0⟩ h0 #[(.ref G.ln)] (Qp (some (.int (1 : Int32))) Z h0) := by
  refine own_mF #[.val (.ref G.ln)] (plainFor_of_name pn_5) (fun _ => rfl) ?_
  intro p e s m below meth c s₁ u hlk hret hZ hown hnm X0 e0 N0
  obtain ⟨hx, hby, hml⟩ := id u
  refine t_aN X0 u d5_0 rfl rfl ?_
  refine t_gF X0 u hZ hown (wd hw 42 rfl) e0 (Fld.ext O0 GG.G_lnf) d5_1 ?_
  intro T1 X1 e1
  obtain ⟨cl2, Ar2, -, S2, N2, -, -⟩ := id (Arv.ext GG.G_lvv O0)
  refine Go.step (X1.arraylength hx (by rw [e1]; exact Ar2.1) (State.isArrayOf_alike hZ.alike Ar2.2.1) (g := (mkF m 4 #[.val (.ref G.ln)] [(.ref G.lv)])) rfl rfl (hb hby d5_4)) ?_
  rw [len_of S2 N2]
  show Go _ _ _ _ _ _ _ _ T1 (mkF m 5 #[.val (.ref G.ln)] [(.int (0 : Int32))])
  refine t_ifN X1 u d5_5 ((if0 _ _).trans (teq (by decide : (0 : Int32) = (0 : Int32))).2) ?_
  refine t_iC X1 u d5_8  ?_
  refine t_go 9 13 X1 u rfl d5_9 (by decide) ?_
  exact t_rN X1 u hret hlk (by simp) rfl d5_13 e1 N0 (by decide)
theorem rm_a4_2  (h0 : Heap) (O0 : Ext Z.heap h0) :
    MF hw GG l y_4 prog_22_method_2_code 1 (some .boolean) ws ⟨1, 0, 0, 12⟩ h0 #[(.ref G.le)] (Qp (some (.int (1 : Int32))) Z h0) := by
  refine own_mF #[.val (.ref G.le)] (plainFor_of_name pn_4) (fun _ => rfl) ?_
  intro p e s m below meth c s₁ u hlk hret hZ hown hnm X0 e0 N0
  refine t_aN X0 u d4_0 rfl rfl ?_
  refine t_gF X0 u hZ hown (wd hw 30 rfl) e0 (Fld.ext O0 GG.G_lef) d4_1 ?_
  intro T1 X1 e1
  refine pt_cI [] [] 0 X1 u hZ hown (wd hw 32 rfl) (m_54 hw) e1 (Exa.ext O0 GG.G_lne) (rm_a5_1 l Z a0 hw [] G GG  h0 O0 ) rfl d4_4 rfl rfl (by decide) N0 ?_
  intro T2 L2 X2 e2 N2_
  exact t_rN X2 u hret hlk (by simp) rfl d4_9 e2 N2_ (by decide)
theorem pn_1 : plainName "com/example/clean_epoch/cleanepoch/log/DivergenceWalk" = true := by first | (simp [plainName, overriddenIn]; done) | decide +kernel
def Q_a1_0 (Z : State) (G : GT) (x0 : Addr) (w5 w6 : Int32) (h0 : Heap) (v : Option Value) (h : Heap) (L : List Loc) : Prop := ∃ (z_x0_reached : Int64) (z_x0_diverged : Int32), v = none ∧ Fr Z.heap.size L ∧ Keep h0 h [x0] ∧ fl_11 Z h x0 (.int (-1 : Int32)) ∧ fl_7 Z h x0 (.int (-1 : Int32)) ∧ fl_8 Z h x0 (.ref G.le) ∧ fl_9 Z h x0 (.long z_x0_reached) ∧ fl_13 Z h x0 (.int (1 : Int32)) ∧ fl_12 Z h x0 (.int w5) ∧ fl_14 Z h x0 (.int w6) ∧ fl_10 Z h x0 (.int z_x0_diverged)
theorem rm_a1_0 (x0 : Addr) (x2 : Int64) (w1 w2 : Int32) (w3 : Int64) (w4 w5 w6 w7 : Int32) (h0 : Heap) (O0 : Ext Z.heap h0) (r0 : ex_6 Z h0 x0) (r1 : fl_11 Z h0 x0 (.int w1)) (r2 : Z.heap.size ≤ x0) (r3 : fl_7 Z h0 x0 (.int w2)) (r4 : fl_8 Z h0 x0 .null) (r5 : fl_9 Z h0 x0 (.long w3)) (r6 : fl_13 Z h0 x0 (.int w4)) (r7 : fl_12 Z h0 x0 (.int w5)) (r8 : fl_14 Z h0 x0 (.int w6)) (r9 : fl_10 Z h0 x0 (.int w7)) :
    MF hw GG l y_1 prog_15_method_1_code 4 none ws ⟨2, 0, 0, 25⟩ h0 #[(.ref x0), (.ref G.le), (.long x2)] (Q_a1_0 Z G x0 w5 w6 h0) := by
  refine own_mF #[.val (.ref x0), .val (.ref G.le), .val (.long x2), .second] (plainFor_of_name pn_1) (fun _ => rfl) ?_
  intro p e s m below meth c s₁ u hlk hret hZ hown hnm X0 e0 N0
  obtain ⟨hx, hby, hml⟩ := id u
  refine t_aN X0 u d1_0 rfl rfl ?_
  refine t_in 0 X0 u hZ hown (wd hw 10 rfl) (wd hw 11 rfl) (wd hw 12 rfl) e0 rfl d1_1 rfl (by decide) ?_
  intro T1 X1 e1
  refine t_aN X1 u d1_4 rfl rfl ?_
  refine t_gS X1 u hZ hown (wd hw 13 rfl) e1 (Sta.ext O0 GG.G_nn) d1_5 ?_
  intro T2 X2 e2
  refine pt_cV [] [(.ref x0)] 1 X2 u hZ hown (wd hw 16 rfl) (m_46 hw) e2 (Exa.ext O0 GG.G_nne) (rm_a3_1 l Z a0 hw [] G GG  h0 O0 ) rfl d1_8 rfl rfl (by decide) N0 ?_
  intro T3 L3 X3 e3 N3_
  refine t_pF X3 u hZ hown (wd hw 23 rfl) e3 r1 r0 (Or.inl (wd hw 24 rfl)) (wd hw 5 rfl) pf_I rfl rfl d1_11 ?_
  intro T4 h4 X4 e4 W4
  have N4_ := Fr.snoc X4 N3_ r2
  have O4_ := extWr O0 W4 r2
  have K4 := Keep.wr (Keep.refl h0 [x0]) W4 k0
  have F4 := Fld.same W4 r1
  refine t_aN X4 u d1_14 rfl rfl ?_
  refine t_aN X4 u d1_15 rfl rfl ?_
  refine pt_cV [] [(.ref x0)] 1 X4 u hZ hown (wd hw 25 rfl) (m_55 hw) e4 (Exa.ext O4_ GG.G_lee) (rm_a4_2 l Z a0 hw [] G GG  h4 O4_ ) rfl d1_16 rfl rfl (by decide) N4_ ?_
  intro T5 L5 X5 e5 N5_
  refine t_ifN X5 u d1_19 ((if0 _ _).trans (feq (by decide : ¬ ((1 : Int32) = (0 : Int32)))).1) ?_
  refine t_gS X5 u hZ hown (wd hw 13 rfl) e5 (Sta.ext O4_ GG.G_nn) d1_22 ?_
  intro T6 X6 e6
  refine pt_cV [] [(.ref x0)] 1 X6 u hZ hown (wd hw 16 rfl) (m_46 hw) e6 (Exa.ext O4_ GG.G_nne) (rm_a3_1 l Z a0 hw [] G GG  h4 O4_ ) rfl d1_25 rfl rfl (by decide) N5_ ?_
  intro T7 L7 X7 e7 N7_
  refine t_go 28 47 X7 u rfl d1_28 (by decide) ?_
  refine t_pF X7 u hZ hown (wd hw 44 rfl) e7 (fR W4 r3 (sn_43 hw)) (Exa.wr W4 r0) (Or.inr ⟨(wd hw 45 rfl), rfl, hnm⟩) (wd hw 5 rfl) pf_I rfl rfl d1_47 ?_
  intro T8 h8 X8 e8 W8
  have N8_ := Fr.snoc X8 N7_ r2
  have O8_ := extWr O4_ W8 r2
  have K8 := Keep.wr K4 W8 k0
  have F8 := Fld.same W8 (fR W4 r3 (sn_43 hw))
  refine t_aN X8 u d1_50 rfl rfl ?_
  refine t_aN X8 u d1_51 rfl rfl ?_
  refine t_pF X8 u hZ hown (wd hw 46 rfl) e8 (fS W8 (fS W4 r4 (sn_33 hw)) (sn_28 hw)) (Exa.wr W8 (Exa.wr W4 r0)) (Or.inl (wd hw 47 rfl)) (wd hw 5 rfl) pf_Lcom_example_clean_epoch_cleanepoch_log_Lineage_ rfl rfl d1_52 ?_
  intro T9 h9 X9 e9 W9
  have N9_ := Fr.snoc X9 N8_ r2
  have O9_ := extWr O8_ W9 r2
  have K9 := Keep.wr K8 W9 k0
  have F9 := Fld.same W9 (fS W8 (fS W4 r4 (sn_33 hw)) (sn_28 hw))
  refine t_aN X9 u d1_55 rfl rfl ?_
  refine t_lN X9 u d1_56 rfl ?_
  have f10 := (fS W9 (fS W8 (fS W4 r5 (sn_31 hw)) (sn_26 hw)) (sn_17 hw))
  refine t_pF X9 u hZ hown (wd hw 48 rfl) e9 f10 (Exa.wr W9 (Exa.wr W8 (Exa.wr W4 r0))) (Or.inl (wd hw 49 rfl)) (wd hw 5 rfl) pf_J rfl rfl d1_57 ?_
  intro T11 h11 X11 e11 W11
  have N11_ := Fr.snoc X11 N9_ r2
  have O11_ := extWr O9_ W11 r2
  have K11 := Keep.wr K9 W11 k0
  have F11 := Fld.same W11 f10
  refine t_aN X11 u d1_60 rfl rfl ?_
  refine t_aN X11 u d1_61 rfl rfl ?_
  refine pt_cV [] [(.ref x0)] 1 X11 u hZ hown (wd hw 25 rfl) (m_55 hw) e11 (Exa.ext O11_ GG.G_lee) (rm_a4_2 l Z a0 hw [] G GG  h11 O11_ ) rfl d1_62 rfl rfl (by decide) N11_ ?_
  intro T12 L12 X12 e12 N12_
  have f13 := (Exa.wr W11 (Exa.wr W9 (Exa.wr W8 (Exa.wr W4 r0))))
  have f14 := (fR W11 (fR W9 (fS W8 (fS W4 r6 (sn_35 hw)) (sn_30 hw)) (sn_24 hw)) (sn_22 hw))
  refine t_pN X12 u hZ hown (wd hw 50 rfl) e12 f14 f13 (Or.inl (wd hw 51 rfl)) (wd hw 5 rfl) (.int (1 : Int32)) pf_Z rfl rfl d1_65 ?_
  intro T15 h15 X15 e15 W15
  have N15_ := Fr.snoc X15 N12_ r2
  have O15_ := extWr O11_ W15 r2
  have K15 := Keep.wr K11 W15 k0
  have F15 := Fld.same W15 f14
  have f16 := (fR W15 (fR W11 (fR W9 (fS W8 F4 (sn_43 hw)) (sn_33 hw)) (sn_31 hw)) (sn_35 hw))
  have f17 := (fR W15 (fR W11 (fR W9 F8 (sn_28 hw)) (sn_26 hw)) (sn_30 hw))
  have f18 := (fS W15 (fR W11 F9 (sn_17 hw)) (sn_24 hw))
  have f19 := (fR W11 (fR W9 (fS W8 (fS W4 r7 (sn_34 hw)) (sn_29 hw)) (sn_21 hw)) (sn_19 hw))
  have f20 := (fR W11 (fR W9 (fS W8 (fR W4 r8 (sn_42 hw)) (sn_44 hw)) (sn_38 hw)) (sn_36 hw))
  have f21 := (fR W11 (fS W9 (fS W8 (fS W4 r9 (sn_32 hw)) (sn_27 hw)) (sn_18 hw)) (sn_16 hw))
  exact Go.retV X15 hx hret hlk (hb hby d1_68) (by decide) (by decide) (by show Q_a1_0 ..; rw [e15]; exact ⟨x2, w7, rfl, N15_, K15, f16, f17, f18, (fS W15 F11 (sn_22 hw)), F15, (fS W15 f19 (sn_25 hw)), (fR W15 f20 (sn_40 hw)), (fS W15 f21 (sn_23 hw))⟩)
theorem rm_a16_1 (x0 x1 : Int32) (h0 : Heap) (O0 : Ext Z.heap h0) (r0 : ¬ (x1 < x0)) :
    MF hw GG l y_16 jdk_29_method_69_code 2 (some .int) ws ⟨0, 0, 0, 0⟩ h0 #[(.int x0), (.int x1)] (Qp (some (.int x0)) Z h0) := by
  refine own_mF #[.val (.int x0), .val (.int x1)] (Jvm.Free.JP.mathPlain rfl (by decide +kernel)) (fun _ => rfl) ?_
  intro p e s m below meth c s₁ u hlk hret hZ hown hnm X0 e0 N0
  refine t_iN X0 u d16_0 rfl ?_
  refine t_iN X0 u d16_1 rfl ?_
  refine t_icN X0 u d16_2 (flt r0).2.2.1 ?_
  refine t_iN X0 u d16_5 rfl ?_
  refine t_go 6 10 X0 u rfl d16_6 (by decide) ?_
  exact t_rI X0 u hret hlk d16_10 e0 N0 (by decide)
def Q_a15_2 (Z : State)  (h0 : Heap) (v : Option Value) (h : Heap) (L : List Loc) : Prop := ∃ (b2 : Addr) (k2 : ClassId), v = some (.ref b2) ∧ Fr Z.heap.size L ∧ Keep h0 h [] ∧ h0.size ≤ b2 ∧ ex_0 Z h b2 ∧ Arv Z h b2 k2 (.object "java/lang/Object") (0 : Int32) [] .null ∧ Ovr Z k2 "java/lang/Object"
theorem rm_a15_2  (h0 : Heap) (O0 : Ext Z.heap h0) :
    MF hw GG l y_15 jdk_65_method_120_code 4 (some (.array (.object "java/lang/Object"))) ws ⟨1, 1, 0, 18⟩ h0 #[(.ref G.lv), (.int (0 : Int32)), (.ref G.mo)] (Q_a15_2 Z  h0) := by
  refine own_mF #[.val (.ref G.lv), .val (.int (0 : Int32)), .val (.ref G.mo), .unset] (plainFor_of_name pn_15) (fun _ => rfl) ?_
  intro p e s m below meth c s₁ u hlk hret hZ hown hnm X0 e0 N0
  obtain ⟨hx, hby, hml⟩ := id u
  refine t_aN X0 u d15_0 rfl rfl ?_
  obtain ⟨T1, X1, e1, st1⟩ := own_ldcMir X0 hx hZ hown (wd hw 116 rfl) e0 GG.G_mo (g := (mkF m 1 #[.val (.ref G.lv), .val (.int (0 : Int32)), .val (.ref G.mo), .unset] [(.ref G.mo)])) rfl (hb hby d15_1)
  refine Go.step st1 ?_
  refine Go.step (fun _ kt_ => Jvm.RoadKit.acmp (g := (mkF m 3 #[.val (.ref G.lv), .val (.int (0 : Int32)), .val (.ref G.mo), .unset] [(.ref G.mo), (.ref G.mo)])) X1 hx rfl rfl rfl (pc0 := 3) (pc' := 6) (same := true) rfl (hb hby d15_3) rfl (decide_eq_true rfl) (by decide) (by decide) kt_) ?_
  show Go _ _ _ _ _ _ _ _ T1 (mkF m 6 #[.val (.ref G.lv), .val (.int (0 : Int32)), .val (.ref G.mo), .unset] [])
  refine t_iN X1 u d15_6 rfl ?_
  obtain ⟨T2, h2, k2, X2, e2, E2, A2, B2, O2, st2⟩ := newRE X1 hx hZ hown (wd hw 117 rfl) (wd hw 118 rfl) e1 (g := (mkF m 7 #[.val (.ref G.lv), .val (.int (0 : Int32)), .val (.ref G.mo), .unset] [(.int (0 : Int32))])) rfl (hb hby d15_7) rfl (by decide) (cap := 0) (by decide) (by decide) (by decide) (by decide) rfl
  obtain ⟨b2, hb2⟩ : ∃ z, z = h0.size := ⟨_, rfl⟩
  rw [← hb2] at A2 B2 st2
  refine Go.step st2 ?_
  have g_b2 := leE O0.1 hb2
  have O2_ := extTr O0 E2
  have sz_b2 := leE (Keep.refl h0 []).1 hb2
  have K2 := Keep.ext (Keep.refl h0 []) E2
  have V2 : Arv Z h2 b2 k2 (.object "java/lang/Object") (0 : Int32) [] .null := (Arv.new A2 (by decide)).pad (pad_rep [] .null 0)
  refine t_go 10 24 X2 u rfl d15_10 (by decide) ?_
  refine t_asN X2 u d15_24 rfl (l' := #[.val (.ref G.lv), .val (.int (0 : Int32)), .val (.ref G.mo), .val (.ref b2)]) rfl ?_
  refine t_aN X2 u d15_25 rfl rfl ?_
  refine t_iC X2 u d15_26  ?_
  refine t_aN X2 u d15_27 rfl rfl ?_
  refine t_iC X2 u d15_28  ?_
  refine t_aN X2 u d15_29 rfl rfl ?_
  obtain ⟨cl3, Ar3, -, S3, N3, -, -⟩ := id (Arv.ext GG.G_lvv O2_)
  refine Go.step (X2.arraylength hx (by rw [e2]; exact Ar3.1) (State.isArrayOf_alike hZ.alike Ar3.2.1) (g := (mkF m 30 #[.val (.ref G.lv), .val (.int (0 : Int32)), .val (.ref G.mo), .val (.ref b2)] [(.ref G.lv), (.int (0 : Int32)), (.ref b2), (.int (0 : Int32)), (.ref G.lv)])) rfl rfl (hb hby d15_30)) ?_
  rw [len_of S3 N3]
  show Go _ _ _ _ _ _ _ _ T2 (mkF m 31 #[.val (.ref G.lv), .val (.int (0 : Int32)), .val (.ref G.mo), .val (.ref b2)] [(.int (0 : Int32)), (.int (0 : Int32)), (.ref b2), (.int (0 : Int32)), (.ref G.lv)])
  refine t_iN X2 u d15_31 rfl ?_
  refine pt_cS [(.int (0 : Int32)), (.int (0 : Int32))] [(.int (0 : Int32)), (.ref b2), (.int (0 : Int32)), (.ref G.lv)] 4 X2 u hZ hown (wd hw 119 rfl) (m_30 hw) e2 (rm_a16_1 l Z a0 hw [] G GG (0 : Int32) (0 : Int32) h2 O2_ (by decide)) rfl d15_32 rfl rfl (by decide) N0 ?_
  intro T4 L4 X4 e4 N4_
  obtain ⟨cl5, Ar5, q5, -⟩ := id V2
  obtain ⟨T5, h5, L5, X5, e5, N5_, K5_, V5_, st5⟩ := cpA X4 hx hZ hown (wd hw 123 rfl) (wd hw 126 rfl) (wd hw 124 rfl) (wd hw 125 rfl) e4 (us := []) (Arv.ext GG.G_lvv O2_) V2 (Or.inr ⟨rfl, rfl, trivial⟩) (by decide) (by decide) (by decide) (by decide) (by decide) rfl (by decide) N4_ g_b2 (g := (mkF m 35 #[.val (.ref G.lv), .val (.int (0 : Int32)), .val (.ref G.mo), .val (.ref b2)] [(.int (0 : Int32)), (.int (0 : Int32)), (.ref b2), (.int (0 : Int32)), (.ref G.lv)])) rfl (by rw [hml]; rfl) rfl (hb hby d15_35) (by decide) (W := 0) (by show 2 * 0 + _ ≤ _; exact Nat.le_of_eq rfl) (by decide)
  refine Go.step st5 ?_
  have V5 : Arv Z h5 b2 k2 (.object "java/lang/Object") (0 : Int32) [] .null := V5_
  have O5_ : Ext Z.heap h5 := extKeep O2_ K5_ (allS g_b2 all0)
  have K5 := Keep.trans K2 K5_ (allS (Or.inr sz_b2) all0)
  refine t_aN X5 u d15_38 rfl rfl ?_
  exact Go.retA X5 hx hret rfl rfl hlk (hb hby d15_39) (by decide) (by decide) (by show Q_a15_2 ..; rw [e5]; exact ⟨b2, k2, rfl, N5_, K5, sz_b2, (B2.keep K5_), V5, O2⟩)
def Q_a14_2 (Z : State)  (h0 : Heap) (v : Option Value) (h : Heap) (L : List Loc) : Prop := ∃ (b2q2 : Addr) (k2q2 : ClassId), v = some (.ref b2q2) ∧ Fr Z.heap.size L ∧ Keep h0 h [] ∧ h0.size ≤ b2q2 ∧ ex_0 Z h b2q2 ∧ Arv Z h b2q2 k2q2 (.object "java/lang/Object") (0 : Int32) [] .null ∧ Ovr Z k2q2 "java/lang/Object"
theorem rm_a14_2  (h0 : Heap) (O0 : Ext Z.heap h0) :
    MF hw GG l y_14 jdk_65_method_119_code 2 (some (.array (.object "java/lang/Object"))) ws ⟨2, 1, 0, 33⟩ h0 #[(.ref G.lv), (.int (0 : Int32))] (Q_a14_2 Z  h0) := by
  refine own_mF #[.val (.ref G.lv), .val (.int (0 : Int32))] (plainFor_of_name pn_14) (fun _ => rfl) ?_
  intro p e s m below meth c s₁ u hlk hret hZ hown hnm X0 e0 N0
  obtain ⟨hx, hby, hml⟩ := id u
  refine t_aN X0 u d14_0 rfl rfl ?_
  refine t_iN X0 u d14_1 rfl ?_
  refine t_aN X0 u d14_2 rfl rfl ?_
  obtain ⟨T1, X1, e1, st1⟩ := own_gcls X0 hx hZ hown (wd hw 107 rfl) (wd hw 108 rfl) (wd hw 276 rfl) (wd hw 110 rfl) (wd hw 109 rfl) (wd hw 111 rfl) e0 (Exa.ext O0 GG.G_lve) GG.G_mo (g := (mkF m 3 #[.val (.ref G.lv), .val (.int (0 : Int32))] [(.ref G.lv), (.int (0 : Int32)), (.ref G.lv)])) rfl (by rw [hml]; rfl) rfl (hb hby d14_3) (by decide) (W := 2) (by show 2 * 0 + _ ≤ _; exact Nat.le_of_eq rfl) (by decide)
  refine Go.step st1 ?_
  refine t_cS [(.ref G.lv), (.int (0 : Int32)), (.ref G.mo)] [] 0 X1 u hZ hown (wd hw 113 rfl) (m_31 hw) e1 (rm_a15_2 l Z a0 hw [] G GG  h0 O0 ) rfl d14_6 rfl rfl (by decide) ?_
  intro v2 T2 L2 Lc2 X2 hQ2 l2
  obtain ⟨b2q2, k2q2, rfl, Nq2, Kq2, p2_0, p2_1, p2_2, p2_3⟩ := hQ2
  have O2_ := extKeep O0 Kq2 all0
  have K2 := Keep.trans (Keep.refl h0 []) Kq2 all0
  have N2_ := frA l2 N0 Nq2
  have g_b2q2 := Nat.le_trans O0.1 p2_0
  have sz_b2q2 := Nat.le_trans (Keep.refl h0 []).1 p2_0
  exact Go.retA X2 hx hret rfl rfl hlk (hb hby d14_9) (by decide) (by decide) ⟨b2q2, k2q2, rfl, N2_, K2, sz_b2q2, p2_1, p2_2, p2_3⟩
theorem pn_13 : plainName "java/util/ImmutableCollections$ListN" = true := by first | (simp [plainName, overriddenIn]; done) | decide +kernel
def Q_a13_0 (Z : State)  (h0 : Heap) (v : Option Value) (h : Heap) (L : List Loc) : Prop := ∃ (b2q2q4 : Addr) (k2q2q4 : ClassId), v = some (.ref b2q2q4) ∧ Fr Z.heap.size L ∧ Keep h0 h [] ∧ h0.size ≤ b2q2q4 ∧ ex_0 Z h b2q2q4 ∧ Arv Z h b2q2q4 k2q2q4 (.object "java/lang/Object") (0 : Int32) [] .null ∧ Ovr Z k2q2q4 "java/lang/Object"
theorem rm_a13_0  (h0 : Heap) (O0 : Ext Z.heap h0) :
    MF hw GG l y_13 jdk_45_method_7_code 1 (some (.array (.object "java/lang/Object"))) ws ⟨3, 1, 0, 46⟩ h0 #[(.ref G.ln)] (Q_a13_0 Z  h0) := by
  refine own_mF #[.val (.ref G.ln)] (plainFor_of_name pn_13) (fun _ => rfl) ?_
  intro p e s m below meth c s₁ u hlk hret hZ hown hnm X0 e0 N0
  obtain ⟨hx, hby, hml⟩ := id u
  refine t_aN X0 u d13_0 rfl rfl ?_
  refine t_gF X0 u hZ hown (wd hw 42 rfl) e0 (Fld.ext O0 GG.G_lnf) d13_1 ?_
  intro T1 X1 e1
  refine t_aN X1 u d13_4 rfl rfl ?_
  refine t_gF X1 u hZ hown (wd hw 42 rfl) e1 (Fld.ext O0 GG.G_lnf) d13_5 ?_
  intro T2 X2 e2
  obtain ⟨cl3, Ar3, -, S3, N3, -, -⟩ := id (Arv.ext GG.G_lvv O0)
  refine Go.step (X2.arraylength hx (by rw [e2]; exact Ar3.1) (State.isArrayOf_alike hZ.alike Ar3.2.1) (g := (mkF m 8 #[.val (.ref G.ln)] [(.ref G.lv), (.ref G.lv)])) rfl rfl (hb hby d13_8)) ?_
  rw [len_of S3 N3]
  show Go _ _ _ _ _ _ _ _ T2 (mkF m 9 #[.val (.ref G.ln)] [(.int (0 : Int32)), (.ref G.lv)])
  refine t_cS [(.ref G.lv), (.int (0 : Int32))] [] 0 X2 u hZ hown (wd hw 103 rfl) (m_32 hw) e2 (rm_a14_2 l Z a0 hw [] G GG  h0 O0 ) rfl d13_9 rfl rfl (by decide) ?_
  intro v4 T4 L4 Lc4 X4 hQ4 l4
  obtain ⟨b2q2q4, k2q2q4, rfl, Nq4, Kq4, p4_0, p4_1, p4_2, p4_3⟩ := hQ4
  have O4_ := extKeep O0 Kq4 all0
  have K4 := Keep.trans (Keep.refl h0 []) Kq4 all0
  have N4_ := frA l4 N0 Nq4
  have g_b2q2q4 := Nat.le_trans O0.1 p4_0
  have sz_b2q2q4 := Nat.le_trans (Keep.refl h0 []).1 p4_0
  exact Go.retA X4 hx hret rfl rfl hlk (hb hby d13_12) (by decide) (by decide) ⟨b2q2q4, k2q2q4, rfl, N4_, K4, sz_b2q2q4, p4_1, p4_2, p4_3⟩
theorem pn_10 : plainName "java/util/ArrayList" = true := by first | (simp [plainName, overriddenIn]; done) | decide +kernel
def Q_a10_0 (Z : State) (G : GT) (x0 : Addr) (h0 : Heap) (v : Option Value) (h : Heap) (L : List Loc) : Prop := v = none ∧ Fr Z.heap.size L ∧ Keep h0 h [x0] ∧ fl_17 Z h x0 (.ref G.em) ∧ fl_15 Z h x0 (.int (0 : Int32)) ∧ fl_16 Z h x0 (.int (0 : Int32))
theorem rm_a10_0 (x0 : Addr) (w1 w2 : Int32) (h0 : Heap) (O0 : Ext Z.heap h0) (r0 : ex_7 Z h0 x0) (r1 : fl_15 Z h0 x0 (.int w1)) (r2 : Z.heap.size ≤ x0) (r3 : fl_16 Z h0 x0 (.int w2)) (r4 : fl_17 Z h0 x0 .null) :
    MF hw GG l y_10 jdk_38_method_3_code 3 none ws ⟨4, 1, 0, 58⟩ h0 #[(.ref x0), (.ref G.ln)] (Q_a10_0 Z G x0 h0) := by
  refine own_mF #[.val (.ref x0), .val (.ref G.ln), .unset] (plainFor_of_name pn_10) (fun _ => rfl) ?_
  intro p e s m below meth c s₁ u hlk hret hZ hown hnm X0 e0 N0
  obtain ⟨hx, hby, hml⟩ := id u
  refine t_aN X0 u d10_0 rfl rfl ?_
  refine t_cN [] [] 0 X0 u hZ hown rfl (wd hw 79 rfl) (m_1 hw) e0 (rm_a11_0 l Z a0 hw [] G GG x0 w1 w2 h0 O0 r0 r1 r2 r3 r4) rfl d10_1 rfl rfl (by decide) ?_
  intro v1 T1 L1 Lc1 X1 hQ1 l1
  obtain ⟨rfl, Nq1, Kq1, p1_0, p1_1, p1_2⟩ := hQ1
  have O1_ := extKeep O0 Kq1 (allS r2 all0)
  have K1 := Keep.trans (Keep.refl h0 [x0]) Kq1 (allS k0 all0)
  have N1_ := frA l1 N0 Nq1
  refine t_aN X1 u d10_4 rfl rfl ?_
  refine t_cI [] [] 0 X1 u hZ hown (wd hw 94 rfl) (m_66 hw) rfl (Exa.ext O1_ GG.G_lne) (rm_a13_0 l Z a0 hw [] G GG  T1.heap O1_ ) rfl d10_5 rfl rfl (by decide) ?_
  intro v2 T2 L2 Lc2 X2 hQ2 l2
  obtain ⟨b2q2q4q2, k2q2q4q2, rfl, Nq2, Kq2, p2_0, p2_1, p2_2, p2_3⟩ := hQ2
  have O2_ := extKeep O1_ Kq2 all0
  have K2 := Keep.trans K1 Kq2 all0
  have N2_ := frA l2 N1_ Nq2
  have g_b2q2q4q2 := Nat.le_trans O1_.1 p2_0
  have sz_b2q2q4q2 := Nat.le_trans K1.1 p2_0
  refine t_asN X2 u d10_10 rfl (l' := #[.val (.ref x0), .val (.ref G.ln), .val (.ref b2q2q4q2)]) rfl ?_
  refine t_aN X2 u d10_11 rfl rfl ?_
  refine t_aN X2 u d10_12 rfl rfl ?_
  obtain ⟨cl3, Ar3, -, S3, N3, -, -⟩ := id p2_2
  refine Go.step (X2.arraylength hx Ar3.1 (State.isArrayOf_alike hZ.alike Ar3.2.1) (g := (mkF m 13 #[.val (.ref x0), .val (.ref G.ln), .val (.ref b2q2q4q2)] [(.ref b2q2q4q2), (.ref x0)])) rfl rfl (hb hby d10_13)) ?_
  rw [len_of S3 N3]
  show Go _ _ _ _ _ _ _ _ T2 (mkF m 14 #[.val (.ref x0), .val (.ref G.ln), .val (.ref b2q2q4q2)] [(.int (0 : Int32)), (.ref x0)])
  refine Go.step (fun _ kt_ => XS.dupX1 X2.here hx rfl (hb hby d10_14) rfl rfl rfl kt_) ?_
  refine t_pF X2 u hZ hown (wd hw 127 rfl) rfl (p1_1.keep Kq2 nin0) ((r0.keep Kq1).keep Kq2) (Or.inl (wd hw 128 rfl)) (wd hw 74 rfl) pf_I rfl rfl d10_15 ?_
  intro T4 h4 X4 e4 W4
  have N4_ := Fr.snoc X4 N2_ r2
  have O4_ := extWr O2_ W4 r2
  have K4 := Keep.wr K2 W4 k0
  have F4 := Fld.same W4 (p1_1.keep Kq2 nin0)
  refine t_ifY 18 57 X4 u rfl d10_18 ((if0 _ _).trans (teq (by decide : (0 : Int32) = (0 : Int32))).1) (by decide) ?_
  refine t_aN X4 u d10_57 rfl rfl ?_
  refine t_gS X4 u hZ hown (wd hw 129 rfl) e4 (Sta.ext O4_ GG.G_em) d10_58 ?_
  intro T5 X5 e5
  refine t_pF X5 u hZ hown (wd hw 130 rfl) e5 (fS W4 (p1_2.keep Kq2 nin0) (sn_2 hw)) (Exa.wr W4 ((r0.keep Kq1).keep Kq2)) (Or.inl (wd hw 131 rfl)) (wd hw 74 rfl) pf_ALjava_lang_Object_ rfl rfl d10_61 ?_
  intro T6 h6 X6 e6 W6
  have N6_ := Fr.snoc X6 N4_ r2
  have O6_ := extWr O4_ W6 r2
  have K6 := Keep.wr K4 W6 k0
  have F6 := Fld.same W6 (fS W4 (p1_2.keep Kq2 nin0) (sn_2 hw))
  have f7 := (Exa.wr W6 (Exa.wr W4 ((r0.keep Kq1).keep Kq2)))
  have f8 := (fS W6 (fS W4 (p1_0.keep Kq2 nin0) (sn_0 hw)) (sn_1 hw))
  exact Go.retV X6 hx hret hlk (hb hby d10_64) (by decide) (by decide) (by show Q_a10_0 ..; rw [e6]; exact ⟨rfl, N6_, K6, F6, f8, (fR W6 F4 (sn_2 hw))⟩)
theorem pn_18 : plainName "com/example/clean_epoch/cleanepoch/log/Lineage$Entry" = true := by first | (simp [plainName, overriddenIn]; done) | decide +kernel
def Q_a18_0 (Z : State) (x0 : Addr) (x1 : Int32) (x2 : Int64) (h0 : Heap) (v : Option Value) (h : Heap) (L : List Loc) : Prop := v = none ∧ Fr Z.heap.size L ∧ Keep h0 h [x0] ∧ fl_5 Z h x0 (.int x1) ∧ fl_6 Z h x0 (.long x2)
theorem rm_a18_0 (x0 : Addr) (x1 : Int32) (x2 : Int64) (w1 : Int32) (w2 : Int64) (h0 : Heap) (O0 : Ext Z.heap h0) (r0 : ex_5 Z h0 x0) (r1 : fl_5 Z h0 x0 (.int w1)) (r2 : Z.heap.size ≤ x0) (r3 : fl_6 Z h0 x0 (.long w2)) :
    MF hw GG l y_18 prog_23_method_1_code 4 none ws ⟨2, 0, 0, 24⟩ h0 #[(.ref x0), (.int x1), (.long x2)] (Q_a18_0 Z x0 x1 x2 h0) := by
  refine own_mF #[.val (.ref x0), .val (.int x1), .val (.long x2), .second] (plainFor_of_name pn_18) (fun _ => rfl) ?_
  intro p e s m below meth c s₁ u hlk hret hZ hown hnm X0 e0 N0
  obtain ⟨hx, hby, hml⟩ := id u
  refine t_aN X0 u d18_0 rfl rfl ?_
  refine pt_cN [] [] 0 X0 u hZ hown rfl (wd hw 144 rfl) (m_7 hw) e0 (rm_a19_0 l Z a0 hw [] G GG x0 h0 O0 ) rfl d18_1 rfl rfl (by decide) N0 ?_
  intro T1 L1 X1 e1 N1_
  refine t_aN X1 u d18_4 rfl rfl ?_
  refine t_iN X1 u d18_5 rfl ?_
  refine t_pF X1 u hZ hown (wd hw 150 rfl) e1 r1 r0 (Or.inr ⟨(wd hw 151 rfl), rfl, hnm⟩) (wd hw 139 rfl) pf_I rfl rfl d18_6 ?_
  intro T2 h2 X2 e2 W2
  have N2_ := Fr.snoc X2 N1_ r2
  have O2_ := extWr O0 W2 r2
  have K2 := Keep.wr (Keep.refl h0 [x0]) W2 k0
  have F2 := Fld.same W2 r1
  refine t_aN X2 u d18_9 rfl rfl ?_
  refine t_lN X2 u d18_10 rfl ?_
  refine t_pF X2 u hZ hown (wd hw 152 rfl) e2 (fR W2 r3 (sn_45 hw)) (Exa.wr W2 r0) (Or.inr ⟨(wd hw 153 rfl), rfl, hnm⟩) (wd hw 139 rfl) pf_J rfl rfl d18_11 ?_
  intro T3 h3 X3 e3 W3
  have N3_ := Fr.snoc X3 N2_ r2
  have O3_ := extWr O2_ W3 r2
  have K3 := Keep.wr K2 W3 k0
  have F3 := Fld.same W3 (fR W2 r3 (sn_45 hw))
  exact Go.retV X3 hx hret hlk (hb hby d18_14) (by decide) (by decide) (by show Q_a18_0 ..; rw [e3]; exact ⟨rfl, N3_, K3, (fS W3 F2 (sn_45 hw)), F3⟩)
def Q_a23_1 (Z : State) (x0 : Addr) (w1 w2 : Int32) (h0 : Heap) (v : Option Value) (h : Heap) (L : List Loc) : Prop := ∃ (b6 : Addr) (k6 : ClassId), v = some (.ref b6) ∧ Fr Z.heap.size L ∧ Keep h0 h [x0] ∧ fl_17 Z h x0 (.ref b6) ∧ fl_16 Z h x0 (.int w1) ∧ fl_15 Z h x0 (.int w2) ∧ h0.size ≤ b6 ∧ ex_0 Z h b6 ∧ Arv Z h b6 k6 (.object "java/lang/Object") (10 : Int32) [.null, .null, .null, .null, .null, .null, .null, .null, .null, .null] .null ∧ Ovr Z k6 "java/lang/Object"
theorem rm_a23_1 (x0 : Addr) (x1 w1 w2 : Int32) (h0 : Heap) (O0 : Ext Z.heap h0) (r0 : fl_17 Z h0 x0 (.ref G.em)) (r1 : G.em = G.dc) (r2 : ¬ ((10 : Int32) < x1)) (r3 : ex_7 Z h0 x0) (r4 : Z.heap.size ≤ x0) (r5 : fl_16 Z h0 x0 (.int w1)) (r6 : fl_15 Z h0 x0 (.int w2)) :
    MF hw GG l y_23 jdk_38_method_6_code 4 (some (.array (.object "java/lang/Object"))) ws ⟨1, 1, 10, 14⟩ h0 #[(.ref x0), (.int x1)] (Q_a23_1 Z x0 w1 w2 h0) := by
  refine own_mF #[.val (.ref x0), .val (.int x1), .unset, .unset] (plainFor_of_name pn_23) (fun _ => rfl) ?_
  intro p e s m below meth c s₁ u hlk hret hZ hown hnm X0 e0 N0
  obtain ⟨hx, hby, hml⟩ := id u
  refine t_aN X0 u d23_0 rfl rfl ?_
  refine t_gF X0 u hZ hown (wd hw 130 rfl) e0 r0 d23_1 ?_
  intro T1 X1 e1
  obtain ⟨cl2, Ar2, -, S2, N2, -, -⟩ := id (Arv.ext GG.G_emv O0)
  refine Go.step (X1.arraylength hx (by rw [e1]; exact Ar2.1) (State.isArrayOf_alike hZ.alike Ar2.2.1) (g := (mkF m 4 #[.val (.ref x0), .val (.int x1), .unset, .unset] [(.ref G.em)])) rfl rfl (hb hby d23_4)) ?_
  rw [len_of S2 N2]
  show Go _ _ _ _ _ _ _ _ T1 (mkF m 5 #[.val (.ref x0), .val (.int x1), .unset, .unset] [(.int (0 : Int32))])
  refine t_isN X1 u d23_5 (l' := #[.val (.ref x0), .val (.int x1), .val (.int (0 : Int32)), .unset]) rfl ?_
  refine t_iN X1 u d23_6 rfl ?_
  refine t_ifN X1 u d23_7 ((if0 _ _).trans (flt (by decide : ¬ ((0 : Int32) < (0 : Int32)))).2.2.1) ?_
  refine t_aN X1 u d23_10 rfl rfl ?_
  refine t_gF X1 u hZ hown (wd hw 130 rfl) e1 r0 d23_11 ?_
  intro T3 X3 e3
  refine t_gS X3 u hZ hown (wd hw 179 rfl) e3 (Sta.ext O0 GG.G_dc) d23_14 ?_
  intro T4 X4 e4
  refine Go.step (fun _ kt_ => Jvm.RoadKit.acmp (g := (mkF m 17 #[.val (.ref x0), .val (.int x1), .val (.int (0 : Int32)), .unset] [(.ref G.dc), (.ref G.em)])) X4 hx rfl rfl rfl (pc0 := 17) (pc' := 45) (same := true) rfl (hb hby d23_17) rfl (decide_eq_true (congrArg Value.ref r1)) (by decide) (by decide) kt_) ?_
  show Go _ _ _ _ _ _ _ _ T4 (mkF m 45 #[.val (.ref x0), .val (.int x1), .val (.int (0 : Int32)), .unset] [])
  refine t_aN X4 u d23_45 rfl rfl ?_
  refine t_bP X4 u d23_46  ?_
  refine t_iN X4 u d23_48 rfl ?_
  refine pt_cS [(.int (10 : Int32)), (.int x1)] [(.ref x0)] 1 X4 u hZ hown (wd hw 262 rfl) (m_20 hw) e4 (rm_a25_0 l Z a0 hw [] G GG (10 : Int32) x1 h0 O0 r2) rfl d23_49 rfl rfl (by decide) N0 ?_
  intro T5 L5 X5 e5 N5_
  obtain ⟨T6, h6, k6, X6, e6, E6, A6, B6, O6, st6⟩ := newRE X5 hx hZ hown (wd hw 263 rfl) (wd hw 118 rfl) e5 (g := (mkF m 52 #[.val (.ref x0), .val (.int x1), .val (.int (0 : Int32)), .unset] [(.int (10 : Int32)), (.ref x0)])) rfl (hb hby d23_52) rfl (by decide) (cap := 10) (by decide) (by decide) (by decide) (by decide) rfl
  obtain ⟨b6, hb6⟩ : ∃ z, z = h0.size := ⟨_, rfl⟩
  rw [← hb6] at A6 B6 st6
  refine Go.step st6 ?_
  have g_b6 := leE O0.1 hb6
  have O6_ := extTr O0 E6
  have sz_b6 := leE (Keep.refl h0 [x0]).1 hb6
  have K6 := Keep.ext (Keep.refl h0 [x0]) E6
  have V6 : Arv Z h6 b6 k6 (.object "java/lang/Object") (10 : Int32) [.null, .null, .null, .null, .null, .null, .null, .null, .null, .null] .null := (Arv.new A6 (by decide)).pad (pad_rep [] .null 10)
  refine Go.step (fun _ kt_ => XS.dupX1 X6.here hx rfl (hb hby d23_55) rfl rfl rfl kt_) ?_
  refine t_pF X6 u hZ hown (wd hw 130 rfl) e6 (Fld.ext E6 r0) (Exa.ext E6 r3) (Or.inl (wd hw 131 rfl)) (wd hw 74 rfl) pf_ALjava_lang_Object_ rfl rfl d23_56 ?_
  intro T7 h7 X7 e7 W7
  have N7_ := Fr.snoc X7 N5_ r4
  have O7_ := extWr O6_ W7 r4
  have K7 := Keep.wr K6 W7 k0
  have F7 := Fld.same W7 (Fld.ext E6 r0)
  exact Go.retA X7 hx hret rfl rfl hlk (hb hby d23_59) (by decide) (by decide) (by show Q_a23_1 ..; rw [e7]; exact ⟨b6, k6, rfl, N7_, K7, F7, (fR W7 (Fld.ext E6 r5) (sn_2 hw)), (fS W7 (Fld.ext E6 r6) (sn_1 hw)), sz_b6, (Exa.wr W7 B6), (V6.other W7 (Ne.symm (neE r3.lt hb6))), O6⟩)
def Q_a22_1 (Z : State) (x0 : Addr) (w1 w2 : Int32) (h0 : Heap) (v : Option Value) (h : Heap) (L : List Loc) : Prop := ∃ (b6q2 : Addr) (k6q2 : ClassId), v = some (.ref b6q2) ∧ Fr Z.heap.size L ∧ Keep h0 h [x0] ∧ fl_17 Z h x0 (.ref b6q2) ∧ fl_16 Z h x0 (.int w1) ∧ fl_15 Z h x0 (.int w2) ∧ h0.size ≤ b6q2 ∧ ex_0 Z h b6q2 ∧ Arv Z h b6q2 k6q2 (.object "java/lang/Object") (10 : Int32) [.null, .null, .null, .null, .null, .null, .null, .null, .null, .null] .null ∧ Ovr Z k6q2 "java/lang/Object"
theorem rm_a22_1 (x0 : Addr) (w1 w2 : Int32) (h0 : Heap) (O0 : Ext Z.heap h0) (r0 : fl_16 Z h0 x0 (.int w1)) (r1 : fl_17 Z h0 x0 (.ref G.em)) (r2 : G.em = G.dc) (r3 : ¬ ((10 : Int32) < (w1 + (1 : Int32)))) (r4 : ex_7 Z h0 x0) (r5 : Z.heap.size ≤ x0) (r6 : fl_15 Z h0 x0 (.int w2)) :
    MF hw GG l y_22 jdk_38_method_7_code 1 (some (.array (.object "java/lang/Object"))) ws ⟨2, 1, 10, 29⟩ h0 #[(.ref x0)] (Q_a22_1 Z x0 w1 w2 h0) := by
  refine own_mF #[.val (.ref x0)] (plainFor_of_name pn_22) (fun _ => rfl) ?_
  intro p e s m below meth c s₁ u hlk hret hZ hown hnm X0 e0 N0
  obtain ⟨hx, hby, hml⟩ := id u
  refine t_aN X0 u d22_0 rfl rfl ?_
  refine t_aN X0 u d22_1 rfl rfl ?_
  refine t_gF X0 u hZ hown (wd hw 127 rfl) e0 r0 d22_2 ?_
  intro T1 X1 e1
  refine t_iC X1 u d22_5  ?_
  refine t_iadd X1 u d22_6  ?_
  refine t_cP [(.int (w1 + (1 : Int32)))] [] 0 X1 u hZ hown r4 (wd hw 174 rfl) (m_21 hw) e1 (rm_a23_1 l Z a0 hw [] G GG x0 (w1 + (1 : Int32)) w1 w2 h0 O0 r1 r2 r3 r4 r5 r0 r6) rfl d22_7 rfl rfl (by decide) ?_
  intro v2 T2 L2 Lc2 X2 hQ2 l2
  obtain ⟨b6q2, k6q2, rfl, Nq2, Kq2, p2_0, p2_1, p2_2, p2_3, p2_4, p2_5, p2_6⟩ := hQ2
  have O2_ := extKeep O0 Kq2 (allS r5 all0)
  have K2 := Keep.trans (Keep.refl h0 [x0]) Kq2 (allS k0 all0)
  have N2_ := frA l2 N0 Nq2
  have g_b6q2 := Nat.le_trans O0.1 p2_3
  have sz_b6q2 := Nat.le_trans (Keep.refl h0 [x0]).1 p2_3
  exact Go.retA X2 hx hret rfl rfl hlk (hb hby d22_10) (by decide) (by decide) ⟨b6q2, k6q2, rfl, N2_, K2, p2_0, p2_1, p2_2, sz_b6q2, p2_4, p2_5, p2_6⟩
def Q_a21_2 (Z : State) (x0 x1 : Addr) (h0 : Heap) (v : Option Value) (h : Heap) (L : List Loc) : Prop := ∃ (b6q2q2 : Addr) (k6q2q2 : ClassId), v = none ∧ Fr Z.heap.size L ∧ Keep h0 h [x0] ∧ fl_17 Z h x0 (.ref b6q2q2) ∧ fl_16 Z h x0 (.int (1 : Int32)) ∧ fl_15 Z h x0 (.int (1 : Int32)) ∧ h0.size ≤ b6q2q2 ∧ ex_0 Z h b6q2q2 ∧ Arv Z h b6q2q2 k6q2q2 (.object "java/lang/Object") (10 : Int32) [(.ref x1), .null, .null, .null, .null, .null, .null, .null, .null, .null] .null ∧ Ovr Z k6q2q2 "java/lang/Object"
theorem rm_a21_2 (x0 x1 : Addr) (h0 : Heap) (O0 : Ext Z.heap h0) (r0 : fl_16 Z h0 x0 (.int (0 : Int32))) (r1 : fl_17 Z h0 x0 (.ref G.em)) (r2 : G.em = G.dc) (r3 : ex_7 Z h0 x0) (r4 : Z.heap.size ≤ x0) (r5 : fl_15 Z h0 x0 (.int (1 : Int32))) (r6 : ex_5 Z h0 x1) :
    MF hw GG l y_21 jdk_38_method_24_code 4 none ws ⟨3, 1, 10, 41⟩ h0 #[(.ref x0), (.ref x1), (.ref G.em), (.int (0 : Int32))] (Q_a21_2 Z x0 x1 h0) := by
  refine own_mF #[.val (.ref x0), .val (.ref x1), .val (.ref G.em), .val (.int (0 : Int32))] (plainFor_of_name pn_21) (fun _ => rfl) ?_
  intro p e s m below meth c s₁ u hlk hret hZ hown hnm X0 e0 N0
  obtain ⟨hx, hby, hml⟩ := id u
  refine t_iN X0 u d21_0 rfl ?_
  refine t_aN X0 u d21_1 rfl rfl ?_
  obtain ⟨cl1, Ar1, -, S1, N1, -, -⟩ := id (Arv.ext GG.G_emv O0)
  refine Go.step (X0.arraylength hx (by rw [e0]; exact Ar1.1) (State.isArrayOf_alike hZ.alike Ar1.2.1) (g := (mkF m 2 #[.val (.ref x0), .val (.ref x1), .val (.ref G.em), .val (.int (0 : Int32))] [(.ref G.em), (.int (0 : Int32))])) rfl rfl (hb hby d21_2)) ?_
  rw [len_of S1 N1]
  show Go _ _ _ _ _ _ _ _ s₁ (mkF m 3 #[.val (.ref x0), .val (.ref x1), .val (.ref G.em), .val (.int (0 : Int32))] [(.int (0 : Int32)), (.int (0 : Int32))])
  refine t_icN X0 u d21_3 (teq (by decide : (0 : Int32) = (0 : Int32))).2 ?_
  refine t_aN X0 u d21_6 rfl rfl ?_
  refine t_cP [] [] 0 X0 u hZ hown r3 (wd hw 169 rfl) (m_22 hw) e0 (rm_a22_1 l Z a0 hw [] G GG x0 (0 : Int32) (1 : Int32) h0 O0 r0 r1 r2 (by decide) r3 r4 r5) rfl d21_7 rfl rfl (by decide) ?_
  intro v2 T2 L2 Lc2 X2 hQ2 l2
  obtain ⟨b6q2q2, k6q2q2, rfl, Nq2, Kq2, p2_0, p2_1, p2_2, p2_3, p2_4, p2_5, p2_6⟩ := hQ2
  have O2_ := extKeep O0 Kq2 (allS r4 all0)
  have K2 := Keep.trans (Keep.refl h0 [x0]) Kq2 (allS k0 all0)
  have N2_ := frA l2 N0 Nq2
  have g_b6q2q2 := Nat.le_trans O0.1 p2_3
  have sz_b6q2q2 := Nat.le_trans (Keep.refl h0 [x0]).1 p2_3
  refine t_asN X2 u d21_10 rfl (l' := #[.val (.ref x0), .val (.ref x1), .val (.ref b6q2q2), .val (.int (0 : Int32))]) rfl ?_
  refine t_aN X2 u d21_11 rfl rfl ?_
  refine t_iN X2 u d21_12 rfl ?_
  refine t_aN X2 u d21_13 rfl rfl ?_
  obtain ⟨cl3, Ar3, q3, S3, N3, H3, G3⟩ := id p2_5
  have hin3 : ¬ ((0 : Int32) < 0 ∨ cl3.slots.size ≤ ((0 : Int32)).toNatClampNeg) := inb_of S3 ⟨by decide, by decide⟩
  obtain ⟨T3, h3, X3, e3, W3, st3⟩ := stR X2 hx hZ rfl Ar3 (j := (0 : Int32)) hin3 rfl (Sto.ofV Ar3 q3 p2_6 (Ins.of_exa (r6.keep Kq2) (wd hw 189 rfl))) (g := (mkF m 14 #[.val (.ref x0), .val (.ref x1), .val (.ref b6q2q2), .val (.int (0 : Int32))] [(.ref x1), (.int (0 : Int32)), (.ref b6q2q2)])) rfl rfl (hb hby d21_14)
  refine Go.step st3 ?_
  have V3 : Arv Z h3 b6q2q2 k6q2q2 (.object "java/lang/Object") (10 : Int32) [(.ref x1), .null, .null, .null, .null, .null, .null, .null, .null, .null] .null := Arv.set Ar3 q3 S3 N3 H3 G3 rfl W3 0 rfl (Nat.le_of_ble_eq_true rfl)
  have N3_ := Fr.snoc X3 N2_ g_b6q2q2
  have O3_ := extWr O2_ W3 g_b6q2q2
  have K3 := Keep.wr K2 W3 (Or.inr sz_b6q2q2)
  refine t_aN X3 u d21_15 rfl rfl ?_
  refine t_iN X3 u d21_16 rfl ?_
  refine t_iC X3 u d21_17  ?_
  refine t_iadd X3 u d21_18  ?_
  refine t_pF X3 u hZ hown (wd hw 127 rfl) e3 (fL W3 p2_1 (neL r3.lt p2_3)) (Exa.wr W3 (r3.keep Kq2)) (Or.inl (wd hw 128 rfl)) (wd hw 74 rfl) pf_I rfl rfl d21_19 ?_
  intro T4 h4 X4 e4 W4
  have N4_ := Fr.snoc X4 N3_ r4
  have O4_ := extWr O3_ W4 r4
  have K4 := Keep.wr K3 W4 k0
  have F4 := Fld.same W4 (fL W3 p2_1 (neL r3.lt p2_3))
  have f5 := (fS W4 (fL W3 p2_0 (neL r3.lt p2_3)) (sn_2 hw))
  have f6 := (fS W4 (fL W3 p2_2 (neL r3.lt p2_3)) (sn_0 hw))
  exact Go.retV X4 hx hret hlk (hb hby d21_22) (by decide) (by decide) (by show Q_a21_2 ..; rw [e4]; exact ⟨b6q2q2, k6q2q2, rfl, N4_, K4, f5, F4, f6, sz_b6q2q2, (Exa.wr W4 (Exa.wr W3 p2_4)), (V3.other W4 (Ne.symm (neL r3.lt p2_3))), p2_6⟩)
def Q_a20_2 (Z : State) (x0 x1 : Addr) (h0 : Heap) (v : Option Value) (h : Heap) (L : List Loc) : Prop := ∃ (b6q2q2q5 : Addr) (k6q2q2q5 : ClassId), v = some (.int (1 : Int32)) ∧ Fr Z.heap.size L ∧ Keep h0 h [x0] ∧ fl_17 Z h x0 (.ref b6q2q2q5) ∧ fl_16 Z h x0 (.int (1 : Int32)) ∧ fl_15 Z h x0 (.int (1 : Int32)) ∧ h0.size ≤ b6q2q2q5 ∧ ex_0 Z h b6q2q2q5 ∧ Arv Z h b6q2q2q5 k6q2q2q5 (.object "java/lang/Object") (10 : Int32) [(.ref x1), .null, .null, .null, .null, .null, .null, .null, .null, .null] .null ∧ Ovr Z k6q2q2q5 "java/lang/Object"
theorem rm_a20_2 (x0 x1 : Addr) (h0 : Heap) (O0 : Ext Z.heap h0) (r0 : fl_15 Z h0 x0 (.int (0 : Int32))) (r1 : ex_7 Z h0 x0) (r2 : Z.heap.size ≤ x0) (r3 : fl_17 Z h0 x0 (.ref G.em)) (r4 : fl_16 Z h0 x0 (.int (0 : Int32))) (r5 : G.em = G.dc) (r6 : ex_5 Z h0 x1) :
    MF hw GG l y_20 jdk_38_method_25_code 2 (some .boolean) ws ⟨4, 1, 10, 56⟩ h0 #[(.ref x0), (.ref x1)] (Q_a20_2 Z x0 x1 h0) := by
  refine own_mF #[.val (.ref x0), .val (.ref x1)] (plainFor_of_name pn_20) (fun _ => rfl) ?_
  intro p e s m below meth c s₁ u hlk hret hZ hown hnm X0 e0 N0
  obtain ⟨hx, hby, hml⟩ := id u
  refine t_aN X0 u d20_0 rfl rfl ?_
  refine t_dup X0 u d20_1 rfl ?_
  obtain ⟨T1, X1, e1, st1⟩ := getF X0 hx hZ hown (host := "") (Or.inl (wd hw 162 rfl)) (Via.of (wd hw 163 rfl)) e0 r0 (g := (mkF m 2 #[.val (.ref x0), .val (.ref x1)] [(.ref x0), (.ref x0)])) rfl rfl (hb hby d20_2)
  refine Go.step st1 ?_
  refine t_iC X1 u d20_5  ?_
  refine t_iadd X1 u d20_6  ?_
  obtain ⟨T2, h2, X2, e2, W2, st2⟩ := putF X1 hx hZ hown (host := "") (Or.inl (wd hw 162 rfl)) (Via.of (wd hw 163 rfl)) e1 r0 r1 (Or.inl (wd hw 93 rfl)) (wd hw 74 rfl) (ty := .int) pf_I rfl rfl (g := (mkF m 7 #[.val (.ref x0), .val (.ref x1)] [(.int (1 : Int32)), (.ref x0)])) rfl rfl (hb hby d20_7)
  refine Go.step st2 ?_
  have N2_ := Fr.snoc X2 N0 r2
  have O2_ := extWr O0 W2 r2
  have K2 := Keep.wr (Keep.refl h0 [x0]) W2 k0
  have F2 := Fld.same W2 r0
  refine t_aN X2 u d20_10 rfl rfl ?_
  refine t_aN X2 u d20_11 rfl rfl ?_
  refine t_aN X2 u d20_12 rfl rfl ?_
  refine t_gF X2 u hZ hown (wd hw 130 rfl) e2 (fR W2 r3 (sn_1 hw)) d20_13 ?_
  intro T3 X3 e3
  refine t_aN X3 u d20_16 rfl rfl ?_
  refine t_gF X3 u hZ hown (wd hw 127 rfl) e3 (fR W2 r4 (sn_0 hw)) d20_17 ?_
  intro T4 X4 e4
  refine t_cP [(.ref x1), (.ref G.em), (.int (0 : Int32))] [] 0 X4 u hZ hown (Exa.wr W2 r1) (wd hw 164 rfl) (m_23 hw) e4 (rm_a21_2 l Z a0 hw [] G GG x0 x1 h2 O2_ (fR W2 r4 (sn_0 hw)) (fR W2 r3 (sn_1 hw)) r5 (Exa.wr W2 r1) r2 F2 (Exa.wr W2 r6)) rfl d20_20 rfl rfl (by decide) ?_
  intro v5 T5 L5 Lc5 X5 hQ5 l5
  obtain ⟨b6q2q2q5, k6q2q2q5, rfl, Nq5, Kq5, p5_0, p5_1, p5_2, p5_3, p5_4, p5_5, p5_6⟩ := hQ5
  have O5_ := extKeep O2_ Kq5 (allS r2 all0)
  have K5 := Keep.trans K2 Kq5 (allS k0 all0)
  have N5_ := frA l5 N2_ Nq5
  have g_b6q2q2q5 := Nat.le_trans O2_.1 p5_3
  have sz_b6q2q2q5 := Nat.le_trans K2.1 p5_3
  refine t_iC X5 u d20_23  ?_
  exact Go.retN X5 hx (t := .boolean) hret (by simp) hlk (hb hby d20_24) (by decide) (by decide) ⟨b6q2q2q5, k6q2q2q5, rfl, N5_, K5, p5_0, p5_1, p5_2, sz_b6q2q2q5, p5_4, p5_5, p5_6⟩
theorem pn_9 : plainName "com/example/clean_epoch/cleanepoch/log/Lineage" = true := by first | (simp [plainName, overriddenIn]; done) | decide +kernel
def Q_a9_0 (Z : State) (G : GT) (x1 : Int32) (x2 : Int64) (h0 : Heap) (v : Option Value) (h : Heap) (L : List Loc) : Prop := ∃ (b11 : Addr) (b2q5q1q25q15 : Addr) (b5 : Addr), v = some (.ref b11) ∧ Fr Z.heap.size L ∧ Keep h0 h [] ∧ h0.size ≤ b11 ∧ ex_3 Z h b11 ∧ fl_2 Z h b11 (.ref b2q5q1q25q15) ∧ h0.size ≤ b2q5q1q25q15 ∧ ex_4 Z h b2q5q1q25q15 ∧ fl_3 Z h b2q5q1q25q15 (.ref b5) ∧ fl_4 Z h b2q5q1q25q15 (.ref G.eo) ∧ b11 ≠ b2q5q1q25q15 ∧ h0.size ≤ b5 ∧ ex_5 Z h b5 ∧ fl_5 Z h b5 (.int x1) ∧ fl_6 Z h b5 (.long x2) ∧ b11 ≠ b5 ∧ b2q5q1q25q15 ≠ b5
theorem rm_a9_0 (x1 : Int32) (x2 : Int64) (h0 : Heap) (O0 : Ext Z.heap h0) (r0 : G.em = G.dc) (r1 : ¬ (x1 < (0 : Int32))) (r2 : ¬ ((lcmpW x2 (0 : Int64)) < (0 : Int32))) :
    MF hw GG l y_9 prog_22_method_8_code 6 (some (.object "com/example/clean_epoch/cleanepoch/log/Lineage")) ws ⟨9, 10, 36, 117⟩ h0 #[(.ref G.le), (.int x1), (.long x2)] (Q_a9_0 Z G x1 x2 h0) := by
  refine own_mF #[.val (.ref G.le), .val (.int x1), .val (.long x2), .second, .unset, .unset] (plainFor_of_name pn_9) (fun _ => rfl) ?_
  intro p e s m below meth c s₁ u hlk hret hZ hown hnm X0 e0 N0
  obtain ⟨hx, hby, hml⟩ := id u
  refine t_new X0 u hZ hown (wd hw 73 rfl) (wd hw 74 rfl) (wd hw 75 rfl) e0 d9_0 (by decide) ?_
  intro T1 h1 b1 X1 e1 E1 hb1 A1 D1
  have g_b1 := leE O0.1 hb1
  have O1_ := extTr O0 E1
  have sz_b1 := leE (Keep.refl h0 []).1 hb1
  have K1 := Keep.ext (Keep.refl h0 []) E1
  have F1_modCount : fl_15 Z h1 b1 (.int (0 : Int32)) := D1 (Or.inl (wd hw 93 rfl)) (ty := .int) pf_I
  have F1_size : fl_16 Z h1 b1 (.int (0 : Int32)) := D1 (Or.inl (wd hw 128 rfl)) (ty := .int) pf_I
  have F1_elementData : fl_17 Z h1 b1 .null := D1 (Or.inl (wd hw 131 rfl)) (ty := (.array (.object "java/lang/Object"))) pf_ALjava_lang_Object_
  refine t_dup X1 u d9_3 rfl ?_
  refine t_aN X1 u d9_4 rfl rfl ?_
  refine t_gF X1 u hZ hown (wd hw 30 rfl) e1 (Fld.ext O1_ GG.G_lef) d9_5 ?_
  intro T2 X2 e2
  refine t_cN [(.ref G.ln)] [(.ref b1)] 1 X2 u hZ hown rfl (wd hw 76 rfl) (m_67 hw) e2 (rm_a10_0 l Z a0 hw [] G GG b1 (0 : Int32) (0 : Int32) h1 O1_ A1 F1_modCount g_b1 F1_size F1_elementData) rfl d9_8 rfl rfl (by decide) ?_
  intro v3 T3 L3 Lc3 X3 hQ3 l3
  obtain ⟨rfl, Nq3, Kq3, p3_0, p3_1, p3_2⟩ := hQ3
  have O3_ := extKeep O1_ Kq3 (allS g_b1 all0)
  have K3 := Keep.trans K1 Kq3 (allS (Or.inr sz_b1) all0)
  have N3_ := frA l3 N0 Nq3
  refine t_asL X3 u d9_11 rfl (l' := #[.val (.ref G.le), .val (.int x1), .val (.long x2), .second, .val (.ref b1), .unset]) rfl ?_
  refine t_aL X3 u d9_13 rfl rfl ?_
  refine pt_cI [] [] 0 X3 u hZ hown (wd hw 32 rfl) (m_27 hw) rfl (A1.keep Kq3) (rm_a17_0 l Z a0 hw [] G GG b1 (0 : Int32) T3.heap O3_ p3_2 (by decide)) rfl d9_15 rfl rfl (by decide) N3_ ?_
  intro T4 L4 X4 e4 N4_
  refine t_ifN X4 u d9_20 ((if0 _ _).trans (feq (by decide : ¬ ((1 : Int32) = (0 : Int32)))).1) ?_
  refine t_nl X4 u d9_23  ?_
  refine t_go 24 46 X4 u rfl d9_24 (by decide) ?_
  refine t_asL X4 u d9_46 rfl (l' := #[.val (.ref G.le), .val (.int x1), .val (.long x2), .second, .val (.ref b1), .val .null]) rfl ?_
  refine t_aL X4 u d9_48 rfl rfl ?_
  refine Go.step (fun _ kt_ => XS.ifnullYes X4.here hx rfl (pc0 := 50) (pc' := 82) rfl (hb hby d9_50) rfl (by decide) (by decide) kt_) ?_
  refine t_aL X4 u d9_82 rfl rfl ?_
  refine t_new X4 u hZ hown (wd hw 138 rfl) (wd hw 139 rfl) (wd hw 140 rfl) e4 d9_84 (by decide) ?_
  intro T5 h5 b5 X5 e5 E5 hb5 A5 D5
  have g_b5 := leE O3_.1 hb5
  have O5_ := extTr O3_ E5
  have sz_b5 := leE K3.1 hb5
  have K5 := Keep.ext K3 E5
  have F5_epoch : fl_5 Z h5 b5 (.int (0 : Int32)) := D5 (Or.inr (wd hw 151 rfl)) (ty := .int) pf_I
  have F5_startOffset : fl_6 Z h5 b5 (.long (0 : Int64)) := D5 (Or.inr (wd hw 153 rfl)) (ty := .long) pf_J
  refine t_dup X5 u d9_87 rfl ?_
  refine t_iN X5 u d9_88 rfl ?_
  refine t_lN X5 u d9_89 rfl ?_
  refine t_cN [(.int x1), (.long x2)] [(.ref b5), (.ref b1)] 2 X5 u hZ hown rfl (wd hw 141 rfl) (m_68 hw) e5 (rm_a18_0 l Z a0 hw [] G GG b5 x1 x2 (0 : Int32) (0 : Int64) h5 O5_ A5 F5_epoch g_b5 F5_startOffset) rfl d9_90 rfl rfl (by decide) ?_
  intro v6 T6 L6 Lc6 X6 hQ6 l6
  obtain ⟨rfl, Nq6, Kq6, p6_0, p6_1⟩ := hQ6
  have O6_ := extKeep O5_ Kq6 (allS g_b5 all0)
  have K6 := Keep.trans K5 Kq6 (allS (Or.inr sz_b5) all0)
  have N6_ := frA l6 N4_ Nq6
  have f7 := ((Fld.ext E5 p3_1).keep Kq6 (ninS (neE (A1.keep Kq3).lt hb5) nin0))
  have f8 := ((Fld.ext E5 p3_0).keep Kq6 (ninS (neE (A1.keep Kq3).lt hb5) nin0))
  have f9 := ((Fld.ext E5 p3_2).keep Kq6 (ninS (neE (A1.keep Kq3).lt hb5) nin0))
  refine t_cI [(.ref b5)] [] 0 X6 u hZ hown (wd hw 154 rfl) (m_24 hw) rfl ((Exa.ext E5 (A1.keep Kq3)).keep Kq6) (rm_a20_2 l Z a0 hw [] G GG b1 b5 T6.heap O6_ f7 ((Exa.ext E5 (A1.keep Kq3)).keep Kq6) g_b1 f8 f9 r0 (A5.keep Kq6)) rfl d9_93 rfl rfl (by decide) ?_
  intro v10 T10 L10 Lc10 X10 hQ10 l10
  obtain ⟨b6q2q2q5q10, k6q2q2q5q10, rfl, Nq10, Kq10, p10_0, p10_1, p10_2, p10_3, p10_4, p10_5, p10_6⟩ := hQ10
  have O10_ := extKeep O6_ Kq10 (allS g_b1 all0)
  have K10 := Keep.trans K6 Kq10 (allS (Or.inr sz_b1) all0)
  have N10_ := frA l10 N6_ Nq10
  have g_b6q2q2q5q10 := Nat.le_trans O6_.1 p10_3
  have sz_b6q2q2q5q10 := Nat.le_trans K6.1 p10_3
  refine t_pop X10 u d9_98 rfl ?_
  refine t_new X10 u hZ hown (wd hw 190 rfl) (wd hw 191 rfl) (wd hw 2 rfl) rfl d9_99 (by decide) ?_
  intro T11 h11 b11 X11 e11 E11 hb11 A11 D11
  have g_b11 := leE O10_.1 hb11
  have O11_ := extTr O10_ E11
  have sz_b11 := leE K10.1 hb11
  have K11 := Keep.ext K10 E11
  have F11_entries : fl_2 Z h11 b11 .null := D11 (Or.inr (wd hw 31 rfl)) (ty := (.object "java/util/List")) pf_Ljava_util_List_
  refine t_dup X11 u d9_102 rfl ?_
  refine t_aL X11 u d9_103 rfl rfl ?_
  have f12 := (((Exa.ext E5 (A1.keep Kq3)).keep Kq6).keep Kq10)
  have f13 := (Fld.ext E11 (p6_0.keep Kq10 (ninS (Ne.symm (neE (A1.keep Kq3).lt hb5)) nin0)))
  have f14 := (Fld.ext E11 (p6_1.keep Kq10 (ninS (Ne.symm (neE (A1.keep Kq3).lt hb5)) nin0)))
  refine t_cN [(.ref b1)] [(.ref b11)] 1 X11 u hZ hown rfl (wd hw 192 rfl) (m_15 hw) e11 (rm_a26_1 l Z a0 hw [] G GG b11 b1 (1 : Int32) (1 : Int32) b6q2q2q5q10 k6q2q2q5q10 b5 x1 x2 h11 O11_ (Exa.ext E11 f12) (Fld.ext E11 p10_2) (Fld.ext E11 p10_1) (by decide) (by decide) (by decide) (Fld.ext E11 p10_0) (p10_5.ext E11) (Exa.ext E11 ((A5.keep Kq6).keep Kq10)) f13 r1 f14 r2 (by decide) A11 F11_entries g_b11) rfl d9_105 rfl rfl (by decide) ?_
  intro v15 T15 L15 Lc15 X15 hQ15 l15
  obtain ⟨b2q5q1q25q15, rfl, Nq15, Kq15, p15_0, p15_1, p15_2, p15_3, p15_4⟩ := hQ15
  have O15_ := extKeep O11_ Kq15 (allS g_b11 all0)
  have K15 := Keep.trans K11 Kq15 (allS (Or.inr sz_b11) all0)
  have N15_ := frA l15 N10_ Nq15
  have g_b2q5q1q25q15 := Nat.le_trans O11_.1 p15_1
  have sz_b2q5q1q25q15 := Nat.le_trans K11.1 p15_1
  have f16 := ((Exa.ext E11 ((A5.keep Kq6).keep Kq10)).keep Kq15)
  have f17 := (f13.keep Kq15 (ninS (neE ((A5.keep Kq6).keep Kq10).lt hb11) nin0))
  have f18 := (f14.keep Kq15 (ninS (neE ((A5.keep Kq6).keep Kq10).lt hb11) nin0))
  exact Go.retA X15 hx hret rfl rfl hlk (hb hby d9_108) (by decide) (by decide) ⟨b11, b2q5q1q25q15, b5, rfl, N15_, K15, sz_b11, (A11.keep Kq15), p15_0, sz_b2q5q1q25q15, p15_2, p15_3, p15_4, (neL A11.lt p15_1), sz_b5, f16, f17, f18, (Ne.symm (neE ((A5.keep Kq6).keep Kq10).lt hb11)), (Ne.symm (neL (Exa.ext E11 ((A5.keep Kq6).keep Kq10)).lt p15_1))⟩
theorem pn_52 : plainName "com/example/clean_epoch/cleanepoch/log/Lineage" = true := by first | (simp [plainName, overriddenIn]; done) | decide +kernel
theorem rm_a52_0 (x0 w1 : Addr) (h0 : Heap) (O0 : Ext Z.heap h0) (r0 : fl_2 Z h0 x0 (.ref w1)) :
    MF hw GG l y_52 prog_22_method_15_code 1 (some (.object "java/util/List")) ws ⟨0, 0, 0, 0⟩ h0 #[(.ref x0)] (Qp (some (.ref w1)) Z h0) := by
  refine own_mF #[.val (.ref x0)] (plainFor_of_name pn_52) (fun _ => rfl) ?_
  intro p e s m below meth c s₁ u hlk hret hZ hown hnm X0 e0 N0
  refine t_aN X0 u d52_0 rfl rfl ?_
  refine t_gF X0 u hZ hown (wd hw 30 rfl) e0 r0 d52_1 ?_
  intro T1 X1 e1
  exact t_rA X1 u hret hlk rfl rfl d52_4 e1 N0 (by decide)
def Q_a1_1 (Z : State) (x0 x1 : Addr) (w4 w8 w9 : Int32) (h0 : Heap) (v : Option Value) (h : Heap) (L : List Loc) : Prop := ∃ (z_x0_reached : Int64) (z_x0_diverged : Int32), v = none ∧ Fr Z.heap.size L ∧ Keep h0 h [x0] ∧ fl_11 Z h x0 (.int (-1 : Int32)) ∧ fl_7 Z h x0 (.int w4) ∧ fl_8 Z h x0 (.ref x1) ∧ fl_9 Z h x0 (.long z_x0_reached) ∧ fl_13 Z h x0 (.int (0 : Int32)) ∧ fl_12 Z h x0 (.int w8) ∧ fl_14 Z h x0 (.int w9) ∧ fl_10 Z h x0 (.int z_x0_diverged)
theorem rm_a1_1 (x0 x1 : Addr) (x2 : Int64) (w1 : Int32) (w2 w3 : Addr) (w4 w5 : Int32) (w6 : Int64) (w7 w8 w9 w10 : Int32) (h0 : Heap) (O0 : Ext Z.heap h0) (r0 : ex_6 Z h0 x0) (r1 : fl_11 Z h0 x0 (.int w1)) (r2 : Z.heap.size ≤ x0) (r3 : ex_3 Z h0 x1) (r4 : fl_2 Z h0 x1 (.ref w2)) (r5 : x1 ≠ x0) (r6 : ex_4 Z h0 w2) (r7 : fl_3 Z h0 w2 (.ref w3)) (r8 : w2 ≠ x0) (r9 : ex_5 Z h0 w3) (r10 : fl_5 Z h0 w3 (.int w4)) (r11 : w3 ≠ x0) (r12 : fl_7 Z h0 x0 (.int w5)) (r13 : fl_8 Z h0 x0 .null) (r14 : fl_9 Z h0 x0 (.long w6)) (r15 : fl_13 Z h0 x0 (.int w7)) (r16 : fl_12 Z h0 x0 (.int w8)) (r17 : fl_14 Z h0 x0 (.int w9)) (r18 : fl_10 Z h0 x0 (.int w10)) :
    MF hw GG l y_1 prog_15_method_1_code 4 none ws ⟨2, 0, 0, 25⟩ h0 #[(.ref x0), (.ref x1), (.long x2)] (Q_a1_1 Z x0 x1 w4 w8 w9 h0) := by
  refine own_mF #[.val (.ref x0), .val (.ref x1), .val (.long x2), .second] (plainFor_of_name pn_1) (fun _ => rfl) ?_
  intro p e s m below meth c s₁ u hlk hret hZ hown hnm X0 e0 N0
  obtain ⟨hx, hby, hml⟩ := id u
  refine t_aN X0 u d1_0 rfl rfl ?_
  refine t_in 0 X0 u hZ hown (wd hw 10 rfl) (wd hw 11 rfl) (wd hw 12 rfl) e0 rfl d1_1 rfl (by decide) ?_
  intro T1 X1 e1
  refine t_aN X1 u d1_4 rfl rfl ?_
  refine t_gS X1 u hZ hown (wd hw 13 rfl) e1 (Sta.ext O0 GG.G_nn) d1_5 ?_
  intro T2 X2 e2
  refine pt_cV [] [(.ref x0)] 1 X2 u hZ hown (wd hw 16 rfl) (m_46 hw) e2 (Exa.ext O0 GG.G_nne) (rm_a3_1 l Z a0 hw [] G GG  h0 O0 ) rfl d1_8 rfl rfl (by decide) N0 ?_
  intro T3 L3 X3 e3 N3_
  refine t_pF X3 u hZ hown (wd hw 23 rfl) e3 r1 r0 (Or.inl (wd hw 24 rfl)) (wd hw 5 rfl) pf_I rfl rfl d1_11 ?_
  intro T4 h4 X4 e4 W4
  have N4_ := Fr.snoc X4 N3_ r2
  have O4_ := extWr O0 W4 r2
  have K4 := Keep.wr (Keep.refl h0 [x0]) W4 k0
  have F4 := Fld.same W4 r1
  refine t_aN X4 u d1_14 rfl rfl ?_
  refine t_aN X4 u d1_15 rfl rfl ?_
  refine pt_cV [] [(.ref x0)] 1 X4 u hZ hown (wd hw 25 rfl) (m_55 hw) e4 (Exa.wr W4 r3) (rm_a4_1 l Z a0 hw [] G GG x1 w2 h4 O4_ (fL W4 r4 r5) (Exa.wr W4 r6)) rfl d1_16 rfl rfl (by decide) N4_ ?_
  intro T5 L5 X5 e5 N5_
  refine t_ifY 19 31 X5 u rfl d1_19 ((if0 _ _).trans (teq (by decide : (0 : Int32) = (0 : Int32))).1) (by decide) ?_
  refine t_aN X5 u d1_31 rfl rfl ?_
  refine pt_cV [] [(.ref x0)] 1 X5 u hZ hown (wd hw 375 rfl) (m_70 hw) e5 (Exa.wr W4 r3) (rm_a52_0 l Z a0 hw [] G GG x1 w2 h4 O4_ (fL W4 r4 r5)) rfl d1_32 rfl rfl (by decide) N5_ ?_
  intro T6 L6 X6 e6 N6_
  refine t_iC X6 u d1_35  ?_
  refine pt_cI [(.int (0 : Int32))] [(.ref x0)] 1 X6 u hZ hown (wd hw 380 rfl) (m_18 hw) e6 (Exa.wr W4 r6) (rm_a53_0 l Z a0 hw [] G GG w2 (0 : Int32) w3 h4 O4_ (by decide) (fL W4 r7 r8)) rfl d1_36 rfl rfl (by decide) N6_ ?_
  intro T7 L7 X7 e7 N7_
  obtain ⟨T8, X8, e8, st8⟩ := castY X7 hx hZ hown (wd hw 386 rfl) e7 (Ins.self (Exa.wr W4 r9)) (g := (mkF m 41 #[.val (.ref x0), .val (.ref x1), .val (.long x2), .second] [(.ref w3), (.ref x0)])) rfl rfl (hb hby d1_41)
  refine Go.step st8 ?_
  refine pt_cV [] [(.ref x0)] 1 X8 u hZ hown (wd hw 387 rfl) (m_28 hw) e8 (Exa.wr W4 r9) (rm_a34_0 l Z a0 hw [] G GG w3 w4 h4 O4_ (fL W4 r10 r11)) rfl d1_44 rfl rfl (by decide) N7_ ?_
  intro T9 L9 X9 e9 N9_
  refine t_pF X9 u hZ hown (wd hw 44 rfl) e9 (fR W4 r12 (sn_43 hw)) (Exa.wr W4 r0) (Or.inr ⟨(wd hw 45 rfl), rfl, hnm⟩) (wd hw 5 rfl) pf_I rfl rfl d1_47 ?_
  intro T10 h10 X10 e10 W10
  have N10_ := Fr.snoc X10 N9_ r2
  have O10_ := extWr O4_ W10 r2
  have K10 := Keep.wr K4 W10 k0
  have F10 := Fld.same W10 (fR W4 r12 (sn_43 hw))
  refine t_aN X10 u d1_50 rfl rfl ?_
  refine t_aN X10 u d1_51 rfl rfl ?_
  have f11 := (fS W10 (fS W4 r13 (sn_33 hw)) (sn_28 hw))
  refine t_pF X10 u hZ hown (wd hw 46 rfl) e10 f11 (Exa.wr W10 (Exa.wr W4 r0)) (Or.inl (wd hw 47 rfl)) (wd hw 5 rfl) pf_Lcom_example_clean_epoch_cleanepoch_log_Lineage_ rfl rfl d1_52 ?_
  intro T12 h12 X12 e12 W12
  have N12_ := Fr.snoc X12 N10_ r2
  have O12_ := extWr O10_ W12 r2
  have K12 := Keep.wr K10 W12 k0
  have F12 := Fld.same W12 f11
  refine t_aN X12 u d1_55 rfl rfl ?_
  refine t_lN X12 u d1_56 rfl ?_
  have f13 := (fS W12 (fS W10 (fS W4 r14 (sn_31 hw)) (sn_26 hw)) (sn_17 hw))
  refine t_pF X12 u hZ hown (wd hw 48 rfl) e12 f13 (Exa.wr W12 (Exa.wr W10 (Exa.wr W4 r0))) (Or.inl (wd hw 49 rfl)) (wd hw 5 rfl) pf_J rfl rfl d1_57 ?_
  intro T14 h14 X14 e14 W14
  have N14_ := Fr.snoc X14 N12_ r2
  have O14_ := extWr O12_ W14 r2
  have K14 := Keep.wr K12 W14 k0
  have F14 := Fld.same W14 f13
  refine t_aN X14 u d1_60 rfl rfl ?_
  refine t_aN X14 u d1_61 rfl rfl ?_
  have f15 := (Exa.wr W14 (Exa.wr W12 (Exa.wr W10 (Exa.wr W4 r3))))
  have f16 := (fL W14 (fL W12 (fL W10 (fL W4 r4 r5) r5) r5) r5)
  have f17 := (Exa.wr W14 (Exa.wr W12 (Exa.wr W10 (Exa.wr W4 r6))))
  refine pt_cV [] [(.ref x0)] 1 X14 u hZ hown (wd hw 25 rfl) (m_55 hw) e14 f15 (rm_a4_1 l Z a0 hw [] G GG x1 w2 h14 O14_ f16 f17) rfl d1_62 rfl rfl (by decide) N14_ ?_
  intro T18 L18 X18 e18 N18_
  have f19 := (Exa.wr W14 (Exa.wr W12 (Exa.wr W10 (Exa.wr W4 r0))))
  have f20 := (fR W14 (fR W12 (fS W10 (fS W4 r15 (sn_35 hw)) (sn_30 hw)) (sn_24 hw)) (sn_22 hw))
  refine t_pN X18 u hZ hown (wd hw 50 rfl) e18 f20 f19 (Or.inl (wd hw 51 rfl)) (wd hw 5 rfl) (.int (0 : Int32)) pf_Z rfl rfl d1_65 ?_
  intro T21 h21 X21 e21 W21
  have N21_ := Fr.snoc X21 N18_ r2
  have O21_ := extWr O14_ W21 r2
  have K21 := Keep.wr K14 W21 k0
  have F21 := Fld.same W21 f20
  have f22 := (fR W21 (fR W14 (fR W12 (fS W10 F4 (sn_43 hw)) (sn_33 hw)) (sn_31 hw)) (sn_35 hw))
  have f23 := (fR W21 (fR W14 (fR W12 F10 (sn_28 hw)) (sn_26 hw)) (sn_30 hw))
  have f24 := (fS W21 (fR W14 F12 (sn_17 hw)) (sn_24 hw))
  have f25 := (fR W14 (fR W12 (fS W10 (fS W4 r16 (sn_34 hw)) (sn_29 hw)) (sn_21 hw)) (sn_19 hw))
  have f26 := (fR W14 (fR W12 (fS W10 (fR W4 r17 (sn_42 hw)) (sn_44 hw)) (sn_38 hw)) (sn_36 hw))
  have f27 := (fR W14 (fS W12 (fS W10 (fS W4 r18 (sn_32 hw)) (sn_27 hw)) (sn_18 hw)) (sn_16 hw))
  exact Go.retV X21 hx hret hlk (hb hby d1_68) (by decide) (by decide) (by show Q_a1_1 ..; rw [e21]; exact ⟨x2, w10, rfl, N21_, K21, f22, f23, f24, (fS W21 F14 (sn_22 hw)), F21, (fS W21 f25 (sn_25 hw)), (fR W21 f26 (sn_40 hw)), (fS W21 f27 (sn_23 hw))⟩)
theorem pn_24 : plainName "jdk/internal/util/ArraysSupport" = true := by first | (simp [plainName, overriddenIn]; done) | decide +kernel
theorem rm_a24_0 (x0 x1 x2 : Int32) (h0 : Heap) (O0 : Ext Z.heap h0) (r0 : ¬ (x1 < x2)) (r1 : (0 : Int32) < (x0 + x1)) (r2 : ¬ ((2147483639 : Int32) < (x0 + x1))) :
    MF hw GG l y_24 jdk_48_method_27_code 4 (some .int) ws ⟨1, 0, 0, 14⟩ h0 #[(.int x0), (.int x1), (.int x2)] (Qp (some (.int (x0 + x1))) Z h0) := by
  refine own_mF #[.val (.int x0), .val (.int x1), .val (.int x2), .unset] (plainFor_of_name pn_24) (fun _ => rfl) ?_
  intro p e s m below meth c s₁ u hlk hret hZ hown hnm X0 e0 N0
  obtain ⟨hx, hby, hml⟩ := id u
  refine t_iN X0 u d24_0 rfl ?_
  refine t_iN X0 u d24_1 rfl ?_
  refine t_iN X0 u d24_2 rfl ?_
  refine pt_cS [(.int x1), (.int x2)] [(.int x0)] 1 X0 u hZ hown (wd hw 184 rfl) (m_20 hw) e0 (rm_a25_0 l Z a0 hw [] G GG x1 x2 h0 O0 r0) rfl d24_3 rfl rfl (by decide) N0 ?_
  intro T1 L1 X1 e1 N1_
  refine t_iadd X1 u d24_6  ?_
  refine t_isN X1 u d24_7 (l' := #[.val (.int x0), .val (.int x1), .val (.int x2), .val (.int (x0 + x1))]) rfl ?_
  refine t_iC X1 u d24_8  ?_
  refine t_iN X1 u d24_9 rfl ?_
  refine t_icN X1 u d24_10 (tlt r1).2.1 ?_
  refine t_iN X1 u d24_13 rfl ?_
  refine Go.step (X1.ldcInt hx hown (mvT hZ (wd hw 187 rfl)) (g := (mkF m 14 #[.val (.int x0), .val (.int x1), .val (.int x2), .val (.int (x0 + x1))] [(.int (x0 + x1))])) rfl (hb hby d24_14)) ?_
  refine t_icN X1 u d24_16 (flt r2).2.2.1 ?_
  refine t_iN X1 u d24_19 rfl ?_
  exact t_rI X1 u hret hlk d24_20 e1 N1_ (by decide)
def Q_a15_3 (Z : State)  (h0 : Heap) (v : Option Value) (h : Heap) (L : List Loc) : Prop := ∃ (b2 : Addr) (k2 : ClassId), v = some (.ref b2) ∧ Fr Z.heap.size L ∧ Keep h0 h [] ∧ h0.size ≤ b2 ∧ ex_0 Z h b2 ∧ Arv Z h b2 k2 (.object "java/lang/Object") (1 : Int32) [.null] .null ∧ Ovr Z k2 "java/lang/Object"
theorem rm_a15_3  (h0 : Heap) (O0 : Ext Z.heap h0) :
    MF hw GG l y_15 jdk_65_method_120_code 4 (some (.array (.object "java/lang/Object"))) ws ⟨1, 1, 1, 18⟩ h0 #[(.ref G.em), (.int (1 : Int32)), (.ref G.mo)] (Q_a15_3 Z  h0) := by
  refine own_mF #[.val (.ref G.em), .val (.int (1 : Int32)), .val (.ref G.mo), .unset] (plainFor_of_name pn_15) (fun _ => rfl) ?_
  intro p e s m below meth c s₁ u hlk hret hZ hown hnm X0 e0 N0
  obtain ⟨hx, hby, hml⟩ := id u
  refine t_aN X0 u d15_0 rfl rfl ?_
  obtain ⟨T1, X1, e1, st1⟩ := own_ldcMir X0 hx hZ hown (wd hw 116 rfl) e0 GG.G_mo (g := (mkF m 1 #[.val (.ref G.em), .val (.int (1 : Int32)), .val (.ref G.mo), .unset] [(.ref G.mo)])) rfl (hb hby d15_1)
  refine Go.step st1 ?_
  refine Go.step (fun _ kt_ => Jvm.RoadKit.acmp (g := (mkF m 3 #[.val (.ref G.em), .val (.int (1 : Int32)), .val (.ref G.mo), .unset] [(.ref G.mo), (.ref G.mo)])) X1 hx rfl rfl rfl (pc0 := 3) (pc' := 6) (same := true) rfl (hb hby d15_3) rfl (decide_eq_true rfl) (by decide) (by decide) kt_) ?_
  show Go _ _ _ _ _ _ _ _ T1 (mkF m 6 #[.val (.ref G.em), .val (.int (1 : Int32)), .val (.ref G.mo), .unset] [])
  refine t_iN X1 u d15_6 rfl ?_
  obtain ⟨T2, h2, k2, X2, e2, E2, A2, B2, O2, st2⟩ := newRE X1 hx hZ hown (wd hw 117 rfl) (wd hw 118 rfl) e1 (g := (mkF m 7 #[.val (.ref G.em), .val (.int (1 : Int32)), .val (.ref G.mo), .unset] [(.int (1 : Int32))])) rfl (hb hby d15_7) rfl (by decide) (cap := 1) (by decide) (by decide) (by decide) (by decide) rfl
  obtain ⟨b2, hb2⟩ : ∃ z, z = h0.size := ⟨_, rfl⟩
  rw [← hb2] at A2 B2 st2
  refine Go.step st2 ?_
  have g_b2 := leE O0.1 hb2
  have O2_ := extTr O0 E2
  have sz_b2 := leE (Keep.refl h0 []).1 hb2
  have K2 := Keep.ext (Keep.refl h0 []) E2
  have V2 : Arv Z h2 b2 k2 (.object "java/lang/Object") (1 : Int32) [.null] .null := (Arv.new A2 (by decide)).pad (pad_rep [] .null 1)
  refine t_go 10 24 X2 u rfl d15_10 (by decide) ?_
  refine t_asN X2 u d15_24 rfl (l' := #[.val (.ref G.em), .val (.int (1 : Int32)), .val (.ref G.mo), .val (.ref b2)]) rfl ?_
  refine t_aN X2 u d15_25 rfl rfl ?_
  refine t_iC X2 u d15_26  ?_
  refine t_aN X2 u d15_27 rfl rfl ?_
  refine t_iC X2 u d15_28  ?_
  refine t_aN X2 u d15_29 rfl rfl ?_
  obtain ⟨cl3, Ar3, -, S3, N3, -, -⟩ := id (Arv.ext GG.G_emv O2_)
  refine Go.step (X2.arraylength hx (by rw [e2]; exact Ar3.1) (State.isArrayOf_alike hZ.alike Ar3.2.1) (g := (mkF m 30 #[.val (.ref G.em), .val (.int (1 : Int32)), .val (.ref G.mo), .val (.ref b2)] [(.ref G.em), (.int (0 : Int32)), (.ref b2), (.int (0 : Int32)), (.ref G.em)])) rfl rfl (hb hby d15_30)) ?_
  rw [len_of S3 N3]
  show Go _ _ _ _ _ _ _ _ T2 (mkF m 31 #[.val (.ref G.em), .val (.int (1 : Int32)), .val (.ref G.mo), .val (.ref b2)] [(.int (0 : Int32)), (.int (0 : Int32)), (.ref b2), (.int (0 : Int32)), (.ref G.em)])
  refine t_iN X2 u d15_31 rfl ?_
  refine pt_cS [(.int (0 : Int32)), (.int (1 : Int32))] [(.int (0 : Int32)), (.ref b2), (.int (0 : Int32)), (.ref G.em)] 4 X2 u hZ hown (wd hw 119 rfl) (m_30 hw) e2 (rm_a16_1 l Z a0 hw [] G GG (0 : Int32) (1 : Int32) h2 O2_ (by decide)) rfl d15_32 rfl rfl (by decide) N0 ?_
  intro T4 L4 X4 e4 N4_
  obtain ⟨cl5, Ar5, q5, -⟩ := id V2
  obtain ⟨T5, h5, L5, X5, e5, N5_, K5_, V5_, st5⟩ := cpA X4 hx hZ hown (wd hw 123 rfl) (wd hw 126 rfl) (wd hw 124 rfl) (wd hw 125 rfl) e4 (us := []) (Arv.ext GG.G_emv O2_) V2 (Or.inr ⟨rfl, rfl, trivial⟩) (by decide) (by decide) (by decide) (by decide) (by decide) rfl (by decide) N4_ g_b2 (g := (mkF m 35 #[.val (.ref G.em), .val (.int (1 : Int32)), .val (.ref G.mo), .val (.ref b2)] [(.int (0 : Int32)), (.int (0 : Int32)), (.ref b2), (.int (0 : Int32)), (.ref G.em)])) rfl (by rw [hml]; rfl) rfl (hb hby d15_35) (by decide) (W := 0) (by show 2 * 0 + _ ≤ _; exact Nat.le_of_eq rfl) (by decide)
  refine Go.step st5 ?_
  have V5 : Arv Z h5 b2 k2 (.object "java/lang/Object") (1 : Int32) [.null] .null := V5_
  have O5_ : Ext Z.heap h5 := extKeep O2_ K5_ (allS g_b2 all0)
  have K5 := Keep.trans K2 K5_ (allS (Or.inr sz_b2) all0)
  refine t_aN X5 u d15_38 rfl rfl ?_
  exact Go.retA X5 hx hret rfl rfl hlk (hb hby d15_39) (by decide) (by decide) (by show Q_a15_3 ..; rw [e5]; exact ⟨b2, k2, rfl, N5_, K5, sz_b2, (B2.keep K5_), V5, O2⟩)
def Q_a14_3 (Z : State)  (h0 : Heap) (v : Option Value) (h : Heap) (L : List Loc) : Prop := ∃ (b2q2 : Addr) (k2q2 : ClassId), v = some (.ref b2q2) ∧ Fr Z.heap.size L ∧ Keep h0 h [] ∧ h0.size ≤ b2q2 ∧ ex_0 Z h b2q2 ∧ Arv Z h b2q2 k2q2 (.object "java/lang/Object") (1 : Int32) [.null] .null ∧ Ovr Z k2q2 "java/lang/Object"
theorem rm_a14_3  (h0 : Heap) (O0 : Ext Z.heap h0) :
    MF hw GG l y_14 jdk_65_method_119_code 2 (some (.array (.object "java/lang/Object"))) ws ⟨2, 1, 1, 33⟩ h0 #[(.ref G.em), (.int (1 : Int32))] (Q_a14_3 Z  h0) := by
  refine own_mF #[.val (.ref G.em), .val (.int (1 : Int32))] (plainFor_of_name pn_14) (fun _ => rfl) ?_
  intro p e s m below meth c s₁ u hlk hret hZ hown hnm X0 e0 N0
  obtain ⟨hx, hby, hml⟩ := id u
  refine t_aN X0 u d14_0 rfl rfl ?_
  refine t_iN X0 u d14_1 rfl ?_
  refine t_aN X0 u d14_2 rfl rfl ?_
  obtain ⟨T1, X1, e1, st1⟩ := own_gcls X0 hx hZ hown (wd hw 107 rfl) (wd hw 108 rfl) (wd hw 276 rfl) (wd hw 110 rfl) (wd hw 109 rfl) (wd hw 111 rfl) e0 (Exa.ext O0 GG.G_eme) GG.G_mo (g := (mkF m 3 #[.val (.ref G.em), .val (.int (1 : Int32))] [(.ref G.em), (.int (1 : Int32)), (.ref G.em)])) rfl (by rw [hml]; rfl) rfl (hb hby d14_3) (by decide) (W := 2) (by show 2 * 0 + _ ≤ _; exact Nat.le_of_eq rfl) (by decide)
  refine Go.step st1 ?_
  refine t_cS [(.ref G.em), (.int (1 : Int32)), (.ref G.mo)] [] 0 X1 u hZ hown (wd hw 113 rfl) (m_31 hw) e1 (rm_a15_3 l Z a0 hw [] G GG  h0 O0 ) rfl d14_6 rfl rfl (by decide) ?_
  intro v2 T2 L2 Lc2 X2 hQ2 l2
  obtain ⟨b2q2, k2q2, rfl, Nq2, Kq2, p2_0, p2_1, p2_2, p2_3⟩ := hQ2
  have O2_ := extKeep O0 Kq2 all0
  have K2 := Keep.trans (Keep.refl h0 []) Kq2 all0
  have N2_ := frA l2 N0 Nq2
  have g_b2q2 := Nat.le_trans O0.1 p2_0
  have sz_b2q2 := Nat.le_trans (Keep.refl h0 []).1 p2_0
  exact Go.retA X2 hx hret rfl rfl hlk (hb hby d14_9) (by decide) (by decide) ⟨b2q2, k2q2, rfl, N2_, K2, sz_b2q2, p2_1, p2_2, p2_3⟩
def Q_a23_2 (Z : State) (x0 : Addr) (h0 : Heap) (v : Option Value) (h : Heap) (L : List Loc) : Prop := ∃ (b2q2q7 : Addr) (k2q2q7 : ClassId), v = some (.ref b2q2q7) ∧ Fr Z.heap.size L ∧ Keep h0 h [x0] ∧ fl_17 Z h x0 (.ref b2q2q7) ∧ fl_16 Z h x0 (.int (0 : Int32)) ∧ fl_15 Z h x0 (.int (1 : Int32)) ∧ h0.size ≤ b2q2q7 ∧ ex_0 Z h b2q2q7 ∧ Arv Z h b2q2q7 k2q2q7 (.object "java/lang/Object") (1 : Int32) [.null] .null ∧ Ovr Z k2q2q7 "java/lang/Object"
theorem rm_a23_2 (x0 : Addr) (h0 : Heap) (O0 : Ext Z.heap h0) (r0 : fl_17 Z h0 x0 (.ref G.em)) (r1 : ¬ (G.em = G.dc)) (r2 : ex_7 Z h0 x0) (r3 : Z.heap.size ≤ x0) (r4 : fl_16 Z h0 x0 (.int (0 : Int32))) (r5 : fl_15 Z h0 x0 (.int (1 : Int32))) :
    MF hw GG l y_23 jdk_38_method_6_code 4 (some (.array (.object "java/lang/Object"))) ws ⟨3, 1, 1, 47⟩ h0 #[(.ref x0), (.int (1 : Int32))] (Q_a23_2 Z x0 h0) := by
  refine own_mF #[.val (.ref x0), .val (.int (1 : Int32)), .unset, .unset] (plainFor_of_name pn_23) (fun _ => rfl) ?_
  intro p e s m below meth c s₁ u hlk hret hZ hown hnm X0 e0 N0
  obtain ⟨hx, hby, hml⟩ := id u
  refine t_aN X0 u d23_0 rfl rfl ?_
  refine t_gF X0 u hZ hown (wd hw 130 rfl) e0 r0 d23_1 ?_
  intro T1 X1 e1
  obtain ⟨cl2, Ar2, -, S2, N2, -, -⟩ := id (Arv.ext GG.G_emv O0)
  refine Go.step (X1.arraylength hx (by rw [e1]; exact Ar2.1) (State.isArrayOf_alike hZ.alike Ar2.2.1) (g := (mkF m 4 #[.val (.ref x0), .val (.int (1 : Int32)), .unset, .unset] [(.ref G.em)])) rfl rfl (hb hby d23_4)) ?_
  rw [len_of S2 N2]
  show Go _ _ _ _ _ _ _ _ T1 (mkF m 5 #[.val (.ref x0), .val (.int (1 : Int32)), .unset, .unset] [(.int (0 : Int32))])
  refine t_isN X1 u d23_5 (l' := #[.val (.ref x0), .val (.int (1 : Int32)), .val (.int (0 : Int32)), .unset]) rfl ?_
  refine t_iN X1 u d23_6 rfl ?_
  refine t_ifN X1 u d23_7 ((if0 _ _).trans (flt (by decide : ¬ ((0 : Int32) < (0 : Int32)))).2.2.1) ?_
  refine t_aN X1 u d23_10 rfl rfl ?_
  refine t_gF X1 u hZ hown (wd hw 130 rfl) e1 r0 d23_11 ?_
  intro T3 X3 e3
  refine t_gS X3 u hZ hown (wd hw 179 rfl) e3 (Sta.ext O0 GG.G_dc) d23_14 ?_
  intro T4 X4 e4
  refine Go.step (fun _ kt_ => Jvm.RoadKit.acmp (g := (mkF m 17 #[.val (.ref x0), .val (.int (1 : Int32)), .val (.int (0 : Int32)), .unset] [(.ref G.dc), (.ref G.em)])) X4 hx rfl rfl rfl (pc0 := 17) (pc' := 20) (same := false) rfl (hb hby d23_17) rfl (decide_eq_false fun q => r1 (Value.ref.inj q)) (by decide) (by decide) kt_) ?_
  show Go _ _ _ _ _ _ _ _ T4 (mkF m 20 #[.val (.ref x0), .val (.int (1 : Int32)), .val (.int (0 : Int32)), .unset] [])
  refine t_iN X4 u d23_20 rfl ?_
  refine t_iN X4 u d23_21 rfl ?_
  refine t_iN X4 u d23_22 rfl ?_
  refine t_isub X4 u d23_23  ?_
  refine t_iN X4 u d23_24 rfl ?_
  refine t_iC X4 u d23_25  ?_
  refine Go.step (fun _ kt_ => XS.ishr X4.here hx rfl (hb hby d23_26) rfl kt_) ?_
  show Go _ _ _ _ _ _ _ _ T4 (mkF m 27 #[.val (.ref x0), .val (.int (1 : Int32)), .val (.int (0 : Int32)), .unset] [(.int (0 : Int32)), (.int (1 : Int32)), (.int (0 : Int32))])
  refine pt_cS [(.int (0 : Int32)), (.int (1 : Int32)), (.int (0 : Int32))] [] 0 X4 u hZ hown (wd hw 180 rfl) (m_71 hw) e4 (rm_a24_0 l Z a0 hw [] G GG (0 : Int32) (1 : Int32) (0 : Int32) h0 O0 (by decide) (by decide) (by decide)) rfl d23_27 rfl rfl (by decide) N0 ?_
  intro T5 L5 X5 e5 N5_
  refine t_isN X5 u d23_30 (l' := #[.val (.ref x0), .val (.int (1 : Int32)), .val (.int (0 : Int32)), .val (.int (1 : Int32))]) rfl ?_
  refine t_aN X5 u d23_31 rfl rfl ?_
  refine t_aN X5 u d23_32 rfl rfl ?_
  refine t_gF X5 u hZ hown (wd hw 130 rfl) e5 r0 d23_33 ?_
  intro T6 X6 e6
  refine t_iN X6 u d23_36 rfl ?_
  refine t_cS [(.ref G.em), (.int (1 : Int32))] [(.ref x0)] 1 X6 u hZ hown (wd hw 188 rfl) (m_32 hw) e6 (rm_a14_3 l Z a0 hw [] G GG  h0 O0 ) rfl d23_37 rfl rfl (by decide) ?_
  intro v7 T7 L7 Lc7 X7 hQ7 l7
  obtain ⟨b2q2q7, k2q2q7, rfl, Nq7, Kq7, p7_0, p7_1, p7_2, p7_3⟩ := hQ7
  have O7_ := extKeep O0 Kq7 all0
  have K7 := Keep.trans (Keep.refl h0 [x0]) Kq7 all0
  have N7_ := frA l7 N5_ Nq7
  have g_b2q2q7 := Nat.le_trans O0.1 p7_0
  have sz_b2q2q7 := Nat.le_trans (Keep.refl h0 [x0]).1 p7_0
  refine Go.step (fun _ kt_ => XS.dupX1 X7.here hx rfl (hb hby d23_40) rfl rfl rfl kt_) ?_
  refine t_pF X7 u hZ hown (wd hw 130 rfl) rfl (r0.keep Kq7 nin0) (r2.keep Kq7) (Or.inl (wd hw 131 rfl)) (wd hw 74 rfl) pf_ALjava_lang_Object_ rfl rfl d23_41 ?_
  intro T8 h8 X8 e8 W8
  have N8_ := Fr.snoc X8 N7_ r3
  have O8_ := extWr O7_ W8 r3
  have K8 := Keep.wr K7 W8 k0
  have F8 := Fld.same W8 (r0.keep Kq7 nin0)
  have f9 := (p7_2.other W8 (Ne.symm (neL r2.lt p7_0)))
  exact Go.retA X8 hx hret rfl rfl hlk (hb hby d23_44) (by decide) (by decide) (by show Q_a23_2 ..; rw [e8]; exact ⟨b2q2q7, k2q2q7, rfl, N8_, K8, F8, (fR W8 (r4.keep Kq7 nin0) (sn_2 hw)), (fS W8 (r5.keep Kq7 nin0) (sn_1 hw)), sz_b2q2q7, (Exa.wr W8 p7_1), f9, p7_3⟩)
def Q_a22_2 (Z : State) (x0 : Addr) (h0 : Heap) (v : Option Value) (h : Heap) (L : List Loc) : Prop := ∃ (b2q2q7q2 : Addr) (k2q2q7q2 : ClassId), v = some (.ref b2q2q7q2) ∧ Fr Z.heap.size L ∧ Keep h0 h [x0] ∧ fl_17 Z h x0 (.ref b2q2q7q2) ∧ fl_16 Z h x0 (.int (0 : Int32)) ∧ fl_15 Z h x0 (.int (1 : Int32)) ∧ h0.size ≤ b2q2q7q2 ∧ ex_0 Z h b2q2q7q2 ∧ Arv Z h b2q2q7q2 k2q2q7q2 (.object "java/lang/Object") (1 : Int32) [.null] .null ∧ Ovr Z k2q2q7q2 "java/lang/Object"
theorem rm_a22_2 (x0 : Addr) (h0 : Heap) (O0 : Ext Z.heap h0) (r0 : fl_16 Z h0 x0 (.int (0 : Int32))) (r1 : fl_17 Z h0 x0 (.ref G.em)) (r2 : ¬ (G.em = G.dc)) (r3 : ex_7 Z h0 x0) (r4 : Z.heap.size ≤ x0) (r5 : fl_15 Z h0 x0 (.int (1 : Int32))) :
    MF hw GG l y_22 jdk_38_method_7_code 1 (some (.array (.object "java/lang/Object"))) ws ⟨4, 1, 1, 62⟩ h0 #[(.ref x0)] (Q_a22_2 Z x0 h0) := by
  refine own_mF #[.val (.ref x0)] (plainFor_of_name pn_22) (fun _ => rfl) ?_
  intro p e s m below meth c s₁ u hlk hret hZ hown hnm X0 e0 N0
  obtain ⟨hx, hby, hml⟩ := id u
  refine t_aN X0 u d22_0 rfl rfl ?_
  refine t_aN X0 u d22_1 rfl rfl ?_
  refine t_gF X0 u hZ hown (wd hw 127 rfl) e0 r0 d22_2 ?_
  intro T1 X1 e1
  refine t_iC X1 u d22_5  ?_
  refine t_iadd X1 u d22_6  ?_
  refine t_cP [(.int (1 : Int32))] [] 0 X1 u hZ hown r3 (wd hw 174 rfl) (m_21 hw) e1 (rm_a23_2 l Z a0 hw [] G GG x0 h0 O0 r1 r2 r3 r4 r0 r5) rfl d22_7 rfl rfl (by decide) ?_
  intro v2 T2 L2 Lc2 X2 hQ2 l2
  obtain ⟨b2q2q7q2, k2q2q7q2, rfl, Nq2, Kq2, p2_0, p2_1, p2_2, p2_3, p2_4, p2_5, p2_6⟩ := hQ2
  have O2_ := extKeep O0 Kq2 (allS r4 all0)
  have K2 := Keep.trans (Keep.refl h0 [x0]) Kq2 (allS k0 all0)
  have N2_ := frA l2 N0 Nq2
  have g_b2q2q7q2 := Nat.le_trans O0.1 p2_3
  have sz_b2q2q7q2 := Nat.le_trans (Keep.refl h0 [x0]).1 p2_3
  exact Go.retA X2 hx hret rfl rfl hlk (hb hby d22_10) (by decide) (by decide) ⟨b2q2q7q2, k2q2q7q2, rfl, N2_, K2, p2_0, p2_1, p2_2, sz_b2q2q7q2, p2_4, p2_5, p2_6⟩
def Q_a21_3 (Z : State) (x0 x1 : Addr) (h0 : Heap) (v : Option Value) (h : Heap) (L : List Loc) : Prop := ∃ (b2q2q7q2q2 : Addr) (k2q2q7q2q2 : ClassId), v = none ∧ Fr Z.heap.size L ∧ Keep h0 h [x0] ∧ fl_17 Z h x0 (.ref b2q2q7q2q2) ∧ fl_16 Z h x0 (.int (1 : Int32)) ∧ fl_15 Z h x0 (.int (1 : Int32)) ∧ h0.size ≤ b2q2q7q2q2 ∧ ex_0 Z h b2q2q7q2q2 ∧ Arv Z h b2q2q7q2q2 k2q2q7q2q2 (.object "java/lang/Object") (1 : Int32) [(.ref x1)] .null ∧ Ovr Z k2q2q7q2q2 "java/lang/Object"
theorem rm_a21_3 (x0 x1 : Addr) (h0 : Heap) (O0 : Ext Z.heap h0) (r0 : fl_16 Z h0 x0 (.int (0 : Int32))) (r1 : fl_17 Z h0 x0 (.ref G.em)) (r2 : ¬ (G.em = G.dc)) (r3 : ex_7 Z h0 x0) (r4 : Z.heap.size ≤ x0) (r5 : fl_15 Z h0 x0 (.int (1 : Int32))) (r6 : ex_5 Z h0 x1) :
    MF hw GG l y_21 jdk_38_method_24_code 4 none ws ⟨5, 1, 1, 74⟩ h0 #[(.ref x0), (.ref x1), (.ref G.em), (.int (0 : Int32))] (Q_a21_3 Z x0 x1 h0) := by
  refine own_mF #[.val (.ref x0), .val (.ref x1), .val (.ref G.em), .val (.int (0 : Int32))] (plainFor_of_name pn_21) (fun _ => rfl) ?_
  intro p e s m below meth c s₁ u hlk hret hZ hown hnm X0 e0 N0
  obtain ⟨hx, hby, hml⟩ := id u
  refine t_iN X0 u d21_0 rfl ?_
  refine t_aN X0 u d21_1 rfl rfl ?_
  obtain ⟨cl1, Ar1, -, S1, N1, -, -⟩ := id (Arv.ext GG.G_emv O0)
  refine Go.step (X0.arraylength hx (by rw [e0]; exact Ar1.1) (State.isArrayOf_alike hZ.alike Ar1.2.1) (g := (mkF m 2 #[.val (.ref x0), .val (.ref x1), .val (.ref G.em), .val (.int (0 : Int32))] [(.ref G.em), (.int (0 : Int32))])) rfl rfl (hb hby d21_2)) ?_
  rw [len_of S1 N1]
  show Go _ _ _ _ _ _ _ _ s₁ (mkF m 3 #[.val (.ref x0), .val (.ref x1), .val (.ref G.em), .val (.int (0 : Int32))] [(.int (0 : Int32)), (.int (0 : Int32))])
  refine t_icN X0 u d21_3 (teq (by decide : (0 : Int32) = (0 : Int32))).2 ?_
  refine t_aN X0 u d21_6 rfl rfl ?_
  refine t_cP [] [] 0 X0 u hZ hown r3 (wd hw 169 rfl) (m_22 hw) e0 (rm_a22_2 l Z a0 hw [] G GG x0 h0 O0 r0 r1 r2 r3 r4 r5) rfl d21_7 rfl rfl (by decide) ?_
  intro v2 T2 L2 Lc2 X2 hQ2 l2
  obtain ⟨b2q2q7q2q2, k2q2q7q2q2, rfl, Nq2, Kq2, p2_0, p2_1, p2_2, p2_3, p2_4, p2_5, p2_6⟩ := hQ2
  have O2_ := extKeep O0 Kq2 (allS r4 all0)
  have K2 := Keep.trans (Keep.refl h0 [x0]) Kq2 (allS k0 all0)
  have N2_ := frA l2 N0 Nq2
  have g_b2q2q7q2q2 := Nat.le_trans O0.1 p2_3
  have sz_b2q2q7q2q2 := Nat.le_trans (Keep.refl h0 [x0]).1 p2_3
  refine t_asN X2 u d21_10 rfl (l' := #[.val (.ref x0), .val (.ref x1), .val (.ref b2q2q7q2q2), .val (.int (0 : Int32))]) rfl ?_
  refine t_aN X2 u d21_11 rfl rfl ?_
  refine t_iN X2 u d21_12 rfl ?_
  refine t_aN X2 u d21_13 rfl rfl ?_
  obtain ⟨cl3, Ar3, q3, S3, N3, H3, G3⟩ := id p2_5
  have hin3 : ¬ ((0 : Int32) < 0 ∨ cl3.slots.size ≤ ((0 : Int32)).toNatClampNeg) := inb_of S3 ⟨by decide, by decide⟩
  obtain ⟨T3, h3, X3, e3, W3, st3⟩ := stR X2 hx hZ rfl Ar3 (j := (0 : Int32)) hin3 rfl (Sto.ofV Ar3 q3 p2_6 (Ins.of_exa (r6.keep Kq2) (wd hw 189 rfl))) (g := (mkF m 14 #[.val (.ref x0), .val (.ref x1), .val (.ref b2q2q7q2q2), .val (.int (0 : Int32))] [(.ref x1), (.int (0 : Int32)), (.ref b2q2q7q2q2)])) rfl rfl (hb hby d21_14)
  refine Go.step st3 ?_
  have V3 : Arv Z h3 b2q2q7q2q2 k2q2q7q2q2 (.object "java/lang/Object") (1 : Int32) [(.ref x1)] .null := Arv.set Ar3 q3 S3 N3 H3 G3 rfl W3 0 rfl (Nat.le_of_ble_eq_true rfl)
  have N3_ := Fr.snoc X3 N2_ g_b2q2q7q2q2
  have O3_ := extWr O2_ W3 g_b2q2q7q2q2
  have K3 := Keep.wr K2 W3 (Or.inr sz_b2q2q7q2q2)
  refine t_aN X3 u d21_15 rfl rfl ?_
  refine t_iN X3 u d21_16 rfl ?_
  refine t_iC X3 u d21_17  ?_
  refine t_iadd X3 u d21_18  ?_
  refine t_pF X3 u hZ hown (wd hw 127 rfl) e3 (fL W3 p2_1 (neL r3.lt p2_3)) (Exa.wr W3 (r3.keep Kq2)) (Or.inl (wd hw 128 rfl)) (wd hw 74 rfl) pf_I rfl rfl d21_19 ?_
  intro T4 h4 X4 e4 W4
  have N4_ := Fr.snoc X4 N3_ r4
  have O4_ := extWr O3_ W4 r4
  have K4 := Keep.wr K3 W4 k0
  have F4 := Fld.same W4 (fL W3 p2_1 (neL r3.lt p2_3))
  have f5 := (fS W4 (fL W3 p2_0 (neL r3.lt p2_3)) (sn_2 hw))
  have f6 := (fS W4 (fL W3 p2_2 (neL r3.lt p2_3)) (sn_0 hw))
  exact Go.retV X4 hx hret hlk (hb hby d21_22) (by decide) (by decide) (by show Q_a21_3 ..; rw [e4]; exact ⟨b2q2q7q2q2, k2q2q7q2q2, rfl, N4_, K4, f5, F4, f6, sz_b2q2q7q2q2, (Exa.wr W4 (Exa.wr W3 p2_4)), (V3.other W4 (Ne.symm (neL r3.lt p2_3))), p2_6⟩)
def Q_a20_3 (Z : State) (x0 x1 : Addr) (h0 : Heap) (v : Option Value) (h : Heap) (L : List Loc) : Prop := ∃ (b2q2q7q2q2q5 : Addr) (k2q2q7q2q2q5 : ClassId), v = some (.int (1 : Int32)) ∧ Fr Z.heap.size L ∧ Keep h0 h [x0] ∧ fl_17 Z h x0 (.ref b2q2q7q2q2q5) ∧ fl_16 Z h x0 (.int (1 : Int32)) ∧ fl_15 Z h x0 (.int (1 : Int32)) ∧ h0.size ≤ b2q2q7q2q2q5 ∧ ex_0 Z h b2q2q7q2q2q5 ∧ Arv Z h b2q2q7q2q2q5 k2q2q7q2q2q5 (.object "java/lang/Object") (1 : Int32) [(.ref x1)] .null ∧ Ovr Z k2q2q7q2q2q5 "java/lang/Object"
theorem rm_a20_3 (x0 x1 : Addr) (h0 : Heap) (O0 : Ext Z.heap h0) (r0 : fl_15 Z h0 x0 (.int (0 : Int32))) (r1 : ex_7 Z h0 x0) (r2 : Z.heap.size ≤ x0) (r3 : fl_17 Z h0 x0 (.ref G.em)) (r4 : fl_16 Z h0 x0 (.int (0 : Int32))) (r5 : ¬ (G.em = G.dc)) (r6 : ex_5 Z h0 x1) :
    MF hw GG l y_20 jdk_38_method_25_code 2 (some .boolean) ws ⟨6, 1, 1, 89⟩ h0 #[(.ref x0), (.ref x1)] (Q_a20_3 Z x0 x1 h0) := by
  refine own_mF #[.val (.ref x0), .val (.ref x1)] (plainFor_of_name pn_20) (fun _ => rfl) ?_
  intro p e s m below meth c s₁ u hlk hret hZ hown hnm X0 e0 N0
  obtain ⟨hx, hby, hml⟩ := id u
  refine t_aN X0 u d20_0 rfl rfl ?_
  refine t_dup X0 u d20_1 rfl ?_
  obtain ⟨T1, X1, e1, st1⟩ := getF X0 hx hZ hown (host := "") (Or.inl (wd hw 162 rfl)) (Via.of (wd hw 163 rfl)) e0 r0 (g := (mkF m 2 #[.val (.ref x0), .val (.ref x1)] [(.ref x0), (.ref x0)])) rfl rfl (hb hby d20_2)
  refine Go.step st1 ?_
  refine t_iC X1 u d20_5  ?_
  refine t_iadd X1 u d20_6  ?_
  obtain ⟨T2, h2, X2, e2, W2, st2⟩ := putF X1 hx hZ hown (host := "") (Or.inl (wd hw 162 rfl)) (Via.of (wd hw 163 rfl)) e1 r0 r1 (Or.inl (wd hw 93 rfl)) (wd hw 74 rfl) (ty := .int) pf_I rfl rfl (g := (mkF m 7 #[.val (.ref x0), .val (.ref x1)] [(.int (1 : Int32)), (.ref x0)])) rfl rfl (hb hby d20_7)
  refine Go.step st2 ?_
  have N2_ := Fr.snoc X2 N0 r2
  have O2_ := extWr O0 W2 r2
  have K2 := Keep.wr (Keep.refl h0 [x0]) W2 k0
  have F2 := Fld.same W2 r0
  refine t_aN X2 u d20_10 rfl rfl ?_
  refine t_aN X2 u d20_11 rfl rfl ?_
  refine t_aN X2 u d20_12 rfl rfl ?_
  refine t_gF X2 u hZ hown (wd hw 130 rfl) e2 (fR W2 r3 (sn_1 hw)) d20_13 ?_
  intro T3 X3 e3
  refine t_aN X3 u d20_16 rfl rfl ?_
  refine t_gF X3 u hZ hown (wd hw 127 rfl) e3 (fR W2 r4 (sn_0 hw)) d20_17 ?_
  intro T4 X4 e4
  refine t_cP [(.ref x1), (.ref G.em), (.int (0 : Int32))] [] 0 X4 u hZ hown (Exa.wr W2 r1) (wd hw 164 rfl) (m_23 hw) e4 (rm_a21_3 l Z a0 hw [] G GG x0 x1 h2 O2_ (fR W2 r4 (sn_0 hw)) (fR W2 r3 (sn_1 hw)) r5 (Exa.wr W2 r1) r2 F2 (Exa.wr W2 r6)) rfl d20_20 rfl rfl (by decide) ?_
  intro v5 T5 L5 Lc5 X5 hQ5 l5
  obtain ⟨b2q2q7q2q2q5, k2q2q7q2q2q5, rfl, Nq5, Kq5, p5_0, p5_1, p5_2, p5_3, p5_4, p5_5, p5_6⟩ := hQ5
  have O5_ := extKeep O2_ Kq5 (allS r2 all0)
  have K5 := Keep.trans K2 Kq5 (allS k0 all0)
  have N5_ := frA l5 N2_ Nq5
  have g_b2q2q7q2q2q5 := Nat.le_trans O2_.1 p5_3
  have sz_b2q2q7q2q2q5 := Nat.le_trans K2.1 p5_3
  refine t_iC X5 u d20_23  ?_
  exact Go.retN X5 hx (t := .boolean) hret (by simp) hlk (hb hby d20_24) (by decide) (by decide) ⟨b2q2q7q2q2q5, k2q2q7q2q2q5, rfl, N5_, K5, p5_0, p5_1, p5_2, sz_b2q2q7q2q2q5, p5_4, p5_5, p5_6⟩
def Q_a31_3 (Z : State) (x0 w1 : Addr) (w2 : Int32) (w6 : Addr) (h0 : Heap) (v : Option Value) (h : Heap) (L : List Loc) : Prop := v = some (.ref w6) ∧ Fr Z.heap.size L ∧ Keep h0 h [x0] ∧ fl_22 Z h x0 (.ref w1) ∧ fl_24 Z h x0 (.int w2) ∧ fl_25 Z h x0 (.int (1 : Int32)) ∧ fl_23 Z h x0 (.int (0 : Int32))
theorem rm_a31_3 (x0 w1 : Addr) (w2 w3 : Int32) (w4 : Addr) (kk5 : ClassId) (w6 : Addr) (h0 : Heap) (O0 : Ext Z.heap h0) (r0 : ex_9 Z h0 x0) (r1 : fl_22 Z h0 x0 (.ref w1)) (r2 : fl_15 Z h0 w1 (.int w2)) (r3 : fl_24 Z h0 x0 (.int w2)) (r4 : w2 = w2) (r5 : fl_25 Z h0 x0 (.int (0 : Int32))) (r6 : fl_16 Z h0 w1 (.int w3)) (r7 : (0 : Int32) < w3) (r8 : fl_17 Z h0 w1 (.ref w4)) (r9 : Arv Z h0 w4 kk5 (.object "java/lang/Object") (1 : Int32) [(.ref w6)] .null) (r10 : Z.heap.size ≤ x0) (r11 : fl_23 Z h0 x0 (.int (-1 : Int32))) (r12 : w4 ≠ x0) :
    MF hw GG l y_31 jdk_49_method_3_code 3 (some (.object "java/lang/Object")) ws ⟨1, 0, 0, 12⟩ h0 #[(.ref x0)] (Q_a31_3 Z x0 w1 w2 w6 h0) := by
  refine own_mF #[.val (.ref x0), .unset, .unset] (plainFor_of_name pn_31) (fun _ => rfl) ?_
  intro p e s m below meth c s₁ u hlk hret hZ hown hnm X0 e0 N0
  obtain ⟨hx, hby, hml⟩ := id u
  refine t_aN X0 u d31_0 rfl rfl ?_
  refine pt_cV [] [] 0 X0 u hZ hown (wd hw 242 rfl) (m_25 hw) e0 r0 (rm_a32_0 l Z a0 hw [] G GG x0 w1 w2 h0 O0 r1 r2 r3 r4) rfl d31_1 rfl rfl (by decide) N0 ?_
  intro T1 L1 X1 e1 N1_
  refine t_aN X1 u d31_4 rfl rfl ?_
  refine t_gF X1 u hZ hown (wd hw 231 rfl) e1 r5 d31_5 ?_
  intro T2 X2 e2
  refine t_isN X2 u d31_8 (l' := #[.val (.ref x0), .val (.int (0 : Int32)), .unset]) rfl ?_
  refine t_iN X2 u d31_9 rfl ?_
  refine t_aN X2 u d31_10 rfl rfl ?_
  refine t_gF X2 u hZ hown (wd hw 214 rfl) e2 r1 d31_11 ?_
  intro T3 X3 e3
  obtain ⟨T4, X4, e4, st4⟩ := getF X3 hx hZ hown (Or.inr (wd hw 233 rfl)) Via.refl e3 r6 (g := (mkF m 14 #[.val (.ref x0), .val (.int (0 : Int32)), .unset] [(.ref w1), (.int (0 : Int32))])) rfl rfl (hb hby d31_14)
  refine Go.step st4 ?_
  refine t_icY 17 28 X4 u rfl d31_17 (tlt r7).1 (by decide) ?_
  refine t_aN X4 u d31_28 rfl rfl ?_
  refine t_gF X4 u hZ hown (wd hw 214 rfl) e4 r1 d31_29 ?_
  intro T5 X5 e5
  refine t_gF X5 u hZ hown (wd hw 247 rfl) e5 r8 d31_32 ?_
  intro T6 X6 e6
  refine t_asN X6 u d31_35 rfl (l' := #[.val (.ref x0), .val (.int (0 : Int32)), .val (.ref w4)]) rfl ?_
  refine t_iN X6 u d31_36 rfl ?_
  refine t_aN X6 u d31_37 rfl rfl ?_
  obtain ⟨cl7, Ar7, -, S7, N7, -, -⟩ := id r9
  refine Go.step (X6.arraylength hx (by rw [e6]; exact Ar7.1) (State.isArrayOf_alike hZ.alike Ar7.2.1) (g := (mkF m 38 #[.val (.ref x0), .val (.int (0 : Int32)), .val (.ref w4)] [(.ref w4), (.int (0 : Int32))])) rfl rfl (hb hby d31_38)) ?_
  rw [len_of S7 N7]
  show Go _ _ _ _ _ _ _ _ T6 (mkF m 39 #[.val (.ref x0), .val (.int (0 : Int32)), .val (.ref w4)] [(.int (1 : Int32)), (.int (0 : Int32))])
  refine t_icY 39 50 X6 u rfl d31_39 (tlt (by decide : (0 : Int32) < (1 : Int32))).1 (by decide) ?_
  refine t_aN X6 u d31_50 rfl rfl ?_
  refine t_iN X6 u d31_51 rfl ?_
  refine t_iC X6 u d31_52  ?_
  refine t_iadd X6 u d31_53  ?_
  refine t_pF X6 u hZ hown (wd hw 231 rfl) e6 r5 r0 (Or.inl (wd hw 232 rfl)) (wd hw 208 rfl) pf_I rfl rfl d31_54 ?_
  intro T8 h8 X8 e8 W8
  have N8_ := Fr.snoc X8 N1_ r10
  have O8_ := extWr O0 W8 r10
  have K8 := Keep.wr (Keep.refl h0 [x0]) W8 k0
  have F8 := Fld.same W8 r5
  refine t_aN X8 u d31_57 rfl rfl ?_
  refine t_aN X8 u d31_58 rfl rfl ?_
  refine t_iN X8 u d31_59 rfl ?_
  refine Go.step (fun _ kt_ => XS.dupX1 X8.here hx rfl (hb hby d31_60) rfl rfl rfl kt_) ?_
  refine t_pF X8 u hZ hown (wd hw 217 rfl) e8 (fS W8 r11 (sn_13 hw)) (Exa.wr W8 r0) (Or.inl (wd hw 218 rfl)) (wd hw 208 rfl) pf_I rfl rfl d31_61 ?_
  intro T9 h9 X9 e9 W9
  have N9_ := Fr.snoc X9 N8_ r10
  have O9_ := extWr O8_ W9 r10
  have K9 := Keep.wr K8 W9 k0
  have F9 := Fld.same W9 (fS W8 r11 (sn_13 hw))
  obtain ⟨cl10, Ar10, q10, S10, N10, H10, G10⟩ := id ((r9.other W8 r12).other W9 r12)
  have hin10 : ¬ ((0 : Int32) < 0 ∨ cl10.slots.size ≤ ((0 : Int32)).toNatClampNeg) := inb_of S10 ⟨by decide, by decide⟩
  refine Go.step (X9.aaload hx (j := (0 : Int32)) (v := (.ref w6)) (by rw [e9]; exact Ar10.1) (State.isArrayOf_alike hZ.alike Ar10.2.1) rfl Ar10.2.2 hin10 (Has.at H10 hin10 rfl) (g := (mkF m 64 #[.val (.ref x0), .val (.int (0 : Int32)), .val (.ref w4)] [(.int (0 : Int32)), (.ref w4)])) rfl rfl (hb hby d31_64)) ?_
  exact Go.retA X9 hx hret rfl rfl hlk (hb hby d31_65) (by decide) (by decide) (by show Q_a31_3 ..; rw [e9]; exact ⟨rfl, N9_, K9, (fS W9 (fS W8 r1 (sn_12 hw)) (sn_9 hw)), (fR W9 (fS W8 r3 (sn_14 hw)) (sn_11 hw)), (fR W9 F8 (sn_13 hw)), F9⟩)
def Q_a26_3 (Z : State) (G : GT) (x0 w5 : Addr) (h0 : Heap) (v : Option Value) (h : Heap) (L : List Loc) : Prop := ∃ (b2q5q1q25 : Addr), v = none ∧ Fr Z.heap.size L ∧ Keep h0 h [x0] ∧ fl_2 Z h x0 (.ref b2q5q1q25) ∧ h0.size ≤ b2q5q1q25 ∧ ex_4 Z h b2q5q1q25 ∧ fl_3 Z h b2q5q1q25 (.ref w5) ∧ fl_4 Z h b2q5q1q25 (.ref G.eo)
theorem rm_a26_3 (x0 x1 : Addr) (w1 w2 : Int32) (w3 : Addr) (kk4 : ClassId) (w5 : Addr) (w6 : Int32) (w7 : Int64) (h0 : Heap) (O0 : Ext Z.heap h0) (r0 : ex_7 Z h0 x1) (r1 : fl_15 Z h0 x1 (.int w1)) (r2 : fl_16 Z h0 x1 (.int w2)) (r3 : ¬ ((0 : Int32) = w2)) (r4 : w1 = w1) (r5 : (0 : Int32) < w2) (r6 : fl_17 Z h0 x1 (.ref w3)) (r7 : Arv Z h0 w3 kk4 (.object "java/lang/Object") (1 : Int32) [(.ref w5)] .null) (r8 : ex_5 Z h0 w5) (r9 : fl_5 Z h0 w5 (.int w6)) (r10 : ¬ (w6 < (0 : Int32))) (r11 : fl_6 Z h0 w5 (.long w7)) (r12 : ¬ ((lcmpW w7 (0 : Int64)) < (0 : Int32))) (r13 : (1 : Int32) = w2) (r14 : ex_3 Z h0 x0) (r15 : fl_2 Z h0 x0 .null) (r16 : Z.heap.size ≤ x0) :
    MF hw GG l y_26 prog_22_method_1_code 5 none ws ⟨8, 5, 20, 100⟩ h0 #[(.ref x0), (.ref x1)] (Q_a26_3 Z G x0 w5 h0) := by
  refine own_mF #[.val (.ref x0), .val (.ref x1), .unset, .unset, .unset] (plainFor_of_name pn_26) (fun _ => rfl) ?_
  intro p e s m below meth c s₁ u hlk hret hZ hown hnm X0 e0 N0
  obtain ⟨hx, hby, hml⟩ := id u
  refine t_aN X0 u d26_0 rfl rfl ?_
  refine pt_cN [] [] 0 X0 u hZ hown rfl (wd hw 195 rfl) (m_7 hw) e0 (rm_a19_0 l Z a0 hw [] G GG x0 h0 O0 ) rfl d26_1 rfl rfl (by decide) N0 ?_
  intro T1 L1 X1 e1 N1_
  refine t_new X1 u hZ hown (wd hw 73 rfl) (wd hw 74 rfl) (wd hw 75 rfl) e1 d26_4 (by decide) ?_
  intro T2 h2 b2 X2 e2 E2 hb2 A2 D2
  have g_b2 := leE O0.1 hb2
  have O2_ := extTr O0 E2
  have sz_b2 := leE (Keep.refl h0 [x0]).1 hb2
  have K2 := Keep.ext (Keep.refl h0 [x0]) E2
  have F2_modCount : fl_15 Z h2 b2 (.int (0 : Int32)) := D2 (Or.inl (wd hw 93 rfl)) (ty := .int) pf_I
  have F2_size : fl_16 Z h2 b2 (.int (0 : Int32)) := D2 (Or.inl (wd hw 128 rfl)) (ty := .int) pf_I
  have F2_elementData : fl_17 Z h2 b2 .null := D2 (Or.inl (wd hw 131 rfl)) (ty := (.array (.object "java/lang/Object"))) pf_ALjava_lang_Object_
  refine t_dup X2 u d26_7 rfl ?_
  refine t_cN [] [(.ref b2)] 1 X2 u hZ hown rfl (wd hw 196 rfl) (m_2 hw) e2 (rm_a27_0 l Z a0 hw [] G GG b2 (0 : Int32) (0 : Int32) h2 O2_ A2 F2_modCount g_b2 F2_size F2_elementData) rfl d26_8 rfl rfl (by decide) ?_
  intro v3 T3 L3 Lc3 X3 hQ3 l3
  obtain ⟨rfl, Nq3, Kq3, p3_0, p3_1, p3_2⟩ := hQ3
  have O3_ := extKeep O2_ Kq3 (allS g_b2 all0)
  have K3 := Keep.trans K2 Kq3 (allS (Or.inr sz_b2) all0)
  have N3_ := frA l3 N1_ Nq3
  refine t_asN X3 u d26_11 rfl (l' := #[.val (.ref x0), .val (.ref x1), .val (.ref b2), .unset, .unset]) rfl ?_
  refine t_aN X3 u d26_12 rfl rfl ?_
  have f4 := ((Fld.ext E2 r1).keep Kq3 (ninS (neE r0.lt hb2) nin0))
  refine t_cI [] [] 0 X3 u hZ hown (wd hw 199 rfl) (m_9 hw) rfl ((Exa.ext E2 r0).keep Kq3) (rm_a28_0 l Z a0 hw [] G GG x1 w1 T3.heap O3_ f4) rfl d26_13 rfl rfl (by decide) ?_
  intro v5 T5 L5 Lc5 X5 hQ5 l5
  obtain ⟨b1q5, rfl, Nq5, Kq5, p5_0, p5_1, p5_2, p5_3, p5_4, p5_5⟩ := hQ5
  have O5_ := extKeep O3_ Kq5 all0
  have K5 := Keep.trans K3 Kq5 all0
  have N5_ := frA l5 N3_ Nq5
  have g_b1q5 := Nat.le_trans O3_.1 p5_0
  have sz_b1q5 := Nat.le_trans K3.1 p5_0
  refine t_asN X5 u d26_18 rfl (l' := #[.val (.ref x0), .val (.ref x1), .val (.ref b2), .val (.ref b1q5), .unset]) rfl ?_
  refine t_aN X5 u d26_19 rfl rfl ?_
  have f6 := (((Fld.ext E2 r2).keep Kq3 (ninS (neE r0.lt hb2) nin0)).keep Kq5 nin0)
  refine pt_cI [] [] 0 X5 u hZ hown (wd hw 222 rfl) (m_10 hw) rfl p5_1 (rm_a30_1 l Z a0 hw [] G GG b1q5 (0 : Int32) x1 w2 T5.heap O5_ p5_5 p5_2 f6 r3) rfl d26_20 rfl rfl (by decide) N5_ ?_
  intro T7 L7 X7 e7 N7_
  refine t_ifN X7 u d26_25 ((if0 _ _).trans (feq (by decide : ¬ ((1 : Int32) = (0 : Int32)))).1) ?_
  refine t_aN X7 u d26_28 rfl rfl ?_
  have f8 := (((Fld.ext E2 r6).keep Kq3 (ninS (neE r0.lt hb2) nin0)).keep Kq5 nin0)
  have f9 := (((r7.ext E2).keep Kq3 (ninS (neE r7.lt hb2) nin0)).keep Kq5 nin0)
  refine t_cI [] [] 0 X7 u hZ hown (wd hw 234 rfl) (m_26 hw) e7 p5_1 (rm_a31_3 l Z a0 hw [] G GG b1q5 x1 w1 w2 w3 kk4 w5 T5.heap O5_ p5_1 p5_2 (f4.keep Kq5 nin0) p5_4 r4 p5_5 f6 r5 f8 f9 g_b1q5 p5_3 (neL ((r7.ext E2).keep Kq3 (ninS (neE r7.lt hb2) nin0)).lt p5_0)) rfl d26_29 rfl rfl (by decide) ?_
  intro v10 T10 L10 Lc10 X10 hQ10 l10
  obtain ⟨rfl, Nq10, Kq10, p10_0, p10_1, p10_2, p10_3⟩ := hQ10
  have O10_ := extKeep O5_ Kq10 (allS g_b1q5 all0)
  have K10 := Keep.trans K5 Kq10 (allS (Or.inr sz_b1q5) all0)
  have N10_ := frA l10 N7_ Nq10
  have f11 := ((((Exa.ext E2 r8).keep Kq3).keep Kq5).keep Kq10)
  obtain ⟨T12, X12, e12, st12⟩ := castY X10 hx hZ hown (wd hw 138 rfl) rfl (Ins.self f11) (g := (mkF m 34 #[.val (.ref x0), .val (.ref x1), .val (.ref b2), .val (.ref b1q5), .unset] [(.ref w5)])) rfl rfl (hb hby d26_34)
  refine Go.step st12 ?_
  refine t_asL X12 u d26_37 rfl (l' := #[.val (.ref x0), .val (.ref x1), .val (.ref b2), .val (.ref b1q5), .val (.ref w5)]) rfl ?_
  refine t_aN X12 u d26_39 rfl rfl ?_
  refine t_aL X12 u d26_40 rfl rfl ?_
  have f13 := ((p3_1.keep Kq5 nin0).keep Kq10 (ninS (neL (A2.keep Kq3).lt p5_0) nin0))
  have f14 := ((((Fld.ext E2 r9).keep Kq3 (ninS (neE r8.lt hb2) nin0)).keep Kq5 nin0).keep Kq10 (ninS (neL ((Exa.ext E2 r8).keep Kq3).lt p5_0) nin0))
  have f15 := ((((Fld.ext E2 r11).keep Kq3 (ninS (neE r8.lt hb2) nin0)).keep Kq5 nin0).keep Kq10 (ninS (neL ((Exa.ext E2 r8).keep Kq3).lt p5_0) nin0))
  refine pt_cS [(.ref b2), (.ref w5)] [] 0 X12 u hZ hown (wd hw 249 rfl) (m_29 hw) e12 (rm_a33_0 l Z a0 hw [] G GG b2 w5 (0 : Int32) w6 w7 T10.heap O10_ (((A2.keep Kq3).keep Kq5).keep Kq10) f13 (by decide) f11 f14 r10 f15 r12) rfl d26_42 rfl rfl (by decide) N10_ ?_
  intro T16 L16 X16 e16 N16_
  refine t_ifY 45 74 X16 u rfl d26_45 ((if0 _ _).trans (feq (by decide : ¬ ((1 : Int32) = (0 : Int32)))).2) (by decide) ?_
  refine t_aN X16 u d26_74 rfl rfl ?_
  refine t_aL X16 u d26_75 rfl rfl ?_
  have f17 := ((p3_0.keep Kq5 nin0).keep Kq10 (ninS (neL (A2.keep Kq3).lt p5_0) nin0))
  have f18 := ((p3_2.keep Kq5 nin0).keep Kq10 (ninS (neL (A2.keep Kq3).lt p5_0) nin0))
  refine t_cI [(.ref w5)] [] 0 X16 u hZ hown (wd hw 154 rfl) (m_24 hw) e16 (((A2.keep Kq3).keep Kq5).keep Kq10) (rm_a20_0 l Z a0 hw [] G GG b2 w5 T10.heap O10_ f17 (((A2.keep Kq3).keep Kq5).keep Kq10) g_b2 f18 f13 f11) rfl d26_77 rfl rfl (by decide) ?_
  intro v19 T19 L19 Lc19 X19 hQ19 l19
  obtain ⟨b6q2q2q5q19, k6q2q2q5q19, rfl, Nq19, Kq19, p19_0, p19_1, p19_2, p19_3, p19_4, p19_5, p19_6⟩ := hQ19
  have O19_ := extKeep O10_ Kq19 (allS g_b2 all0)
  have K19 := Keep.trans K10 Kq19 (allS (Or.inr sz_b2) all0)
  have N19_ := frA l19 N16_ Nq19
  have g_b6q2q2q5q19 := Nat.le_trans O10_.1 p19_3
  have sz_b6q2q2q5q19 := Nat.le_trans K10.1 p19_3
  refine t_pop X19 u d26_82 rfl ?_
  refine t_go 83 19 X19 u rfl d26_83 (by decide) ?_
  refine t_aN X19 u d26_19 rfl rfl ?_
  have f20 := (p10_2.keep Kq19 (ninS (Ne.symm (neL (A2.keep Kq3).lt p5_0)) nin0))
  have f21 := (p10_0.keep Kq19 (ninS (Ne.symm (neL (A2.keep Kq3).lt p5_0)) nin0))
  have f22 := ((f6.keep Kq10 (ninS (neL ((Exa.ext E2 r0).keep Kq3).lt p5_0) nin0)).keep Kq19 (ninS (neE r0.lt hb2) nin0))
  refine pt_cI [] [] 0 X19 u hZ hown (wd hw 222 rfl) (m_10 hw) rfl ((p5_1.keep Kq10).keep Kq19) (rm_a30_0 l Z a0 hw [] G GG b1q5 (1 : Int32) x1 w2 T19.heap O19_ f20 f21 f22 r13) rfl d26_20 rfl rfl (by decide) N19_ ?_
  intro T23 L23 X23 e23 N23_
  refine t_ifY 25 86 X23 u rfl d26_25 ((if0 _ _).trans (teq (by decide : (0 : Int32) = (0 : Int32))).1) (by decide) ?_
  refine t_aN X23 u d26_86 rfl rfl ?_
  have f24 := ((((A2.keep Kq3).keep Kq5).keep Kq10).keep Kq19)
  refine t_cS [(.ref b2)] [] 0 X23 u hZ hown (wd hw 264 rfl) (m_14 hw) e23 (rm_a36_1 l Z a0 hw [] G GG b2 b6q2q2q5q19 k6q2q2q5q19 w5 T19.heap O19_ f24 p19_1 p19_0 p19_4 p19_5 (f11.keep Kq19)) rfl d26_87 rfl rfl (by decide) ?_
  intro v25 T25 L25 Lc25 X25 hQ25 l25
  obtain ⟨b2q5q1q25, rfl, Nq25, Kq25, p25_0, p25_1, p25_2, p25_3⟩ := hQ25
  have O25_ := extKeep O19_ Kq25 all0
  have K25 := Keep.trans K19 Kq25 all0
  have N25_ := frA l25 N23_ Nq25
  have g_b2q5q1q25 := Nat.le_trans O19_.1 p25_0
  have sz_b2q5q1q25 := Nat.le_trans K19.1 p25_0
  refine t_asN X25 u d26_90 rfl (l' := #[.val (.ref x0), .val (.ref b2q5q1q25), .val (.ref b2), .val (.ref b1q5), .val (.ref w5)]) rfl ?_
  refine t_aN X25 u d26_91 rfl rfl ?_
  refine t_aN X25 u d26_92 rfl rfl ?_
  have f26 := ((((Exa.ext E2 r14).keep Kq3).keep Kq5).keep Kq10)
  have f27 := ((((Fld.ext E2 r15).keep Kq3 (ninS (neE r14.lt hb2) nin0)).keep Kq5 nin0).keep Kq10 (ninS (neL ((Exa.ext E2 r14).keep Kq3).lt p5_0) nin0))
  have f28 := ((f27.keep Kq19 (ninS (neE r14.lt hb2) nin0)).keep Kq25 nin0)
  refine t_pF X25 u hZ hown (wd hw 30 rfl) rfl f28 ((f26.keep Kq19).keep Kq25) (Or.inr ⟨(wd hw 31 rfl), rfl, hnm⟩) (wd hw 191 rfl) pf_Ljava_util_List_ rfl rfl d26_93 ?_
  intro T29 h29 X29 e29 W29
  have N29_ := Fr.snoc X29 N25_ r16
  have O29_ := extWr O25_ W29 r16
  have K29 := Keep.wr K25 W29 k0
  have F29 := Fld.same W29 f28
  have f30 := (fL W29 p25_2 (Ne.symm (neL (f26.keep Kq19).lt p25_0)))
  have f31 := (fL W29 p25_3 (Ne.symm (neL (f26.keep Kq19).lt p25_0)))
  exact Go.retV X29 hx hret hlk (hb hby d26_96) (by decide) (by decide) (by show Q_a26_3 ..; rw [e29]; exact ⟨b2q5q1q25, rfl, N29_, K29, F29, sz_b2q5q1q25, (Exa.wr W29 p25_1), f30, f31⟩)
def Q_a9_1 (Z : State) (G : GT) (x1 : Int32) (x2 : Int64) (h0 : Heap) (v : Option Value) (h : Heap) (L : List Loc) : Prop := ∃ (b11 : Addr) (b2q5q1q25q15 : Addr) (b5 : Addr), v = some (.ref b11) ∧ Fr Z.heap.size L ∧ Keep h0 h [] ∧ h0.size ≤ b11 ∧ ex_3 Z h b11 ∧ fl_2 Z h b11 (.ref b2q5q1q25q15) ∧ h0.size ≤ b2q5q1q25q15 ∧ ex_4 Z h b2q5q1q25q15 ∧ fl_3 Z h b2q5q1q25q15 (.ref b5) ∧ fl_4 Z h b2q5q1q25q15 (.ref G.eo) ∧ b11 ≠ b2q5q1q25q15 ∧ h0.size ≤ b5 ∧ ex_5 Z h b5 ∧ fl_5 Z h b5 (.int x1) ∧ fl_6 Z h b5 (.long x2) ∧ b11 ≠ b5 ∧ b2q5q1q25q15 ≠ b5
theorem rm_a9_1 (x1 : Int32) (x2 : Int64) (h0 : Heap) (O0 : Ext Z.heap h0) (r0 : ¬ (G.em = G.dc)) (r1 : ¬ (x1 < (0 : Int32))) (r2 : ¬ ((lcmpW x2 (0 : Int64)) < (0 : Int32))) :
    MF hw GG l y_9 prog_22_method_8_code 6 (some (.object "com/example/clean_epoch/cleanepoch/log/Lineage")) ws ⟨9, 10, 27, 117⟩ h0 #[(.ref G.le), (.int x1), (.long x2)] (Q_a9_1 Z G x1 x2 h0) := by
  refine own_mF #[.val (.ref G.le), .val (.int x1), .val (.long x2), .second, .unset, .unset] (plainFor_of_name pn_9) (fun _ => rfl) ?_
  intro p e s m below meth c s₁ u hlk hret hZ hown hnm X0 e0 N0
  obtain ⟨hx, hby, hml⟩ := id u
  refine t_new X0 u hZ hown (wd hw 73 rfl) (wd hw 74 rfl) (wd hw 75 rfl) e0 d9_0 (by decide) ?_
  intro T1 h1 b1 X1 e1 E1 hb1 A1 D1
  have g_b1 := leE O0.1 hb1
  have O1_ := extTr O0 E1
  have sz_b1 := leE (Keep.refl h0 []).1 hb1
  have K1 := Keep.ext (Keep.refl h0 []) E1
  have F1_modCount : fl_15 Z h1 b1 (.int (0 : Int32)) := D1 (Or.inl (wd hw 93 rfl)) (ty := .int) pf_I
  have F1_size : fl_16 Z h1 b1 (.int (0 : Int32)) := D1 (Or.inl (wd hw 128 rfl)) (ty := .int) pf_I
  have F1_elementData : fl_17 Z h1 b1 .null := D1 (Or.inl (wd hw 131 rfl)) (ty := (.array (.object "java/lang/Object"))) pf_ALjava_lang_Object_
  refine t_dup X1 u d9_3 rfl ?_
  refine t_aN X1 u d9_4 rfl rfl ?_
  refine t_gF X1 u hZ hown (wd hw 30 rfl) e1 (Fld.ext O1_ GG.G_lef) d9_5 ?_
  intro T2 X2 e2
  refine t_cN [(.ref G.ln)] [(.ref b1)] 1 X2 u hZ hown rfl (wd hw 76 rfl) (m_67 hw) e2 (rm_a10_0 l Z a0 hw [] G GG b1 (0 : Int32) (0 : Int32) h1 O1_ A1 F1_modCount g_b1 F1_size F1_elementData) rfl d9_8 rfl rfl (by decide) ?_
  intro v3 T3 L3 Lc3 X3 hQ3 l3
  obtain ⟨rfl, Nq3, Kq3, p3_0, p3_1, p3_2⟩ := hQ3
  have O3_ := extKeep O1_ Kq3 (allS g_b1 all0)
  have K3 := Keep.trans K1 Kq3 (allS (Or.inr sz_b1) all0)
  have N3_ := frA l3 N0 Nq3
  refine t_asL X3 u d9_11 rfl (l' := #[.val (.ref G.le), .val (.int x1), .val (.long x2), .second, .val (.ref b1), .unset]) rfl ?_
  refine t_aL X3 u d9_13 rfl rfl ?_
  refine pt_cI [] [] 0 X3 u hZ hown (wd hw 32 rfl) (m_27 hw) rfl (A1.keep Kq3) (rm_a17_0 l Z a0 hw [] G GG b1 (0 : Int32) T3.heap O3_ p3_2 (by decide)) rfl d9_15 rfl rfl (by decide) N3_ ?_
  intro T4 L4 X4 e4 N4_
  refine t_ifN X4 u d9_20 ((if0 _ _).trans (feq (by decide : ¬ ((1 : Int32) = (0 : Int32)))).1) ?_
  refine t_nl X4 u d9_23  ?_
  refine t_go 24 46 X4 u rfl d9_24 (by decide) ?_
  refine t_asL X4 u d9_46 rfl (l' := #[.val (.ref G.le), .val (.int x1), .val (.long x2), .second, .val (.ref b1), .val .null]) rfl ?_
  refine t_aL X4 u d9_48 rfl rfl ?_
  refine Go.step (fun _ kt_ => XS.ifnullYes X4.here hx rfl (pc0 := 50) (pc' := 82) rfl (hb hby d9_50) rfl (by decide) (by decide) kt_) ?_
  refine t_aL X4 u d9_82 rfl rfl ?_
  refine t_new X4 u hZ hown (wd hw 138 rfl) (wd hw 139 rfl) (wd hw 140 rfl) e4 d9_84 (by decide) ?_
  intro T5 h5 b5 X5 e5 E5 hb5 A5 D5
  have g_b5 := leE O3_.1 hb5
  have O5_ := extTr O3_ E5
  have sz_b5 := leE K3.1 hb5
  have K5 := Keep.ext K3 E5
  have F5_epoch : fl_5 Z h5 b5 (.int (0 : Int32)) := D5 (Or.inr (wd hw 151 rfl)) (ty := .int) pf_I
  have F5_startOffset : fl_6 Z h5 b5 (.long (0 : Int64)) := D5 (Or.inr (wd hw 153 rfl)) (ty := .long) pf_J
  refine t_dup X5 u d9_87 rfl ?_
  refine t_iN X5 u d9_88 rfl ?_
  refine t_lN X5 u d9_89 rfl ?_
  refine t_cN [(.int x1), (.long x2)] [(.ref b5), (.ref b1)] 2 X5 u hZ hown rfl (wd hw 141 rfl) (m_68 hw) e5 (rm_a18_0 l Z a0 hw [] G GG b5 x1 x2 (0 : Int32) (0 : Int64) h5 O5_ A5 F5_epoch g_b5 F5_startOffset) rfl d9_90 rfl rfl (by decide) ?_
  intro v6 T6 L6 Lc6 X6 hQ6 l6
  obtain ⟨rfl, Nq6, Kq6, p6_0, p6_1⟩ := hQ6
  have O6_ := extKeep O5_ Kq6 (allS g_b5 all0)
  have K6 := Keep.trans K5 Kq6 (allS (Or.inr sz_b5) all0)
  have N6_ := frA l6 N4_ Nq6
  have f7 := ((Fld.ext E5 p3_1).keep Kq6 (ninS (neE (A1.keep Kq3).lt hb5) nin0))
  have f8 := ((Fld.ext E5 p3_0).keep Kq6 (ninS (neE (A1.keep Kq3).lt hb5) nin0))
  have f9 := ((Fld.ext E5 p3_2).keep Kq6 (ninS (neE (A1.keep Kq3).lt hb5) nin0))
  refine t_cI [(.ref b5)] [] 0 X6 u hZ hown (wd hw 154 rfl) (m_24 hw) rfl ((Exa.ext E5 (A1.keep Kq3)).keep Kq6) (rm_a20_3 l Z a0 hw [] G GG b1 b5 T6.heap O6_ f7 ((Exa.ext E5 (A1.keep Kq3)).keep Kq6) g_b1 f8 f9 r0 (A5.keep Kq6)) rfl d9_93 rfl rfl (by decide) ?_
  intro v10 T10 L10 Lc10 X10 hQ10 l10
  obtain ⟨b2q2q7q2q2q5q10, k2q2q7q2q2q5q10, rfl, Nq10, Kq10, p10_0, p10_1, p10_2, p10_3, p10_4, p10_5, p10_6⟩ := hQ10
  have O10_ := extKeep O6_ Kq10 (allS g_b1 all0)
  have K10 := Keep.trans K6 Kq10 (allS (Or.inr sz_b1) all0)
  have N10_ := frA l10 N6_ Nq10
  have g_b2q2q7q2q2q5q10 := Nat.le_trans O6_.1 p10_3
  have sz_b2q2q7q2q2q5q10 := Nat.le_trans K6.1 p10_3
  refine t_pop X10 u d9_98 rfl ?_
  refine t_new X10 u hZ hown (wd hw 190 rfl) (wd hw 191 rfl) (wd hw 2 rfl) rfl d9_99 (by decide) ?_
  intro T11 h11 b11 X11 e11 E11 hb11 A11 D11
  have g_b11 := leE O10_.1 hb11
  have O11_ := extTr O10_ E11
  have sz_b11 := leE K10.1 hb11
  have K11 := Keep.ext K10 E11
  have F11_entries : fl_2 Z h11 b11 .null := D11 (Or.inr (wd hw 31 rfl)) (ty := (.object "java/util/List")) pf_Ljava_util_List_
  refine t_dup X11 u d9_102 rfl ?_
  refine t_aL X11 u d9_103 rfl rfl ?_
  have f12 := (((Exa.ext E5 (A1.keep Kq3)).keep Kq6).keep Kq10)
  have f13 := (Fld.ext E11 (p6_0.keep Kq10 (ninS (Ne.symm (neE (A1.keep Kq3).lt hb5)) nin0)))
  have f14 := (Fld.ext E11 (p6_1.keep Kq10 (ninS (Ne.symm (neE (A1.keep Kq3).lt hb5)) nin0)))
  refine t_cN [(.ref b1)] [(.ref b11)] 1 X11 u hZ hown rfl (wd hw 192 rfl) (m_15 hw) e11 (rm_a26_3 l Z a0 hw [] G GG b11 b1 (1 : Int32) (1 : Int32) b2q2q7q2q2q5q10 k2q2q7q2q2q5q10 b5 x1 x2 h11 O11_ (Exa.ext E11 f12) (Fld.ext E11 p10_2) (Fld.ext E11 p10_1) (by decide) (by decide) (by decide) (Fld.ext E11 p10_0) (p10_5.ext E11) (Exa.ext E11 ((A5.keep Kq6).keep Kq10)) f13 r1 f14 r2 (by decide) A11 F11_entries g_b11) rfl d9_105 rfl rfl (by decide) ?_
  intro v15 T15 L15 Lc15 X15 hQ15 l15
  obtain ⟨b2q5q1q25q15, rfl, Nq15, Kq15, p15_0, p15_1, p15_2, p15_3, p15_4⟩ := hQ15
  have O15_ := extKeep O11_ Kq15 (allS g_b11 all0)
  have K15 := Keep.trans K11 Kq15 (allS (Or.inr sz_b11) all0)
  have N15_ := frA l15 N10_ Nq15
  have g_b2q5q1q25q15 := Nat.le_trans O11_.1 p15_1
  have sz_b2q5q1q25q15 := Nat.le_trans K11.1 p15_1
  have f16 := ((Exa.ext E11 ((A5.keep Kq6).keep Kq10)).keep Kq15)
  have f17 := (f13.keep Kq15 (ninS (neE ((A5.keep Kq6).keep Kq10).lt hb11) nin0))
  have f18 := (f14.keep Kq15 (ninS (neE ((A5.keep Kq6).keep Kq10).lt hb11) nin0))
  exact Go.retA X15 hx hret rfl rfl hlk (hb hby d9_108) (by decide) (by decide) ⟨b11, b2q5q1q25q15, b5, rfl, N15_, K15, sz_b11, (A11.keep Kq15), p15_0, sz_b2q5q1q25q15, p15_2, p15_3, p15_4, (neL A11.lt p15_1), sz_b5, f16, f17, f18, (Ne.symm (neE ((A5.keep Kq6).keep Kq10).lt hb11)), (Ne.symm (neL (Exa.ext E11 ((A5.keep Kq6).keep Kq10)).lt p15_1))⟩
theorem pn_44 : plainName "java/util/ImmutableCollections$List12" = true := by first | (simp [plainName, overriddenIn]; done) | decide +kernel
def Q_a44_0 (Z : State) (w1 : Addr) (h0 : Heap) (v : Option Value) (h : Heap) (L : List Loc) : Prop := ∃ (b3 : Addr) (k3 : ClassId), v = some (.ref b3) ∧ Fr Z.heap.size L ∧ Keep h0 h [] ∧ h0.size ≤ b3 ∧ ex_0 Z h b3 ∧ Arv Z h b3 k3 (.object "java/lang/Object") (1 : Int32) [(.ref w1)] .null ∧ Ovr Z k3 "java/lang/Object"
theorem rm_a44_0 (x0 w1 : Addr) (h0 : Heap) (O0 : Ext Z.heap h0) (r0 : fl_4 Z h0 x0 (.ref G.eo)) (r1 : fl_3 Z h0 x0 (.ref w1)) (r2 : ex_5 Z h0 w1) :
    MF hw GG l y_44 jdk_44_method_10_code 1 (some (.array (.object "java/lang/Object"))) ws ⟨0, 1, 1, 0⟩ h0 #[(.ref x0)] (Q_a44_0 Z w1 h0) := by
  refine own_mF #[.val (.ref x0)] (plainFor_of_name pn_44) (fun _ => rfl) ?_
  intro p e s m below meth c s₁ u hlk hret hZ hown hnm X0 e0 N0
  obtain ⟨hx, hby, hml⟩ := id u
  refine t_aN X0 u d44_0 rfl rfl ?_
  refine t_gF X0 u hZ hown (wd hw 320 rfl) e0 r0 d44_1 ?_
  intro T1 X1 e1
  obtain ⟨T2, X2, e2, st2⟩ := getS2 X1 hx hZ hown (Or.inr (wd hw 319 rfl)) Via.refl e1 (Sta.ext O0 GG.G_eo) (g := (mkF m 4 #[.val (.ref x0)] [(.ref G.eo)])) rfl (hb hby d44_4)
  refine Go.step st2 ?_
  refine Go.step (fun _ kt_ => Jvm.RoadKit.acmp (g := (mkF m 7 #[.val (.ref x0)] [(.ref G.eo), (.ref G.eo)])) X2 hx rfl rfl rfl (pc0 := 7) (pc' := 10) (same := true) rfl (hb hby d44_7) rfl (decide_eq_true rfl) (by decide) (by decide) kt_) ?_
  show Go _ _ _ _ _ _ _ _ T2 (mkF m 10 #[.val (.ref x0)] [])
  refine t_iC X2 u d44_10  ?_
  obtain ⟨T3, h3, k3, X3, e3, E3, A3, B3, O3, st3⟩ := newRE X2 hx hZ hown (wd hw 328 rfl) (wd hw 118 rfl) e2 (g := (mkF m 11 #[.val (.ref x0)] [(.int (1 : Int32))])) rfl (hb hby d44_11) rfl (by decide) (cap := 1) (by decide) (by decide) (by decide) (by decide) rfl
  obtain ⟨b3, hb3⟩ : ∃ z, z = h0.size := ⟨_, rfl⟩
  rw [← hb3] at A3 B3 st3
  refine Go.step st3 ?_
  have g_b3 := leE O0.1 hb3
  have O3_ := extTr O0 E3
  have sz_b3 := leE (Keep.refl h0 []).1 hb3
  have K3 := Keep.ext (Keep.refl h0 []) E3
  have V3 : Arv Z h3 b3 k3 (.object "java/lang/Object") (1 : Int32) [.null] .null := (Arv.new A3 (by decide)).pad (pad_rep [] .null 1)
  refine t_dup X3 u d44_14 rfl ?_
  refine t_iC X3 u d44_15  ?_
  refine t_aN X3 u d44_16 rfl rfl ?_
  refine t_gF X3 u hZ hown (wd hw 317 rfl) e3 (Fld.ext E3 r1) d44_17 ?_
  intro T4 X4 e4
  obtain ⟨cl5, Ar5, q5, S5, N5, H5, G5⟩ := id V3
  have hin5 : ¬ ((0 : Int32) < 0 ∨ cl5.slots.size ≤ ((0 : Int32)).toNatClampNeg) := inb_of S5 ⟨by decide, by decide⟩
  obtain ⟨T5, h5, X5, e5, W5, st5⟩ := stR X4 hx hZ e4 Ar5 (j := (0 : Int32)) hin5 rfl (Sto.ofV Ar5 q5 O3 (Ins.of_exa (Exa.ext E3 r2) (wd hw 189 rfl))) (g := (mkF m 20 #[.val (.ref x0)] [(.ref w1), (.int (0 : Int32)), (.ref b3), (.ref b3)])) rfl rfl (hb hby d44_20)
  refine Go.step st5 ?_
  have V5 : Arv Z h5 b3 k3 (.object "java/lang/Object") (1 : Int32) [(.ref w1)] .null := Arv.set Ar5 q5 S5 N5 H5 G5 rfl W5 0 rfl (Nat.le_of_ble_eq_true rfl)
  have N5_ := Fr.snoc X5 N0 g_b3
  have O5_ := extWr O3_ W5 g_b3
  have K5 := Keep.wr K3 W5 (Or.inr sz_b3)
  exact Go.retA X5 hx hret rfl rfl hlk (hb hby d44_21) (by decide) (by decide) (by show Q_a44_0 ..; rw [e5]; exact ⟨b3, k3, rfl, N5_, K5, sz_b3, (Exa.wr W5 B3), V5, O3⟩)
def Q_a15_4 (Z : State) (w2 : Addr) (h0 : Heap) (v : Option Value) (h : Heap) (L : List Loc) : Prop := ∃ (b2 : Addr) (k2 : ClassId), v = some (.ref b2) ∧ Fr Z.heap.size L ∧ Keep h0 h [] ∧ h0.size ≤ b2 ∧ ex_0 Z h b2 ∧ Arv Z h b2 k2 (.object "java/lang/Object") (1 : Int32) [(.ref w2)] .null ∧ Ovr Z k2 "java/lang/Object"
theorem rm_a15_4 (x0 : Addr) (kk1 : ClassId) (w2 : Addr) (h0 : Heap) (O0 : Ext Z.heap h0) (r0 : Arv Z h0 x0 kk1 (.object "java/lang/Object") (1 : Int32) [(.ref w2)] .null) (r1 : ex_5 Z h0 w2) :
    MF hw GG l y_15 jdk_65_method_120_code 4 (some (.array (.object "java/lang/Object"))) ws ⟨1, 1, 1, 18⟩ h0 #[(.ref x0), (.int (1 : Int32)), (.ref G.mo)] (Q_a15_4 Z w2 h0) := by
  refine own_mF #[.val (.ref x0), .val (.int (1 : Int32)), .val (.ref G.mo), .unset] (plainFor_of_name pn_15) (fun _ => rfl) ?_
  intro p e s m below meth c s₁ u hlk hret hZ hown hnm X0 e0 N0
  obtain ⟨hx, hby, hml⟩ := id u
  refine t_aN X0 u d15_0 rfl rfl ?_
  obtain ⟨T1, X1, e1, st1⟩ := own_ldcMir X0 hx hZ hown (wd hw 116 rfl) e0 GG.G_mo (g := (mkF m 1 #[.val (.ref x0), .val (.int (1 : Int32)), .val (.ref G.mo), .unset] [(.ref G.mo)])) rfl (hb hby d15_1)
  refine Go.step st1 ?_
  refine Go.step (fun _ kt_ => Jvm.RoadKit.acmp (g := (mkF m 3 #[.val (.ref x0), .val (.int (1 : Int32)), .val (.ref G.mo), .unset] [(.ref G.mo), (.ref G.mo)])) X1 hx rfl rfl rfl (pc0 := 3) (pc' := 6) (same := true) rfl (hb hby d15_3) rfl (decide_eq_true rfl) (by decide) (by decide) kt_) ?_
  show Go _ _ _ _ _ _ _ _ T1 (mkF m 6 #[.val (.ref x0), .val (.int (1 : Int32)), .val (.ref G.mo), .unset] [])
  refine t_iN X1 u d15_6 rfl ?_
  obtain ⟨T2, h2, k2, X2, e2, E2, A2, B2, O2, st2⟩ := newRE X1 hx hZ hown (wd hw 117 rfl) (wd hw 118 rfl) e1 (g := (mkF m 7 #[.val (.ref x0), .val (.int (1 : Int32)), .val (.ref G.mo), .unset] [(.int (1 : Int32))])) rfl (hb hby d15_7) rfl (by decide) (cap := 1) (by decide) (by decide) (by decide) (by decide) rfl
  obtain ⟨b2, hb2⟩ : ∃ z, z = h0.size := ⟨_, rfl⟩
  rw [← hb2] at A2 B2 st2
  refine Go.step st2 ?_
  have g_b2 := leE O0.1 hb2
  have O2_ := extTr O0 E2
  have sz_b2 := leE (Keep.refl h0 []).1 hb2
  have K2 := Keep.ext (Keep.refl h0 []) E2
  have V2 : Arv Z h2 b2 k2 (.object "java/lang/Object") (1 : Int32) [.null] .null := (Arv.new A2 (by decide)).pad (pad_rep [] .null 1)
  refine t_go 10 24 X2 u rfl d15_10 (by decide) ?_
  refine t_asN X2 u d15_24 rfl (l' := #[.val (.ref x0), .val (.int (1 : Int32)), .val (.ref G.mo), .val (.ref b2)]) rfl ?_
  refine t_aN X2 u d15_25 rfl rfl ?_
  refine t_iC X2 u d15_26  ?_
  refine t_aN X2 u d15_27 rfl rfl ?_
  refine t_iC X2 u d15_28  ?_
  refine t_aN X2 u d15_29 rfl rfl ?_
  obtain ⟨cl3, Ar3, -, S3, N3, -, -⟩ := id (r0.ext E2)
  refine Go.step (X2.arraylength hx (by rw [e2]; exact Ar3.1) (State.isArrayOf_alike hZ.alike Ar3.2.1) (g := (mkF m 30 #[.val (.ref x0), .val (.int (1 : Int32)), .val (.ref G.mo), .val (.ref b2)] [(.ref x0), (.int (0 : Int32)), (.ref b2), (.int (0 : Int32)), (.ref x0)])) rfl rfl (hb hby d15_30)) ?_
  rw [len_of S3 N3]
  show Go _ _ _ _ _ _ _ _ T2 (mkF m 31 #[.val (.ref x0), .val (.int (1 : Int32)), .val (.ref G.mo), .val (.ref b2)] [(.int (1 : Int32)), (.int (0 : Int32)), (.ref b2), (.int (0 : Int32)), (.ref x0)])
  refine t_iN X2 u d15_31 rfl ?_
  refine pt_cS [(.int (1 : Int32)), (.int (1 : Int32))] [(.int (0 : Int32)), (.ref b2), (.int (0 : Int32)), (.ref x0)] 4 X2 u hZ hown (wd hw 119 rfl) (m_30 hw) e2 (rm_a16_1 l Z a0 hw [] G GG (1 : Int32) (1 : Int32) h2 O2_ (by decide)) rfl d15_32 rfl rfl (by decide) N0 ?_
  intro T4 L4 X4 e4 N4_
  obtain ⟨cl5, Ar5, q5, -⟩ := id V2
  obtain ⟨T5, h5, L5, X5, e5, N5_, K5_, V5_, st5⟩ := cpA X4 hx hZ hown (wd hw 123 rfl) (wd hw 126 rfl) (wd hw 124 rfl) (wd hw 125 rfl) e4 (us := [(.ref w2)]) (r0.ext E2) V2 (Or.inr ⟨rfl, rfl, ⟨(Sto.ofV Ar5 q5 O2 (Ins.of_exa (Exa.ext E2 r1) (wd hw 189 rfl))), trivial⟩⟩) (by decide) (by decide) (by decide) (by decide) (by decide) rfl (by decide) N4_ g_b2 (g := (mkF m 35 #[.val (.ref x0), .val (.int (1 : Int32)), .val (.ref G.mo), .val (.ref b2)] [(.int (1 : Int32)), (.int (0 : Int32)), (.ref b2), (.int (0 : Int32)), (.ref x0)])) rfl (by rw [hml]; rfl) rfl (hb hby d15_35) (by decide) (W := 0) (by show 2 * 0 + _ ≤ _; exact Nat.le_of_eq rfl) (by decide)
  refine Go.step st5 ?_
  have V5 : Arv Z h5 b2 k2 (.object "java/lang/Object") (1 : Int32) [(.ref w2)] .null := V5_
  have O5_ : Ext Z.heap h5 := extKeep O2_ K5_ (allS g_b2 all0)
  have K5 := Keep.trans K2 K5_ (allS (Or.inr sz_b2) all0)
  refine t_aN X5 u d15_38 rfl rfl ?_
  exact Go.retA X5 hx hret rfl rfl hlk (hb hby d15_39) (by decide) (by decide) (by show Q_a15_4 ..; rw [e5]; exact ⟨b2, k2, rfl, N5_, K5, sz_b2, (B2.keep K5_), V5, O2⟩)
def Q_a10_1 (Z : State) (x0 w3 : Addr) (h0 : Heap) (v : Option Value) (h : Heap) (L : List Loc) : Prop := ∃ (ex0 : Addr) (ex1 : ClassId), v = none ∧ Fr Z.heap.size L ∧ Keep h0 h [x0] ∧ fl_17 Z h x0 (.ref ex0) ∧ fl_15 Z h x0 (.int (0 : Int32)) ∧ fl_16 Z h x0 (.int (1 : Int32)) ∧ h0.size ≤ ex0 ∧ ex_0 Z h ex0 ∧ Arv Z h ex0 ex1 (.object "java/lang/Object") (1 : Int32) [(.ref w3)] .null ∧ Ovr Z ex1 "java/lang/Object"
theorem rm_a10_1 (x0 x1 : Addr) (w1 w2 : Int32) (w3 : Addr) (h0 : Heap) (O0 : Ext Z.heap h0) (r0 : ex_7 Z h0 x0) (r1 : fl_15 Z h0 x0 (.int w1)) (r2 : Z.heap.size ≤ x0) (r3 : fl_16 Z h0 x0 (.int w2)) (r4 : fl_17 Z h0 x0 .null) (r5 : ex_4 Z h0 x1) (r6 : fl_4 Z h0 x1 (.ref G.eo)) (r7 : x1 ≠ x0) (r8 : fl_3 Z h0 x1 (.ref w3)) (r9 : ex_5 Z h0 w3) :
    MF hw GG l y_10 jdk_38_method_3_code 3 none ws ⟨3, 2, 2, 36⟩ h0 #[(.ref x0), (.ref x1)] (Q_a10_1 Z x0 w3 h0) := by
  refine own_mF #[.val (.ref x0), .val (.ref x1), .unset] (plainFor_of_name pn_10) (fun _ => rfl) ?_
  intro p e s m below meth c s₁ u hlk hret hZ hown hnm X0 e0 N0
  obtain ⟨hx, hby, hml⟩ := id u
  refine t_aN X0 u d10_0 rfl rfl ?_
  refine t_cN [] [] 0 X0 u hZ hown rfl (wd hw 79 rfl) (m_1 hw) e0 (rm_a11_0 l Z a0 hw [] G GG x0 w1 w2 h0 O0 r0 r1 r2 r3 r4) rfl d10_1 rfl rfl (by decide) ?_
  intro v1 T1 L1 Lc1 X1 hQ1 l1
  obtain ⟨rfl, Nq1, Kq1, p1_0, p1_1, p1_2⟩ := hQ1
  have O1_ := extKeep O0 Kq1 (allS r2 all0)
  have K1 := Keep.trans (Keep.refl h0 [x0]) Kq1 (allS k0 all0)
  have N1_ := frA l1 N0 Nq1
  refine t_aN X1 u d10_4 rfl rfl ?_
  refine t_cI [] [] 0 X1 u hZ hown (wd hw 94 rfl) (m_72 hw) rfl (r5.keep Kq1) (rm_a44_0 l Z a0 hw [] G GG x1 w3 T1.heap O1_ (r6.keep Kq1 (ninS r7 nin0)) (r8.keep Kq1 (ninS r7 nin0)) (r9.keep Kq1)) rfl d10_5 rfl rfl (by decide) ?_
  intro v2 T2 L2 Lc2 X2 hQ2 l2
  obtain ⟨b3q2, k3q2, rfl, Nq2, Kq2, p2_0, p2_1, p2_2, p2_3⟩ := hQ2
  have O2_ := extKeep O1_ Kq2 all0
  have K2 := Keep.trans K1 Kq2 all0
  have N2_ := frA l2 N1_ Nq2
  have g_b3q2 := Nat.le_trans O1_.1 p2_0
  have sz_b3q2 := Nat.le_trans K1.1 p2_0
  refine t_asN X2 u d10_10 rfl (l' := #[.val (.ref x0), .val (.ref x1), .val (.ref b3q2)]) rfl ?_
  refine t_aN X2 u d10_11 rfl rfl ?_
  refine t_aN X2 u d10_12 rfl rfl ?_
  obtain ⟨cl3, Ar3, -, S3, N3, -, -⟩ := id p2_2
  refine Go.step (X2.arraylength hx Ar3.1 (State.isArrayOf_alike hZ.alike Ar3.2.1) (g := (mkF m 13 #[.val (.ref x0), .val (.ref x1), .val (.ref b3q2)] [(.ref b3q2), (.ref x0)])) rfl rfl (hb hby d10_13)) ?_
  rw [len_of S3 N3]
  show Go _ _ _ _ _ _ _ _ T2 (mkF m 14 #[.val (.ref x0), .val (.ref x1), .val (.ref b3q2)] [(.int (1 : Int32)), (.ref x0)])
  refine Go.step (fun _ kt_ => XS.dupX1 X2.here hx rfl (hb hby d10_14) rfl rfl rfl kt_) ?_
  refine t_pF X2 u hZ hown (wd hw 127 rfl) rfl (p1_1.keep Kq2 nin0) ((r0.keep Kq1).keep Kq2) (Or.inl (wd hw 128 rfl)) (wd hw 74 rfl) pf_I rfl rfl d10_15 ?_
  intro T4 h4 X4 e4 W4
  have N4_ := Fr.snoc X4 N2_ r2
  have O4_ := extWr O2_ W4 r2
  have K4 := Keep.wr K2 W4 k0
  have F4 := Fld.same W4 (p1_1.keep Kq2 nin0)
  refine t_ifN X4 u d10_18 ((if0 _ _).trans (feq (by decide : ¬ ((1 : Int32) = (0 : Int32)))).1) ?_
  refine t_aN X4 u d10_21 rfl rfl ?_
  obtain ⟨T5, X5, e5, st5⟩ := own_gclsI X4 hx hZ hown (wd hw 329 rfl) (wd hw 108 rfl) (wd hw 330 rfl) (wd hw 331 rfl) (wd hw 109 rfl) (wd hw 332 rfl) (wd hw 333 rfl) (wd hw 326 rfl) (wd hw 111 rfl) (by decide) (by decide) e4 (Exa.wr W4 ((r5.keep Kq1).keep Kq2)) GG.G_m12 (g := (mkF m 22 #[.val (.ref x0), .val (.ref x1), .val (.ref b3q2)] [(.ref x1)])) rfl (by rw [hml]; rfl) rfl (hb hby d10_22) (by decide) (W := 0) (by show 2 * 0 + _ ≤ _; exact Nat.le_of_eq rfl) (by decide)
  refine Go.step st5 ?_
  obtain ⟨T6, X6, e6, st6⟩ := own_ldcMir X5 hx hZ hown (wd hw 334 rfl) e5 GG.G_mal (g := (mkF m 27 #[.val (.ref x0), .val (.ref x1), .val (.ref b3q2)] [(.ref G.m12)])) rfl (hb hby d10_27)
  refine Go.step st6 ?_
  by_cases ha29_7 : G.m12 = G.mal
  · refine Go.step (fun _ kt_ => Jvm.RoadKit.acmp (g := (mkF m 29 #[.val (.ref x0), .val (.ref x1), .val (.ref b3q2)] [(.ref G.mal), (.ref G.m12)])) X6 hx rfl rfl rfl (pc0 := 29) (pc' := 32) (same := true) rfl (hb hby d10_29) rfl (decide_eq_true (congrArg Value.ref ha29_7)) (by decide) (by decide) kt_) ?_
    show Go _ _ _ _ _ _ _ _ T6 (mkF m 32 #[.val (.ref x0), .val (.ref x1), .val (.ref b3q2)] [])
    refine t_aN X6 u d10_32 rfl rfl ?_
    refine t_aN X6 u d10_33 rfl rfl ?_
    refine t_pF X6 u hZ hown (wd hw 130 rfl) e6 (fS W4 (p1_2.keep Kq2 nin0) (sn_2 hw)) (Exa.wr W4 ((r0.keep Kq1).keep Kq2)) (Or.inl (wd hw 131 rfl)) (wd hw 74 rfl) pf_ALjava_lang_Object_ rfl rfl d10_34 ?_
    intro T8 h8 X8 e8 W8
    have N8_ := Fr.snoc X8 N4_ r2
    have O8_ := extWr O4_ W8 r2
    have K8 := Keep.wr K4 W8 k0
    have F8 := Fld.same W8 (fS W4 (p1_2.keep Kq2 nin0) (sn_2 hw))
    refine t_go 37 64 X8 u rfl d10_37 (by decide) ?_
    have f9 := (Exa.wr W8 (Exa.wr W4 ((r0.keep Kq1).keep Kq2)))
    have f10 := (fS W8 (fS W4 (p1_0.keep Kq2 nin0) (sn_0 hw)) (sn_1 hw))
    have f11 := ((p2_2.other W4 (Ne.symm (neL (r0.keep Kq1).lt p2_0))).other W8 (Ne.symm (neL (r0.keep Kq1).lt p2_0)))
    exact Go.retV X8 hx hret hlk (hb hby d10_64) (by decide) (by decide) (by show Q_a10_1 ..; rw [e8]; exact ⟨b3q2, k3q2, rfl, N8_, K8, F8, f10, (fR W8 F4 (sn_2 hw)), sz_b3q2, (Exa.wr W8 (Exa.wr W4 p2_1)), f11, p2_3⟩)
  · refine Go.step (fun _ kt_ => Jvm.RoadKit.acmp (g := (mkF m 29 #[.val (.ref x0), .val (.ref x1), .val (.ref b3q2)] [(.ref G.mal), (.ref G.m12)])) X6 hx rfl rfl rfl (pc0 := 29) (pc' := 40) (same := false) rfl (hb hby d10_29) rfl (decide_eq_false fun q => ha29_7 (Value.ref.inj q)) (by decide) (by decide) kt_) ?_
    show Go _ _ _ _ _ _ _ _ T6 (mkF m 40 #[.val (.ref x0), .val (.ref x1), .val (.ref b3q2)] [])
    refine t_aN X6 u d10_40 rfl rfl ?_
    refine t_aN X6 u d10_41 rfl rfl ?_
    refine t_aN X6 u d10_42 rfl rfl ?_
    refine t_gF X6 u hZ hown (wd hw 127 rfl) e6 F4 d10_43 ?_
    intro T12 X12 e12
    obtain ⟨T13, X13, e13, st13⟩ := own_ldcMir X12 hx hZ hown (wd hw 336 rfl) e12 GG.G_mo (g := (mkF m 46 #[.val (.ref x0), .val (.ref x1), .val (.ref b3q2)] [(.int (1 : Int32)), (.ref b3q2), (.ref x0)])) rfl (hb hby d10_46)
    refine Go.step st13 ?_
    have f14 := (p2_2.other W4 (Ne.symm (neL (r0.keep Kq1).lt p2_0)))
    refine t_cS [(.ref b3q2), (.int (1 : Int32)), (.ref G.mo)] [(.ref x0)] 1 X13 u hZ hown (wd hw 337 rfl) (m_31 hw) e13 (rm_a15_4 l Z a0 hw [] G GG b3q2 k3q2 w3 h4 O4_ f14 (Exa.wr W4 ((r9.keep Kq1).keep Kq2))) rfl d10_48 rfl rfl (by decide) ?_
    intro v15 T15 L15 Lc15 X15 hQ15 l15
    obtain ⟨b2q15, k2q15, rfl, Nq15, Kq15, p15_0, p15_1, p15_2, p15_3⟩ := hQ15
    have O15_ := extKeep O4_ Kq15 all0
    have K15 := Keep.trans K4 Kq15 all0
    have N15_ := frA l15 N4_ Nq15
    have g_b2q15 := Nat.le_trans O4_.1 p15_0
    have sz_b2q15 := Nat.le_trans K4.1 p15_0
    have f16 := ((Exa.wr W4 ((r0.keep Kq1).keep Kq2)).keep Kq15)
    have f17 := ((fS W4 (p1_2.keep Kq2 nin0) (sn_2 hw)).keep Kq15 nin0)
    refine t_pF X15 u hZ hown (wd hw 130 rfl) rfl f17 f16 (Or.inl (wd hw 131 rfl)) (wd hw 74 rfl) pf_ALjava_lang_Object_ rfl rfl d10_51 ?_
    intro T18 h18 X18 e18 W18
    have N18_ := Fr.snoc X18 N15_ r2
    have O18_ := extWr O15_ W18 r2
    have K18 := Keep.wr K15 W18 k0
    have F18 := Fld.same W18 f17
    refine t_go 54 64 X18 u rfl d10_54 (by decide) ?_
    have f19 := (fS W18 ((fS W4 (p1_0.keep Kq2 nin0) (sn_0 hw)).keep Kq15 nin0) (sn_1 hw))
    have f20 := (p15_2.other W18 (Ne.symm (neL (Exa.wr W4 ((r0.keep Kq1).keep Kq2)).lt p15_0)))
    exact Go.retV X18 hx hret hlk (hb hby d10_64) (by decide) (by decide) (by show Q_a10_1 ..; rw [e18]; exact ⟨b2q15, k2q15, rfl, N18_, K18, F18, f19, (fR W18 (F4.keep Kq15 nin0) (sn_2 hw)), sz_b2q15, (Exa.wr W18 p15_1), f20, p15_3⟩)
theorem rm_a49_1 (x0 w1 : Addr) (kk2 : ClassId) (w3 : Addr) (h0 : Heap) (O0 : Ext Z.heap h0) (r0 : fl_17 Z h0 x0 (.ref w1)) (r1 : Arv Z h0 w1 kk2 (.object "java/lang/Object") (1 : Int32) [(.ref w3)] .null) :
    MF hw GG l y_49 jdk_38_method_18_code 2 (some (.object "java/lang/Object")) ws ⟨0, 0, 0, 0⟩ h0 #[(.ref x0), (.int (0 : Int32))] (Qp (some (.ref w3)) Z h0) := by
  refine own_mF #[.val (.ref x0), .val (.int (0 : Int32))] (plainFor_of_name pn_49) (fun _ => rfl) ?_
  intro p e s m below meth c s₁ u hlk hret hZ hown hnm X0 e0 N0
  obtain ⟨hx, hby, hml⟩ := id u
  refine t_aN X0 u d49_0 rfl rfl ?_
  refine t_gF X0 u hZ hown (wd hw 130 rfl) e0 r0 d49_1 ?_
  intro T1 X1 e1
  refine t_iN X1 u d49_4 rfl ?_
  obtain ⟨cl2, Ar2, q2, S2, N2, H2, G2⟩ := id r1
  have hin2 : ¬ ((0 : Int32) < 0 ∨ cl2.slots.size ≤ ((0 : Int32)).toNatClampNeg) := inb_of S2 ⟨by decide, by decide⟩
  refine Go.step (X1.aaload hx (j := (0 : Int32)) (v := (.ref w3)) (by rw [e1]; exact Ar2.1) (State.isArrayOf_alike hZ.alike Ar2.2.1) rfl Ar2.2.2 hin2 (Has.at H2 hin2 rfl) (g := (mkF m 5 #[.val (.ref x0), .val (.int (0 : Int32))] [(.int (0 : Int32)), (.ref w1)])) rfl rfl (hb hby d49_5)) ?_
  exact t_rA X1 u hret hlk rfl rfl d49_6 e1 N0 (by decide)
theorem rm_a46_1 (x0 w1 : Addr) (kk2 : ClassId) (w3 : Addr) (h0 : Heap) (O0 : Ext Z.heap h0) (r0 : fl_16 Z h0 x0 (.int (1 : Int32))) (r1 : ex_7 Z h0 x0) (r2 : fl_17 Z h0 x0 (.ref w1)) (r3 : Arv Z h0 w1 kk2 (.object "java/lang/Object") (1 : Int32) [(.ref w3)] .null) :
    MF hw GG l y_46 jdk_38_method_20_code 2 (some (.object "java/lang/Object")) ws ⟨2, 0, 0, 27⟩ h0 #[(.ref x0), (.int (0 : Int32))] (Qp (some (.ref w3)) Z h0) := by
  refine own_mF #[.val (.ref x0), .val (.int (0 : Int32))] (plainFor_of_name pn_46) (fun _ => rfl) ?_
  intro p e s m below meth c s₁ u hlk hret hZ hown hnm X0 e0 N0
  refine t_iN X0 u d46_0 rfl ?_
  refine t_aN X0 u d46_1 rfl rfl ?_
  refine t_gF X0 u hZ hown (wd hw 127 rfl) e0 r0 d46_2 ?_
  intro T1 X1 e1
  refine pt_cS [(.int (0 : Int32)), (.int (1 : Int32))] [] 0 X1 u hZ hown (wd hw 354 rfl) (m_41 hw) e1 (rm_a47_0 l Z a0 hw [] G GG (0 : Int32) (1 : Int32) h0 O0 (by decide) (by decide)) rfl d46_5 rfl rfl (by decide) N0 ?_
  intro T2 L2 X2 e2 N2_
  refine t_pop X2 u d46_8 rfl ?_
  refine t_aN X2 u d46_9 rfl rfl ?_
  refine t_iN X2 u d46_10 rfl ?_
  refine pt_cV [(.int (0 : Int32))] [] 0 X2 u hZ hown (wd hw 361 rfl) (m_42 hw) e2 r1 (rm_a49_1 l Z a0 hw [] G GG x0 w1 kk2 w3 h0 O0 r2 r3) rfl d46_11 rfl rfl (by decide) N2_ ?_
  intro T3 L3 X3 e3 N3_
  exact t_rA X3 u hret hlk rfl rfl d46_14 e3 N3_ (by decide)
def Q_a15_5 (Z : State) (w2 : Addr) (h0 : Heap) (v : Option Value) (h : Heap) (L : List Loc) : Prop := ∃ (b2 : Addr) (k2 : ClassId), v = some (.ref b2) ∧ Fr Z.heap.size L ∧ Keep h0 h [] ∧ h0.size ≤ b2 ∧ ex_0 Z h b2 ∧ Arv Z h b2 k2 (.object "java/lang/Object") (2 : Int32) [(.ref w2), .null] .null ∧ Ovr Z k2 "java/lang/Object"
theorem rm_a15_5 (x0 : Addr) (kk1 : ClassId) (w2 : Addr) (h0 : Heap) (O0 : Ext Z.heap h0) (r0 : Arv Z h0 x0 kk1 (.object "java/lang/Object") (1 : Int32) [(.ref w2)] .null) (r1 : ex_5 Z h0 w2) :
    MF hw GG l y_15 jdk_65_method_120_code 4 (some (.array (.object "java/lang/Object"))) ws ⟨1, 1, 2, 18⟩ h0 #[(.ref x0), (.int (2 : Int32)), (.ref G.mo)] (Q_a15_5 Z w2 h0) := by
  refine own_mF #[.val (.ref x0), .val (.int (2 : Int32)), .val (.ref G.mo), .unset] (plainFor_of_name pn_15) (fun _ => rfl) ?_
  intro p e s m below meth c s₁ u hlk hret hZ hown hnm X0 e0 N0
  obtain ⟨hx, hby, hml⟩ := id u
  refine t_aN X0 u d15_0 rfl rfl ?_
  obtain ⟨T1, X1, e1, st1⟩ := own_ldcMir X0 hx hZ hown (wd hw 116 rfl) e0 GG.G_mo (g := (mkF m 1 #[.val (.ref x0), .val (.int (2 : Int32)), .val (.ref G.mo), .unset] [(.ref G.mo)])) rfl (hb hby d15_1)
  refine Go.step st1 ?_
  refine Go.step (fun _ kt_ => Jvm.RoadKit.acmp (g := (mkF m 3 #[.val (.ref x0), .val (.int (2 : Int32)), .val (.ref G.mo), .unset] [(.ref G.mo), (.ref G.mo)])) X1 hx rfl rfl rfl (pc0 := 3) (pc' := 6) (same := true) rfl (hb hby d15_3) rfl (decide_eq_true rfl) (by decide) (by decide) kt_) ?_
  show Go _ _ _ _ _ _ _ _ T1 (mkF m 6 #[.val (.ref x0), .val (.int (2 : Int32)), .val (.ref G.mo), .unset] [])
  refine t_iN X1 u d15_6 rfl ?_
  obtain ⟨T2, h2, k2, X2, e2, E2, A2, B2, O2, st2⟩ := newRE X1 hx hZ hown (wd hw 117 rfl) (wd hw 118 rfl) e1 (g := (mkF m 7 #[.val (.ref x0), .val (.int (2 : Int32)), .val (.ref G.mo), .unset] [(.int (2 : Int32))])) rfl (hb hby d15_7) rfl (by decide) (cap := 2) (by decide) (by decide) (by decide) (by decide) rfl
  obtain ⟨b2, hb2⟩ : ∃ z, z = h0.size := ⟨_, rfl⟩
  rw [← hb2] at A2 B2 st2
  refine Go.step st2 ?_
  have g_b2 := leE O0.1 hb2
  have O2_ := extTr O0 E2
  have sz_b2 := leE (Keep.refl h0 []).1 hb2
  have K2 := Keep.ext (Keep.refl h0 []) E2
  have V2 : Arv Z h2 b2 k2 (.object "java/lang/Object") (2 : Int32) [.null, .null] .null := (Arv.new A2 (by decide)).pad (pad_rep [] .null 2)
  refine t_go 10 24 X2 u rfl d15_10 (by decide) ?_
  refine t_asN X2 u d15_24 rfl (l' := #[.val (.ref x0), .val (.int (2 : Int32)), .val (.ref G.mo), .val (.ref b2)]) rfl ?_
  refine t_aN X2 u d15_25 rfl rfl ?_
  refine t_iC X2 u d15_26  ?_
  refine t_aN X2 u d15_27 rfl rfl ?_
  refine t_iC X2 u d15_28  ?_
  refine t_aN X2 u d15_29 rfl rfl ?_
  obtain ⟨cl3, Ar3, -, S3, N3, -, -⟩ := id (r0.ext E2)
  refine Go.step (X2.arraylength hx (by rw [e2]; exact Ar3.1) (State.isArrayOf_alike hZ.alike Ar3.2.1) (g := (mkF m 30 #[.val (.ref x0), .val (.int (2 : Int32)), .val (.ref G.mo), .val (.ref b2)] [(.ref x0), (.int (0 : Int32)), (.ref b2), (.int (0 : Int32)), (.ref x0)])) rfl rfl (hb hby d15_30)) ?_
  rw [len_of S3 N3]
  show Go _ _ _ _ _ _ _ _ T2 (mkF m 31 #[.val (.ref x0), .val (.int (2 : Int32)), .val (.ref G.mo), .val (.ref b2)] [(.int (1 : Int32)), (.int (0 : Int32)), (.ref b2), (.int (0 : Int32)), (.ref x0)])
  refine t_iN X2 u d15_31 rfl ?_
  refine pt_cS [(.int (1 : Int32)), (.int (2 : Int32))] [(.int (0 : Int32)), (.ref b2), (.int (0 : Int32)), (.ref x0)] 4 X2 u hZ hown (wd hw 119 rfl) (m_30 hw) e2 (rm_a16_1 l Z a0 hw [] G GG (1 : Int32) (2 : Int32) h2 O2_ (by decide)) rfl d15_32 rfl rfl (by decide) N0 ?_
  intro T4 L4 X4 e4 N4_
  obtain ⟨cl5, Ar5, q5, -⟩ := id V2
  obtain ⟨T5, h5, L5, X5, e5, N5_, K5_, V5_, st5⟩ := cpA X4 hx hZ hown (wd hw 123 rfl) (wd hw 126 rfl) (wd hw 124 rfl) (wd hw 125 rfl) e4 (us := [(.ref w2)]) (r0.ext E2) V2 (Or.inr ⟨rfl, rfl, ⟨(Sto.ofV Ar5 q5 O2 (Ins.of_exa (Exa.ext E2 r1) (wd hw 189 rfl))), trivial⟩⟩) (by decide) (by decide) (by decide) (by decide) (by decide) rfl (by decide) N4_ g_b2 (g := (mkF m 35 #[.val (.ref x0), .val (.int (2 : Int32)), .val (.ref G.mo), .val (.ref b2)] [(.int (1 : Int32)), (.int (0 : Int32)), (.ref b2), (.int (0 : Int32)), (.ref x0)])) rfl (by rw [hml]; rfl) rfl (hb hby d15_35) (by decide) (W := 0) (by show 2 * 0 + _ ≤ _; exact Nat.le_of_eq rfl) (by decide)
  refine Go.step st5 ?_
  have V5 : Arv Z h5 b2 k2 (.object "java/lang/Object") (2 : Int32) [(.ref w2), .null] .null := V5_
  have O5_ : Ext Z.heap h5 := extKeep O2_ K5_ (allS g_b2 all0)
  have K5 := Keep.trans K2 K5_ (allS (Or.inr sz_b2) all0)
  refine t_aN X5 u d15_38 rfl rfl ?_
  exact Go.retA X5 hx hret rfl rfl hlk (hb hby d15_39) (by decide) (by decide) (by show Q_a15_5 ..; rw [e5]; exact ⟨b2, k2, rfl, N5_, K5, sz_b2, (B2.keep K5_), V5, O2⟩)
def Q_a14_4 (Z : State) (w2 : Addr) (h0 : Heap) (v : Option Value) (h : Heap) (L : List Loc) : Prop := ∃ (b2q2 : Addr) (k2q2 : ClassId), v = some (.ref b2q2) ∧ Fr Z.heap.size L ∧ Keep h0 h [] ∧ h0.size ≤ b2q2 ∧ ex_0 Z h b2q2 ∧ Arv Z h b2q2 k2q2 (.object "java/lang/Object") (2 : Int32) [(.ref w2), .null] .null ∧ Ovr Z k2q2 "java/lang/Object"
theorem rm_a14_4 (x0 : Addr) (kk1 : ClassId) (w2 : Addr) (h0 : Heap) (O0 : Ext Z.heap h0) (r0 : ex_0 Z h0 x0) (r1 : Arv Z h0 x0 kk1 (.object "java/lang/Object") (1 : Int32) [(.ref w2)] .null) (r2 : ex_5 Z h0 w2) :
    MF hw GG l y_14 jdk_65_method_119_code 2 (some (.array (.object "java/lang/Object"))) ws ⟨2, 1, 2, 33⟩ h0 #[(.ref x0), (.int (2 : Int32))] (Q_a14_4 Z w2 h0) := by
  refine own_mF #[.val (.ref x0), .val (.int (2 : Int32))] (plainFor_of_name pn_14) (fun _ => rfl) ?_
  intro p e s m below meth c s₁ u hlk hret hZ hown hnm X0 e0 N0
  obtain ⟨hx, hby, hml⟩ := id u
  refine t_aN X0 u d14_0 rfl rfl ?_
  refine t_iN X0 u d14_1 rfl ?_
  refine t_aN X0 u d14_2 rfl rfl ?_
  obtain ⟨T1, X1, e1, st1⟩ := own_gcls X0 hx hZ hown (wd hw 107 rfl) (wd hw 108 rfl) (wd hw 276 rfl) (wd hw 110 rfl) (wd hw 109 rfl) (wd hw 111 rfl) e0 r0 GG.G_mo (g := (mkF m 3 #[.val (.ref x0), .val (.int (2 : Int32))] [(.ref x0), (.int (2 : Int32)), (.ref x0)])) rfl (by rw [hml]; rfl) rfl (hb hby d14_3) (by decide) (W := 2) (by show 2 * 0 + _ ≤ _; exact Nat.le_of_eq rfl) (by decide)
  refine Go.step st1 ?_
  refine t_cS [(.ref x0), (.int (2 : Int32)), (.ref G.mo)] [] 0 X1 u hZ hown (wd hw 113 rfl) (m_31 hw) e1 (rm_a15_5 l Z a0 hw [] G GG x0 kk1 w2 h0 O0 r1 r2) rfl d14_6 rfl rfl (by decide) ?_
  intro v2 T2 L2 Lc2 X2 hQ2 l2
  obtain ⟨b2q2, k2q2, rfl, Nq2, Kq2, p2_0, p2_1, p2_2, p2_3⟩ := hQ2
  have O2_ := extKeep O0 Kq2 all0
  have K2 := Keep.trans (Keep.refl h0 []) Kq2 all0
  have N2_ := frA l2 N0 Nq2
  have g_b2q2 := Nat.le_trans O0.1 p2_0
  have sz_b2q2 := Nat.le_trans (Keep.refl h0 []).1 p2_0
  exact Go.retA X2 hx hret rfl rfl hlk (hb hby d14_9) (by decide) (by decide) ⟨b2q2, k2q2, rfl, N2_, K2, sz_b2q2, p2_1, p2_2, p2_3⟩
def Q_a23_3 (Z : State) (x0 w3 : Addr) (h0 : Heap) (v : Option Value) (h : Heap) (L : List Loc) : Prop := ∃ (b2q2q5 : Addr) (k2q2q5 : ClassId), v = some (.ref b2q2q5) ∧ Fr Z.heap.size L ∧ Keep h0 h [x0] ∧ fl_17 Z h x0 (.ref b2q2q5) ∧ fl_16 Z h x0 (.int (1 : Int32)) ∧ fl_15 Z h x0 (.int (1 : Int32)) ∧ h0.size ≤ b2q2q5 ∧ ex_0 Z h b2q2q5 ∧ Arv Z h b2q2q5 k2q2q5 (.object "java/lang/Object") (2 : Int32) [(.ref w3), .null] .null ∧ Ovr Z k2q2q5 "java/lang/Object"
theorem rm_a23_3 (x0 w1 : Addr) (kk2 : ClassId) (w3 : Addr) (h0 : Heap) (O0 : Ext Z.heap h0) (r0 : fl_17 Z h0 x0 (.ref w1)) (r1 : Arv Z h0 w1 kk2 (.object "java/lang/Object") (1 : Int32) [(.ref w3)] .null) (r2 : ex_0 Z h0 w1) (r3 : ex_5 Z h0 w3) (r4 : ex_7 Z h0 x0) (r5 : Z.heap.size ≤ x0) (r6 : fl_16 Z h0 x0 (.int (1 : Int32))) (r7 : fl_15 Z h0 x0 (.int (1 : Int32))) :
    MF hw GG l y_23 jdk_38_method_6_code 4 (some (.array (.object "java/lang/Object"))) ws ⟨3, 1, 2, 47⟩ h0 #[(.ref x0), (.int (2 : Int32))] (Q_a23_3 Z x0 w3 h0) := by
  refine own_mF #[.val (.ref x0), .val (.int (2 : Int32)), .unset, .unset] (plainFor_of_name pn_23) (fun _ => rfl) ?_
  intro p e s m below meth c s₁ u hlk hret hZ hown hnm X0 e0 N0
  obtain ⟨hx, hby, hml⟩ := id u
  refine t_aN X0 u d23_0 rfl rfl ?_
  refine t_gF X0 u hZ hown (wd hw 130 rfl) e0 r0 d23_1 ?_
  intro T1 X1 e1
  obtain ⟨cl2, Ar2, -, S2, N2, -, -⟩ := id r1
  refine Go.step (X1.arraylength hx (by rw [e1]; exact Ar2.1) (State.isArrayOf_alike hZ.alike Ar2.2.1) (g := (mkF m 4 #[.val (.ref x0), .val (.int (2 : Int32)), .unset, .unset] [(.ref w1)])) rfl rfl (hb hby d23_4)) ?_
  rw [len_of S2 N2]
  show Go _ _ _ _ _ _ _ _ T1 (mkF m 5 #[.val (.ref x0), .val (.int (2 : Int32)), .unset, .unset] [(.int (1 : Int32))])
  refine t_isN X1 u d23_5 (l' := #[.val (.ref x0), .val (.int (2 : Int32)), .val (.int (1 : Int32)), .unset]) rfl ?_
  refine t_iN X1 u d23_6 rfl ?_
  refine t_ifY 7 20 X1 u rfl d23_7 ((if0 _ _).trans (tlt (by decide : (0 : Int32) < (1 : Int32))).2.2.1) (by decide) ?_
  refine t_iN X1 u d23_20 rfl ?_
  refine t_iN X1 u d23_21 rfl ?_
  refine t_iN X1 u d23_22 rfl ?_
  refine t_isub X1 u d23_23  ?_
  refine t_iN X1 u d23_24 rfl ?_
  refine t_iC X1 u d23_25  ?_
  refine Go.step (fun _ kt_ => XS.ishr X1.here hx rfl (hb hby d23_26) rfl kt_) ?_
  show Go _ _ _ _ _ _ _ _ T1 (mkF m 27 #[.val (.ref x0), .val (.int (2 : Int32)), .val (.int (1 : Int32)), .unset] [(.int (0 : Int32)), (.int (1 : Int32)), (.int (1 : Int32))])
  refine pt_cS [(.int (1 : Int32)), (.int (1 : Int32)), (.int (0 : Int32))] [] 0 X1 u hZ hown (wd hw 180 rfl) (m_71 hw) e1 (rm_a24_0 l Z a0 hw [] G GG (1 : Int32) (1 : Int32) (0 : Int32) h0 O0 (by decide) (by decide) (by decide)) rfl d23_27 rfl rfl (by decide) N0 ?_
  intro T3 L3 X3 e3 N3_
  refine t_isN X3 u d23_30 (l' := #[.val (.ref x0), .val (.int (2 : Int32)), .val (.int (1 : Int32)), .val (.int (2 : Int32))]) rfl ?_
  refine t_aN X3 u d23_31 rfl rfl ?_
  refine t_aN X3 u d23_32 rfl rfl ?_
  refine t_gF X3 u hZ hown (wd hw 130 rfl) e3 r0 d23_33 ?_
  intro T4 X4 e4
  refine t_iN X4 u d23_36 rfl ?_
  refine t_cS [(.ref w1), (.int (2 : Int32))] [(.ref x0)] 1 X4 u hZ hown (wd hw 188 rfl) (m_32 hw) e4 (rm_a14_4 l Z a0 hw [] G GG w1 kk2 w3 h0 O0 r2 r1 r3) rfl d23_37 rfl rfl (by decide) ?_
  intro v5 T5 L5 Lc5 X5 hQ5 l5
  obtain ⟨b2q2q5, k2q2q5, rfl, Nq5, Kq5, p5_0, p5_1, p5_2, p5_3⟩ := hQ5
  have O5_ := extKeep O0 Kq5 all0
  have K5 := Keep.trans (Keep.refl h0 [x0]) Kq5 all0
  have N5_ := frA l5 N3_ Nq5
  have g_b2q2q5 := Nat.le_trans O0.1 p5_0
  have sz_b2q2q5 := Nat.le_trans (Keep.refl h0 [x0]).1 p5_0
  refine Go.step (fun _ kt_ => XS.dupX1 X5.here hx rfl (hb hby d23_40) rfl rfl rfl kt_) ?_
  refine t_pF X5 u hZ hown (wd hw 130 rfl) rfl (r0.keep Kq5 nin0) (r4.keep Kq5) (Or.inl (wd hw 131 rfl)) (wd hw 74 rfl) pf_ALjava_lang_Object_ rfl rfl d23_41 ?_
  intro T6 h6 X6 e6 W6
  have N6_ := Fr.snoc X6 N5_ r5
  have O6_ := extWr O5_ W6 r5
  have K6 := Keep.wr K5 W6 k0
  have F6 := Fld.same W6 (r0.keep Kq5 nin0)
  have f7 := (p5_2.other W6 (Ne.symm (neL r4.lt p5_0)))
  exact Go.retA X6 hx hret rfl rfl hlk (hb hby d23_44) (by decide) (by decide) (by show Q_a23_3 ..; rw [e6]; exact ⟨b2q2q5, k2q2q5, rfl, N6_, K6, F6, (fR W6 (r6.keep Kq5 nin0) (sn_2 hw)), (fS W6 (r7.keep Kq5 nin0) (sn_1 hw)), sz_b2q2q5, (Exa.wr W6 p5_1), f7, p5_3⟩)
def Q_a22_3 (Z : State) (x0 w3 : Addr) (h0 : Heap) (v : Option Value) (h : Heap) (L : List Loc) : Prop := ∃ (b2q2q5q2 : Addr) (k2q2q5q2 : ClassId), v = some (.ref b2q2q5q2) ∧ Fr Z.heap.size L ∧ Keep h0 h [x0] ∧ fl_17 Z h x0 (.ref b2q2q5q2) ∧ fl_16 Z h x0 (.int (1 : Int32)) ∧ fl_15 Z h x0 (.int (1 : Int32)) ∧ h0.size ≤ b2q2q5q2 ∧ ex_0 Z h b2q2q5q2 ∧ Arv Z h b2q2q5q2 k2q2q5q2 (.object "java/lang/Object") (2 : Int32) [(.ref w3), .null] .null ∧ Ovr Z k2q2q5q2 "java/lang/Object"
theorem rm_a22_3 (x0 w1 : Addr) (kk2 : ClassId) (w3 : Addr) (h0 : Heap) (O0 : Ext Z.heap h0) (r0 : fl_16 Z h0 x0 (.int (1 : Int32))) (r1 : fl_17 Z h0 x0 (.ref w1)) (r2 : Arv Z h0 w1 kk2 (.object "java/lang/Object") (1 : Int32) [(.ref w3)] .null) (r3 : ex_0 Z h0 w1) (r4 : ex_5 Z h0 w3) (r5 : ex_7 Z h0 x0) (r6 : Z.heap.size ≤ x0) (r7 : fl_15 Z h0 x0 (.int (1 : Int32))) :
    MF hw GG l y_22 jdk_38_method_7_code 1 (some (.array (.object "java/lang/Object"))) ws ⟨4, 1, 2, 62⟩ h0 #[(.ref x0)] (Q_a22_3 Z x0 w3 h0) := by
  refine own_mF #[.val (.ref x0)] (plainFor_of_name pn_22) (fun _ => rfl) ?_
  intro p e s m below meth c s₁ u hlk hret hZ hown hnm X0 e0 N0
  obtain ⟨hx, hby, hml⟩ := id u
  refine t_aN X0 u d22_0 rfl rfl ?_
  refine t_aN X0 u d22_1 rfl rfl ?_
  refine t_gF X0 u hZ hown (wd hw 127 rfl) e0 r0 d22_2 ?_
  intro T1 X1 e1
  refine t_iC X1 u d22_5  ?_
  refine t_iadd X1 u d22_6  ?_
  refine t_cP [(.int (2 : Int32))] [] 0 X1 u hZ hown r5 (wd hw 174 rfl) (m_21 hw) e1 (rm_a23_3 l Z a0 hw [] G GG x0 w1 kk2 w3 h0 O0 r1 r2 r3 r4 r5 r6 r0 r7) rfl d22_7 rfl rfl (by decide) ?_
  intro v2 T2 L2 Lc2 X2 hQ2 l2
  obtain ⟨b2q2q5q2, k2q2q5q2, rfl, Nq2, Kq2, p2_0, p2_1, p2_2, p2_3, p2_4, p2_5, p2_6⟩ := hQ2
  have O2_ := extKeep O0 Kq2 (allS r6 all0)
  have K2 := Keep.trans (Keep.refl h0 [x0]) Kq2 (allS k0 all0)
  have N2_ := frA l2 N0 Nq2
  have g_b2q2q5q2 := Nat.le_trans O0.1 p2_3
  have sz_b2q2q5q2 := Nat.le_trans (Keep.refl h0 [x0]).1 p2_3
  exact Go.retA X2 hx hret rfl rfl hlk (hb hby d22_10) (by decide) (by decide) ⟨b2q2q5q2, k2q2q5q2, rfl, N2_, K2, p2_0, p2_1, p2_2, sz_b2q2q5q2, p2_4, p2_5, p2_6⟩
def Q_a21_4 (Z : State) (x0 x1 w2 : Addr) (h0 : Heap) (v : Option Value) (h : Heap) (L : List Loc) : Prop := ∃ (b2q2q5q2q2 : Addr) (k2q2q5q2q2 : ClassId), v = none ∧ Fr Z.heap.size L ∧ Keep h0 h [x0] ∧ fl_17 Z h x0 (.ref b2q2q5q2q2) ∧ fl_16 Z h x0 (.int (2 : Int32)) ∧ fl_15 Z h x0 (.int (1 : Int32)) ∧ h0.size ≤ b2q2q5q2q2 ∧ ex_0 Z h b2q2q5q2q2 ∧ Arv Z h b2q2q5q2q2 k2q2q5q2q2 (.object "java/lang/Object") (2 : Int32) [(.ref w2), (.ref x1)] .null ∧ Ovr Z k2q2q5q2q2 "java/lang/Object"
theorem rm_a21_4 (x0 x1 x2 : Addr) (kk1 : ClassId) (w2 : Addr) (h0 : Heap) (O0 : Ext Z.heap h0) (r0 : Arv Z h0 x2 kk1 (.object "java/lang/Object") (1 : Int32) [(.ref w2)] .null) (r1 : fl_16 Z h0 x0 (.int (1 : Int32))) (r2 : fl_17 Z h0 x0 (.ref x2)) (r3 : ex_0 Z h0 x2) (r4 : ex_5 Z h0 w2) (r5 : ex_7 Z h0 x0) (r6 : Z.heap.size ≤ x0) (r7 : fl_15 Z h0 x0 (.int (1 : Int32))) (r8 : ex_5 Z h0 x1) :
    MF hw GG l y_21 jdk_38_method_24_code 4 none ws ⟨5, 1, 2, 74⟩ h0 #[(.ref x0), (.ref x1), (.ref x2), (.int (1 : Int32))] (Q_a21_4 Z x0 x1 w2 h0) := by
  refine own_mF #[.val (.ref x0), .val (.ref x1), .val (.ref x2), .val (.int (1 : Int32))] (plainFor_of_name pn_21) (fun _ => rfl) ?_
  intro p e s m below meth c s₁ u hlk hret hZ hown hnm X0 e0 N0
  obtain ⟨hx, hby, hml⟩ := id u
  refine t_iN X0 u d21_0 rfl ?_
  refine t_aN X0 u d21_1 rfl rfl ?_
  obtain ⟨cl1, Ar1, -, S1, N1, -, -⟩ := id r0
  refine Go.step (X0.arraylength hx (by rw [e0]; exact Ar1.1) (State.isArrayOf_alike hZ.alike Ar1.2.1) (g := (mkF m 2 #[.val (.ref x0), .val (.ref x1), .val (.ref x2), .val (.int (1 : Int32))] [(.ref x2), (.int (1 : Int32))])) rfl rfl (hb hby d21_2)) ?_
  rw [len_of S1 N1]
  show Go _ _ _ _ _ _ _ _ s₁ (mkF m 3 #[.val (.ref x0), .val (.ref x1), .val (.ref x2), .val (.int (1 : Int32))] [(.int (1 : Int32)), (.int (1 : Int32))])
  refine t_icN X0 u d21_3 (teq (by decide : (1 : Int32) = (1 : Int32))).2 ?_
  refine t_aN X0 u d21_6 rfl rfl ?_
  refine t_cP [] [] 0 X0 u hZ hown r5 (wd hw 169 rfl) (m_22 hw) e0 (rm_a22_3 l Z a0 hw [] G GG x0 x2 kk1 w2 h0 O0 r1 r2 r0 r3 r4 r5 r6 r7) rfl d21_7 rfl rfl (by decide) ?_
  intro v2 T2 L2 Lc2 X2 hQ2 l2
  obtain ⟨b2q2q5q2q2, k2q2q5q2q2, rfl, Nq2, Kq2, p2_0, p2_1, p2_2, p2_3, p2_4, p2_5, p2_6⟩ := hQ2
  have O2_ := extKeep O0 Kq2 (allS r6 all0)
  have K2 := Keep.trans (Keep.refl h0 [x0]) Kq2 (allS k0 all0)
  have N2_ := frA l2 N0 Nq2
  have g_b2q2q5q2q2 := Nat.le_trans O0.1 p2_3
  have sz_b2q2q5q2q2 := Nat.le_trans (Keep.refl h0 [x0]).1 p2_3
  refine t_asN X2 u d21_10 rfl (l' := #[.val (.ref x0), .val (.ref x1), .val (.ref b2q2q5q2q2), .val (.int (1 : Int32))]) rfl ?_
  refine t_aN X2 u d21_11 rfl rfl ?_
  refine t_iN X2 u d21_12 rfl ?_
  refine t_aN X2 u d21_13 rfl rfl ?_
  obtain ⟨cl3, Ar3, q3, S3, N3, H3, G3⟩ := id p2_5
  have hin3 : ¬ ((1 : Int32) < 0 ∨ cl3.slots.size ≤ ((1 : Int32)).toNatClampNeg) := inb_of S3 ⟨by decide, by decide⟩
  obtain ⟨T3, h3, X3, e3, W3, st3⟩ := stR X2 hx hZ rfl Ar3 (j := (1 : Int32)) hin3 rfl (Sto.ofV Ar3 q3 p2_6 (Ins.of_exa (r8.keep Kq2) (wd hw 189 rfl))) (g := (mkF m 14 #[.val (.ref x0), .val (.ref x1), .val (.ref b2q2q5q2q2), .val (.int (1 : Int32))] [(.ref x1), (.int (1 : Int32)), (.ref b2q2q5q2q2)])) rfl rfl (hb hby d21_14)
  refine Go.step st3 ?_
  have V3 : Arv Z h3 b2q2q5q2q2 k2q2q5q2q2 (.object "java/lang/Object") (2 : Int32) [(.ref w2), (.ref x1)] .null := Arv.set Ar3 q3 S3 N3 H3 G3 rfl W3 1 rfl (Nat.le_of_ble_eq_true rfl)
  have N3_ := Fr.snoc X3 N2_ g_b2q2q5q2q2
  have O3_ := extWr O2_ W3 g_b2q2q5q2q2
  have K3 := Keep.wr K2 W3 (Or.inr sz_b2q2q5q2q2)
  refine t_aN X3 u d21_15 rfl rfl ?_
  refine t_iN X3 u d21_16 rfl ?_
  refine t_iC X3 u d21_17  ?_
  refine t_iadd X3 u d21_18  ?_
  refine t_pF X3 u hZ hown (wd hw 127 rfl) e3 (fL W3 p2_1 (neL r5.lt p2_3)) (Exa.wr W3 (r5.keep Kq2)) (Or.inl (wd hw 128 rfl)) (wd hw 74 rfl) pf_I rfl rfl d21_19 ?_
  intro T4 h4 X4 e4 W4
  have N4_ := Fr.snoc X4 N3_ r6
  have O4_ := extWr O3_ W4 r6
  have K4 := Keep.wr K3 W4 k0
  have F4 := Fld.same W4 (fL W3 p2_1 (neL r5.lt p2_3))
  have f5 := (fS W4 (fL W3 p2_0 (neL r5.lt p2_3)) (sn_2 hw))
  have f6 := (fS W4 (fL W3 p2_2 (neL r5.lt p2_3)) (sn_0 hw))
  exact Go.retV X4 hx hret hlk (hb hby d21_22) (by decide) (by decide) (by show Q_a21_4 ..; rw [e4]; exact ⟨b2q2q5q2q2, k2q2q5q2q2, rfl, N4_, K4, f5, F4, f6, sz_b2q2q5q2q2, (Exa.wr W4 (Exa.wr W3 p2_4)), (V3.other W4 (Ne.symm (neL r5.lt p2_3))), p2_6⟩)
def Q_a20_4 (Z : State) (x0 x1 w3 : Addr) (h0 : Heap) (v : Option Value) (h : Heap) (L : List Loc) : Prop := ∃ (b2q2q5q2q2q5 : Addr) (k2q2q5q2q2q5 : ClassId), v = some (.int (1 : Int32)) ∧ Fr Z.heap.size L ∧ Keep h0 h [x0] ∧ fl_17 Z h x0 (.ref b2q2q5q2q2q5) ∧ fl_16 Z h x0 (.int (2 : Int32)) ∧ fl_15 Z h x0 (.int (1 : Int32)) ∧ h0.size ≤ b2q2q5q2q2q5 ∧ ex_0 Z h b2q2q5q2q2q5 ∧ Arv Z h b2q2q5q2q2q5 k2q2q5q2q2q5 (.object "java/lang/Object") (2 : Int32) [(.ref w3), (.ref x1)] .null ∧ Ovr Z k2q2q5q2q2q5 "java/lang/Object"
theorem rm_a20_4 (x0 x1 w1 : Addr) (kk2 : ClassId) (w3 : Addr) (h0 : Heap) (O0 : Ext Z.heap h0) (r0 : fl_15 Z h0 x0 (.int (0 : Int32))) (r1 : ex_7 Z h0 x0) (r2 : Z.heap.size ≤ x0) (r3 : fl_17 Z h0 x0 (.ref w1)) (r4 : fl_16 Z h0 x0 (.int (1 : Int32))) (r5 : Arv Z h0 w1 kk2 (.object "java/lang/Object") (1 : Int32) [(.ref w3)] .null) (r6 : w1 ≠ x0) (r7 : ex_0 Z h0 w1) (r8 : ex_5 Z h0 w3) (r9 : ex_5 Z h0 x1) :
    MF hw GG l y_20 jdk_38_method_25_code 2 (some .boolean) ws ⟨6, 1, 2, 89⟩ h0 #[(.ref x0), (.ref x1)] (Q_a20_4 Z x0 x1 w3 h0) := by
  refine own_mF #[.val (.ref x0), .val (.ref x1)] (plainFor_of_name pn_20) (fun _ => rfl) ?_
  intro p e s m below meth c s₁ u hlk hret hZ hown hnm X0 e0 N0
  obtain ⟨hx, hby, hml⟩ := id u
  refine t_aN X0 u d20_0 rfl rfl ?_
  refine t_dup X0 u d20_1 rfl ?_
  obtain ⟨T1, X1, e1, st1⟩ := getF X0 hx hZ hown (host := "") (Or.inl (wd hw 162 rfl)) (Via.of (wd hw 163 rfl)) e0 r0 (g := (mkF m 2 #[.val (.ref x0), .val (.ref x1)] [(.ref x0), (.ref x0)])) rfl rfl (hb hby d20_2)
  refine Go.step st1 ?_
  refine t_iC X1 u d20_5  ?_
  refine t_iadd X1 u d20_6  ?_
  obtain ⟨T2, h2, X2, e2, W2, st2⟩ := putF X1 hx hZ hown (host := "") (Or.inl (wd hw 162 rfl)) (Via.of (wd hw 163 rfl)) e1 r0 r1 (Or.inl (wd hw 93 rfl)) (wd hw 74 rfl) (ty := .int) pf_I rfl rfl (g := (mkF m 7 #[.val (.ref x0), .val (.ref x1)] [(.int (1 : Int32)), (.ref x0)])) rfl rfl (hb hby d20_7)
  refine Go.step st2 ?_
  have N2_ := Fr.snoc X2 N0 r2
  have O2_ := extWr O0 W2 r2
  have K2 := Keep.wr (Keep.refl h0 [x0]) W2 k0
  have F2 := Fld.same W2 r0
  refine t_aN X2 u d20_10 rfl rfl ?_
  refine t_aN X2 u d20_11 rfl rfl ?_
  refine t_aN X2 u d20_12 rfl rfl ?_
  refine t_gF X2 u hZ hown (wd hw 130 rfl) e2 (fR W2 r3 (sn_1 hw)) d20_13 ?_
  intro T3 X3 e3
  refine t_aN X3 u d20_16 rfl rfl ?_
  refine t_gF X3 u hZ hown (wd hw 127 rfl) e3 (fR W2 r4 (sn_0 hw)) d20_17 ?_
  intro T4 X4 e4
  refine t_cP [(.ref x1), (.ref w1), (.int (1 : Int32))] [] 0 X4 u hZ hown (Exa.wr W2 r1) (wd hw 164 rfl) (m_23 hw) e4 (rm_a21_4 l Z a0 hw [] G GG x0 x1 w1 kk2 w3 h2 O2_ (r5.other W2 r6) (fR W2 r4 (sn_0 hw)) (fR W2 r3 (sn_1 hw)) (Exa.wr W2 r7) (Exa.wr W2 r8) (Exa.wr W2 r1) r2 F2 (Exa.wr W2 r9)) rfl d20_20 rfl rfl (by decide) ?_
  intro v5 T5 L5 Lc5 X5 hQ5 l5
  obtain ⟨b2q2q5q2q2q5, k2q2q5q2q2q5, rfl, Nq5, Kq5, p5_0, p5_1, p5_2, p5_3, p5_4, p5_5, p5_6⟩ := hQ5
  have O5_ := extKeep O2_ Kq5 (allS r2 all0)
  have K5 := Keep.trans K2 Kq5 (allS k0 all0)
  have N5_ := frA l5 N2_ Nq5
  have g_b2q2q5q2q2q5 := Nat.le_trans O2_.1 p5_3
  have sz_b2q2q5q2q2q5 := Nat.le_trans K2.1 p5_3
  refine t_iC X5 u d20_23  ?_
  exact Go.retN X5 hx (t := .boolean) hret (by simp) hlk (hb hby d20_24) (by decide) (by decide) ⟨b2q2q5q2q2q5, k2q2q5q2q2q5, rfl, N5_, K5, p5_0, p5_1, p5_2, sz_b2q2q5q2q2q5, p5_4, p5_5, p5_6⟩
def Q_a31_4 (Z : State) (x0 w1 : Addr) (w2 : Int32) (w6 : Addr) (h0 : Heap) (v : Option Value) (h : Heap) (L : List Loc) : Prop := v = some (.ref w6) ∧ Fr Z.heap.size L ∧ Keep h0 h [x0] ∧ fl_22 Z h x0 (.ref w1) ∧ fl_24 Z h x0 (.int w2) ∧ fl_25 Z h x0 (.int (1 : Int32)) ∧ fl_23 Z h x0 (.int (0 : Int32))
theorem rm_a31_4 (x0 w1 : Addr) (w2 w3 : Int32) (w4 : Addr) (kk5 : ClassId) (w6 w7 : Addr) (h0 : Heap) (O0 : Ext Z.heap h0) (r0 : ex_9 Z h0 x0) (r1 : fl_22 Z h0 x0 (.ref w1)) (r2 : fl_15 Z h0 w1 (.int w2)) (r3 : fl_24 Z h0 x0 (.int w2)) (r4 : w2 = w2) (r5 : fl_25 Z h0 x0 (.int (0 : Int32))) (r6 : fl_16 Z h0 w1 (.int w3)) (r7 : (0 : Int32) < w3) (r8 : fl_17 Z h0 w1 (.ref w4)) (r9 : Arv Z h0 w4 kk5 (.object "java/lang/Object") (2 : Int32) [(.ref w6), (.ref w7)] .null) (r10 : Z.heap.size ≤ x0) (r11 : fl_23 Z h0 x0 (.int (-1 : Int32))) (r12 : w4 ≠ x0) :
    MF hw GG l y_31 jdk_49_method_3_code 3 (some (.object "java/lang/Object")) ws ⟨1, 0, 0, 12⟩ h0 #[(.ref x0)] (Q_a31_4 Z x0 w1 w2 w6 h0) := by
  refine own_mF #[.val (.ref x0), .unset, .unset] (plainFor_of_name pn_31) (fun _ => rfl) ?_
  intro p e s m below meth c s₁ u hlk hret hZ hown hnm X0 e0 N0
  obtain ⟨hx, hby, hml⟩ := id u
  refine t_aN X0 u d31_0 rfl rfl ?_
  refine pt_cV [] [] 0 X0 u hZ hown (wd hw 242 rfl) (m_25 hw) e0 r0 (rm_a32_0 l Z a0 hw [] G GG x0 w1 w2 h0 O0 r1 r2 r3 r4) rfl d31_1 rfl rfl (by decide) N0 ?_
  intro T1 L1 X1 e1 N1_
  refine t_aN X1 u d31_4 rfl rfl ?_
  refine t_gF X1 u hZ hown (wd hw 231 rfl) e1 r5 d31_5 ?_
  intro T2 X2 e2
  refine t_isN X2 u d31_8 (l' := #[.val (.ref x0), .val (.int (0 : Int32)), .unset]) rfl ?_
  refine t_iN X2 u d31_9 rfl ?_
  refine t_aN X2 u d31_10 rfl rfl ?_
  refine t_gF X2 u hZ hown (wd hw 214 rfl) e2 r1 d31_11 ?_
  intro T3 X3 e3
  obtain ⟨T4, X4, e4, st4⟩ := getF X3 hx hZ hown (Or.inr (wd hw 233 rfl)) Via.refl e3 r6 (g := (mkF m 14 #[.val (.ref x0), .val (.int (0 : Int32)), .unset] [(.ref w1), (.int (0 : Int32))])) rfl rfl (hb hby d31_14)
  refine Go.step st4 ?_
  refine t_icY 17 28 X4 u rfl d31_17 (tlt r7).1 (by decide) ?_
  refine t_aN X4 u d31_28 rfl rfl ?_
  refine t_gF X4 u hZ hown (wd hw 214 rfl) e4 r1 d31_29 ?_
  intro T5 X5 e5
  refine t_gF X5 u hZ hown (wd hw 247 rfl) e5 r8 d31_32 ?_
  intro T6 X6 e6
  refine t_asN X6 u d31_35 rfl (l' := #[.val (.ref x0), .val (.int (0 : Int32)), .val (.ref w4)]) rfl ?_
  refine t_iN X6 u d31_36 rfl ?_
  refine t_aN X6 u d31_37 rfl rfl ?_
  obtain ⟨cl7, Ar7, -, S7, N7, -, -⟩ := id r9
  refine Go.step (X6.arraylength hx (by rw [e6]; exact Ar7.1) (State.isArrayOf_alike hZ.alike Ar7.2.1) (g := (mkF m 38 #[.val (.ref x0), .val (.int (0 : Int32)), .val (.ref w4)] [(.ref w4), (.int (0 : Int32))])) rfl rfl (hb hby d31_38)) ?_
  rw [len_of S7 N7]
  show Go _ _ _ _ _ _ _ _ T6 (mkF m 39 #[.val (.ref x0), .val (.int (0 : Int32)), .val (.ref w4)] [(.int (2 : Int32)), (.int (0 : Int32))])
  refine t_icY 39 50 X6 u rfl d31_39 (tlt (by decide : (0 : Int32) < (2 : Int32))).1 (by decide) ?_
  refine t_aN X6 u d31_50 rfl rfl ?_
  refine t_iN X6 u d31_51 rfl ?_
  refine t_iC X6 u d31_52  ?_
  refine t_iadd X6 u d31_53  ?_
  refine t_pF X6 u hZ hown (wd hw 231 rfl) e6 r5 r0 (Or.inl (wd hw 232 rfl)) (wd hw 208 rfl) pf_I rfl rfl d31_54 ?_
  intro T8 h8 X8 e8 W8
  have N8_ := Fr.snoc X8 N1_ r10
  have O8_ := extWr O0 W8 r10
  have K8 := Keep.wr (Keep.refl h0 [x0]) W8 k0
  have F8 := Fld.same W8 r5
  refine t_aN X8 u d31_57 rfl rfl ?_
  refine t_aN X8 u d31_58 rfl rfl ?_
  refine t_iN X8 u d31_59 rfl ?_
  refine Go.step (fun _ kt_ => XS.dupX1 X8.here hx rfl (hb hby d31_60) rfl rfl rfl kt_) ?_
  refine t_pF X8 u hZ hown (wd hw 217 rfl) e8 (fS W8 r11 (sn_13 hw)) (Exa.wr W8 r0) (Or.inl (wd hw 218 rfl)) (wd hw 208 rfl) pf_I rfl rfl d31_61 ?_
  intro T9 h9 X9 e9 W9
  have N9_ := Fr.snoc X9 N8_ r10
  have O9_ := extWr O8_ W9 r10
  have K9 := Keep.wr K8 W9 k0
  have F9 := Fld.same W9 (fS W8 r11 (sn_13 hw))
  obtain ⟨cl10, Ar10, q10, S10, N10, H10, G10⟩ := id ((r9.other W8 r12).other W9 r12)
  have hin10 : ¬ ((0 : Int32) < 0 ∨ cl10.slots.size ≤ ((0 : Int32)).toNatClampNeg) := inb_of S10 ⟨by decide, by decide⟩
  refine Go.step (X9.aaload hx (j := (0 : Int32)) (v := (.ref w6)) (by rw [e9]; exact Ar10.1) (State.isArrayOf_alike hZ.alike Ar10.2.1) rfl Ar10.2.2 hin10 (Has.at H10 hin10 rfl) (g := (mkF m 64 #[.val (.ref x0), .val (.int (0 : Int32)), .val (.ref w4)] [(.int (0 : Int32)), (.ref w4)])) rfl rfl (hb hby d31_64)) ?_
  exact Go.retA X9 hx hret rfl rfl hlk (hb hby d31_65) (by decide) (by decide) (by show Q_a31_4 ..; rw [e9]; exact ⟨rfl, N9_, K9, (fS W9 (fS W8 r1 (sn_12 hw)) (sn_9 hw)), (fR W9 (fS W8 r3 (sn_14 hw)) (sn_11 hw)), (fR W9 F8 (sn_13 hw)), F9⟩)
def Q_a31_5 (Z : State) (x0 w1 : Addr) (w2 : Int32) (w7 : Addr) (h0 : Heap) (v : Option Value) (h : Heap) (L : List Loc) : Prop := v = some (.ref w7) ∧ Fr Z.heap.size L ∧ Keep h0 h [x0] ∧ fl_22 Z h x0 (.ref w1) ∧ fl_24 Z h x0 (.int w2) ∧ fl_25 Z h x0 (.int (2 : Int32)) ∧ fl_23 Z h x0 (.int (1 : Int32))
theorem rm_a31_5 (x0 w1 : Addr) (w2 w3 : Int32) (w4 : Addr) (kk5 : ClassId) (w6 w7 : Addr) (h0 : Heap) (O0 : Ext Z.heap h0) (r0 : ex_9 Z h0 x0) (r1 : fl_22 Z h0 x0 (.ref w1)) (r2 : fl_15 Z h0 w1 (.int w2)) (r3 : fl_24 Z h0 x0 (.int w2)) (r4 : w2 = w2) (r5 : fl_25 Z h0 x0 (.int (1 : Int32))) (r6 : fl_16 Z h0 w1 (.int w3)) (r7 : (1 : Int32) < w3) (r8 : fl_17 Z h0 w1 (.ref w4)) (r9 : Arv Z h0 w4 kk5 (.object "java/lang/Object") (2 : Int32) [(.ref w6), (.ref w7)] .null) (r10 : Z.heap.size ≤ x0) (r11 : fl_23 Z h0 x0 (.int (0 : Int32))) (r12 : w4 ≠ x0) :
    MF hw GG l y_31 jdk_49_method_3_code 3 (some (.object "java/lang/Object")) ws ⟨1, 0, 0, 12⟩ h0 #[(.ref x0)] (Q_a31_5 Z x0 w1 w2 w7 h0) := by
  refine own_mF #[.val (.ref x0), .unset, .unset] (plainFor_of_name pn_31) (fun _ => rfl) ?_
  intro p e s m below meth c s₁ u hlk hret hZ hown hnm X0 e0 N0
  obtain ⟨hx, hby, hml⟩ := id u
  refine t_aN X0 u d31_0 rfl rfl ?_
  refine pt_cV [] [] 0 X0 u hZ hown (wd hw 242 rfl) (m_25 hw) e0 r0 (rm_a32_0 l Z a0 hw [] G GG x0 w1 w2 h0 O0 r1 r2 r3 r4) rfl d31_1 rfl rfl (by decide) N0 ?_
  intro T1 L1 X1 e1 N1_
  refine t_aN X1 u d31_4 rfl rfl ?_
  refine t_gF X1 u hZ hown (wd hw 231 rfl) e1 r5 d31_5 ?_
  intro T2 X2 e2
  refine t_isN X2 u d31_8 (l' := #[.val (.ref x0), .val (.int (1 : Int32)), .unset]) rfl ?_
  refine t_iN X2 u d31_9 rfl ?_
  refine t_aN X2 u d31_10 rfl rfl ?_
  refine t_gF X2 u hZ hown (wd hw 214 rfl) e2 r1 d31_11 ?_
  intro T3 X3 e3
  obtain ⟨T4, X4, e4, st4⟩ := getF X3 hx hZ hown (Or.inr (wd hw 233 rfl)) Via.refl e3 r6 (g := (mkF m 14 #[.val (.ref x0), .val (.int (1 : Int32)), .unset] [(.ref w1), (.int (1 : Int32))])) rfl rfl (hb hby d31_14)
  refine Go.step st4 ?_
  refine t_icY 17 28 X4 u rfl d31_17 (tlt r7).1 (by decide) ?_
  refine t_aN X4 u d31_28 rfl rfl ?_
  refine t_gF X4 u hZ hown (wd hw 214 rfl) e4 r1 d31_29 ?_
  intro T5 X5 e5
  refine t_gF X5 u hZ hown (wd hw 247 rfl) e5 r8 d31_32 ?_
  intro T6 X6 e6
  refine t_asN X6 u d31_35 rfl (l' := #[.val (.ref x0), .val (.int (1 : Int32)), .val (.ref w4)]) rfl ?_
  refine t_iN X6 u d31_36 rfl ?_
  refine t_aN X6 u d31_37 rfl rfl ?_
  obtain ⟨cl7, Ar7, -, S7, N7, -, -⟩ := id r9
  refine Go.step (X6.arraylength hx (by rw [e6]; exact Ar7.1) (State.isArrayOf_alike hZ.alike Ar7.2.1) (g := (mkF m 38 #[.val (.ref x0), .val (.int (1 : Int32)), .val (.ref w4)] [(.ref w4), (.int (1 : Int32))])) rfl rfl (hb hby d31_38)) ?_
  rw [len_of S7 N7]
  show Go _ _ _ _ _ _ _ _ T6 (mkF m 39 #[.val (.ref x0), .val (.int (1 : Int32)), .val (.ref w4)] [(.int (2 : Int32)), (.int (1 : Int32))])
  refine t_icY 39 50 X6 u rfl d31_39 (tlt (by decide : (1 : Int32) < (2 : Int32))).1 (by decide) ?_
  refine t_aN X6 u d31_50 rfl rfl ?_
  refine t_iN X6 u d31_51 rfl ?_
  refine t_iC X6 u d31_52  ?_
  refine t_iadd X6 u d31_53  ?_
  refine t_pF X6 u hZ hown (wd hw 231 rfl) e6 r5 r0 (Or.inl (wd hw 232 rfl)) (wd hw 208 rfl) pf_I rfl rfl d31_54 ?_
  intro T8 h8 X8 e8 W8
  have N8_ := Fr.snoc X8 N1_ r10
  have O8_ := extWr O0 W8 r10
  have K8 := Keep.wr (Keep.refl h0 [x0]) W8 k0
  have F8 := Fld.same W8 r5
  refine t_aN X8 u d31_57 rfl rfl ?_
  refine t_aN X8 u d31_58 rfl rfl ?_
  refine t_iN X8 u d31_59 rfl ?_
  refine Go.step (fun _ kt_ => XS.dupX1 X8.here hx rfl (hb hby d31_60) rfl rfl rfl kt_) ?_
  refine t_pF X8 u hZ hown (wd hw 217 rfl) e8 (fS W8 r11 (sn_13 hw)) (Exa.wr W8 r0) (Or.inl (wd hw 218 rfl)) (wd hw 208 rfl) pf_I rfl rfl d31_61 ?_
  intro T9 h9 X9 e9 W9
  have N9_ := Fr.snoc X9 N8_ r10
  have O9_ := extWr O8_ W9 r10
  have K9 := Keep.wr K8 W9 k0
  have F9 := Fld.same W9 (fS W8 r11 (sn_13 hw))
  obtain ⟨cl10, Ar10, q10, S10, N10, H10, G10⟩ := id ((r9.other W8 r12).other W9 r12)
  have hin10 : ¬ ((1 : Int32) < 0 ∨ cl10.slots.size ≤ ((1 : Int32)).toNatClampNeg) := inb_of S10 ⟨by decide, by decide⟩
  refine Go.step (X9.aaload hx (j := (1 : Int32)) (v := (.ref w7)) (by rw [e9]; exact Ar10.1) (State.isArrayOf_alike hZ.alike Ar10.2.1) rfl Ar10.2.2 hin10 (Has.at H10 hin10 rfl) (g := (mkF m 64 #[.val (.ref x0), .val (.int (1 : Int32)), .val (.ref w4)] [(.int (1 : Int32)), (.ref w4)])) rfl rfl (hb hby d31_64)) ?_
  exact Go.retA X9 hx hret rfl rfl hlk (hb hby d31_65) (by decide) (by decide) (by show Q_a31_5 ..; rw [e9]; exact ⟨rfl, N9_, K9, (fS W9 (fS W8 r1 (sn_12 hw)) (sn_9 hw)), (fR W9 (fS W8 r3 (sn_14 hw)) (sn_11 hw)), (fR W9 F8 (sn_13 hw)), F9⟩)
def Q_a26_4 (Z : State) (x0 w5 w6 : Addr) (h0 : Heap) (v : Option Value) (h : Heap) (L : List Loc) : Prop := ∃ (b2q5q1q50 : Addr), v = none ∧ Fr Z.heap.size L ∧ Keep h0 h [x0] ∧ fl_2 Z h x0 (.ref b2q5q1q50) ∧ h0.size ≤ b2q5q1q50 ∧ ex_4 Z h b2q5q1q50 ∧ fl_3 Z h b2q5q1q50 (.ref w5) ∧ fl_4 Z h b2q5q1q50 (.ref w6)
theorem rm_a26_4 (x0 x1 : Addr) (w1 w2 : Int32) (w3 : Addr) (kk4 : ClassId) (w5 w6 : Addr) (w7 : Int32) (w8 : Int64) (w9 : Int32) (w10 : Int64) (h0 : Heap) (O0 : Ext Z.heap h0) (r0 : ex_7 Z h0 x1) (r1 : fl_15 Z h0 x1 (.int w1)) (r2 : fl_16 Z h0 x1 (.int w2)) (r3 : ¬ ((0 : Int32) = w2)) (r4 : w1 = w1) (r5 : (0 : Int32) < w2) (r6 : fl_17 Z h0 x1 (.ref w3)) (r7 : Arv Z h0 w3 kk4 (.object "java/lang/Object") (2 : Int32) [(.ref w5), (.ref w6)] .null) (r8 : ex_5 Z h0 w5) (r9 : fl_5 Z h0 w5 (.int w7)) (r10 : ¬ (w7 < (0 : Int32))) (r11 : fl_6 Z h0 w5 (.long w8)) (r12 : ¬ ((lcmpW w8 (0 : Int64)) < (0 : Int32))) (r13 : ¬ ((1 : Int32) = w2)) (r14 : (1 : Int32) < w2) (r15 : ex_5 Z h0 w6) (r16 : fl_5 Z h0 w6 (.int w9)) (r17 : ¬ (w9 < (0 : Int32))) (r18 : fl_6 Z h0 w6 (.long w10)) (r19 : ¬ ((lcmpW w10 (0 : Int64)) < (0 : Int32))) (r20 : w7 < w9) (r21 : (0 : Int32) < (lcmpW w10 w8)) (r22 : (2 : Int32) = w2) (r23 : ex_3 Z h0 x0) (r24 : fl_2 Z h0 x0 .null) (r25 : Z.heap.size ≤ x0) :
    MF hw GG l y_26 prog_22_method_1_code 5 none ws ⟨8, 5, 21, 101⟩ h0 #[(.ref x0), (.ref x1)] (Q_a26_4 Z x0 w5 w6 h0) := by
  refine own_mF #[.val (.ref x0), .val (.ref x1), .unset, .unset, .unset] (plainFor_of_name pn_26) (fun _ => rfl) ?_
  intro p e s m below meth c s₁ u hlk hret hZ hown hnm X0 e0 N0
  obtain ⟨hx, hby, hml⟩ := id u
  refine t_aN X0 u d26_0 rfl rfl ?_
  refine pt_cN [] [] 0 X0 u hZ hown rfl (wd hw 195 rfl) (m_7 hw) e0 (rm_a19_0 l Z a0 hw [] G GG x0 h0 O0 ) rfl d26_1 rfl rfl (by decide) N0 ?_
  intro T1 L1 X1 e1 N1_
  refine t_new X1 u hZ hown (wd hw 73 rfl) (wd hw 74 rfl) (wd hw 75 rfl) e1 d26_4 (by decide) ?_
  intro T2 h2 b2 X2 e2 E2 hb2 A2 D2
  have g_b2 := leE O0.1 hb2
  have O2_ := extTr O0 E2
  have sz_b2 := leE (Keep.refl h0 [x0]).1 hb2
  have K2 := Keep.ext (Keep.refl h0 [x0]) E2
  have F2_modCount : fl_15 Z h2 b2 (.int (0 : Int32)) := D2 (Or.inl (wd hw 93 rfl)) (ty := .int) pf_I
  have F2_size : fl_16 Z h2 b2 (.int (0 : Int32)) := D2 (Or.inl (wd hw 128 rfl)) (ty := .int) pf_I
  have F2_elementData : fl_17 Z h2 b2 .null := D2 (Or.inl (wd hw 131 rfl)) (ty := (.array (.object "java/lang/Object"))) pf_ALjava_lang_Object_
  refine t_dup X2 u d26_7 rfl ?_
  refine t_cN [] [(.ref b2)] 1 X2 u hZ hown rfl (wd hw 196 rfl) (m_2 hw) e2 (rm_a27_0 l Z a0 hw [] G GG b2 (0 : Int32) (0 : Int32) h2 O2_ A2 F2_modCount g_b2 F2_size F2_elementData) rfl d26_8 rfl rfl (by decide) ?_
  intro v3 T3 L3 Lc3 X3 hQ3 l3
  obtain ⟨rfl, Nq3, Kq3, p3_0, p3_1, p3_2⟩ := hQ3
  have O3_ := extKeep O2_ Kq3 (allS g_b2 all0)
  have K3 := Keep.trans K2 Kq3 (allS (Or.inr sz_b2) all0)
  have N3_ := frA l3 N1_ Nq3
  refine t_asN X3 u d26_11 rfl (l' := #[.val (.ref x0), .val (.ref x1), .val (.ref b2), .unset, .unset]) rfl ?_
  refine t_aN X3 u d26_12 rfl rfl ?_
  have f4 := ((Fld.ext E2 r1).keep Kq3 (ninS (neE r0.lt hb2) nin0))
  refine t_cI [] [] 0 X3 u hZ hown (wd hw 199 rfl) (m_9 hw) rfl ((Exa.ext E2 r0).keep Kq3) (rm_a28_0 l Z a0 hw [] G GG x1 w1 T3.heap O3_ f4) rfl d26_13 rfl rfl (by decide) ?_
  intro v5 T5 L5 Lc5 X5 hQ5 l5
  obtain ⟨b1q5, rfl, Nq5, Kq5, p5_0, p5_1, p5_2, p5_3, p5_4, p5_5⟩ := hQ5
  have O5_ := extKeep O3_ Kq5 all0
  have K5 := Keep.trans K3 Kq5 all0
  have N5_ := frA l5 N3_ Nq5
  have g_b1q5 := Nat.le_trans O3_.1 p5_0
  have sz_b1q5 := Nat.le_trans K3.1 p5_0
  refine t_asN X5 u d26_18 rfl (l' := #[.val (.ref x0), .val (.ref x1), .val (.ref b2), .val (.ref b1q5), .unset]) rfl ?_
  refine t_aN X5 u d26_19 rfl rfl ?_
  have f6 := (((Fld.ext E2 r2).keep Kq3 (ninS (neE r0.lt hb2) nin0)).keep Kq5 nin0)
  refine pt_cI [] [] 0 X5 u hZ hown (wd hw 222 rfl) (m_10 hw) rfl p5_1 (rm_a30_1 l Z a0 hw [] G GG b1q5 (0 : Int32) x1 w2 T5.heap O5_ p5_5 p5_2 f6 r3) rfl d26_20 rfl rfl (by decide) N5_ ?_
  intro T7 L7 X7 e7 N7_
  refine t_ifN X7 u d26_25 ((if0 _ _).trans (feq (by decide : ¬ ((1 : Int32) = (0 : Int32)))).1) ?_
  refine t_aN X7 u d26_28 rfl rfl ?_
  have f8 := (((Fld.ext E2 r6).keep Kq3 (ninS (neE r0.lt hb2) nin0)).keep Kq5 nin0)
  have f9 := (((r7.ext E2).keep Kq3 (ninS (neE r7.lt hb2) nin0)).keep Kq5 nin0)
  refine t_cI [] [] 0 X7 u hZ hown (wd hw 234 rfl) (m_26 hw) e7 p5_1 (rm_a31_4 l Z a0 hw [] G GG b1q5 x1 w1 w2 w3 kk4 w5 w6 T5.heap O5_ p5_1 p5_2 (f4.keep Kq5 nin0) p5_4 r4 p5_5 f6 r5 f8 f9 g_b1q5 p5_3 (neL ((r7.ext E2).keep Kq3 (ninS (neE r7.lt hb2) nin0)).lt p5_0)) rfl d26_29 rfl rfl (by decide) ?_
  intro v10 T10 L10 Lc10 X10 hQ10 l10
  obtain ⟨rfl, Nq10, Kq10, p10_0, p10_1, p10_2, p10_3⟩ := hQ10
  have O10_ := extKeep O5_ Kq10 (allS g_b1q5 all0)
  have K10 := Keep.trans K5 Kq10 (allS (Or.inr sz_b1q5) all0)
  have N10_ := frA l10 N7_ Nq10
  have f11 := ((((Exa.ext E2 r8).keep Kq3).keep Kq5).keep Kq10)
  obtain ⟨T12, X12, e12, st12⟩ := castY X10 hx hZ hown (wd hw 138 rfl) rfl (Ins.self f11) (g := (mkF m 34 #[.val (.ref x0), .val (.ref x1), .val (.ref b2), .val (.ref b1q5), .unset] [(.ref w5)])) rfl rfl (hb hby d26_34)
  refine Go.step st12 ?_
  refine t_asL X12 u d26_37 rfl (l' := #[.val (.ref x0), .val (.ref x1), .val (.ref b2), .val (.ref b1q5), .val (.ref w5)]) rfl ?_
  refine t_aN X12 u d26_39 rfl rfl ?_
  refine t_aL X12 u d26_40 rfl rfl ?_
  have f13 := ((p3_1.keep Kq5 nin0).keep Kq10 (ninS (neL (A2.keep Kq3).lt p5_0) nin0))
  have f14 := ((((Fld.ext E2 r9).keep Kq3 (ninS (neE r8.lt hb2) nin0)).keep Kq5 nin0).keep Kq10 (ninS (neL ((Exa.ext E2 r8).keep Kq3).lt p5_0) nin0))
  have f15 := ((((Fld.ext E2 r11).keep Kq3 (ninS (neE r8.lt hb2) nin0)).keep Kq5 nin0).keep Kq10 (ninS (neL ((Exa.ext E2 r8).keep Kq3).lt p5_0) nin0))
  refine pt_cS [(.ref b2), (.ref w5)] [] 0 X12 u hZ hown (wd hw 249 rfl) (m_29 hw) e12 (rm_a33_0 l Z a0 hw [] G GG b2 w5 (0 : Int32) w7 w8 T10.heap O10_ (((A2.keep Kq3).keep Kq5).keep Kq10) f13 (by decide) f11 f14 r10 f15 r12) rfl d26_42 rfl rfl (by decide) N10_ ?_
  intro T16 L16 X16 e16 N16_
  refine t_ifY 45 74 X16 u rfl d26_45 ((if0 _ _).trans (feq (by decide : ¬ ((1 : Int32) = (0 : Int32)))).2) (by decide) ?_
  refine t_aN X16 u d26_74 rfl rfl ?_
  refine t_aL X16 u d26_75 rfl rfl ?_
  have f17 := ((p3_0.keep Kq5 nin0).keep Kq10 (ninS (neL (A2.keep Kq3).lt p5_0) nin0))
  have f18 := ((p3_2.keep Kq5 nin0).keep Kq10 (ninS (neL (A2.keep Kq3).lt p5_0) nin0))
  refine t_cI [(.ref w5)] [] 0 X16 u hZ hown (wd hw 154 rfl) (m_24 hw) e16 (((A2.keep Kq3).keep Kq5).keep Kq10) (rm_a20_0 l Z a0 hw [] G GG b2 w5 T10.heap O10_ f17 (((A2.keep Kq3).keep Kq5).keep Kq10) g_b2 f18 f13 f11) rfl d26_77 rfl rfl (by decide) ?_
  intro v19 T19 L19 Lc19 X19 hQ19 l19
  obtain ⟨b6q2q2q5q19, k6q2q2q5q19, rfl, Nq19, Kq19, p19_0, p19_1, p19_2, p19_3, p19_4, p19_5, p19_6⟩ := hQ19
  have O19_ := extKeep O10_ Kq19 (allS g_b2 all0)
  have K19 := Keep.trans K10 Kq19 (allS (Or.inr sz_b2) all0)
  have N19_ := frA l19 N16_ Nq19
  have g_b6q2q2q5q19 := Nat.le_trans O10_.1 p19_3
  have sz_b6q2q2q5q19 := Nat.le_trans K10.1 p19_3
  refine t_pop X19 u d26_82 rfl ?_
  refine t_go 83 19 X19 u rfl d26_83 (by decide) ?_
  refine t_aN X19 u d26_19 rfl rfl ?_
  have f20 := (p10_2.keep Kq19 (ninS (Ne.symm (neL (A2.keep Kq3).lt p5_0)) nin0))
  have f21 := (p10_0.keep Kq19 (ninS (Ne.symm (neL (A2.keep Kq3).lt p5_0)) nin0))
  have f22 := ((f6.keep Kq10 (ninS (neL ((Exa.ext E2 r0).keep Kq3).lt p5_0) nin0)).keep Kq19 (ninS (neE r0.lt hb2) nin0))
  refine pt_cI [] [] 0 X19 u hZ hown (wd hw 222 rfl) (m_10 hw) rfl ((p5_1.keep Kq10).keep Kq19) (rm_a30_1 l Z a0 hw [] G GG b1q5 (1 : Int32) x1 w2 T19.heap O19_ f20 f21 f22 r13) rfl d26_20 rfl rfl (by decide) N19_ ?_
  intro T23 L23 X23 e23 N23_
  refine t_ifN X23 u d26_25 ((if0 _ _).trans (feq (by decide : ¬ ((1 : Int32) = (0 : Int32)))).1) ?_
  refine t_aN X23 u d26_28 rfl rfl ?_
  have f24 := (((f4.keep Kq5 nin0).keep Kq10 (ninS (neL ((Exa.ext E2 r0).keep Kq3).lt p5_0) nin0)).keep Kq19 (ninS (neE r0.lt hb2) nin0))
  have f25 := (p10_1.keep Kq19 (ninS (Ne.symm (neL (A2.keep Kq3).lt p5_0)) nin0))
  have f26 := ((f8.keep Kq10 (ninS (neL ((Exa.ext E2 r0).keep Kq3).lt p5_0) nin0)).keep Kq19 (ninS (neE r0.lt hb2) nin0))
  have f27 := ((f9.keep Kq10 (ninS (neL ((r7.ext E2).keep Kq3 (ninS (neE r7.lt hb2) nin0)).lt p5_0) nin0)).keep Kq19 (ninS (neE r7.lt hb2) nin0))
  have f28 := (p10_3.keep Kq19 (ninS (Ne.symm (neL (A2.keep Kq3).lt p5_0)) nin0))
  refine t_cI [] [] 0 X23 u hZ hown (wd hw 234 rfl) (m_26 hw) e23 ((p5_1.keep Kq10).keep Kq19) (rm_a31_5 l Z a0 hw [] G GG b1q5 x1 w1 w2 w3 kk4 w5 w6 T19.heap O19_ ((p5_1.keep Kq10).keep Kq19) f21 f24 f25 r4 f20 f22 r14 f26 f27 g_b1q5 f28 (neL ((r7.ext E2).keep Kq3 (ninS (neE r7.lt hb2) nin0)).lt p5_0)) rfl d26_29 rfl rfl (by decide) ?_
  intro v29 T29 L29 Lc29 X29 hQ29 l29
  obtain ⟨rfl, Nq29, Kq29, p29_0, p29_1, p29_2, p29_3⟩ := hQ29
  have O29_ := extKeep O19_ Kq29 (allS g_b1q5 all0)
  have K29 := Keep.trans K19 Kq29 (allS (Or.inr sz_b1q5) all0)
  have N29_ := frA l29 N23_ Nq29
  have f30 := ((((Exa.ext E2 r15).keep Kq3).keep Kq5).keep Kq10)
  obtain ⟨T31, X31, e31, st31⟩ := castY X29 hx hZ hown (wd hw 138 rfl) rfl (Ins.self ((f30.keep Kq19).keep Kq29)) (g := (mkF m 34 #[.val (.ref x0), .val (.ref x1), .val (.ref b2), .val (.ref b1q5), .val (.ref w5)] [(.ref w6)])) rfl rfl (hb hby d26_34)
  refine Go.step st31 ?_
  refine t_asL X31 u d26_37 rfl (l' := #[.val (.ref x0), .val (.ref x1), .val (.ref b2), .val (.ref b1q5), .val (.ref w6)]) rfl ?_
  refine t_aN X31 u d26_39 rfl rfl ?_
  refine t_aL X31 u d26_40 rfl rfl ?_
  have f32 := ((((A2.keep Kq3).keep Kq5).keep Kq10).keep Kq19)
  have f33 := (p19_1.keep Kq29 (ninS (neL (A2.keep Kq3).lt p5_0) nin0))
  have f34 := (p19_0.keep Kq29 (ninS (neL (A2.keep Kq3).lt p5_0) nin0))
  have f35 := (p19_5.keep Kq29 (ninS (Ne.symm (neL (p5_1.keep Kq10).lt p19_3)) nin0))
  have f36 := ((((Fld.ext E2 r16).keep Kq3 (ninS (neE r15.lt hb2) nin0)).keep Kq5 nin0).keep Kq10 (ninS (neL ((Exa.ext E2 r15).keep Kq3).lt p5_0) nin0))
  have f37 := ((f36.keep Kq19 (ninS (neE r15.lt hb2) nin0)).keep Kq29 (ninS (neL ((Exa.ext E2 r15).keep Kq3).lt p5_0) nin0))
  have f38 := ((((Fld.ext E2 r18).keep Kq3 (ninS (neE r15.lt hb2) nin0)).keep Kq5 nin0).keep Kq10 (ninS (neL ((Exa.ext E2 r15).keep Kq3).lt p5_0) nin0))
  have f39 := ((f38.keep Kq19 (ninS (neE r15.lt hb2) nin0)).keep Kq29 (ninS (neL ((Exa.ext E2 r15).keep Kq3).lt p5_0) nin0))
  have f40 := ((f14.keep Kq19 (ninS (neE r8.lt hb2) nin0)).keep Kq29 (ninS (neL ((Exa.ext E2 r8).keep Kq3).lt p5_0) nin0))
  have f41 := ((f15.keep Kq19 (ninS (neE r8.lt hb2) nin0)).keep Kq29 (ninS (neL ((Exa.ext E2 r8).keep Kq3).lt p5_0) nin0))
  refine pt_cS [(.ref b2), (.ref w6)] [] 0 X31 u hZ hown (wd hw 249 rfl) (m_29 hw) e31 (rm_a33_1 l Z a0 hw [] G GG b2 w6 b6q2q2q5q19 k6q2q2q5q19 w5 w9 w10 w7 w8 T29.heap O29_ (f32.keep Kq29) f33 f34 f35 ((f11.keep Kq19).keep Kq29) ((f30.keep Kq19).keep Kq29) f37 r17 f39 r19 f40 r20 f41 r21) rfl d26_42 rfl rfl (by decide) N29_ ?_
  intro T42 L42 X42 e42 N42_
  refine t_ifY 45 74 X42 u rfl d26_45 ((if0 _ _).trans (feq (by decide : ¬ ((1 : Int32) = (0 : Int32)))).2) (by decide) ?_
  refine t_aN X42 u d26_74 rfl rfl ?_
  refine t_aL X42 u d26_75 rfl rfl ?_
  have f43 := (p19_2.keep Kq29 (ninS (neL (A2.keep Kq3).lt p5_0) nin0))
  refine t_cI [(.ref w6)] [] 0 X42 u hZ hown (wd hw 154 rfl) (m_24 hw) e42 (f32.keep Kq29) (rm_a20_1 l Z a0 hw [] G GG b2 w6 b6q2q2q5q19 k6q2q2q5q19 w5 T29.heap O29_ f43 (f32.keep Kq29) g_b2 f34 f33 f35 (Ne.symm (neL (((A2.keep Kq3).keep Kq5).keep Kq10).lt p19_3)) p19_6 ((f30.keep Kq19).keep Kq29) g_b6q2q2q5q19) rfl d26_77 rfl rfl (by decide) ?_
  intro v44 T44 L44 Lc44 X44 hQ44 l44
  obtain ⟨rfl, Nq44, Kq44, p44_0, p44_1, p44_2, p44_3⟩ := hQ44
  have O44_ := extKeep O29_ Kq44 (allS g_b2 (allS g_b6q2q2q5q19 all0))
  have K44 := Keep.trans K29 Kq44 (allS (Or.inr sz_b2) (allS (Or.inr sz_b6q2q2q5q19) all0))
  have N44_ := frA l44 N42_ Nq44
  refine t_pop X44 u d26_82 rfl ?_
  refine t_go 83 19 X44 u rfl d26_83 (by decide) ?_
  refine t_aN X44 u d26_19 rfl rfl ?_
  have f45 := ((((p5_1.keep Kq10).keep Kq19).keep Kq29).keep Kq44)
  have f46 := (p29_2.keep Kq44 (ninS (Ne.symm (neL (A2.keep Kq3).lt p5_0)) (ninS (neL (p5_1.keep Kq10).lt p19_3) nin0)))
  have f47 := (p29_0.keep Kq44 (ninS (Ne.symm (neL (A2.keep Kq3).lt p5_0)) (ninS (neL (p5_1.keep Kq10).lt p19_3) nin0)))
  have f48 := ((f22.keep Kq29 (ninS (neL ((Exa.ext E2 r0).keep Kq3).lt p5_0) nin0)).keep Kq44 (ninS (neE r0.lt hb2) (ninS (neL ((((Exa.ext E2 r0).keep Kq3).keep Kq5).keep Kq10).lt p19_3) nin0)))
  refine pt_cI [] [] 0 X44 u hZ hown (wd hw 222 rfl) (m_10 hw) rfl f45 (rm_a30_0 l Z a0 hw [] G GG b1q5 (2 : Int32) x1 w2 T44.heap O44_ f46 f47 f48 r22) rfl d26_20 rfl rfl (by decide) N44_ ?_
  intro T49 L49 X49 e49 N49_
  refine t_ifY 25 86 X49 u rfl d26_25 ((if0 _ _).trans (teq (by decide : (0 : Int32) = (0 : Int32))).1) (by decide) ?_
  refine t_aN X49 u d26_86 rfl rfl ?_
  refine t_cS [(.ref b2)] [] 0 X49 u hZ hown (wd hw 264 rfl) (m_14 hw) e49 (rm_a36_2 l Z a0 hw [] G GG b2 b6q2q2q5q19 k6q2q2q5q19 w5 w6 T44.heap O44_ ((f32.keep Kq29).keep Kq44) p44_0 p44_2 ((p19_4.keep Kq29).keep Kq44) p44_3 (((f30.keep Kq19).keep Kq29).keep Kq44) (((f11.keep Kq19).keep Kq29).keep Kq44)) rfl d26_87 rfl rfl (by decide) ?_
  intro v50 T50 L50 Lc50 X50 hQ50 l50
  obtain ⟨b2q5q1q50, rfl, Nq50, Kq50, p50_0, p50_1, p50_2, p50_3⟩ := hQ50
  have O50_ := extKeep O44_ Kq50 all0
  have K50 := Keep.trans K44 Kq50 all0
  have N50_ := frA l50 N49_ Nq50
  have g_b2q5q1q50 := Nat.le_trans O44_.1 p50_0
  have sz_b2q5q1q50 := Nat.le_trans K44.1 p50_0
  refine t_asN X50 u d26_90 rfl (l' := #[.val (.ref x0), .val (.ref b2q5q1q50), .val (.ref b2), .val (.ref b1q5), .val (.ref w6)]) rfl ?_
  refine t_aN X50 u d26_91 rfl rfl ?_
  refine t_aN X50 u d26_92 rfl rfl ?_
  have f51 := ((((Exa.ext E2 r23).keep Kq3).keep Kq5).keep Kq10)
  have f52 := ((((f51.keep Kq19).keep Kq29).keep Kq44).keep Kq50)
  have f53 := ((((Fld.ext E2 r24).keep Kq3 (ninS (neE r23.lt hb2) nin0)).keep Kq5 nin0).keep Kq10 (ninS (neL ((Exa.ext E2 r23).keep Kq3).lt p5_0) nin0))
  have f54 := ((((f53.keep Kq19 (ninS (neE r23.lt hb2) nin0)).keep Kq29 (ninS (neL ((Exa.ext E2 r23).keep Kq3).lt p5_0) nin0)).keep Kq44 (ninS (neE r23.lt hb2) (ninS (neL f51.lt p19_3) nin0))).keep Kq50 nin0)
  refine t_pF X50 u hZ hown (wd hw 30 rfl) rfl f54 f52 (Or.inr ⟨(wd hw 31 rfl), rfl, hnm⟩) (wd hw 191 rfl) pf_Ljava_util_List_ rfl rfl d26_93 ?_
  intro T55 h55 X55 e55 W55
  have N55_ := Fr.snoc X55 N50_ r25
  have O55_ := extWr O50_ W55 r25
  have K55 := Keep.wr K50 W55 k0
  have F55 := Fld.same W55 f54
  have f56 := (fL W55 p50_2 (Ne.symm (neL (((f51.keep Kq19).keep Kq29).keep Kq44).lt p50_0)))
  have f57 := (fL W55 p50_3 (Ne.symm (neL (((f51.keep Kq19).keep Kq29).keep Kq44).lt p50_0)))
  exact Go.retV X55 hx hret hlk (hb hby d26_96) (by decide) (by decide) (by show Q_a26_4 ..; rw [e55]; exact ⟨b2q5q1q50, rfl, N55_, K55, F55, sz_b2q5q1q50, (Exa.wr W55 p50_1), f56, f57⟩)
def Q_a9_2 (Z : State) (x1 : Int32) (x2 : Int64) (w2 : Addr) (h0 : Heap) (v : Option Value) (h : Heap) (L : List Loc) : Prop := ∃ (b18 : Addr) (b2q5q1q50q26 : Addr) (b10 : Addr), v = some (.ref b18) ∧ Fr Z.heap.size L ∧ Keep h0 h [] ∧ h0.size ≤ b18 ∧ ex_3 Z h b18 ∧ fl_2 Z h b18 (.ref b2q5q1q50q26) ∧ h0.size ≤ b2q5q1q50q26 ∧ ex_4 Z h b2q5q1q50q26 ∧ fl_3 Z h b2q5q1q50q26 (.ref w2) ∧ fl_4 Z h b2q5q1q50q26 (.ref b10) ∧ b18 ≠ b2q5q1q50q26 ∧ h0.size ≤ b10 ∧ ex_5 Z h b10 ∧ fl_5 Z h b10 (.int x1) ∧ fl_6 Z h b10 (.long x2) ∧ b18 ≠ b10 ∧ b2q5q1q50q26 ≠ b10
theorem rm_a9_2 (x0 : Addr) (x1 : Int32) (x2 : Int64) (w1 w2 : Addr) (w3 : Int64) (w4 : Int32) (h0 : Heap) (O0 : Ext Z.heap h0) (r0 : fl_2 Z h0 x0 (.ref w1)) (r1 : ex_4 Z h0 w1) (r2 : fl_4 Z h0 w1 (.ref G.eo)) (r3 : fl_3 Z h0 w1 (.ref w2)) (r4 : ex_5 Z h0 w2) (r5 : fl_6 Z h0 w2 (.long w3)) (r6 : ¬ ((lcmpW w3 x2) = (0 : Int32))) (r7 : fl_5 Z h0 w2 (.int w4)) (r8 : ¬ (w4 < (0 : Int32))) (r9 : ¬ ((lcmpW w3 (0 : Int64)) < (0 : Int32))) (r10 : ¬ (x1 < (0 : Int32))) (r11 : ¬ ((lcmpW x2 (0 : Int64)) < (0 : Int32))) (r12 : w4 < x1) (r13 : (0 : Int32) < (lcmpW x2 w3)) :
    MF hw GG l y_9 prog_22_method_8_code 6 (some (.object "com/example/clean_epoch/cleanepoch/log/Lineage")) ws ⟨9, 11, 31, 118⟩ h0 #[(.ref x0), (.int x1), (.long x2)] (Q_a9_2 Z x1 x2 w2 h0) := by
  refine own_mF #[.val (.ref x0), .val (.int x1), .val (.long x2), .second, .unset, .unset] (plainFor_of_name pn_9) (fun _ => rfl) ?_
  intro p e s m below meth c s₁ u hlk hret hZ hown hnm X0 e0 N0
  obtain ⟨hx, hby, hml⟩ := id u
  refine t_new X0 u hZ hown (wd hw 73 rfl) (wd hw 74 rfl) (wd hw 75 rfl) e0 d9_0 (by decide) ?_
  intro T1 h1 b1 X1 e1 E1 hb1 A1 D1
  have g_b1 := leE O0.1 hb1
  have O1_ := extTr O0 E1
  have sz_b1 := leE (Keep.refl h0 []).1 hb1
  have K1 := Keep.ext (Keep.refl h0 []) E1
  have F1_modCount : fl_15 Z h1 b1 (.int (0 : Int32)) := D1 (Or.inl (wd hw 93 rfl)) (ty := .int) pf_I
  have F1_size : fl_16 Z h1 b1 (.int (0 : Int32)) := D1 (Or.inl (wd hw 128 rfl)) (ty := .int) pf_I
  have F1_elementData : fl_17 Z h1 b1 .null := D1 (Or.inl (wd hw 131 rfl)) (ty := (.array (.object "java/lang/Object"))) pf_ALjava_lang_Object_
  refine t_dup X1 u d9_3 rfl ?_
  refine t_aN X1 u d9_4 rfl rfl ?_
  refine t_gF X1 u hZ hown (wd hw 30 rfl) e1 (Fld.ext E1 r0) d9_5 ?_
  intro T2 X2 e2
  refine t_cN [(.ref w1)] [(.ref b1)] 1 X2 u hZ hown rfl (wd hw 76 rfl) (m_67 hw) e2 (rm_a10_1 l Z a0 hw [] G GG b1 w1 (0 : Int32) (0 : Int32) w2 h1 O1_ A1 F1_modCount g_b1 F1_size F1_elementData (Exa.ext E1 r1) (Fld.ext E1 r2) (neE r1.lt hb1) (Fld.ext E1 r3) (Exa.ext E1 r4)) rfl d9_8 rfl rfl (by decide) ?_
  intro v3 T3 L3 Lc3 X3 hQ3 l3
  obtain ⟨ex0q3, ex1q3, rfl, Nq3, Kq3, p3_0, p3_1, p3_2, p3_3, p3_4, p3_5, p3_6⟩ := hQ3
  have O3_ := extKeep O1_ Kq3 (allS g_b1 all0)
  have K3 := Keep.trans K1 Kq3 (allS (Or.inr sz_b1) all0)
  have N3_ := frA l3 N0 Nq3
  have g_ex0q3 := Nat.le_trans O1_.1 p3_3
  have sz_ex0q3 := Nat.le_trans K1.1 p3_3
  refine t_asL X3 u d9_11 rfl (l' := #[.val (.ref x0), .val (.int x1), .val (.long x2), .second, .val (.ref b1), .unset]) rfl ?_
  refine t_aL X3 u d9_13 rfl rfl ?_
  refine pt_cI [] [] 0 X3 u hZ hown (wd hw 32 rfl) (m_27 hw) rfl (A1.keep Kq3) (rm_a17_1 l Z a0 hw [] G GG b1 (1 : Int32) T3.heap O3_ p3_2 (by decide)) rfl d9_15 rfl rfl (by decide) N3_ ?_
  intro T4 L4 X4 e4 N4_
  refine t_ifY 20 27 X4 u rfl d9_20 ((if0 _ _).trans (teq (by decide : (0 : Int32) = (0 : Int32))).1) (by decide) ?_
  refine t_aL X4 u d9_27 rfl rfl ?_
  refine t_aL X4 u d9_29 rfl rfl ?_
  refine pt_cI [] [(.ref b1)] 1 X4 u hZ hown (wd hw 338 rfl) (m_39 hw) e4 (A1.keep Kq3) (rm_a45_0 l Z a0 hw [] G GG b1 (1 : Int32) T3.heap O3_ p3_2) rfl d9_31 rfl rfl (by decide) N4_ ?_
  intro T5 L5 X5 e5 N5_
  refine t_iC X5 u d9_36  ?_
  refine t_isub X5 u d9_37  ?_
  refine pt_cI [(.int (0 : Int32))] [] 0 X5 u hZ hown (wd hw 346 rfl) (m_43 hw) e5 (A1.keep Kq3) (rm_a46_1 l Z a0 hw [] G GG b1 ex0q3 ex1q3 w2 T3.heap O3_ p3_2 (A1.keep Kq3) p3_0 p3_5) rfl d9_38 rfl rfl (by decide) N5_ ?_
  intro T6 L6 X6 e6 N6_
  obtain ⟨T7, X7, e7, st7⟩ := castY X6 hx hZ hown (wd hw 138 rfl) e6 (Ins.self ((Exa.ext E1 r4).keep Kq3)) (g := (mkF m 43 #[.val (.ref x0), .val (.int x1), .val (.long x2), .second, .val (.ref b1), .unset] [(.ref w2)])) rfl rfl (hb hby d9_43)
  refine Go.step st7 ?_
  refine t_asL X7 u d9_46 rfl (l' := #[.val (.ref x0), .val (.int x1), .val (.long x2), .second, .val (.ref b1), .val (.ref w2)]) rfl ?_
  refine t_aL X7 u d9_48 rfl rfl ?_
  refine Go.step (fun _ kt_ => XS.ifnullNo X7.here hx rfl (hb hby d9_50) rfl kt_) ?_
  refine t_aL X7 u d9_53 rfl rfl ?_
  have f8 := ((Fld.ext E1 r5).keep Kq3 (ninS (neE r4.lt hb1) nin0))
  refine pt_cV [] [] 0 X7 u hZ hown (wd hw 257 rfl) (m_19 hw) e7 ((Exa.ext E1 r4).keep Kq3) (rm_a35_0 l Z a0 hw [] G GG w2 w3 T3.heap O3_ f8) rfl d9_55 rfl rfl (by decide) N6_ ?_
  intro T9 L9 X9 e9 N9_
  refine t_lN X9 u d9_58 rfl ?_
  refine Go.step (fun _ kt_ => XS.lcmp X9.here hx rfl (hb hby d9_59) rfl kt_) ?_
  refine t_ifY 60 82 X9 u rfl d9_60 ((if0 _ _).trans (feq r6).2) (by decide) ?_
  refine t_aL X9 u d9_82 rfl rfl ?_
  refine t_new X9 u hZ hown (wd hw 138 rfl) (wd hw 139 rfl) (wd hw 140 rfl) e9 d9_84 (by decide) ?_
  intro T10 h10 b10 X10 e10 E10 hb10 A10 D10
  have g_b10 := leE O3_.1 hb10
  have O10_ := extTr O3_ E10
  have sz_b10 := leE K3.1 hb10
  have K10 := Keep.ext K3 E10
  have F10_epoch : fl_5 Z h10 b10 (.int (0 : Int32)) := D10 (Or.inr (wd hw 151 rfl)) (ty := .int) pf_I
  have F10_startOffset : fl_6 Z h10 b10 (.long (0 : Int64)) := D10 (Or.inr (wd hw 153 rfl)) (ty := .long) pf_J
  refine t_dup X10 u d9_87 rfl ?_
  refine t_iN X10 u d9_88 rfl ?_
  refine t_lN X10 u d9_89 rfl ?_
  refine t_cN [(.int x1), (.long x2)] [(.ref b10), (.ref b1)] 2 X10 u hZ hown rfl (wd hw 141 rfl) (m_68 hw) e10 (rm_a18_0 l Z a0 hw [] G GG b10 x1 x2 (0 : Int32) (0 : Int64) h10 O10_ A10 F10_epoch g_b10 F10_startOffset) rfl d9_90 rfl rfl (by decide) ?_
  intro v11 T11 L11 Lc11 X11 hQ11 l11
  obtain ⟨rfl, Nq11, Kq11, p11_0, p11_1⟩ := hQ11
  have O11_ := extKeep O10_ Kq11 (allS g_b10 all0)
  have K11 := Keep.trans K10 Kq11 (allS (Or.inr sz_b10) all0)
  have N11_ := frA l11 N9_ Nq11
  have f12 := ((Fld.ext E10 p3_1).keep Kq11 (ninS (neE (A1.keep Kq3).lt hb10) nin0))
  have f13 := ((Fld.ext E10 p3_0).keep Kq11 (ninS (neE (A1.keep Kq3).lt hb10) nin0))
  have f14 := ((Fld.ext E10 p3_2).keep Kq11 (ninS (neE (A1.keep Kq3).lt hb10) nin0))
  have f15 := ((p3_5.ext E10).keep Kq11 (ninS (neE p3_4.lt hb10) nin0))
  have f16 := ((Exa.ext E10 ((Exa.ext E1 r4).keep Kq3)).keep Kq11)
  refine t_cI [(.ref b10)] [] 0 X11 u hZ hown (wd hw 154 rfl) (m_24 hw) rfl ((Exa.ext E10 (A1.keep Kq3)).keep Kq11) (rm_a20_4 l Z a0 hw [] G GG b1 b10 ex0q3 ex1q3 w2 T11.heap O11_ f12 ((Exa.ext E10 (A1.keep Kq3)).keep Kq11) g_b1 f13 f14 f15 (Ne.symm (neL A1.lt p3_3)) ((Exa.ext E10 p3_4).keep Kq11) f16 (A10.keep Kq11)) rfl d9_93 rfl rfl (by decide) ?_
  intro v17 T17 L17 Lc17 X17 hQ17 l17
  obtain ⟨b2q2q5q2q2q5q17, k2q2q5q2q2q5q17, rfl, Nq17, Kq17, p17_0, p17_1, p17_2, p17_3, p17_4, p17_5, p17_6⟩ := hQ17
  have O17_ := extKeep O11_ Kq17 (allS g_b1 all0)
  have K17 := Keep.trans K11 Kq17 (allS (Or.inr sz_b1) all0)
  have N17_ := frA l17 N11_ Nq17
  have g_b2q2q5q2q2q5q17 := Nat.le_trans O11_.1 p17_3
  have sz_b2q2q5q2q2q5q17 := Nat.le_trans K11.1 p17_3
  refine t_pop X17 u d9_98 rfl ?_
  refine t_new X17 u hZ hown (wd hw 190 rfl) (wd hw 191 rfl) (wd hw 2 rfl) rfl d9_99 (by decide) ?_
  intro T18 h18 b18 X18 e18 E18 hb18 A18 D18
  have g_b18 := leE O17_.1 hb18
  have O18_ := extTr O17_ E18
  have sz_b18 := leE K17.1 hb18
  have K18 := Keep.ext K17 E18
  have F18_entries : fl_2 Z h18 b18 .null := D18 (Or.inr (wd hw 31 rfl)) (ty := (.object "java/util/List")) pf_Ljava_util_List_
  refine t_dup X18 u d9_102 rfl ?_
  refine t_aL X18 u d9_103 rfl rfl ?_
  have f19 := (((Exa.ext E10 (A1.keep Kq3)).keep Kq11).keep Kq17)
  have f20 := ((Fld.ext E10 ((Fld.ext E1 r7).keep Kq3 (ninS (neE r4.lt hb1) nin0))).keep Kq11 (ninS (neE ((Exa.ext E1 r4).keep Kq3).lt hb10) nin0))
  have f21 := (Fld.ext E18 (f20.keep Kq17 (ninS (neE r4.lt hb1) nin0)))
  have f22 := (Fld.ext E18 (((Fld.ext E10 f8).keep Kq11 (ninS (neE ((Exa.ext E1 r4).keep Kq3).lt hb10) nin0)).keep Kq17 (ninS (neE r4.lt hb1) nin0)))
  have f23 := (Exa.ext E18 ((A10.keep Kq11).keep Kq17))
  have f24 := (Fld.ext E18 (p11_0.keep Kq17 (ninS (Ne.symm (neE (A1.keep Kq3).lt hb10)) nin0)))
  have f25 := (Fld.ext E18 (p11_1.keep Kq17 (ninS (Ne.symm (neE (A1.keep Kq3).lt hb10)) nin0)))
  refine t_cN [(.ref b1)] [(.ref b18)] 1 X18 u hZ hown rfl (wd hw 192 rfl) (m_15 hw) e18 (rm_a26_4 l Z a0 hw [] G GG b18 b1 (1 : Int32) (2 : Int32) b2q2q5q2q2q5q17 k2q2q5q2q2q5q17 w2 b10 w4 w3 x1 x2 h18 O18_ (Exa.ext E18 f19) (Fld.ext E18 p17_2) (Fld.ext E18 p17_1) (by decide) (by decide) (by decide) (Fld.ext E18 p17_0) (p17_5.ext E18) (Exa.ext E18 (f16.keep Kq17)) f21 r8 f22 r9 (by decide) (by decide) f23 f24 r10 f25 r11 r12 r13 (by decide) A18 F18_entries g_b18) rfl d9_105 rfl rfl (by decide) ?_
  intro v26 T26 L26 Lc26 X26 hQ26 l26
  obtain ⟨b2q5q1q50q26, rfl, Nq26, Kq26, p26_0, p26_1, p26_2, p26_3, p26_4⟩ := hQ26
  have O26_ := extKeep O18_ Kq26 (allS g_b18 all0)
  have K26 := Keep.trans K18 Kq26 (allS (Or.inr sz_b18) all0)
  have N26_ := frA l26 N17_ Nq26
  have g_b2q5q1q50q26 := Nat.le_trans O18_.1 p26_1
  have sz_b2q5q1q50q26 := Nat.le_trans K18.1 p26_1
  have f27 := (f24.keep Kq26 (ninS (neE ((A10.keep Kq11).keep Kq17).lt hb18) nin0))
  have f28 := (f25.keep Kq26 (ninS (neE ((A10.keep Kq11).keep Kq17).lt hb18) nin0))
  exact Go.retA X26 hx hret rfl rfl hlk (hb hby d9_108) (by decide) (by decide) ⟨b18, b2q5q1q50q26, b10, rfl, N26_, K26, sz_b18, (A18.keep Kq26), p26_0, sz_b2q5q1q50q26, p26_2, p26_3, p26_4, (neL A18.lt p26_1), sz_b10, (f23.keep Kq26), f27, f28, (Ne.symm (neE ((A10.keep Kq11).keep Kq17).lt hb18)), (Ne.symm (neL f23.lt p26_1))⟩
theorem pn_0 : plainName "com/example/clean_epoch/cleanepoch/log/DivergenceWalkDonePinLaw" = true := by first | (simp [plainName, overriddenIn]; done) | decide +kernel
def Q_0 (Z : State)  (h0 : Heap) (v : Option Value) (h : Heap) (L : List Loc) : Prop := v = some (.int 1) ∧ Fr Z.heap.size L ∧ True
theorem rm_0 (x0 : Int32) (x1 : Int64) (x2 x3 x4 : Int32) (x5 : Int64) (h0 : Heap) (O0 : Ext Z.heap h0) :
    MF hw GG l x code maxLocals ret ws room_1 h0 #[(.int x0), (.long x1), (.int x2), (.int x3), (.int x4), (.long x5)] (Q_0 Z  h0) := by
  refine own_mF #[.val (.int x0), .val (.long x1), .second, .val (.int x2), .val (.int x3), .val (.int x4), .val (.long x5), .second, .unset, .unset, .unset, .unset, .unset, .unset, .unset, .unset, .unset, .unset, .unset, .unset] (plainFor_of_name pn_0) (fun _ => by simp [entryFrame, mkF, argsToLocals, Value.category, maxLocals]) ?_
  intro p e s m below meth c s₁ u hlk hret hZ hown hnm X0 e0 N0
  obtain ⟨hx, hby, hml⟩ := id u
  refine t_iN X0 u at_0 rfl ?_
  refine Go.step (X0.ldcInt hx hown (mvT hZ (wd hw 0 rfl)) (g := (mkF m 1 #[.val (.int x0), .val (.long x1), .second, .val (.int x2), .val (.int x3), .val (.int x4), .val (.long x5), .second, .unset, .unset, .unset, .unset, .unset, .unset, .unset, .unset, .unset, .unset, .unset, .unset] [(.int x0)])) rfl (hb hby at_1)) ?_
  refine t_iand X0 u at_3  ?_
  refine t_iC X0 u at_4  ?_
  refine Go.step (fun _ kt_ => iremM X0 hx rfl (hb hby at_5) rfl (by decide) kt_) ?_
  show Go _ _ _ _ _ _ _ _ s₁ (mkF m 6 #[.val (.int x0), .val (.long x1), .second, .val (.int x2), .val (.int x3), .val (.int x4), .val (.long x5), .second, .unset, .unset, .unset, .unset, .unset, .unset, .unset, .unset, .unset, .unset, .unset, .unset] [(.int ((x0 &&& (2147483647 : Int32)) % (3 : Int32)))])
  refine t_isL X0 u at_6 (l' := #[.val (.int x0), .val (.long x1), .second, .val (.int x2), .val (.int x3), .val (.int x4), .val (.long x5), .second, .val (.int ((x0 &&& (2147483647 : Int32)) % (3 : Int32))), .unset, .unset, .unset, .unset, .unset, .unset, .unset, .unset, .unset, .unset, .unset]) rfl ?_
  refine t_iN X0 u at_8 rfl ?_
  refine t_iC X0 u at_9  ?_
  refine Go.step (fun _ kt_ => XS.ishr X0.here hx rfl (hb hby at_10) rfl kt_) ?_
  show Go _ _ _ _ _ _ _ _ s₁ (mkF m 11 #[.val (.int x0), .val (.long x1), .second, .val (.int x2), .val (.int x3), .val (.int x4), .val (.long x5), .second, .val (.int ((x0 &&& (2147483647 : Int32)) % (3 : Int32))), .unset, .unset, .unset, .unset, .unset, .unset, .unset, .unset, .unset, .unset, .unset] [(.int (x0 >>> ((2 : Int32) &&& 31)))])
  refine t_iC X0 u at_11  ?_
  refine t_iand X0 u at_12  ?_
  refine t_isL X0 u at_13 (l' := #[.val (.int x0), .val (.long x1), .second, .val (.int x2), .val (.int x3), .val (.int x4), .val (.long x5), .second, .val (.int ((x0 &&& (2147483647 : Int32)) % (3 : Int32))), .val (.int ((x0 >>> ((2 : Int32) &&& 31)) &&& (3 : Int32))), .unset, .unset, .unset, .unset, .unset, .unset, .unset, .unset, .unset, .unset]) rfl ?_
  refine t_iL X0 u at_15 rfl ?_
  refine t_iC X0 u at_17  ?_
  refine t_iadd X0 u at_18  ?_
  refine t_iN X0 u at_19 rfl ?_
  refine t_iC X0 u at_20  ?_
  refine Go.step (fun _ kt_ => XS.ishr X0.here hx rfl (hb hby at_21) rfl kt_) ?_
  show Go _ _ _ _ _ _ _ _ s₁ (mkF m 22 #[.val (.int x0), .val (.long x1), .second, .val (.int x2), .val (.int x3), .val (.int x4), .val (.long x5), .second, .val (.int ((x0 &&& (2147483647 : Int32)) % (3 : Int32))), .val (.int ((x0 >>> ((2 : Int32) &&& 31)) &&& (3 : Int32))), .unset, .unset, .unset, .unset, .unset, .unset, .unset, .unset, .unset, .unset] [(.int (x0 >>> ((4 : Int32) &&& 31))), (.int (((x0 >>> ((2 : Int32) &&& 31)) &&& (3 : Int32)) + (1 : Int32)))])
  refine t_iC X0 u at_22  ?_
  refine t_iand X0 u at_23  ?_
  refine t_iadd X0 u at_24  ?_
  refine t_isL X0 u at_25 (l' := #[.val (.int x0), .val (.long x1), .second, .val (.int x2), .val (.int x3), .val (.int x4), .val (.long x5), .second, .val (.int ((x0 &&& (2147483647 : Int32)) % (3 : Int32))), .val (.int ((x0 >>> ((2 : Int32) &&& 31)) &&& (3 : Int32))), .val (.int ((((x0 >>> ((2 : Int32) &&& 31)) &&& (3 : Int32)) + (1 : Int32)) + ((x0 >>> ((4 : Int32) &&& 31)) &&& (3 : Int32)))), .unset, .unset, .unset, .unset, .unset, .unset, .unset, .unset, .unset]) rfl ?_
  refine t_iN X0 u at_27 rfl ?_
  refine t_bP X0 u at_28  ?_
  refine Go.step (fun _ kt_ => XS.ishr X0.here hx rfl (hb hby at_30) rfl kt_) ?_
  show Go _ _ _ _ _ _ _ _ s₁ (mkF m 31 #[.val (.int x0), .val (.long x1), .second, .val (.int x2), .val (.int x3), .val (.int x4), .val (.long x5), .second, .val (.int ((x0 &&& (2147483647 : Int32)) % (3 : Int32))), .val (.int ((x0 >>> ((2 : Int32) &&& 31)) &&& (3 : Int32))), .val (.int ((((x0 >>> ((2 : Int32) &&& 31)) &&& (3 : Int32)) + (1 : Int32)) + ((x0 >>> ((4 : Int32) &&& 31)) &&& (3 : Int32)))), .unset, .unset, .unset, .unset, .unset, .unset, .unset, .unset, .unset] [(.int (x0 >>> ((6 : Int32) &&& 31)))])
  refine t_bP X0 u at_31  ?_
  refine t_iand X0 u at_33  ?_
  refine Go.step (fun _ kt_ => XS.i2l X0.here hx rfl (hb hby at_34) rfl kt_) ?_
  refine Go.step (fun _ kt_ => XS.lstore X0.here hx rfl (hb hby at_35) rfl (l' := #[.val (.int x0), .val (.long x1), .second, .val (.int x2), .val (.int x3), .val (.int x4), .val (.long x5), .second, .val (.int ((x0 &&& (2147483647 : Int32)) % (3 : Int32))), .val (.int ((x0 >>> ((2 : Int32) &&& 31)) &&& (3 : Int32))), .val (.int ((((x0 >>> ((2 : Int32) &&& 31)) &&& (3 : Int32)) + (1 : Int32)) + ((x0 >>> ((4 : Int32) &&& 31)) &&& (3 : Int32)))), .val (.long (((x0 >>> ((6 : Int32) &&& 31)) &&& (15 : Int32)).toInt64)), .second, .unset, .unset, .unset, .unset, .unset, .unset, .unset]) rfl kt_) ?_
  refine t_lL X0 u at_37 rfl ?_
  refine Go.step (fun _ kt_ => XS.lconst X0.here hx rfl (hb hby at_39)  kt_) ?_
  refine Go.step (fun _ kt_ => XS.ladd X0.here hx rfl (hb hby at_40) rfl kt_) ?_
  refine t_iN X0 u at_41 rfl ?_
  refine t_bP X0 u at_42  ?_
  refine Go.step (fun _ kt_ => XS.ishr X0.here hx rfl (hb hby at_44) rfl kt_) ?_
  show Go _ _ _ _ _ _ _ _ s₁ (mkF m 45 #[.val (.int x0), .val (.long x1), .second, .val (.int x2), .val (.int x3), .val (.int x4), .val (.long x5), .second, .val (.int ((x0 &&& (2147483647 : Int32)) % (3 : Int32))), .val (.int ((x0 >>> ((2 : Int32) &&& 31)) &&& (3 : Int32))), .val (.int ((((x0 >>> ((2 : Int32) &&& 31)) &&& (3 : Int32)) + (1 : Int32)) + ((x0 >>> ((4 : Int32) &&& 31)) &&& (3 : Int32)))), .val (.long (((x0 >>> ((6 : Int32) &&& 31)) &&& (15 : Int32)).toInt64)), .second, .unset, .unset, .unset, .unset, .unset, .unset, .unset] [(.int (x0 >>> ((10 : Int32) &&& 31))), (.long ((((x0 >>> ((6 : Int32) &&& 31)) &&& (15 : Int32)).toInt64) + (1 : Int64)))])
  refine t_bP X0 u at_45  ?_
  refine t_iand X0 u at_47  ?_
  refine Go.step (fun _ kt_ => XS.i2l X0.here hx rfl (hb hby at_48) rfl kt_) ?_
  refine Go.step (fun _ kt_ => XS.ladd X0.here hx rfl (hb hby at_49) rfl kt_) ?_
  refine Go.step (fun _ kt_ => XS.lstore X0.here hx rfl (hb hby at_50) rfl (l' := #[.val (.int x0), .val (.long x1), .second, .val (.int x2), .val (.int x3), .val (.int x4), .val (.long x5), .second, .val (.int ((x0 &&& (2147483647 : Int32)) % (3 : Int32))), .val (.int ((x0 >>> ((2 : Int32) &&& 31)) &&& (3 : Int32))), .val (.int ((((x0 >>> ((2 : Int32) &&& 31)) &&& (3 : Int32)) + (1 : Int32)) + ((x0 >>> ((4 : Int32) &&& 31)) &&& (3 : Int32)))), .val (.long (((x0 >>> ((6 : Int32) &&& 31)) &&& (15 : Int32)).toInt64)), .second, .val (.long (((((x0 >>> ((6 : Int32) &&& 31)) &&& (15 : Int32)).toInt64) + (1 : Int64)) + (((x0 >>> ((10 : Int32) &&& 31)) &&& (15 : Int32)).toInt64))), .second, .unset, .unset, .unset, .unset, .unset]) rfl kt_) ?_
  show Go _ _ _ _ _ _ _ _ s₁ (mkF m 52 #[.val (.int x0), .val (.long x1), .second, .val (.int x2), .val (.int x3), .val (.int x4), .val (.long x5), .second, .val (.int ((x0 &&& (2147483647 : Int32)) % (3 : Int32))), .val (.int ((x0 >>> ((2 : Int32) &&& 31)) &&& (3 : Int32))), .val (.int ((((x0 >>> ((2 : Int32) &&& 31)) &&& (3 : Int32)) + (1 : Int32)) + ((x0 >>> ((4 : Int32) &&& 31)) &&& (3 : Int32)))), .val (.long (((x0 >>> ((6 : Int32) &&& 31)) &&& (15 : Int32)).toInt64)), .second, .val (.long (((((x0 >>> ((6 : Int32) &&& 31)) &&& (15 : Int32)).toInt64) + (1 : Int64)) + (((x0 >>> ((10 : Int32) &&& 31)) &&& (15 : Int32)).toInt64))), .second, .unset, .unset, .unset, .unset, .unset] [])
  obtain ⟨hn, ne0, ne1, he01, ns0, ns1, hs10, hs01⟩ := own_es x0
  generalize (((((x0 >>> ((6 : Int32) &&& 31)) &&& (15 : Int32)).toInt64) + (1 : Int64)) + (((x0 >>> ((10 : Int32) &&& 31)) &&& (15 : Int32)).toInt64)) = so1 at ns1 hs10 hs01 ⊢
  generalize (((x0 >>> ((6 : Int32) &&& 31)) &&& (15 : Int32)).toInt64) = so0 at ns0 hs10 hs01 ⊢
  generalize ((((x0 >>> ((2 : Int32) &&& 31)) &&& (3 : Int32)) + (1 : Int32)) + ((x0 >>> ((4 : Int32) &&& 31)) &&& (3 : Int32))) = ep1 at ne1 he01 ⊢
  generalize ((x0 >>> ((2 : Int32) &&& 31)) &&& (3 : Int32)) = ep0 at ne0 he01 ⊢
  generalize ((x0 &&& (2147483647 : Int32)) % (3 : Int32)) = n_ at hn ⊢
  rcases hn with rfl | rfl | rfl
  · show Go _ _ _ _ _ _ _ _ s₁ (mkF m 52 #[.val (.int x0), .val (.long x1), .second, .val (.int x2), .val (.int x3), .val (.int x4), .val (.long x5), .second, .val (.int (0 : Int32)), .val (.int ep0), .val (.int ep1), .val (.long so0), .second, .val (.long so1), .second, .unset, .unset, .unset, .unset, .unset] [])
    refine t_gS X0 u hZ hown (wd hw 1 rfl) e0 (Sta.ext O0 GG.G_le) at_52 ?_
    intro T1 X1 e1
    refine t_asL X1 u at_55 rfl (l' := #[.val (.int x0), .val (.long x1), .second, .val (.int x2), .val (.int x3), .val (.int x4), .val (.long x5), .second, .val (.int (0 : Int32)), .val (.int ep0), .val (.int ep1), .val (.long so0), .second, .val (.long so1), .second, .val (.ref G.le), .unset, .unset, .unset, .unset]) rfl ?_
    refine t_iL X1 u at_57 rfl ?_
    refine t_iC X1 u at_59  ?_
    refine t_icY 60 74 X1 u rfl at_60 (tlt (by decide : (0 : Int32) < (1 : Int32))).1 (by decide) ?_
    refine t_iL X1 u at_74 rfl ?_
    refine t_iC X1 u at_76  ?_
    refine t_icY 77 91 X1 u rfl at_77 (tlt (by decide : (0 : Int32) < (2 : Int32))).1 (by decide) ?_
    refine t_new X1 u hZ hown (wd hw 4 rfl) (wd hw 5 rfl) (wd hw 6 rfl) e1 at_91 (by decide) ?_
    intro T2 h2 b2 X2 e2 E2 hb2 A2 D2
    have g_b2 := leE O0.1 hb2
    have O2_ := extTr O0 E2
    have F2_named : fl_11 Z h2 b2 (.int (0 : Int32)) := D2 (Or.inl (wd hw 24 rfl)) (ty := .int) pf_I
    have F2_firstEpoch : fl_7 Z h2 b2 (.int (0 : Int32)) := D2 (Or.inr (wd hw 45 rfl)) (ty := .int) pf_I
    have F2_left : fl_8 Z h2 b2 .null := D2 (Or.inl (wd hw 47 rfl)) (ty := (.object "com/example/clean_epoch/cleanepoch/log/Lineage")) pf_Lcom_example_clean_epoch_cleanepoch_log_Lineage_
    have F2_reached : fl_9 Z h2 b2 (.long (0 : Int64)) := D2 (Or.inl (wd hw 49 rfl)) (ty := .long) pf_J
    have F2_exact : fl_13 Z h2 b2 (.int (0 : Int32)) := D2 (Or.inl (wd hw 51 rfl)) (ty := .boolean) pf_Z
    have F2_leaderLogStartDue : fl_12 Z h2 b2 (.int (0 : Int32)) := D2 (Or.inl (wd hw 67 rfl)) (ty := .boolean) pf_Z
    have F2_bounded : fl_14 Z h2 b2 (.int (0 : Int32)) := D2 (Or.inl (wd hw 389 rfl)) (ty := .boolean) pf_Z
    have F2_diverged : fl_10 Z h2 b2 (.int (0 : Int32)) := D2 (Or.inl (wd hw 504 rfl)) (ty := .boolean) pf_Z
    refine t_dup X2 u at_94 rfl ?_
    refine t_aL X2 u at_95 rfl rfl ?_
    refine t_lN X2 u at_97 rfl ?_
    refine t_cN [(.ref G.le), (.long x1)] [(.ref b2)] 1 X2 u hZ hown rfl (wd hw 7 rfl) (m_64 hw) e2 (rm_a1_0 l Z a0 hw [] G GG b2 x1 (0 : Int32) (0 : Int32) (0 : Int64) (0 : Int32) (0 : Int32) (0 : Int32) (0 : Int32) h2 O2_ A2 F2_named g_b2 F2_firstEpoch F2_left F2_reached F2_exact F2_leaderLogStartDue F2_bounded F2_diverged) rfl at_98 rfl rfl (by decide) ?_
    intro v3 T3 L3 Lc3 X3 hQ3 l3
    obtain ⟨z_x0_reachedq3, z_x0_divergedq3, rfl, Nq3, Kq3, p3_0, p3_1, p3_2, p3_3, p3_4, p3_5, p3_6, p3_7⟩ := hQ3
    have O3_ := extKeep O2_ Kq3 (allS g_b2 all0)
    have N3_ := frA l3 N0 Nq3
    refine t_asL X3 u at_101 rfl (l' := #[.val (.int x0), .val (.long x1), .second, .val (.int x2), .val (.int x3), .val (.int x4), .val (.long x5), .second, .val (.int (0 : Int32)), .val (.int ep0), .val (.int ep1), .val (.long so0), .second, .val (.long so1), .second, .val (.ref G.le), .val (.ref b2), .unset, .unset, .unset]) rfl ?_
    refine t_aL X3 u at_103 rfl rfl ?_
    refine pt_cV [] [] 0 X3 u hZ hown (wd hw 52 rfl) (m_50 hw) rfl (A2.keep Kq3) (rm_a6_0 l Z a0 hw [] G GG b2 (1 : Int32) T3.heap O3_ p3_4 (by decide)) rfl at_105 rfl rfl (by decide) N3_ ?_
    intro T4 L4 X4 e4 N4_
    refine t_iL X4 u at_108 rfl ?_
    refine t_ifN X4 u at_110 ((if0 _ _).trans (teq (by decide : (0 : Int32) = (0 : Int32))).2) ?_
    refine t_iC X4 u at_113  ?_
    refine t_go 114 118 X4 u rfl at_114 (by decide) ?_
    refine t_icY 118 123 X4 u rfl at_118 (teq (by decide : (1 : Int32) = (1 : Int32))).1 (by decide) ?_
    refine t_aL X4 u at_123 rfl rfl ?_
    refine t_iN X4 u at_125 rfl ?_
    refine t_lL X4 u at_126 rfl ?_
    refine t_cS [(.ref b2), (.int x2), (.long x5)] [] 0 X4 u hZ hown (wd hw 57 rfl) (m_65 hw) e4 (rm_step l Z a0 hw [] G GG b2 x2 x5 T3.heap O3_ (⟨(-1 : Int32), G.le, z_x0_reachedq3, z_x0_divergedq3, (-1 : Int32), (A2.keep Kq3), g_b2, p3_1, p3_2, p3_3, p3_7, p3_0, Or.inl ⟨(0 : Int32), p3_5, p3_4, p3_6⟩⟩)) rfl at_128 rfl rfl (by decide) ?_
    intro v5 T5 L5 Lc5 X5 hQ5 l5
    obtain ⟨rfl, Nq5, Kq5, hW5⟩ := hQ5
    have O5_ := extKeep O3_ Kq5 (allS g_b2 all0)
    have N5_ := frA l5 N4_ Nq5
    refine t_isL X5 u at_131 (l' := #[.val (.int x0), .val (.long x1), .second, .val (.int x2), .val (.int x3), .val (.int x4), .val (.long x5), .second, .val (.int (0 : Int32)), .val (.int ep0), .val (.int ep1), .val (.long so0), .second, .val (.long so1), .second, .val (.ref G.le), .val (.ref b2), .val (.int (1 : Int32)), .unset, .unset]) rfl ?_
    refine t_aL X5 u at_133 rfl rfl ?_
    refine t_iL X5 u at_135 rfl ?_
    refine t_lL X5 u at_137 rfl ?_
    refine t_cS [(.ref b2), (.int x3), (.long x5)] [] 0 X5 u hZ hown (wd hw 57 rfl) (m_65 hw) rfl (rm_step l Z a0 hw [] G GG b2 x3 x5 T5.heap O5_ hW5) rfl at_139 rfl rfl (by decide) ?_
    intro v6 T6 L6 Lc6 X6 hQ6 l6
    obtain ⟨rfl, Nq6, Kq6, hW6⟩ := hQ6
    have O6_ := extKeep O5_ Kq6 (allS g_b2 all0)
    have N6_ := frA l6 N5_ Nq6
    refine t_isL X6 u at_142 (l' := #[.val (.int x0), .val (.long x1), .second, .val (.int x2), .val (.int x3), .val (.int x4), .val (.long x5), .second, .val (.int (0 : Int32)), .val (.int ep0), .val (.int ep1), .val (.long so0), .second, .val (.long so1), .second, .val (.ref G.le), .val (.ref b2), .val (.int (1 : Int32)), .val (.int (1 : Int32)), .unset]) rfl ?_
    refine t_aL X6 u at_144 rfl rfl ?_
    refine t_iL X6 u at_146 rfl ?_
    refine t_lL X6 u at_148 rfl ?_
    refine t_cS [(.ref b2), (.int x4), (.long x5)] [] 0 X6 u hZ hown (wd hw 57 rfl) (m_65 hw) rfl (rm_step l Z a0 hw [] G GG b2 x4 x5 T6.heap O6_ hW6) rfl at_150 rfl rfl (by decide) ?_
    intro v7 T7 L7 Lc7 X7 hQ7 l7
    obtain ⟨rfl, Nq7, Kq7, hW7⟩ := hQ7
    have O7_ := extKeep O6_ Kq7 (allS g_b2 all0)
    have N7_ := frA l7 N6_ Nq7
    refine t_isL X7 u at_153 (l' := #[.val (.int x0), .val (.long x1), .second, .val (.int x2), .val (.int x3), .val (.int x4), .val (.long x5), .second, .val (.int (0 : Int32)), .val (.int ep0), .val (.int ep1), .val (.long so0), .second, .val (.long so1), .second, .val (.ref G.le), .val (.ref b2), .val (.int (1 : Int32)), .val (.int (1 : Int32)), .val (.int (1 : Int32))]) rfl ?_
    refine t_iL X7 u at_155 rfl ?_
    refine t_ifN X7 u at_157 ((if0 _ _).trans (feq (by decide : ¬ ((1 : Int32) = (0 : Int32)))).1) ?_
    refine t_iL X7 u at_160 rfl ?_
    refine t_ifN X7 u at_162 ((if0 _ _).trans (feq (by decide : ¬ ((1 : Int32) = (0 : Int32)))).1) ?_
    refine t_iL X7 u at_165 rfl ?_
    show Go _ _ _ _ _ _ _ _ T7 (mkF m 167 #[.val (.int x0), .val (.long x1), .second, .val (.int x2), .val (.int x3), .val (.int x4), .val (.long x5), .second, .val (.int (0 : Int32)), .val (.int ep0), .val (.int ep1), .val (.long so0), .second, .val (.long so1), .second, .val (.ref G.le), .val (.ref b2), .val (.int (1 : Int32)), .val (.int (1 : Int32)), .val (.int (1 : Int32))] [(.int (1 : Int32))])
    refine t_ifN X7 u at_167 ((if0 _ _).trans (feq (by decide : ¬ ((1 : Int32) = (0 : Int32)))).1) ?_
    refine t_iC X7 u at_170  ?_
    refine t_go 171 175 X7 u rfl at_171 (by decide) ?_
    exact Go.retN X7 hx (t := .boolean) hret (by simp) hlk (hb hby at_175) (by decide) (by decide) (by show _ ∧ _ ∧ _; exact ⟨rfl, N7_, trivial⟩)
  · show Go _ _ _ _ _ _ _ _ s₁ (mkF m 52 #[.val (.int x0), .val (.long x1), .second, .val (.int x2), .val (.int x3), .val (.int x4), .val (.long x5), .second, .val (.int (1 : Int32)), .val (.int ep0), .val (.int ep1), .val (.long so0), .second, .val (.long so1), .second, .unset, .unset, .unset, .unset, .unset] [])
    refine t_gS X0 u hZ hown (wd hw 1 rfl) e0 (Sta.ext O0 GG.G_le) at_52 ?_
    intro T8 X8 e8
    refine t_asL X8 u at_55 rfl (l' := #[.val (.int x0), .val (.long x1), .second, .val (.int x2), .val (.int x3), .val (.int x4), .val (.long x5), .second, .val (.int (1 : Int32)), .val (.int ep0), .val (.int ep1), .val (.long so0), .second, .val (.long so1), .second, .val (.ref G.le), .unset, .unset, .unset, .unset]) rfl ?_
    refine t_iL X8 u at_57 rfl ?_
    refine t_iC X8 u at_59  ?_
    refine t_icN X8 u at_60 (flt (by decide : ¬ ((1 : Int32) < (1 : Int32)))).1 ?_
    refine t_aL X8 u at_63 rfl rfl ?_
    refine t_iL X8 u at_65 rfl ?_
    refine t_lL X8 u at_67 rfl ?_
    by_cases hs69_9 : G.em = G.dc
    · refine t_cV [(.int ep0), (.long so0)] [] 0 X8 u hZ hown (wd hw 68 rfl) (m_69 hw) e8 (Exa.ext O0 GG.G_lee) (rm_a9_0 l Z a0 hw [] G GG ep0 so0 h0 O0 hs69_9 ne0 ns0) rfl at_69 rfl rfl (by decide) ?_
      intro v10 T10 L10 Lc10 X10 hQ10 l10
      obtain ⟨b11q10, b2q5q1q25q15q10, b5q10, rfl, Nq10, Kq10, p10_0, p10_1, p10_2, p10_3, p10_4, p10_5, p10_6, p10_7, p10_8, p10_9, p10_10, p10_11, p10_12, p10_13⟩ := hQ10
      have O10_ := extKeep O0 Kq10 all0
      have N10_ := frA l10 N0 Nq10
      have g_b11q10 := Nat.le_trans O0.1 p10_0
      have g_b2q5q1q25q15q10 := Nat.le_trans O0.1 p10_3
      have g_b5q10 := Nat.le_trans O0.1 p10_8
      refine t_asL X10 u at_72 rfl (l' := #[.val (.int x0), .val (.long x1), .second, .val (.int x2), .val (.int x3), .val (.int x4), .val (.long x5), .second, .val (.int (1 : Int32)), .val (.int ep0), .val (.int ep1), .val (.long so0), .second, .val (.long so1), .second, .val (.ref b11q10), .unset, .unset, .unset, .unset]) rfl ?_
      refine t_iL X10 u at_74 rfl ?_
      refine t_iC X10 u at_76  ?_
      refine t_icY 77 91 X10 u rfl at_77 (tlt (by decide : (1 : Int32) < (2 : Int32))).1 (by decide) ?_
      refine t_new X10 u hZ hown (wd hw 4 rfl) (wd hw 5 rfl) (wd hw 6 rfl) rfl at_91 (by decide) ?_
      intro T11 h11 b11 X11 e11 E11 hb11 A11 D11
      have g_b11 := leE O10_.1 hb11
      have O11_ := extTr O10_ E11
      have F11_named : fl_11 Z h11 b11 (.int (0 : Int32)) := D11 (Or.inl (wd hw 24 rfl)) (ty := .int) pf_I
      have F11_firstEpoch : fl_7 Z h11 b11 (.int (0 : Int32)) := D11 (Or.inr (wd hw 45 rfl)) (ty := .int) pf_I
      have F11_left : fl_8 Z h11 b11 .null := D11 (Or.inl (wd hw 47 rfl)) (ty := (.object "com/example/clean_epoch/cleanepoch/log/Lineage")) pf_Lcom_example_clean_epoch_cleanepoch_log_Lineage_
      have F11_reached : fl_9 Z h11 b11 (.long (0 : Int64)) := D11 (Or.inl (wd hw 49 rfl)) (ty := .long) pf_J
      have F11_exact : fl_13 Z h11 b11 (.int (0 : Int32)) := D11 (Or.inl (wd hw 51 rfl)) (ty := .boolean) pf_Z
      have F11_leaderLogStartDue : fl_12 Z h11 b11 (.int (0 : Int32)) := D11 (Or.inl (wd hw 67 rfl)) (ty := .boolean) pf_Z
      have F11_bounded : fl_14 Z h11 b11 (.int (0 : Int32)) := D11 (Or.inl (wd hw 389 rfl)) (ty := .boolean) pf_Z
      have F11_diverged : fl_10 Z h11 b11 (.int (0 : Int32)) := D11 (Or.inl (wd hw 504 rfl)) (ty := .boolean) pf_Z
      refine t_dup X11 u at_94 rfl ?_
      refine t_aL X11 u at_95 rfl rfl ?_
      refine t_lN X11 u at_97 rfl ?_
      refine t_cN [(.ref b11q10), (.long x1)] [(.ref b11)] 1 X11 u hZ hown rfl (wd hw 7 rfl) (m_64 hw) e11 (rm_a1_1 l Z a0 hw [] G GG b11 b11q10 x1 (0 : Int32) b2q5q1q25q15q10 b5q10 ep0 (0 : Int32) (0 : Int64) (0 : Int32) (0 : Int32) (0 : Int32) (0 : Int32) h11 O11_ A11 F11_named g_b11 (Exa.ext E11 p10_1) (Fld.ext E11 p10_2) (neE p10_1.lt hb11) (Exa.ext E11 p10_4) (Fld.ext E11 p10_5) (neE p10_4.lt hb11) (Exa.ext E11 p10_9) (Fld.ext E11 p10_10) (neE p10_9.lt hb11) F11_firstEpoch F11_left F11_reached F11_exact F11_leaderLogStartDue F11_bounded F11_diverged) rfl at_98 rfl rfl (by decide) ?_
      intro v12 T12 L12 Lc12 X12 hQ12 l12
      obtain ⟨z_x0_reachedq12, z_x0_divergedq12, rfl, Nq12, Kq12, p12_0, p12_1, p12_2, p12_3, p12_4, p12_5, p12_6, p12_7⟩ := hQ12
      have O12_ := extKeep O11_ Kq12 (allS g_b11 all0)
      have N12_ := frA l12 N10_ Nq12
      refine t_asL X12 u at_101 rfl (l' := #[.val (.int x0), .val (.long x1), .second, .val (.int x2), .val (.int x3), .val (.int x4), .val (.long x5), .second, .val (.int (1 : Int32)), .val (.int ep0), .val (.int ep1), .val (.long so0), .second, .val (.long so1), .second, .val (.ref b11q10), .val (.ref b11), .unset, .unset, .unset]) rfl ?_
      refine t_aL X12 u at_103 rfl rfl ?_
      refine pt_cV [] [] 0 X12 u hZ hown (wd hw 52 rfl) (m_50 hw) rfl (A11.keep Kq12) (rm_a6_2 l Z a0 hw [] G GG b11 (0 : Int32) (0 : Int32) T12.heap O12_ p12_4 (by decide) p12_6 (by decide)) rfl at_105 rfl rfl (by decide) N12_ ?_
      intro T13 L13 X13 e13 N13_
      refine t_iL X13 u at_108 rfl ?_
      refine t_ifY 110 117 X13 u rfl at_110 ((if0 _ _).trans (feq (by decide : ¬ ((1 : Int32) = (0 : Int32)))).2) (by decide) ?_
      refine t_iC X13 u at_117  ?_
      refine t_icY 118 123 X13 u rfl at_118 (teq (by decide : (0 : Int32) = (0 : Int32))).1 (by decide) ?_
      refine t_aL X13 u at_123 rfl rfl ?_
      refine t_iN X13 u at_125 rfl ?_
      refine t_lL X13 u at_126 rfl ?_
      have f14 := ((Fld.ext E11 p10_2).keep Kq12 (ninS (neE p10_1.lt hb11) nin0))
      have f15 := ((Fld.ext E11 p10_5).keep Kq12 (ninS (neE p10_4.lt hb11) nin0))
      have f16 := ((Fld.ext E11 p10_6).keep Kq12 (ninS (neE p10_4.lt hb11) nin0))
      have f17 := ((Fld.ext E11 p10_10).keep Kq12 (ninS (neE p10_9.lt hb11) nin0))
      have f18 := ((Fld.ext E11 p10_11).keep Kq12 (ninS (neE p10_9.lt hb11) nin0))
      refine t_cS [(.ref b11), (.int x2), (.long x5)] [] 0 X13 u hZ hown (wd hw 57 rfl) (m_65 hw) e13 (rm_step l Z a0 hw [] G GG b11 x2 x5 T12.heap O12_ (⟨ep0, b11q10, z_x0_reachedq12, z_x0_divergedq12, (-1 : Int32), (A11.keep Kq12), g_b11, p12_1, p12_2, p12_3, p12_7, p12_0, Or.inr (Or.inr (Or.inr ⟨p12_5, p12_4, p12_6, ne0, ⟨((Exa.ext E11 p10_1).keep Kq12), Or.inr (Or.inl ⟨b2q5q1q25q15q10, b5q10, ep0, so0, f14, ((Exa.ext E11 p10_4).keep Kq12), f15, f16, ((Exa.ext E11 p10_9).keep Kq12), f17, f18, ne0, ns0⟩)⟩⟩))⟩)) rfl at_128 rfl rfl (by decide) ?_
      intro v19 T19 L19 Lc19 X19 hQ19 l19
      obtain ⟨rfl, Nq19, Kq19, hW19⟩ := hQ19
      have O19_ := extKeep O12_ Kq19 (allS g_b11 all0)
      have N19_ := frA l19 N13_ Nq19
      refine t_isL X19 u at_131 (l' := #[.val (.int x0), .val (.long x1), .second, .val (.int x2), .val (.int x3), .val (.int x4), .val (.long x5), .second, .val (.int (1 : Int32)), .val (.int ep0), .val (.int ep1), .val (.long so0), .second, .val (.long so1), .second, .val (.ref b11q10), .val (.ref b11), .val (.int (1 : Int32)), .unset, .unset]) rfl ?_
      refine t_aL X19 u at_133 rfl rfl ?_
      refine t_iL X19 u at_135 rfl ?_
      refine t_lL X19 u at_137 rfl ?_
      refine t_cS [(.ref b11), (.int x3), (.long x5)] [] 0 X19 u hZ hown (wd hw 57 rfl) (m_65 hw) rfl (rm_step l Z a0 hw [] G GG b11 x3 x5 T19.heap O19_ hW19) rfl at_139 rfl rfl (by decide) ?_
      intro v20 T20 L20 Lc20 X20 hQ20 l20
      obtain ⟨rfl, Nq20, Kq20, hW20⟩ := hQ20
      have O20_ := extKeep O19_ Kq20 (allS g_b11 all0)
      have N20_ := frA l20 N19_ Nq20
      refine t_isL X20 u at_142 (l' := #[.val (.int x0), .val (.long x1), .second, .val (.int x2), .val (.int x3), .val (.int x4), .val (.long x5), .second, .val (.int (1 : Int32)), .val (.int ep0), .val (.int ep1), .val (.long so0), .second, .val (.long so1), .second, .val (.ref b11q10), .val (.ref b11), .val (.int (1 : Int32)), .val (.int (1 : Int32)), .unset]) rfl ?_
      refine t_aL X20 u at_144 rfl rfl ?_
      refine t_iL X20 u at_146 rfl ?_
      refine t_lL X20 u at_148 rfl ?_
      refine t_cS [(.ref b11), (.int x4), (.long x5)] [] 0 X20 u hZ hown (wd hw 57 rfl) (m_65 hw) rfl (rm_step l Z a0 hw [] G GG b11 x4 x5 T20.heap O20_ hW20) rfl at_150 rfl rfl (by decide) ?_
      intro v21 T21 L21 Lc21 X21 hQ21 l21
      obtain ⟨rfl, Nq21, Kq21, hW21⟩ := hQ21
      have O21_ := extKeep O20_ Kq21 (allS g_b11 all0)
      have N21_ := frA l21 N20_ Nq21
      refine t_isL X21 u at_153 (l' := #[.val (.int x0), .val (.long x1), .second, .val (.int x2), .val (.int x3), .val (.int x4), .val (.long x5), .second, .val (.int (1 : Int32)), .val (.int ep0), .val (.int ep1), .val (.long so0), .second, .val (.long so1), .second, .val (.ref b11q10), .val (.ref b11), .val (.int (1 : Int32)), .val (.int (1 : Int32)), .val (.int (1 : Int32))]) rfl ?_
      refine t_iL X21 u at_155 rfl ?_
      show Go _ _ _ _ _ _ _ _ T21 (mkF m 157 #[.val (.int x0), .val (.long x1), .second, .val (.int x2), .val (.int x3), .val (.int x4), .val (.long x5), .second, .val (.int (1 : Int32)), .val (.int ep0), .val (.int ep1), .val (.long so0), .second, .val (.long so1), .second, .val (.ref b11q10), .val (.ref b11), .val (.int (1 : Int32)), .val (.int (1 : Int32)), .val (.int (1 : Int32))] [(.int (1 : Int32))])
      refine t_ifN X21 u at_157 ((if0 _ _).trans (feq (by decide : ¬ ((1 : Int32) = (0 : Int32)))).1) ?_
      refine t_iL X21 u at_160 rfl ?_
      refine t_ifN X21 u at_162 ((if0 _ _).trans (feq (by decide : ¬ ((1 : Int32) = (0 : Int32)))).1) ?_
      refine t_iL X21 u at_165 rfl ?_
      refine t_ifN X21 u at_167 ((if0 _ _).trans (feq (by decide : ¬ ((1 : Int32) = (0 : Int32)))).1) ?_
      refine t_iC X21 u at_170  ?_
      refine t_go 171 175 X21 u rfl at_171 (by decide) ?_
      exact Go.retN X21 hx (t := .boolean) hret (by simp) hlk (hb hby at_175) (by decide) (by decide) (by show _ ∧ _ ∧ _; exact ⟨rfl, N21_, trivial⟩)
    · refine t_cV [(.int ep0), (.long so0)] [] 0 X8 u hZ hown (wd hw 68 rfl) (m_69 hw) e8 (Exa.ext O0 GG.G_lee) (rm_a9_1 l Z a0 hw [] G GG ep0 so0 h0 O0 hs69_9 ne0 ns0) rfl at_69 rfl rfl (by decide) ?_
      intro v22 T22 L22 Lc22 X22 hQ22 l22
      obtain ⟨b11q22, b2q5q1q25q15q22, b5q22, rfl, Nq22, Kq22, p22_0, p22_1, p22_2, p22_3, p22_4, p22_5, p22_6, p22_7, p22_8, p22_9, p22_10, p22_11, p22_12, p22_13⟩ := hQ22
      have O22_ := extKeep O0 Kq22 all0
      have N22_ := frA l22 N0 Nq22
      have g_b11q22 := Nat.le_trans O0.1 p22_0
      have g_b2q5q1q25q15q22 := Nat.le_trans O0.1 p22_3
      have g_b5q22 := Nat.le_trans O0.1 p22_8
      refine t_asL X22 u at_72 rfl (l' := #[.val (.int x0), .val (.long x1), .second, .val (.int x2), .val (.int x3), .val (.int x4), .val (.long x5), .second, .val (.int (1 : Int32)), .val (.int ep0), .val (.int ep1), .val (.long so0), .second, .val (.long so1), .second, .val (.ref b11q22), .unset, .unset, .unset, .unset]) rfl ?_
      refine t_iL X22 u at_74 rfl ?_
      refine t_iC X22 u at_76  ?_
      refine t_icY 77 91 X22 u rfl at_77 (tlt (by decide : (1 : Int32) < (2 : Int32))).1 (by decide) ?_
      refine t_new X22 u hZ hown (wd hw 4 rfl) (wd hw 5 rfl) (wd hw 6 rfl) rfl at_91 (by decide) ?_
      intro T23 h23 b23 X23 e23 E23 hb23 A23 D23
      have g_b23 := leE O22_.1 hb23
      have O23_ := extTr O22_ E23
      have F23_named : fl_11 Z h23 b23 (.int (0 : Int32)) := D23 (Or.inl (wd hw 24 rfl)) (ty := .int) pf_I
      have F23_firstEpoch : fl_7 Z h23 b23 (.int (0 : Int32)) := D23 (Or.inr (wd hw 45 rfl)) (ty := .int) pf_I
      have F23_left : fl_8 Z h23 b23 .null := D23 (Or.inl (wd hw 47 rfl)) (ty := (.object "com/example/clean_epoch/cleanepoch/log/Lineage")) pf_Lcom_example_clean_epoch_cleanepoch_log_Lineage_
      have F23_reached : fl_9 Z h23 b23 (.long (0 : Int64)) := D23 (Or.inl (wd hw 49 rfl)) (ty := .long) pf_J
      have F23_exact : fl_13 Z h23 b23 (.int (0 : Int32)) := D23 (Or.inl (wd hw 51 rfl)) (ty := .boolean) pf_Z
      have F23_leaderLogStartDue : fl_12 Z h23 b23 (.int (0 : Int32)) := D23 (Or.inl (wd hw 67 rfl)) (ty := .boolean) pf_Z
      have F23_bounded : fl_14 Z h23 b23 (.int (0 : Int32)) := D23 (Or.inl (wd hw 389 rfl)) (ty := .boolean) pf_Z
      have F23_diverged : fl_10 Z h23 b23 (.int (0 : Int32)) := D23 (Or.inl (wd hw 504 rfl)) (ty := .boolean) pf_Z
      refine t_dup X23 u at_94 rfl ?_
      refine t_aL X23 u at_95 rfl rfl ?_
      refine t_lN X23 u at_97 rfl ?_
      refine t_cN [(.ref b11q22), (.long x1)] [(.ref b23)] 1 X23 u hZ hown rfl (wd hw 7 rfl) (m_64 hw) e23 (rm_a1_1 l Z a0 hw [] G GG b23 b11q22 x1 (0 : Int32) b2q5q1q25q15q22 b5q22 ep0 (0 : Int32) (0 : Int64) (0 : Int32) (0 : Int32) (0 : Int32) (0 : Int32) h23 O23_ A23 F23_named g_b23 (Exa.ext E23 p22_1) (Fld.ext E23 p22_2) (neE p22_1.lt hb23) (Exa.ext E23 p22_4) (Fld.ext E23 p22_5) (neE p22_4.lt hb23) (Exa.ext E23 p22_9) (Fld.ext E23 p22_10) (neE p22_9.lt hb23) F23_firstEpoch F23_left F23_reached F23_exact F23_leaderLogStartDue F23_bounded F23_diverged) rfl at_98 rfl rfl (by decide) ?_
      intro v24 T24 L24 Lc24 X24 hQ24 l24
      obtain ⟨z_x0_reachedq24, z_x0_divergedq24, rfl, Nq24, Kq24, p24_0, p24_1, p24_2, p24_3, p24_4, p24_5, p24_6, p24_7⟩ := hQ24
      have O24_ := extKeep O23_ Kq24 (allS g_b23 all0)
      have N24_ := frA l24 N22_ Nq24
      refine t_asL X24 u at_101 rfl (l' := #[.val (.int x0), .val (.long x1), .second, .val (.int x2), .val (.int x3), .val (.int x4), .val (.long x5), .second, .val (.int (1 : Int32)), .val (.int ep0), .val (.int ep1), .val (.long so0), .second, .val (.long so1), .second, .val (.ref b11q22), .val (.ref b23), .unset, .unset, .unset]) rfl ?_
      refine t_aL X24 u at_103 rfl rfl ?_
      refine pt_cV [] [] 0 X24 u hZ hown (wd hw 52 rfl) (m_50 hw) rfl (A23.keep Kq24) (rm_a6_2 l Z a0 hw [] G GG b23 (0 : Int32) (0 : Int32) T24.heap O24_ p24_4 (by decide) p24_6 (by decide)) rfl at_105 rfl rfl (by decide) N24_ ?_
      intro T25 L25 X25 e25 N25_
      refine t_iL X25 u at_108 rfl ?_
      refine t_ifY 110 117 X25 u rfl at_110 ((if0 _ _).trans (feq (by decide : ¬ ((1 : Int32) = (0 : Int32)))).2) (by decide) ?_
      refine t_iC X25 u at_117  ?_
      refine t_icY 118 123 X25 u rfl at_118 (teq (by decide : (0 : Int32) = (0 : Int32))).1 (by decide) ?_
      refine t_aL X25 u at_123 rfl rfl ?_
      refine t_iN X25 u at_125 rfl ?_
      refine t_lL X25 u at_126 rfl ?_
      have f26 := ((Fld.ext E23 p22_2).keep Kq24 (ninS (neE p22_1.lt hb23) nin0))
      have f27 := ((Fld.ext E23 p22_5).keep Kq24 (ninS (neE p22_4.lt hb23) nin0))
      have f28 := ((Fld.ext E23 p22_6).keep Kq24 (ninS (neE p22_4.lt hb23) nin0))
      have f29 := ((Fld.ext E23 p22_10).keep Kq24 (ninS (neE p22_9.lt hb23) nin0))
      have f30 := ((Fld.ext E23 p22_11).keep Kq24 (ninS (neE p22_9.lt hb23) nin0))
      refine t_cS [(.ref b23), (.int x2), (.long x5)] [] 0 X25 u hZ hown (wd hw 57 rfl) (m_65 hw) e25 (rm_step l Z a0 hw [] G GG b23 x2 x5 T24.heap O24_ (⟨ep0, b11q22, z_x0_reachedq24, z_x0_divergedq24, (-1 : Int32), (A23.keep Kq24), g_b23, p24_1, p24_2, p24_3, p24_7, p24_0, Or.inr (Or.inr (Or.inr ⟨p24_5, p24_4, p24_6, ne0, ⟨((Exa.ext E23 p22_1).keep Kq24), Or.inr (Or.inl ⟨b2q5q1q25q15q22, b5q22, ep0, so0, f26, ((Exa.ext E23 p22_4).keep Kq24), f27, f28, ((Exa.ext E23 p22_9).keep Kq24), f29, f30, ne0, ns0⟩)⟩⟩))⟩)) rfl at_128 rfl rfl (by decide) ?_
      intro v31 T31 L31 Lc31 X31 hQ31 l31
      obtain ⟨rfl, Nq31, Kq31, hW31⟩ := hQ31
      have O31_ := extKeep O24_ Kq31 (allS g_b23 all0)
      have N31_ := frA l31 N25_ Nq31
      refine t_isL X31 u at_131 (l' := #[.val (.int x0), .val (.long x1), .second, .val (.int x2), .val (.int x3), .val (.int x4), .val (.long x5), .second, .val (.int (1 : Int32)), .val (.int ep0), .val (.int ep1), .val (.long so0), .second, .val (.long so1), .second, .val (.ref b11q22), .val (.ref b23), .val (.int (1 : Int32)), .unset, .unset]) rfl ?_
      refine t_aL X31 u at_133 rfl rfl ?_
      refine t_iL X31 u at_135 rfl ?_
      refine t_lL X31 u at_137 rfl ?_
      refine t_cS [(.ref b23), (.int x3), (.long x5)] [] 0 X31 u hZ hown (wd hw 57 rfl) (m_65 hw) rfl (rm_step l Z a0 hw [] G GG b23 x3 x5 T31.heap O31_ hW31) rfl at_139 rfl rfl (by decide) ?_
      intro v32 T32 L32 Lc32 X32 hQ32 l32
      obtain ⟨rfl, Nq32, Kq32, hW32⟩ := hQ32
      have O32_ := extKeep O31_ Kq32 (allS g_b23 all0)
      have N32_ := frA l32 N31_ Nq32
      refine t_isL X32 u at_142 (l' := #[.val (.int x0), .val (.long x1), .second, .val (.int x2), .val (.int x3), .val (.int x4), .val (.long x5), .second, .val (.int (1 : Int32)), .val (.int ep0), .val (.int ep1), .val (.long so0), .second, .val (.long so1), .second, .val (.ref b11q22), .val (.ref b23), .val (.int (1 : Int32)), .val (.int (1 : Int32)), .unset]) rfl ?_
      refine t_aL X32 u at_144 rfl rfl ?_
      refine t_iL X32 u at_146 rfl ?_
      refine t_lL X32 u at_148 rfl ?_
      refine t_cS [(.ref b23), (.int x4), (.long x5)] [] 0 X32 u hZ hown (wd hw 57 rfl) (m_65 hw) rfl (rm_step l Z a0 hw [] G GG b23 x4 x5 T32.heap O32_ hW32) rfl at_150 rfl rfl (by decide) ?_
      intro v33 T33 L33 Lc33 X33 hQ33 l33
      obtain ⟨rfl, Nq33, Kq33, hW33⟩ := hQ33
      have O33_ := extKeep O32_ Kq33 (allS g_b23 all0)
      have N33_ := frA l33 N32_ Nq33
      refine t_isL X33 u at_153 (l' := #[.val (.int x0), .val (.long x1), .second, .val (.int x2), .val (.int x3), .val (.int x4), .val (.long x5), .second, .val (.int (1 : Int32)), .val (.int ep0), .val (.int ep1), .val (.long so0), .second, .val (.long so1), .second, .val (.ref b11q22), .val (.ref b23), .val (.int (1 : Int32)), .val (.int (1 : Int32)), .val (.int (1 : Int32))]) rfl ?_
      refine t_iL X33 u at_155 rfl ?_
      show Go _ _ _ _ _ _ _ _ T33 (mkF m 157 #[.val (.int x0), .val (.long x1), .second, .val (.int x2), .val (.int x3), .val (.int x4), .val (.long x5), .second, .val (.int (1 : Int32)), .val (.int ep0), .val (.int ep1), .val (.long so0), .second, .val (.long so1), .second, .val (.ref b11q22), .val (.ref b23), .val (.int (1 : Int32)), .val (.int (1 : Int32)), .val (.int (1 : Int32))] [(.int (1 : Int32))])
      refine t_ifN X33 u at_157 ((if0 _ _).trans (feq (by decide : ¬ ((1 : Int32) = (0 : Int32)))).1) ?_
      refine t_iL X33 u at_160 rfl ?_
      refine t_ifN X33 u at_162 ((if0 _ _).trans (feq (by decide : ¬ ((1 : Int32) = (0 : Int32)))).1) ?_
      refine t_iL X33 u at_165 rfl ?_
      refine t_ifN X33 u at_167 ((if0 _ _).trans (feq (by decide : ¬ ((1 : Int32) = (0 : Int32)))).1) ?_
      refine t_iC X33 u at_170  ?_
      refine t_go 171 175 X33 u rfl at_171 (by decide) ?_
      exact Go.retN X33 hx (t := .boolean) hret (by simp) hlk (hb hby at_175) (by decide) (by decide) (by show _ ∧ _ ∧ _; exact ⟨rfl, N33_, trivial⟩)
  · show Go _ _ _ _ _ _ _ _ s₁ (mkF m 52 #[.val (.int x0), .val (.long x1), .second, .val (.int x2), .val (.int x3), .val (.int x4), .val (.long x5), .second, .val (.int (2 : Int32)), .val (.int ep0), .val (.int ep1), .val (.long so0), .second, .val (.long so1), .second, .unset, .unset, .unset, .unset, .unset] [])
    refine t_gS X0 u hZ hown (wd hw 1 rfl) e0 (Sta.ext O0 GG.G_le) at_52 ?_
    intro T34 X34 e34
    refine t_asL X34 u at_55 rfl (l' := #[.val (.int x0), .val (.long x1), .second, .val (.int x2), .val (.int x3), .val (.int x4), .val (.long x5), .second, .val (.int (2 : Int32)), .val (.int ep0), .val (.int ep1), .val (.long so0), .second, .val (.long so1), .second, .val (.ref G.le), .unset, .unset, .unset, .unset]) rfl ?_
    refine t_iL X34 u at_57 rfl ?_
    refine t_iC X34 u at_59  ?_
    refine t_icN X34 u at_60 (flt (by decide : ¬ ((2 : Int32) < (1 : Int32)))).1 ?_
    refine t_aL X34 u at_63 rfl rfl ?_
    refine t_iL X34 u at_65 rfl ?_
    refine t_lL X34 u at_67 rfl ?_
    by_cases hs69_35 : G.em = G.dc
    · refine t_cV [(.int ep0), (.long so0)] [] 0 X34 u hZ hown (wd hw 68 rfl) (m_69 hw) e34 (Exa.ext O0 GG.G_lee) (rm_a9_0 l Z a0 hw [] G GG ep0 so0 h0 O0 hs69_35 ne0 ns0) rfl at_69 rfl rfl (by decide) ?_
      intro v36 T36 L36 Lc36 X36 hQ36 l36
      obtain ⟨b11q36, b2q5q1q25q15q36, b5q36, rfl, Nq36, Kq36, p36_0, p36_1, p36_2, p36_3, p36_4, p36_5, p36_6, p36_7, p36_8, p36_9, p36_10, p36_11, p36_12, p36_13⟩ := hQ36
      have O36_ := extKeep O0 Kq36 all0
      have N36_ := frA l36 N0 Nq36
      have g_b11q36 := Nat.le_trans O0.1 p36_0
      have g_b2q5q1q25q15q36 := Nat.le_trans O0.1 p36_3
      have g_b5q36 := Nat.le_trans O0.1 p36_8
      refine t_asL X36 u at_72 rfl (l' := #[.val (.int x0), .val (.long x1), .second, .val (.int x2), .val (.int x3), .val (.int x4), .val (.long x5), .second, .val (.int (2 : Int32)), .val (.int ep0), .val (.int ep1), .val (.long so0), .second, .val (.long so1), .second, .val (.ref b11q36), .unset, .unset, .unset, .unset]) rfl ?_
      refine t_iL X36 u at_74 rfl ?_
      refine t_iC X36 u at_76  ?_
      refine t_icN X36 u at_77 (flt (by decide : ¬ ((2 : Int32) < (2 : Int32)))).1 ?_
      refine t_aL X36 u at_80 rfl rfl ?_
      refine t_iL X36 u at_82 rfl ?_
      refine t_lL X36 u at_84 rfl ?_
      refine t_cV [(.int ep1), (.long so1)] [] 0 X36 u hZ hown (wd hw 68 rfl) (m_69 hw) rfl p36_1 (rm_a9_2 l Z a0 hw [] G GG b11q36 ep1 so1 b2q5q1q25q15q36 b5q36 so0 ep0 T36.heap O36_ p36_2 p36_4 p36_6 p36_5 p36_9 p36_11 hs01 p36_10 ne0 ns0 ne1 ns1 he01 hs10) rfl at_86 rfl rfl (by decide) ?_
      intro v37 T37 L37 Lc37 X37 hQ37 l37
      obtain ⟨b18q37, b2q5q1q50q26q37, b10q37, rfl, Nq37, Kq37, p37_0, p37_1, p37_2, p37_3, p37_4, p37_5, p37_6, p37_7, p37_8, p37_9, p37_10, p37_11, p37_12, p37_13⟩ := hQ37
      have O37_ := extKeep O36_ Kq37 all0
      have N37_ := frA l37 N36_ Nq37
      have g_b18q37 := Nat.le_trans O36_.1 p37_0
      have g_b2q5q1q50q26q37 := Nat.le_trans O36_.1 p37_3
      have g_b10q37 := Nat.le_trans O36_.1 p37_8
      refine t_asL X37 u at_89 rfl (l' := #[.val (.int x0), .val (.long x1), .second, .val (.int x2), .val (.int x3), .val (.int x4), .val (.long x5), .second, .val (.int (2 : Int32)), .val (.int ep0), .val (.int ep1), .val (.long so0), .second, .val (.long so1), .second, .val (.ref b18q37), .unset, .unset, .unset, .unset]) rfl ?_
      refine t_new X37 u hZ hown (wd hw 4 rfl) (wd hw 5 rfl) (wd hw 6 rfl) rfl at_91 (by decide) ?_
      intro T38 h38 b38 X38 e38 E38 hb38 A38 D38
      have g_b38 := leE O37_.1 hb38
      have O38_ := extTr O37_ E38
      have F38_named : fl_11 Z h38 b38 (.int (0 : Int32)) := D38 (Or.inl (wd hw 24 rfl)) (ty := .int) pf_I
      have F38_firstEpoch : fl_7 Z h38 b38 (.int (0 : Int32)) := D38 (Or.inr (wd hw 45 rfl)) (ty := .int) pf_I
      have F38_left : fl_8 Z h38 b38 .null := D38 (Or.inl (wd hw 47 rfl)) (ty := (.object "com/example/clean_epoch/cleanepoch/log/Lineage")) pf_Lcom_example_clean_epoch_cleanepoch_log_Lineage_
      have F38_reached : fl_9 Z h38 b38 (.long (0 : Int64)) := D38 (Or.inl (wd hw 49 rfl)) (ty := .long) pf_J
      have F38_exact : fl_13 Z h38 b38 (.int (0 : Int32)) := D38 (Or.inl (wd hw 51 rfl)) (ty := .boolean) pf_Z
      have F38_leaderLogStartDue : fl_12 Z h38 b38 (.int (0 : Int32)) := D38 (Or.inl (wd hw 67 rfl)) (ty := .boolean) pf_Z
      have F38_bounded : fl_14 Z h38 b38 (.int (0 : Int32)) := D38 (Or.inl (wd hw 389 rfl)) (ty := .boolean) pf_Z
      have F38_diverged : fl_10 Z h38 b38 (.int (0 : Int32)) := D38 (Or.inl (wd hw 504 rfl)) (ty := .boolean) pf_Z
      refine t_dup X38 u at_94 rfl ?_
      refine t_aL X38 u at_95 rfl rfl ?_
      refine t_lN X38 u at_97 rfl ?_
      refine t_cN [(.ref b18q37), (.long x1)] [(.ref b38)] 1 X38 u hZ hown rfl (wd hw 7 rfl) (m_64 hw) e38 (rm_a1_1 l Z a0 hw [] G GG b38 b18q37 x1 (0 : Int32) b2q5q1q50q26q37 b5q36 ep0 (0 : Int32) (0 : Int64) (0 : Int32) (0 : Int32) (0 : Int32) (0 : Int32) h38 O38_ A38 F38_named g_b38 (Exa.ext E38 p37_1) (Fld.ext E38 p37_2) (neE p37_1.lt hb38) (Exa.ext E38 p37_4) (Fld.ext E38 p37_5) (neE p37_4.lt hb38) (Exa.ext E38 (p36_9.keep Kq37)) (Fld.ext E38 (p36_10.keep Kq37 nin0)) (neE (p36_9.keep Kq37).lt hb38) F38_firstEpoch F38_left F38_reached F38_exact F38_leaderLogStartDue F38_bounded F38_diverged) rfl at_98 rfl rfl (by decide) ?_
      intro v39 T39 L39 Lc39 X39 hQ39 l39
      obtain ⟨z_x0_reachedq39, z_x0_divergedq39, rfl, Nq39, Kq39, p39_0, p39_1, p39_2, p39_3, p39_4, p39_5, p39_6, p39_7⟩ := hQ39
      have O39_ := extKeep O38_ Kq39 (allS g_b38 all0)
      have N39_ := frA l39 N37_ Nq39
      refine t_asL X39 u at_101 rfl (l' := #[.val (.int x0), .val (.long x1), .second, .val (.int x2), .val (.int x3), .val (.int x4), .val (.long x5), .second, .val (.int (2 : Int32)), .val (.int ep0), .val (.int ep1), .val (.long so0), .second, .val (.long so1), .second, .val (.ref b18q37), .val (.ref b38), .unset, .unset, .unset]) rfl ?_
      refine t_aL X39 u at_103 rfl rfl ?_
      refine pt_cV [] [] 0 X39 u hZ hown (wd hw 52 rfl) (m_50 hw) rfl (A38.keep Kq39) (rm_a6_2 l Z a0 hw [] G GG b38 (0 : Int32) (0 : Int32) T39.heap O39_ p39_4 (by decide) p39_6 (by decide)) rfl at_105 rfl rfl (by decide) N39_ ?_
      intro T40 L40 X40 e40 N40_
      refine t_iL X40 u at_108 rfl ?_
      refine t_ifY 110 117 X40 u rfl at_110 ((if0 _ _).trans (feq (by decide : ¬ ((2 : Int32) = (0 : Int32)))).2) (by decide) ?_
      refine t_iC X40 u at_117  ?_
      refine t_icY 118 123 X40 u rfl at_118 (teq (by decide : (0 : Int32) = (0 : Int32))).1 (by decide) ?_
      refine t_aL X40 u at_123 rfl rfl ?_
      refine t_iN X40 u at_125 rfl ?_
      refine t_lL X40 u at_126 rfl ?_
      have f41 := ((Fld.ext E38 p37_2).keep Kq39 (ninS (neE p37_1.lt hb38) nin0))
      have f42 := ((Fld.ext E38 p37_5).keep Kq39 (ninS (neE p37_4.lt hb38) nin0))
      have f43 := ((Fld.ext E38 p37_6).keep Kq39 (ninS (neE p37_4.lt hb38) nin0))
      have f44 := ((Exa.ext E38 (p36_9.keep Kq37)).keep Kq39)
      have f45 := ((Fld.ext E38 (p36_10.keep Kq37 nin0)).keep Kq39 (ninS (neE (p36_9.keep Kq37).lt hb38) nin0))
      have f46 := ((Fld.ext E38 (p36_11.keep Kq37 nin0)).keep Kq39 (ninS (neE (p36_9.keep Kq37).lt hb38) nin0))
      have f47 := ((Fld.ext E38 p37_10).keep Kq39 (ninS (neE p37_9.lt hb38) nin0))
      have f48 := ((Fld.ext E38 p37_11).keep Kq39 (ninS (neE p37_9.lt hb38) nin0))
      refine t_cS [(.ref b38), (.int x2), (.long x5)] [] 0 X40 u hZ hown (wd hw 57 rfl) (m_65 hw) e40 (rm_step l Z a0 hw [] G GG b38 x2 x5 T39.heap O39_ (⟨ep0, b18q37, z_x0_reachedq39, z_x0_divergedq39, (-1 : Int32), (A38.keep Kq39), g_b38, p39_1, p39_2, p39_3, p39_7, p39_0, Or.inr (Or.inr (Or.inr ⟨p39_5, p39_4, p39_6, ne0, ⟨((Exa.ext E38 p37_1).keep Kq39), Or.inr (Or.inr ⟨b2q5q1q50q26q37, b5q36, ep0, so0, b10q37, ep1, so1, f41, ((Exa.ext E38 p37_4).keep Kq39), f42, f43, f44, f45, f46, ((Exa.ext E38 p37_9).keep Kq39), f47, f48, ne0, ns0, ne1, ns1, he01, hs10⟩)⟩⟩))⟩)) rfl at_128 rfl rfl (by decide) ?_
      intro v49 T49 L49 Lc49 X49 hQ49 l49
      obtain ⟨rfl, Nq49, Kq49, hW49⟩ := hQ49
      have O49_ := extKeep O39_ Kq49 (allS g_b38 all0)
      have N49_ := frA l49 N40_ Nq49
      refine t_isL X49 u at_131 (l' := #[.val (.int x0), .val (.long x1), .second, .val (.int x2), .val (.int x3), .val (.int x4), .val (.long x5), .second, .val (.int (2 : Int32)), .val (.int ep0), .val (.int ep1), .val (.long so0), .second, .val (.long so1), .second, .val (.ref b18q37), .val (.ref b38), .val (.int (1 : Int32)), .unset, .unset]) rfl ?_
      refine t_aL X49 u at_133 rfl rfl ?_
      refine t_iL X49 u at_135 rfl ?_
      refine t_lL X49 u at_137 rfl ?_
      refine t_cS [(.ref b38), (.int x3), (.long x5)] [] 0 X49 u hZ hown (wd hw 57 rfl) (m_65 hw) rfl (rm_step l Z a0 hw [] G GG b38 x3 x5 T49.heap O49_ hW49) rfl at_139 rfl rfl (by decide) ?_
      intro v50 T50 L50 Lc50 X50 hQ50 l50
      obtain ⟨rfl, Nq50, Kq50, hW50⟩ := hQ50
      have O50_ := extKeep O49_ Kq50 (allS g_b38 all0)
      have N50_ := frA l50 N49_ Nq50
      refine t_isL X50 u at_142 (l' := #[.val (.int x0), .val (.long x1), .second, .val (.int x2), .val (.int x3), .val (.int x4), .val (.long x5), .second, .val (.int (2 : Int32)), .val (.int ep0), .val (.int ep1), .val (.long so0), .second, .val (.long so1), .second, .val (.ref b18q37), .val (.ref b38), .val (.int (1 : Int32)), .val (.int (1 : Int32)), .unset]) rfl ?_
      refine t_aL X50 u at_144 rfl rfl ?_
      show Go _ _ _ _ _ _ _ _ T50 (mkF m 146 #[.val (.int x0), .val (.long x1), .second, .val (.int x2), .val (.int x3), .val (.int x4), .val (.long x5), .second, .val (.int (2 : Int32)), .val (.int ep0), .val (.int ep1), .val (.long so0), .second, .val (.long so1), .second, .val (.ref b18q37), .val (.ref b38), .val (.int (1 : Int32)), .val (.int (1 : Int32)), .unset] [(.ref b38)])
      refine t_iL X50 u at_146 rfl ?_
      refine t_lL X50 u at_148 rfl ?_
      refine t_cS [(.ref b38), (.int x4), (.long x5)] [] 0 X50 u hZ hown (wd hw 57 rfl) (m_65 hw) rfl (rm_step l Z a0 hw [] G GG b38 x4 x5 T50.heap O50_ hW50) rfl at_150 rfl rfl (by decide) ?_
      intro v51 T51 L51 Lc51 X51 hQ51 l51
      obtain ⟨rfl, Nq51, Kq51, hW51⟩ := hQ51
      have O51_ := extKeep O50_ Kq51 (allS g_b38 all0)
      have N51_ := frA l51 N50_ Nq51
      refine t_isL X51 u at_153 (l' := #[.val (.int x0), .val (.long x1), .second, .val (.int x2), .val (.int x3), .val (.int x4), .val (.long x5), .second, .val (.int (2 : Int32)), .val (.int ep0), .val (.int ep1), .val (.long so0), .second, .val (.long so1), .second, .val (.ref b18q37), .val (.ref b38), .val (.int (1 : Int32)), .val (.int (1 : Int32)), .val (.int (1 : Int32))]) rfl ?_
      refine t_iL X51 u at_155 rfl ?_
      refine t_ifN X51 u at_157 ((if0 _ _).trans (feq (by decide : ¬ ((1 : Int32) = (0 : Int32)))).1) ?_
      refine t_iL X51 u at_160 rfl ?_
      refine t_ifN X51 u at_162 ((if0 _ _).trans (feq (by decide : ¬ ((1 : Int32) = (0 : Int32)))).1) ?_
      refine t_iL X51 u at_165 rfl ?_
      refine t_ifN X51 u at_167 ((if0 _ _).trans (feq (by decide : ¬ ((1 : Int32) = (0 : Int32)))).1) ?_
      refine t_iC X51 u at_170  ?_
      refine t_go 171 175 X51 u rfl at_171 (by decide) ?_
      exact Go.retN X51 hx (t := .boolean) hret (by simp) hlk (hb hby at_175) (by decide) (by decide) (by show _ ∧ _ ∧ _; exact ⟨rfl, N51_, trivial⟩)
    · refine t_cV [(.int ep0), (.long so0)] [] 0 X34 u hZ hown (wd hw 68 rfl) (m_69 hw) e34 (Exa.ext O0 GG.G_lee) (rm_a9_1 l Z a0 hw [] G GG ep0 so0 h0 O0 hs69_35 ne0 ns0) rfl at_69 rfl rfl (by decide) ?_
      intro v52 T52 L52 Lc52 X52 hQ52 l52
      obtain ⟨b11q52, b2q5q1q25q15q52, b5q52, rfl, Nq52, Kq52, p52_0, p52_1, p52_2, p52_3, p52_4, p52_5, p52_6, p52_7, p52_8, p52_9, p52_10, p52_11, p52_12, p52_13⟩ := hQ52
      have O52_ := extKeep O0 Kq52 all0
      have N52_ := frA l52 N0 Nq52
      have g_b11q52 := Nat.le_trans O0.1 p52_0
      have g_b2q5q1q25q15q52 := Nat.le_trans O0.1 p52_3
      have g_b5q52 := Nat.le_trans O0.1 p52_8
      refine t_asL X52 u at_72 rfl (l' := #[.val (.int x0), .val (.long x1), .second, .val (.int x2), .val (.int x3), .val (.int x4), .val (.long x5), .second, .val (.int (2 : Int32)), .val (.int ep0), .val (.int ep1), .val (.long so0), .second, .val (.long so1), .second, .val (.ref b11q52), .unset, .unset, .unset, .unset]) rfl ?_
      refine t_iL X52 u at_74 rfl ?_
      refine t_iC X52 u at_76  ?_
      refine t_icN X52 u at_77 (flt (by decide : ¬ ((2 : Int32) < (2 : Int32)))).1 ?_
      refine t_aL X52 u at_80 rfl rfl ?_
      refine t_iL X52 u at_82 rfl ?_
      refine t_lL X52 u at_84 rfl ?_
      refine t_cV [(.int ep1), (.long so1)] [] 0 X52 u hZ hown (wd hw 68 rfl) (m_69 hw) rfl p52_1 (rm_a9_2 l Z a0 hw [] G GG b11q52 ep1 so1 b2q5q1q25q15q52 b5q52 so0 ep0 T52.heap O52_ p52_2 p52_4 p52_6 p52_5 p52_9 p52_11 hs01 p52_10 ne0 ns0 ne1 ns1 he01 hs10) rfl at_86 rfl rfl (by decide) ?_
      intro v53 T53 L53 Lc53 X53 hQ53 l53
      obtain ⟨b18q53, b2q5q1q50q26q53, b10q53, rfl, Nq53, Kq53, p53_0, p53_1, p53_2, p53_3, p53_4, p53_5, p53_6, p53_7, p53_8, p53_9, p53_10, p53_11, p53_12, p53_13⟩ := hQ53
      have O53_ := extKeep O52_ Kq53 all0
      have N53_ := frA l53 N52_ Nq53
      have g_b18q53 := Nat.le_trans O52_.1 p53_0
      have g_b2q5q1q50q26q53 := Nat.le_trans O52_.1 p53_3
      have g_b10q53 := Nat.le_trans O52_.1 p53_8
      refine t_asL X53 u at_89 rfl (l' := #[.val (.int x0), .val (.long x1), .second, .val (.int x2), .val (.int x3), .val (.int x4), .val (.long x5), .second, .val (.int (2 : Int32)), .val (.int ep0), .val (.int ep1), .val (.long so0), .second, .val (.long so1), .second, .val (.ref b18q53), .unset, .unset, .unset, .unset]) rfl ?_
      refine t_new X53 u hZ hown (wd hw 4 rfl) (wd hw 5 rfl) (wd hw 6 rfl) rfl at_91 (by decide) ?_
      intro T54 h54 b54 X54 e54 E54 hb54 A54 D54
      have g_b54 := leE O53_.1 hb54
      have O54_ := extTr O53_ E54
      have F54_named : fl_11 Z h54 b54 (.int (0 : Int32)) := D54 (Or.inl (wd hw 24 rfl)) (ty := .int) pf_I
      have F54_firstEpoch : fl_7 Z h54 b54 (.int (0 : Int32)) := D54 (Or.inr (wd hw 45 rfl)) (ty := .int) pf_I
      have F54_left : fl_8 Z h54 b54 .null := D54 (Or.inl (wd hw 47 rfl)) (ty := (.object "com/example/clean_epoch/cleanepoch/log/Lineage")) pf_Lcom_example_clean_epoch_cleanepoch_log_Lineage_
      have F54_reached : fl_9 Z h54 b54 (.long (0 : Int64)) := D54 (Or.inl (wd hw 49 rfl)) (ty := .long) pf_J
      have F54_exact : fl_13 Z h54 b54 (.int (0 : Int32)) := D54 (Or.inl (wd hw 51 rfl)) (ty := .boolean) pf_Z
      have F54_leaderLogStartDue : fl_12 Z h54 b54 (.int (0 : Int32)) := D54 (Or.inl (wd hw 67 rfl)) (ty := .boolean) pf_Z
      have F54_bounded : fl_14 Z h54 b54 (.int (0 : Int32)) := D54 (Or.inl (wd hw 389 rfl)) (ty := .boolean) pf_Z
      have F54_diverged : fl_10 Z h54 b54 (.int (0 : Int32)) := D54 (Or.inl (wd hw 504 rfl)) (ty := .boolean) pf_Z
      refine t_dup X54 u at_94 rfl ?_
      refine t_aL X54 u at_95 rfl rfl ?_
      refine t_lN X54 u at_97 rfl ?_
      refine t_cN [(.ref b18q53), (.long x1)] [(.ref b54)] 1 X54 u hZ hown rfl (wd hw 7 rfl) (m_64 hw) e54 (rm_a1_1 l Z a0 hw [] G GG b54 b18q53 x1 (0 : Int32) b2q5q1q50q26q53 b5q52 ep0 (0 : Int32) (0 : Int64) (0 : Int32) (0 : Int32) (0 : Int32) (0 : Int32) h54 O54_ A54 F54_named g_b54 (Exa.ext E54 p53_1) (Fld.ext E54 p53_2) (neE p53_1.lt hb54) (Exa.ext E54 p53_4) (Fld.ext E54 p53_5) (neE p53_4.lt hb54) (Exa.ext E54 (p52_9.keep Kq53)) (Fld.ext E54 (p52_10.keep Kq53 nin0)) (neE (p52_9.keep Kq53).lt hb54) F54_firstEpoch F54_left F54_reached F54_exact F54_leaderLogStartDue F54_bounded F54_diverged) rfl at_98 rfl rfl (by decide) ?_
      intro v55 T55 L55 Lc55 X55 hQ55 l55
      obtain ⟨z_x0_reachedq55, z_x0_divergedq55, rfl, Nq55, Kq55, p55_0, p55_1, p55_2, p55_3, p55_4, p55_5, p55_6, p55_7⟩ := hQ55
      have O55_ := extKeep O54_ Kq55 (allS g_b54 all0)
      have N55_ := frA l55 N53_ Nq55
      refine t_asL X55 u at_101 rfl (l' := #[.val (.int x0), .val (.long x1), .second, .val (.int x2), .val (.int x3), .val (.int x4), .val (.long x5), .second, .val (.int (2 : Int32)), .val (.int ep0), .val (.int ep1), .val (.long so0), .second, .val (.long so1), .second, .val (.ref b18q53), .val (.ref b54), .unset, .unset, .unset]) rfl ?_
      refine t_aL X55 u at_103 rfl rfl ?_
      refine pt_cV [] [] 0 X55 u hZ hown (wd hw 52 rfl) (m_50 hw) rfl (A54.keep Kq55) (rm_a6_2 l Z a0 hw [] G GG b54 (0 : Int32) (0 : Int32) T55.heap O55_ p55_4 (by decide) p55_6 (by decide)) rfl at_105 rfl rfl (by decide) N55_ ?_
      intro T56 L56 X56 e56 N56_
      refine t_iL X56 u at_108 rfl ?_
      refine t_ifY 110 117 X56 u rfl at_110 ((if0 _ _).trans (feq (by decide : ¬ ((2 : Int32) = (0 : Int32)))).2) (by decide) ?_
      refine t_iC X56 u at_117  ?_
      refine t_icY 118 123 X56 u rfl at_118 (teq (by decide : (0 : Int32) = (0 : Int32))).1 (by decide) ?_
      refine t_aL X56 u at_123 rfl rfl ?_
      refine t_iN X56 u at_125 rfl ?_
      refine t_lL X56 u at_126 rfl ?_
      have f57 := ((Fld.ext E54 p53_2).keep Kq55 (ninS (neE p53_1.lt hb54) nin0))
      have f58 := ((Fld.ext E54 p53_5).keep Kq55 (ninS (neE p53_4.lt hb54) nin0))
      have f59 := ((Fld.ext E54 p53_6).keep Kq55 (ninS (neE p53_4.lt hb54) nin0))
      have f60 := ((Exa.ext E54 (p52_9.keep Kq53)).keep Kq55)
      have f61 := ((Fld.ext E54 (p52_10.keep Kq53 nin0)).keep Kq55 (ninS (neE (p52_9.keep Kq53).lt hb54) nin0))
      have f62 := ((Fld.ext E54 (p52_11.keep Kq53 nin0)).keep Kq55 (ninS (neE (p52_9.keep Kq53).lt hb54) nin0))
      have f63 := ((Fld.ext E54 p53_10).keep Kq55 (ninS (neE p53_9.lt hb54) nin0))
      have f64 := ((Fld.ext E54 p53_11).keep Kq55 (ninS (neE p53_9.lt hb54) nin0))
      refine t_cS [(.ref b54), (.int x2), (.long x5)] [] 0 X56 u hZ hown (wd hw 57 rfl) (m_65 hw) e56 (rm_step l Z a0 hw [] G GG b54 x2 x5 T55.heap O55_ (⟨ep0, b18q53, z_x0_reachedq55, z_x0_divergedq55, (-1 : Int32), (A54.keep Kq55), g_b54, p55_1, p55_2, p55_3, p55_7, p55_0, Or.inr (Or.inr (Or.inr ⟨p55_5, p55_4, p55_6, ne0, ⟨((Exa.ext E54 p53_1).keep Kq55), Or.inr (Or.inr ⟨b2q5q1q50q26q53, b5q52, ep0, so0, b10q53, ep1, so1, f57, ((Exa.ext E54 p53_4).keep Kq55), f58, f59, f60, f61, f62, ((Exa.ext E54 p53_9).keep Kq55), f63, f64, ne0, ns0, ne1, ns1, he01, hs10⟩)⟩⟩))⟩)) rfl at_128 rfl rfl (by decide) ?_
      intro v65 T65 L65 Lc65 X65 hQ65 l65
      obtain ⟨rfl, Nq65, Kq65, hW65⟩ := hQ65
      have O65_ := extKeep O55_ Kq65 (allS g_b54 all0)
      have N65_ := frA l65 N56_ Nq65
      refine t_isL X65 u at_131 (l' := #[.val (.int x0), .val (.long x1), .second, .val (.int x2), .val (.int x3), .val (.int x4), .val (.long x5), .second, .val (.int (2 : Int32)), .val (.int ep0), .val (.int ep1), .val (.long so0), .second, .val (.long so1), .second, .val (.ref b18q53), .val (.ref b54), .val (.int (1 : Int32)), .unset, .unset]) rfl ?_
      refine t_aL X65 u at_133 rfl rfl ?_
      refine t_iL X65 u at_135 rfl ?_
      refine t_lL X65 u at_137 rfl ?_
      refine t_cS [(.ref b54), (.int x3), (.long x5)] [] 0 X65 u hZ hown (wd hw 57 rfl) (m_65 hw) rfl (rm_step l Z a0 hw [] G GG b54 x3 x5 T65.heap O65_ hW65) rfl at_139 rfl rfl (by decide) ?_
      intro v66 T66 L66 Lc66 X66 hQ66 l66
      obtain ⟨rfl, Nq66, Kq66, hW66⟩ := hQ66
      have O66_ := extKeep O65_ Kq66 (allS g_b54 all0)
      have N66_ := frA l66 N65_ Nq66
      refine t_isL X66 u at_142 (l' := #[.val (.int x0), .val (.long x1), .second, .val (.int x2), .val (.int x3), .val (.int x4), .val (.long x5), .second, .val (.int (2 : Int32)), .val (.int ep0), .val (.int ep1), .val (.long so0), .second, .val (.long so1), .second, .val (.ref b18q53), .val (.ref b54), .val (.int (1 : Int32)), .val (.int (1 : Int32)), .unset]) rfl ?_
      refine t_aL X66 u at_144 rfl rfl ?_
      show Go _ _ _ _ _ _ _ _ T66 (mkF m 146 #[.val (.int x0), .val (.long x1), .second, .val (.int x2), .val (.int x3), .val (.int x4), .val (.long x5), .second, .val (.int (2 : Int32)), .val (.int ep0), .val (.int ep1), .val (.long so0), .second, .val (.long so1), .second, .val (.ref b18q53), .val (.ref b54), .val (.int (1 : Int32)), .val (.int (1 : Int32)), .unset] [(.ref b54)])
      refine t_iL X66 u at_146 rfl ?_
      refine t_lL X66 u at_148 rfl ?_
      refine t_cS [(.ref b54), (.int x4), (.long x5)] [] 0 X66 u hZ hown (wd hw 57 rfl) (m_65 hw) rfl (rm_step l Z a0 hw [] G GG b54 x4 x5 T66.heap O66_ hW66) rfl at_150 rfl rfl (by decide) ?_
      intro v67 T67 L67 Lc67 X67 hQ67 l67
      obtain ⟨rfl, Nq67, Kq67, hW67⟩ := hQ67
      have O67_ := extKeep O66_ Kq67 (allS g_b54 all0)
      have N67_ := frA l67 N66_ Nq67
      refine t_isL X67 u at_153 (l' := #[.val (.int x0), .val (.long x1), .second, .val (.int x2), .val (.int x3), .val (.int x4), .val (.long x5), .second, .val (.int (2 : Int32)), .val (.int ep0), .val (.int ep1), .val (.long so0), .second, .val (.long so1), .second, .val (.ref b18q53), .val (.ref b54), .val (.int (1 : Int32)), .val (.int (1 : Int32)), .val (.int (1 : Int32))]) rfl ?_
      refine t_iL X67 u at_155 rfl ?_
      refine t_ifN X67 u at_157 ((if0 _ _).trans (feq (by decide : ¬ ((1 : Int32) = (0 : Int32)))).1) ?_
      refine t_iL X67 u at_160 rfl ?_
      refine t_ifN X67 u at_162 ((if0 _ _).trans (feq (by decide : ¬ ((1 : Int32) = (0 : Int32)))).1) ?_
      refine t_iL X67 u at_165 rfl ?_
      refine t_ifN X67 u at_167 ((if0 _ _).trans (feq (by decide : ¬ ((1 : Int32) = (0 : Int32)))).1) ?_
      refine t_iC X67 u at_170  ?_
      refine t_go 171 175 X67 u rfl at_171 (by decide) ?_
      exact Go.retN X67 hx (t := .boolean) hret (by simp) hlk (hb hby at_175) (by decide) (by decide) (by show _ ∧ _ ∧ _; exact ⟨rfl, N67_, trivial⟩)
end Contracts
set_option maxRecDepth 65536 in
set_option maxHeartbeats 40000000 in
theorem comes_1 {Post : Tables → Env → Array Value → State → Outcome → State → Prop} (hpost : ∀ tb e args s v u, (limb_1_1.after args s (.returned v) u = true ∧ limb_1_2.after args s (.returned v) u = true ∧ True) → FrameEnd s (.returned v) u (Jvm.fieldLocs frame_1_writes args s ++ Jvm.arrayLocs frame_1_arrays args s ++ Jvm.staticLocs frame_1_statics s) 104 384 → Post tb e args s (.returned v) u) :
    ArmFor flags0 classFile x code maxLocals ret World_1 tables_1 room_1 Calls_1 rest_1 Pre_1 Post := by
  intro l hfl _ _ p e ha hc hk s m args below hf hA hF happ hP
  obtain ⟨hcalls, hrest, hpre⟩ := hP
  obtain ⟨-, -, -, hnamed, -, -, -, hat⟩ := (Spec.applies_iff hf).mp happ
  obtain ⟨hg, hn⟩ := and_e (Cond.before_iff.mp (show (Jvm.Cond.and given_1 narrow_1).before args s = true from hpre))
  obtain ⟨hcount, gr0⟩ := and_e hg
  obtain ⟨ga0, gr1⟩ := and_e gr0
  obtain ⟨ga1, gr2⟩ := and_e gr1
  obtain ⟨ga2, gr3⟩ := and_e gr2
  obtain ⟨ga3, gr4⟩ := and_e gr3
  obtain ⟨ga4, gr5⟩ := and_e gr4
  have ga5 := gr5
  obtain ⟨w0, w1, w2, w3, w4, w5, rfl⟩ : ∃ w0 w1 w2 w3 w4 w5 : Value, args = #[w0, w1, w2, w3, w4, w5] := by
    have hs : args.size = 6 := by simpa [Cond.value, given_1] using hcount
    obtain ⟨L⟩ := args
    match L, hs with
    | [w0, w1, w2, w3, w4, w5], _ => exact ⟨w0, w1, w2, w3, w4, w5, rfl⟩
  have hw := fun d (hd : d ∈ tables_1) => atoms_spec (ws := Jvm.Cond.code x code maxLocals ret :: tables_1) hat d (List.mem_cons_of_mem _ hd)
  have hfit : Fit s := fun {y c} hc i hi => by
    obtain ⟨ha, rfl⟩ := Array.getElem?_eq_some_iff.mp hc
    have q := List.all_eq_true.mp ((Array.all_eq_true_iff_forall_mem.mp hF) _ (Array.getElem_mem ha)) i (List.mem_range.mpr hi)
    simpa [Array.getElem?_eq_getElem hi] using q
  obtain ⟨hsets, hown0⟩ := atoms_of _ (rest_1_c_eq ▸ (show rest_1_c.before _ s = true from hrest))
  have hr0 := Cond.before_iff.mp hown0
  obtain ⟨i0, ei0⟩ := is_v ga0
  obtain rfl : w0 = (.int i0) := Option.some.inj ei0
  obtain ⟨i1, ei1⟩ := isL_v ga1
  obtain rfl : w1 = (.long i1) := Option.some.inj ei1
  obtain ⟨i2, ei2⟩ := is_v ga2
  obtain rfl : w2 = (.int i2) := Option.some.inj ei2
  obtain ⟨i3, ei3⟩ := is_v ga3
  obtain rfl : w3 = (.int i3) := Option.some.inj ei3
  obtain ⟨i4, ei4⟩ := is_v ga4
  obtain rfl : w4 = (.int i4) := Option.some.inj ei4
  obtain ⟨i5, ei5⟩ := isL_v ga5
  obtain rfl : w5 = (.long i5) := Option.some.inj ei5
  obtain ⟨nw0, nr0⟩ := and_e hn
  obtain ⟨nw1, nr1⟩ := and_e nr0
  obtain ⟨nw2, nr2⟩ := and_e nr1
  obtain ⟨nw3, nr3⟩ := and_e nr2
  obtain ⟨nw4, nr4⟩ := and_e nr3
  obtain ⟨nw5, nr5⟩ := and_e nr4
  have nw6 := nr5
  obtain ⟨a_0, ev_0⟩ := exa_v nw0
  have S_0 : Sta s s.heap "com/example/clean_epoch/cleanepoch/log/Lineage" "EMPTY" "Lcom/example/clean_epoch/cleanepoch/log/Lineage;" (.ref a_0) := Sta.start ev_0 (Or.inr ⟨(wd hw 2 rfl), (wd hw 3 rfl)⟩)
  have X_0 : Exa s s.heap a_0 "com/example/clean_epoch/cleanepoch/log/Lineage" := Exa.start ev_0 nw0
  obtain ⟨a_1, ev_1⟩ := exa_v nw1
  have S_1 : Sta s s.heap "com/example/clean_epoch/cleanepoch/log/EpochEnd" "NONE" "Lcom/example/clean_epoch/cleanepoch/log/EpochEnd;" (.ref a_1) := Sta.start ev_1 (Or.inr ⟨(wd hw 14 rfl), (wd hw 15 rfl)⟩)
  have X_1 : Exa s s.heap a_1 "com/example/clean_epoch/cleanepoch/log/EpochEnd" := Exa.start ev_1 nw1
  have F_2 : Fld s s.heap a_1 "com/example/clean_epoch/cleanepoch/log/EpochEnd" "epoch" "I" (.int (-1 : Int32)) := fldStart ev_1 nw2
  obtain ⟨dc, evdc⟩ := exa_v (Cond.before_iff.mp (hsets _ (List.mem_of_getElem? (i := 7) rfl)))
  have G_dc : Sta s s.heap "java/util/ArrayList" "DEFAULTCAPACITY_EMPTY_ELEMENTDATA" "[Ljava/lang/Object;" (.ref dc) := Sta.start evdc (Or.inr ⟨(wd hw 75 rfl), (hsets _ (List.mem_of_getElem? (i := 2) rfl))⟩)
  have G_dce : Exa s s.heap dc "[Ljava/lang/Object;" := Exa.start evdc (Cond.before_iff.mp (hsets _ (List.mem_of_getElem? (i := 7) rfl)))
  obtain ⟨kdc, G_dcv⟩ := own_arv0 (dv := .null) hfit evdc (Cond.before_iff.mp (hsets _ (List.mem_of_getElem? (i := 6) rfl))) (Cond.before_iff.mp (hsets _ (List.mem_of_getElem? (i := 8) rfl)))
  obtain ⟨em, evem⟩ := exa_v (Cond.before_iff.mp (hsets _ (List.mem_of_getElem? (i := 4) rfl)))
  have G_em : Sta s s.heap "java/util/ArrayList" "EMPTY_ELEMENTDATA" "[Ljava/lang/Object;" (.ref em) := Sta.start evem (Or.inl (hsets _ (List.mem_of_getElem? (i := 1) rfl)))
  have G_eme : Exa s s.heap em "[Ljava/lang/Object;" := Exa.start evem (Cond.before_iff.mp (hsets _ (List.mem_of_getElem? (i := 4) rfl)))
  obtain ⟨kem, G_emv⟩ := own_arv0 (dv := .null) hfit evem (Cond.before_iff.mp (hsets _ (List.mem_of_getElem? (i := 3) rfl))) (Cond.before_iff.mp (hsets _ (List.mem_of_getElem? (i := 5) rfl)))
  obtain ⟨el, evel⟩ := exa_v (Cond.before_iff.mp (hsets _ (List.mem_of_getElem? (i := 17) rfl)))
  have G_el : Sta s s.heap "java/util/ImmutableCollections" "EMPTY_LIST" "Ljava/util/ImmutableCollections$ListN;" (.ref el) := Sta.start evel (Or.inl (hsets _ (List.mem_of_getElem? (i := 16) rfl)))
  have G_ele : Exa s s.heap el "java/util/ImmutableCollections$ListN" := Exa.start evel (Cond.before_iff.mp (hsets _ (List.mem_of_getElem? (i := 17) rfl)))
  obtain ⟨ee, evee⟩ := exa_v (Cond.before_iff.mp (hsets _ (List.mem_of_getElem? (i := 22) rfl)))
  have G_elf : Fld s s.heap el "java/util/ImmutableCollections$ListN" "elements" "[Ljava/lang/Object;" (.ref ee) := Fld.start ((fld_at evel).symm.trans evee)
  have G_eee : Exa s s.heap ee "[Ljava/lang/Object;" := Exa.start evee (Cond.before_iff.mp (hsets _ (List.mem_of_getElem? (i := 22) rfl)))
  obtain ⟨kee, G_eev⟩ := own_arv0 (dv := .null) hfit evee (Cond.before_iff.mp (hsets _ (List.mem_of_getElem? (i := 21) rfl))) (Cond.before_iff.mp (hsets _ (List.mem_of_getElem? (i := 23) rfl)))
  obtain ⟨eo, eveo⟩ := exa_v (Cond.before_iff.mp (hsets _ (List.mem_of_getElem? (i := 11) rfl)))
  have G_eo : Sta s s.heap "java/util/ImmutableCollections" "EMPTY" "Ljava/lang/Object;" (.ref eo) := Sta.start eveo (Or.inl (hsets _ (List.mem_of_getElem? (i := 10) rfl)))
  have G_eoe : Exa s s.heap eo "java/lang/Object" := Exa.start eveo (Cond.before_iff.mp (hsets _ (List.mem_of_getElem? (i := 11) rfl)))
  obtain ⟨⟨c1_, k1_, mo, g1_, g2_, g3_⟩, ⟨c2_, k2_, m12, g4_, g5_, g6_⟩, ⟨c3_, k3_, mal, g7_, g8_, g9_⟩, -⟩ := hcalls
  obtain ⟨ln, evln⟩ := exa_v nw3
  have G_lef : Fld s s.heap a_0 "com/example/clean_epoch/cleanepoch/log/Lineage" "entries" "Ljava/util/List;" (.ref ln) := Fld.start ((fld_at ev_0).symm.trans evln)
  have G_lne : Exa s s.heap ln "java/util/ImmutableCollections$ListN" := Exa.start evln nw3
  obtain ⟨lv, evlv⟩ := exa_v nw5
  have G_lnf : Fld s s.heap ln "java/util/ImmutableCollections$ListN" "elements" "[Ljava/lang/Object;" (.ref lv) := Fld.start ((fld_at evln).symm.trans evlv)
  have G_lve : Exa s s.heap lv "[Ljava/lang/Object;" := Exa.start evlv nw5
  obtain ⟨klv, G_lvv⟩ := own_arv0 (dv := .null) hfit evlv nw4 nw6
  obtain ⟨G, hG⟩ : ∃ G : GT, G = (dc, em, el, ee, eo, mo, m12, mal, a_1, a_0, ln, lv, kdc, kem, kee, klv) := ⟨_, rfl⟩
  have GG : GP s G := by rw [hG]; exact ⟨G_dc, G_dce, G_dcv, G_em, G_eme, G_emv, G_el, G_ele, G_elf, G_eev, G_eo, G_eoe, ⟨c1_, k1_, g1_, g2_, (by first | exact g3_ | exact g3_.1)⟩, ⟨c2_, k2_, g4_, g5_, (by first | exact g6_ | exact g6_.1)⟩, ⟨c3_, k3_, g7_, g8_, (by first | exact g9_ | exact g9_.1)⟩, S_1, X_1, F_2, S_0, X_0, G_lef, G_lne, G_lnf, G_lvv, G_lve, G_eee⟩
  obtain ⟨n, o, h1, h2, h3, _, L, rfl, ⟨rfl, N, -⟩, hq⟩ := rm_0 l s _ hw tables_1 G GG i0 i1 i2 i3 i4 i5  s.heap (extRfl _)  p e ha hc hk s m _ below hf ((Spec.applies_iff_loose hf).mp happ).1 ⟨rfl, State.Warmed39.refl s, rfl⟩ trivial
  refine ⟨n, _, h1, h2, h3, hpost _ _ _ _ _ _ ⟨Cond.after_iff.mpr rfl, Cond.after_iff.mpr (eq_i res_at (Term.int_eval (1)) rfl), trivial⟩ ⟨hq.1, hq.2.1, (hq.2.2.sift fun y hy => Or.inr (N y hy)).mono (by decide) (by decide)⟩⟩
theorem main_1_1 : Claimed_1_1 := comes_1 fun _ _ _ _ _ _ h hF => ⟨h.1, hF⟩
theorem main_1_2 : Claimed_1_2 := comes_1 fun _ _ _ _ _ _ h hF => ⟨h.2.1, hF⟩
end Jvm.Pilot.@@N@@
namespace Jvm.Pilot.@@N@@
open Jvm Jvm.ClassFile Sem Op Lib Jvm.Free Jvm.Stand Jvm.Pilot.@@N@@.Jvm.D
abbrev cd_ (a b : Nat) (c : ByteArray) : Code := { maxStack := a, maxLocals := b, code := c, exceptionTable := #[], attributes := #[] }
abbrev mi_ (a b c : Nat) : MethodInfo := { accessFlags := a, nameIndex := b, descriptorIndex := c, attributes := #[] }
abbrev fi_ (a b c : Nat) : FieldInfo := { accessFlags := a, nameIndex := b, descriptorIndex := c, attributes := #[] }
abbrev mt_ (n d : String) (ps : List FieldType) (r : Option FieldType) (f : Nat) (c : Option Code) : Method := { name := n, desc := d, sig := { parameters := ps, returnType := r }, accessFlags := f, code := c }
abbrev fd_ (n : String) (t : FieldType) (f s : Nat) : Field := { name := n, type := t, accessFlags := f, slot := s, constantValue := 0 }
/-! MADE BY PROGRAM (witnessworld.py) out of the Statement's table words and the real class files: 38 classes; the members and pool entries that the words name. The judged class is class 1, her method 1. -/
namespace start1
open Jvm.ClassFile
def u (s : String) : CpInfo := .utf8 (stringToUtf16 s)
/-- a pool by its gaps: so many unusable entries, then the entry; so many at the end -/
def gap : Nat → List CpInfo → List CpInfo
  | 0, r => r
  | n + 1, r => .unusable :: gap n r
def poolList (es : List (Nat × CpInfo)) (last : Nat) : List CpInfo := es.foldr (fun e r => gap e.1 (e.2 :: r)) (gap last [])
def pool (es : List (Nat × CpInfo)) (last : Nat) : Array CpInfo := ⟨poolList es last⟩
def fileOf (pool : Array CpInfo) (this : Nat) (attrs : Array Attribute := #[]) (ms : Array MethodInfo := #[]) (fl : Nat := 33) (sup : Nat := 0) (ifs : Array Nat := #[]) (fds : Array FieldInfo := #[]) : ClassFile where
  minorVersion := 0
  majorVersion := 65
  constantPool := pool
  accessFlags := fl
  thisClass := this
  superClass := sup
  interfaces := ifs
  fields := fds
  methods := ms
  attributes := attrs
def plain (name : String) (sup : Option ClassId) : Class where
  name := name
  kind := .ordinary
  loader := none
  accessFlags := 33
  super := sup
  interfaces := #[]
  cf := none
  fields := #[]
  methods := #[]
  instanceTypes := #[]
  staticTypes := #[]
  resolved := #[]
  callSites := []
  init := .initialized
  statics := none
  mirror := none

def pool0 : Array CpInfo := pool [(5, u "<init>"), (0, u "()V"), (1, .class_ 10), (1, u "java/lang/Object"), (0, u "getClass"), (0, u "()Ljava/lang/Class;")] 111

def k0c0 : Code := cd_ 0 1 object_method_1_code
def k0m0 : Method := mt_ "<init>" "()V" [] (none) 1 (some k0c0)
def k0m1 : Method := mt_ "getClass" "()Ljava/lang/Class;" [] (some (.object "java/lang/Class")) 273 (none)
/-- java/lang/Object -/
def k0 : Class := { plain "java/lang/Object" none with
  accessFlags := 33
  interfaces := #[]
  cf := some (fileOf pool0 8 #[] #[mi_ 1 5 6, mi_ 273 11 12] 33 0 #[] #[])
  fields := #[]
  methods := #[k0m0, k0m1]
  instanceTypes := #[]
  staticTypes := #[]
  resolved := Array.replicate 124 none
  statics := none }

def pool1 : Array CpInfo := pool [(2, .class_ 4), (1, u "java/lang/Object"), (0, u "<init>"), (0, u "()V"), (0, .integer 2147483647), (0, .fieldref 9 10), (0, .class_ 11), (0, .nameAndType 12 13), (0, u "com/example/clean_epoch/cleanepoch/log/Lineage"), (0, u "EMPTY"), (0, u "Lcom/example/clean_epoch/cleanepoch/log/Lineage;"), (0, .methodref 9 15), (0, .nameAndType 16 17), (0, u "with"), (0, u "(IJ)Lcom/example/clean_epoch/cleanepoch/log/Lineage;"), (0, .class_ 19), (0, u "com/example/clean_epoch/cleanepoch/log/DivergenceWalk"), (0, .methodref 18 21), (0, .nameAndType 5 22), (0, u "(Lcom/example/clean_epoch/cleanepoch/log/Lineage;J)V"), (0, .methodref 18 24), (0, .nameAndType 25 26), (0, u "done"), (0, u "()Z"), (0, .methodref 28 29), (0, .class_ 30), (0, .nameAndType 31 32), (0, u "com/example/clean_epoch/cleanepoch/log/DivergenceWalkDonePinLaw"), (0, u "step"), (0, u "(Lcom/example/clean_epoch/cleanepoch/log/DivergenceWalk;IJ)Z"), (0, .methodref 18 34), (0, .nameAndType 35 26), (0, u "leaderLogStartDue"), (0, .methodref 18 37), (0, .nameAndType 38 39), (0, u "takeLeaderLogStart"), (0, u "(J)V"), (0, .methodref 18 41), (0, .nameAndType 42 43), (0, u "held"), (0, u "()Lcom/example/clean_epoch/cleanepoch/log/Lineage;"), (0, .methodref 9 45), (0, .nameAndType 46 26), (0, u "isEmpty"), (0, .methodref 18 48), (0, .nameAndType 49 50), (0, u "epochToAsk"), (0, u "()I"), (0, .methodref 52 53), (0, .class_ 54), (0, .nameAndType 55 56), (0, u "java/lang/Math"), (0, u "max"), (0, u "(II)I"), (0, .long 18446744073709551615), (1, .class_ 60), (0, u "com/example/clean_epoch/cleanepoch/log/EpochEnd"), (0, .methodref 59 62), (0, .nameAndType 5 63), (0, u "(IJ)V"), (0, .methodref 18 65), (0, .nameAndType 66 67), (0, u "take"), (0, u "(Lcom/example/clean_epoch/cleanepoch/log/EpochEnd;)V"), (2, u "law"), (0, u "(IJIIIJ)Z")] 3

def k1m0 : Method := mt_ "<init>" "()V" [] (none) 1 (none)
def k1c1 : Code := cd_ 5 20 code
def k1m1 : Method := mt_ "law" "(IJIIIJ)Z" [.int, .long, .int, .int, .int, .long] (some .boolean) 9 (some k1c1)
def k1c2 : Code := cd_ 6 10 method_3_code
def k1m2 : Method := mt_ "step" "(Lcom/example/clean_epoch/cleanepoch/log/DivergenceWalk;IJ)Z" [(.object "com/example/clean_epoch/cleanepoch/log/DivergenceWalk"), .int, .long] (some .boolean) 10 (some k1c2)
/-- com/example/clean_epoch/cleanepoch/log/DivergenceWalkDonePinLaw -/
def k1 : Class := { plain "com/example/clean_epoch/cleanepoch/log/DivergenceWalkDonePinLaw" (some 0) with
  accessFlags := 49
  interfaces := #[]
  cf := some (fileOf pool1 28 #[] #[mi_ 1 5 6, mi_ 9 70 71, mi_ 10 31 32] 49 2 #[] #[])
  fields := #[]
  methods := #[k1m0, k1m1, k1m2]
  instanceTypes := #[]
  staticTypes := #[]
  resolved := Array.replicate 75 none
  statics := none }

def pool2 : Array CpInfo := pool [(1, .methodref 2 3), (0, .class_ 4), (0, .nameAndType 5 6), (0, u "java/lang/Object"), (0, u "<init>"), (0, u "()V"), (0, .class_ 8), (0, u "java/lang/Record")] 13

def k2c0 : Code := cd_ 1 1 jdk_30_method_1_code
def k2m0 : Method := mt_ "<init>" "()V" [] (none) 4 (some k2c0)
/-- java/lang/Record -/
def k2 : Class := { plain "java/lang/Record" (some 0) with
  accessFlags := 1057
  interfaces := #[]
  cf := some (fileOf pool2 7 #[] #[mi_ 4 5 6] 1057 2 #[] #[])
  fields := #[]
  methods := #[k2m0]
  instanceTypes := #[]
  staticTypes := #[]
  resolved := Array.replicate 22 none
  statics := none }

def pool3 : Array CpInfo := pool [(1, .methodref 2 3), (0, .class_ 4), (0, .nameAndType 5 6), (0, u "java/lang/Record"), (0, u "<init>"), (0, u "()V"), (0, .class_ 8), (0, u "java/util/ArrayList"), (0, .methodref 7 3), (0, .interfaceMethodref 11 12), (0, .class_ 13), (0, .nameAndType 14 15), (0, u "java/util/List"), (0, u "iterator"), (0, u "()Ljava/util/Iterator;"), (0, .interfaceMethodref 17 18), (0, .class_ 19), (0, .nameAndType 20 21), (0, u "java/util/Iterator"), (0, u "hasNext"), (0, u "()Z"), (0, .interfaceMethodref 17 23), (0, .nameAndType 24 25), (0, u "next"), (0, u "()Ljava/lang/Object;"), (0, .class_ 27), (0, u "com/example/clean_epoch/cleanepoch/log/Lineage$Entry"), (0, .methodref 29 30), (0, .class_ 31), (0, .nameAndType 32 33), (0, u "com/example/clean_epoch/cleanepoch/log/Lineage"), (0, u "follows"), (0, u "(Ljava/util/List;Lcom/example/clean_epoch/cleanepoch/log/Lineage$Entry;)Z"), (15, .interfaceMethodref 11 50), (0, .nameAndType 51 52), (0, u "add"), (0, u "(Ljava/lang/Object;)Z"), (0, .interfaceMethodref 11 54), (0, .nameAndType 55 56), (0, u "copyOf"), (0, u "(Ljava/util/Collection;)Ljava/util/List;"), (0, .fieldref 29 58), (0, .nameAndType 59 60), (0, u "entries"), (0, u "Ljava/util/List;"), (0, .interfaceMethodref 11 62), (0, .nameAndType 63 21), (0, u "isEmpty"), (0, .interfaceMethodref 11 65), (0, .nameAndType 66 67), (0, u "size"), (0, u "()I"), (0, .interfaceMethodref 11 69), (0, .nameAndType 70 71), (0, u "get"), (0, u "(I)Ljava/lang/Object;"), (0, .methodref 26 73), (0, .nameAndType 74 67), (0, u "epoch"), (6, .methodref 26 82), (0, .nameAndType 83 84), (0, u "startOffset"), (0, u "()J"), (0, .methodref 86 87), (0, .class_ 88), (0, .nameAndType 89 84), (0, u "com/example/clean_epoch/cleanepoch/log/EpochEnd"), (0, u "endOffset"), (0, .methodref 86 73), (0, .methodref 29 92), (0, .nameAndType 93 94), (0, u "endOf"), (0, u "(IJ)J"), (0, .methodref 96 97), (0, .class_ 98), (0, .nameAndType 99 100), (0, u "java/lang/Math"), (0, u "min"), (0, u "(JJ)J"), (0, .methodref 7 102), (0, .nameAndType 5 103), (0, u "(Ljava/util/Collection;)V"), (3, .methodref 26 108), (0, .nameAndType 5 109), (0, u "(IJ)V"), (0, .methodref 29 111), (0, .nameAndType 5 112), (0, u "(Ljava/util/List;)V"), (15, u "()Ljava/util/List;"), (2, u "EMPTY"), (0, u "Lcom/example/clean_epoch/cleanepoch/log/Lineage;"), (7, u "lastEpoch"), (5, u "divergenceFrom"), (0, u "(Lcom/example/clean_epoch/cleanepoch/log/EpochEnd;J)J"), (0, u "with"), (0, u "(IJ)Lcom/example/clean_epoch/cleanepoch/log/Lineage;"), (0, u "withoutEntriesFrom"), (0, u "(J)Lcom/example/clean_epoch/cleanepoch/log/Lineage;")] 26

def k3c0 : Code := cd_ 7 5 prog_22_method_1_code
def k3m0 : Method := mt_ "<init>" "(Ljava/util/List;)V" [(.object "java/util/List")] (none) 1 (some k3c0)
def k3c1 : Code := cd_ 1 1 prog_22_method_2_code
def k3m1 : Method := mt_ "isEmpty" "()Z" [] (some .boolean) 1 (some k3c1)
def k3c2 : Code := cd_ 3 1 prog_22_method_3_code
def k3m2 : Method := mt_ "lastEpoch" "()I" [] (some .int) 1 (some k3c2)
def k3c3 : Code := cd_ 2 6 prog_22_method_6_code
def k3m3 : Method := mt_ "endOf" "(IJ)J" [.int, .long] (some .long) 1 (some k3c3)
def k3c4 : Code := cd_ 6 4 prog_22_method_7_code
def k3m4 : Method := mt_ "divergenceFrom" "(Lcom/example/clean_epoch/cleanepoch/log/EpochEnd;J)J" [(.object "com/example/clean_epoch/cleanepoch/log/EpochEnd"), .long] (some .long) 0 (some k3c4)
def k3c5 : Code := cd_ 6 6 prog_22_method_8_code
def k3m5 : Method := mt_ "with" "(IJ)Lcom/example/clean_epoch/cleanepoch/log/Lineage;" [.int, .long] (some (.object "com/example/clean_epoch/cleanepoch/log/Lineage")) 1 (some k3c5)
def k3c6 : Code := cd_ 4 6 prog_22_method_9_code
def k3m6 : Method := mt_ "withoutEntriesFrom" "(J)Lcom/example/clean_epoch/cleanepoch/log/Lineage;" [.long] (some (.object "com/example/clean_epoch/cleanepoch/log/Lineage")) 1 (some k3c6)
def k3c7 : Code := cd_ 4 3 prog_22_method_11_code
def k3m7 : Method := mt_ "follows" "(Ljava/util/List;Lcom/example/clean_epoch/cleanepoch/log/Lineage$Entry;)Z" [(.object "java/util/List"), (.object "com/example/clean_epoch/cleanepoch/log/Lineage$Entry")] (some .boolean) 8 (some k3c7)
def k3c8 : Code := cd_ 1 1 prog_22_method_15_code
def k3m8 : Method := mt_ "entries" "()Ljava/util/List;" [] (some (.object "java/util/List")) 1 (some k3c8)
/-- com/example/clean_epoch/cleanepoch/log/Lineage -/
def k3 : Class := { plain "com/example/clean_epoch/cleanepoch/log/Lineage" (some 2) with
  accessFlags := 49
  interfaces := #[]
  cf := some (fileOf pool3 29 #[.nestMembers #[26]] #[mi_ 1 5 112, mi_ 1 63 21, mi_ 1 140 67, mi_ 1 93 94, mi_ 0 146 147, mi_ 1 148 149, mi_ 1 150 151, mi_ 8 32 33, mi_ 1 59 128] 49 2 #[] #[fi_ 18 59 60, fi_ 25 131 132])
  fields := #[fd_ "entries" (.object "java/util/List") 18 0, fd_ "EMPTY" (.object "com/example/clean_epoch/cleanepoch/log/Lineage") 25 0]
  methods := #[k3m0, k3m1, k3m2, k3m3, k3m4, k3m5, k3m6, k3m7, k3m8]
  instanceTypes := #[(.object "java/util/List")]
  staticTypes := #[(.object "com/example/clean_epoch/cleanepoch/log/Lineage")]
  resolved := Array.replicate 178 none
  statics := some 0 }

def pool4 : Array CpInfo := pool [(1, .methodref 2 3), (0, .class_ 4), (0, .nameAndType 5 6), (0, u "java/lang/Object"), (0, u "<init>"), (0, u "()V"), (0, .fieldref 8 9), (0, .class_ 10), (0, .nameAndType 11 12), (0, u "com/example/clean_epoch/cleanepoch/log/EpochEnd"), (0, u "NONE"), (0, u "Lcom/example/clean_epoch/cleanepoch/log/EpochEnd;"), (0, .methodref 8 14), (0, .nameAndType 15 16), (0, u "epoch"), (0, u "()I"), (0, .fieldref 18 19), (0, .class_ 20), (0, .nameAndType 21 22), (0, u "com/example/clean_epoch/cleanepoch/log/DivergenceWalk"), (0, u "named"), (0, u "I"), (0, .methodref 24 25), (0, .class_ 26), (0, .nameAndType 27 28), (0, u "com/example/clean_epoch/cleanepoch/log/Lineage"), (0, u "isEmpty"), (0, u "()Z"), (0, .methodref 24 30), (0, .nameAndType 31 32), (0, u "entries"), (0, u "()Ljava/util/List;"), (0, .interfaceMethodref 34 35), (0, .class_ 36), (0, .nameAndType 37 38), (0, u "java/util/List"), (0, u "get"), (0, u "(I)Ljava/lang/Object;"), (0, .class_ 40), (0, u "com/example/clean_epoch/cleanepoch/log/Lineage$Entry"), (0, .methodref 39 14), (0, .fieldref 18 43), (0, .nameAndType 44 22), (0, u "firstEpoch"), (0, .fieldref 18 46), (0, .nameAndType 47 48), (0, u "left"), (0, u "Lcom/example/clean_epoch/cleanepoch/log/Lineage;"), (0, .fieldref 18 50), (0, .nameAndType 51 52), (0, u "reached"), (0, u "J"), (0, .fieldref 18 54), (0, .nameAndType 55 56), (0, u "exact"), (0, u "Z"), (0, .fieldref 18 58), (0, .nameAndType 59 56), (0, u "bounded"), (0, .fieldref 18 61), (0, .nameAndType 62 56), (0, u "leaderLogStartDue"), (0, .methodref 18 64), (0, .nameAndType 65 28), (0, u "done"), (7, .methodref 24 74), (0, .nameAndType 75 16), (0, u "lastEpoch"), (0, .methodref 18 77), (0, .nameAndType 78 16), (0, u "epochToAsk"), (0, .methodref 8 80), (0, .nameAndType 81 82), (0, u "answers"), (0, u "(I)Z"), (17, .methodref 24 101), (0, .nameAndType 102 103), (0, u "divergenceFrom"), (0, u "(Lcom/example/clean_epoch/cleanepoch/log/EpochEnd;J)J"), (0, .fieldref 18 105), (0, .nameAndType 106 56), (0, u "diverged"), (0, .methodref 24 108), (0, .nameAndType 109 110), (0, u "withoutEntriesFrom"), (0, u "(J)Lcom/example/clean_epoch/cleanepoch/log/Lineage;"), (2, .methodref 114 115), (0, .class_ 116), (0, .nameAndType 117 118), (0, u "java/lang/Math"), (0, u "min"), (0, u "(JJ)J"), (0, u "(Lcom/example/clean_epoch/cleanepoch/log/Lineage;J)V"), (3, u "take"), (0, u "(Lcom/example/clean_epoch/cleanepoch/log/EpochEnd;)V"), (0, u "takeLeaderLogStart"), (0, u "(J)V"), (1, u "held"), (0, u "()Lcom/example/clean_epoch/cleanepoch/log/Lineage;")] 5

def k4c0 : Code := cd_ 3 4 prog_15_method_1_code
def k4m0 : Method := mt_ "<init>" "(Lcom/example/clean_epoch/cleanepoch/log/Lineage;J)V" [(.object "com/example/clean_epoch/cleanepoch/log/Lineage"), .long] (none) 1 (some k4c0)
def k4c1 : Code := cd_ 1 1 prog_15_method_2_code
def k4m1 : Method := mt_ "done" "()Z" [] (some .boolean) 1 (some k4c1)
def k4c2 : Code := cd_ 1 1 prog_15_method_3_code
def k4m2 : Method := mt_ "leaderLogStartDue" "()Z" [] (some .boolean) 1 (some k4c2)
def k4c3 : Code := cd_ 3 1 prog_15_method_4_code
def k4m3 : Method := mt_ "epochToAsk" "()I" [] (some .int) 1 (some k4c3)
def k4c4 : Code := cd_ 7 5 prog_15_method_5_code
def k4m4 : Method := mt_ "take" "(Lcom/example/clean_epoch/cleanepoch/log/EpochEnd;)V" [(.object "com/example/clean_epoch/cleanepoch/log/EpochEnd")] (none) 1 (some k4c4)
def k4c5 : Code := cd_ 5 3 prog_15_method_6_code
def k4m5 : Method := mt_ "takeLeaderLogStart" "(J)V" [.long] (none) 1 (some k4c5)
def k4c6 : Code := cd_ 1 1 prog_15_method_11_code
def k4m6 : Method := mt_ "held" "()Lcom/example/clean_epoch/cleanepoch/log/Lineage;" [] (some (.object "com/example/clean_epoch/cleanepoch/log/Lineage")) 1 (some k4c6)
/-- com/example/clean_epoch/cleanepoch/log/DivergenceWalk -/
def k4 : Class := { plain "com/example/clean_epoch/cleanepoch/log/DivergenceWalk" (some 0) with
  accessFlags := 33
  interfaces := #[]
  cf := some (fileOf pool4 18 #[] #[mi_ 1 5 119, mi_ 1 65 28, mi_ 1 62 28, mi_ 1 78 16, mi_ 1 123 124, mi_ 1 125 126, mi_ 1 128 129] 33 2 #[] #[fi_ 18 44 22, fi_ 2 47 48, fi_ 2 51 52, fi_ 2 106 56, fi_ 2 21 22, fi_ 2 62 56, fi_ 2 55 56, fi_ 2 59 56])
  fields := #[fd_ "firstEpoch" .int 18 0, fd_ "left" (.object "com/example/clean_epoch/cleanepoch/log/Lineage") 2 1, fd_ "reached" .long 2 2, fd_ "diverged" .boolean 2 3, fd_ "named" .int 2 4, fd_ "leaderLogStartDue" .boolean 2 5, fd_ "exact" .boolean 2 6, fd_ "bounded" .boolean 2 7]
  methods := #[k4m0, k4m1, k4m2, k4m3, k4m4, k4m5, k4m6]
  instanceTypes := #[.int, (.object "com/example/clean_epoch/cleanepoch/log/Lineage"), .long, .boolean, .int, .boolean, .boolean, .boolean]
  staticTypes := #[]
  resolved := Array.replicate 135 none
  statics := none }

def pool5 : Array CpInfo := pool [(1, .methodref 2 3), (0, .class_ 4), (0, .nameAndType 5 6), (0, u "java/lang/Record"), (0, u "<init>"), (0, u "()V"), (0, .fieldref 8 9), (0, .class_ 10), (0, .nameAndType 11 12), (0, u "com/example/clean_epoch/cleanepoch/log/EpochEnd"), (0, u "epoch"), (0, u "I"), (0, .fieldref 8 14), (0, .nameAndType 15 16), (0, u "endOffset"), (0, u "J"), (0, .fieldref 8 18), (0, .nameAndType 19 20), (0, u "NONE"), (0, u "Lcom/example/clean_epoch/cleanepoch/log/EpochEnd;"), (16, u "(IJ)V"), (3, u "answers"), (0, u "(I)Z"), (2, u "()I"), (1, u "()J")] 22

def k5c0 : Code := cd_ 3 4 prog_19_method_1_code
def k5m0 : Method := mt_ "<init>" "(IJ)V" [.int, .long] (none) 1 (some k5c0)
def k5c1 : Code := cd_ 4 2 prog_19_method_2_code
def k5m1 : Method := mt_ "answers" "(I)Z" [.int] (some .boolean) 1 (some k5c1)
def k5c2 : Code := cd_ 1 1 prog_19_method_6_code
def k5m2 : Method := mt_ "epoch" "()I" [] (some .int) 1 (some k5c2)
def k5c3 : Code := cd_ 2 1 prog_19_method_7_code
def k5m3 : Method := mt_ "endOffset" "()J" [] (some .long) 1 (some k5c3)
/-- com/example/clean_epoch/cleanepoch/log/EpochEnd -/
def k5 : Class := { plain "com/example/clean_epoch/cleanepoch/log/EpochEnd" (some 2) with
  accessFlags := 49
  interfaces := #[]
  cf := some (fileOf pool5 8 #[] #[mi_ 1 5 37, mi_ 1 41 42, mi_ 1 11 45, mi_ 1 15 47] 49 2 #[] #[fi_ 18 11 12, fi_ 18 15 16, fi_ 25 19 20])
  fields := #[fd_ "epoch" .int 18 0, fd_ "endOffset" .long 18 1, fd_ "NONE" (.object "com/example/clean_epoch/cleanepoch/log/EpochEnd") 25 0]
  methods := #[k5m0, k5m1, k5m2, k5m3]
  instanceTypes := #[.int, .long]
  staticTypes := #[(.object "com/example/clean_epoch/cleanepoch/log/EpochEnd")]
  resolved := Array.replicate 70 none
  statics := some 1 }

def pool6 : Array CpInfo := pool [(8, .class_ 10), (1, u "java/lang/Iterable"), (24, .class_ 36), (0, u "java/lang/Object")] 25

/-- java/lang/Iterable -/
def k6 : Class := { plain "java/lang/Iterable" (some 0) with
  accessFlags := 1537
  interfaces := #[]
  cf := some (fileOf pool6 8 #[] #[] 1537 35 #[] #[])
  fields := #[]
  methods := #[]
  instanceTypes := #[]
  staticTypes := #[]
  resolved := Array.replicate 62 none
  statics := none }

def pool7 : Array CpInfo := pool [(10, .class_ 12), (1, u "java/util/Collection"), (0, u "toArray"), (16, u "()Z"), (29, .class_ 61), (0, u "java/lang/Object"), (0, .class_ 63), (0, u "java/lang/Iterable"), (2, u "isEmpty"), (3, u "()[Ljava/lang/Object;")] 44

def k7m0 : Method := mt_ "isEmpty" "()Z" [] (some .boolean) 1025 (none)
def k7m1 : Method := mt_ "toArray" "()[Ljava/lang/Object;" [] (some (.array (.object "java/lang/Object"))) 1025 (none)
/-- java/util/Collection -/
def k7 : Class := { plain "java/util/Collection" (some 0) with
  accessFlags := 1537
  interfaces := #[6]
  cf := some (fileOf pool7 10 #[] #[mi_ 1025 66 30, mi_ 1025 13 70] 1537 60 #[62] #[])
  fields := #[]
  methods := #[k7m0, k7m1]
  instanceTypes := #[]
  staticTypes := #[]
  resolved := Array.replicate 115 none
  statics := none }

def pool8 : Array CpInfo := pool [(8, .class_ 10), (1, u "java/util/SequencedCollection"), (15, .class_ 27), (0, u "java/lang/Object"), (0, .class_ 29), (0, u "java/util/Collection")] 27

/-- java/util/SequencedCollection -/
def k8 : Class := { plain "java/util/SequencedCollection" (some 0) with
  accessFlags := 1537
  interfaces := #[7]
  cf := some (fileOf pool8 8 #[] #[] 1537 26 #[28] #[])
  fields := #[]
  methods := #[]
  instanceTypes := #[]
  staticTypes := #[]
  resolved := Array.replicate 57 none
  statics := none }

def pool9 : Array CpInfo := pool [(8, .class_ 10), (1, u "java/util/List"), (7, u "()Z"), (12, u "(Ljava/lang/Object;)V"), (16, u "<init>"), (11, u "add"), (3, u "(Ljava/lang/Object;)Z"), (2, u "isEmpty"), (7, u "get"), (0, u "(I)Ljava/lang/Object;"), (2, u "size"), (0, u "()I"), (7, u "of"), (1, .fieldref 91 92), (0, .class_ 93), (0, .nameAndType 94 95), (0, u "java/util/ImmutableCollections"), (0, u "EMPTY_LIST"), (0, u "Ljava/util/ImmutableCollections$ListN;"), (0, .class_ 97), (0, u "java/util/ImmutableCollections$List12"), (0, .methodref 96 99), (0, .nameAndType 48 31), (0, .methodref 96 101), (0, .nameAndType 48 102), (0, u "(Ljava/lang/Object;Ljava/lang/Object;)V"), (0, .class_ 104), (0, u "java/lang/Object"), (3, u "([Ljava/lang/Object;)Ljava/util/List;"), (3, .methodref 91 113), (0, .nameAndType 114 115), (0, u "listCopy"), (0, u "(Ljava/util/Collection;)Ljava/util/List;"), (3, u "()Ljava/util/List;"), (0, .class_ 121), (0, u "java/util/SequencedCollection"), (1, u "iterator"), (0, u "()Ljava/util/Iterator;"), (109, u "copyOf")] 16

def k9m0 : Method := mt_ "size" "()I" [] (some .int) 1025 (none)
def k9m1 : Method := mt_ "isEmpty" "()Z" [] (some .boolean) 1025 (none)
def k9m2 : Method := mt_ "iterator" "()Ljava/util/Iterator;" [] (some (.object "java/util/Iterator")) 1025 (none)
def k9m3 : Method := mt_ "add" "(Ljava/lang/Object;)Z" [(.object "java/lang/Object")] (some .boolean) 1025 (none)
def k9m4 : Method := mt_ "get" "(I)Ljava/lang/Object;" [.int] (some (.object "java/lang/Object")) 1025 (none)
def k9c5 : Code := cd_ 1 0 jdk_40_method_36_code
def k9m5 : Method := mt_ "of" "()Ljava/util/List;" [] (some (.object "java/util/List")) 9 (some k9c5)
def k9c6 : Code := cd_ 5 2 jdk_40_method_47_code
def k9m6 : Method := mt_ "of" "([Ljava/lang/Object;)Ljava/util/List;" [(.array (.object "java/lang/Object"))] (some (.object "java/util/List")) 137 (some k9c6)
def k9c7 : Code := cd_ 1 1 jdk_40_method_48_code
def k9m7 : Method := mt_ "copyOf" "(Ljava/util/Collection;)Ljava/util/List;" [(.object "java/util/Collection")] (some (.object "java/util/List")) 9 (some k9c7)
/-- java/util/List -/
def k9 : Class := { plain "java/util/List" (some 0) with
  accessFlags := 1537
  interfaces := #[8]
  cf := some (fileOf pool9 8 #[] #[mi_ 1025 79 80, mi_ 1025 67 18, mi_ 1025 123 124, mi_ 1025 60 64, mi_ 1025 75 76, mi_ 9 88 119, mi_ 137 88 108, mi_ 9 234 115] 1537 103 #[120] #[])
  fields := #[]
  methods := #[k9m0, k9m1, k9m2, k9m3, k9m4, k9m5, k9m6, k9m7]
  instanceTypes := #[]
  staticTypes := #[]
  resolved := Array.replicate 251 none
  statics := none }

def pool10 : Array CpInfo := pool [(1, .methodref 2 3), (0, .class_ 4), (0, .nameAndType 5 6), (0, u "java/lang/Object"), (0, u "<init>"), (0, u "()V"), (1, .class_ 10), (1, u "java/util/AbstractCollection"), (0, u "size"), (0, u "()I"), (64, .class_ 78), (0, u "java/util/Collection")] 81

def k10c0 : Code := cd_ 1 1 jdk_22_method_1_code
def k10m0 : Method := mt_ "<init>" "()V" [] (none) 4 (some k10c0)
def k10m1 : Method := mt_ "size" "()I" [] (some .int) 1025 (none)
/-- java/util/AbstractCollection -/
def k10 : Class := { plain "java/util/AbstractCollection" (some 0) with
  accessFlags := 1057
  interfaces := #[7]
  cf := some (fileOf pool10 8 #[] #[mi_ 4 5 6, mi_ 1025 11 12] 1057 2 #[77] #[])
  fields := #[]
  methods := #[k10m0, k10m1]
  instanceTypes := #[]
  staticTypes := #[]
  resolved := Array.replicate 160 none
  statics := none }

def pool11 : Array CpInfo := pool [(1, .methodref 2 3), (0, .class_ 4), (0, .nameAndType 5 6), (0, u "java/util/AbstractCollection"), (0, u "<init>"), (0, u "()V"), (1, .class_ 10), (1, u "java/util/ImmutableCollections"), (2, .class_ 14), (0, u "java/util/ImmutableCollections$AbstractImmutableCollection")] 41

def k11c0 : Code := cd_ 1 1 jdk_47_method_1_code
def k11m0 : Method := mt_ "<init>" "()V" [] (none) 0 (some k11c0)
/-- java/util/ImmutableCollections$AbstractImmutableCollection -/
def k11 : Class := { plain "java/util/ImmutableCollections$AbstractImmutableCollection" (some 10) with
  accessFlags := 1056
  interfaces := #[]
  cf := some (fileOf pool11 13 #[.nestHost 8] #[mi_ 0 5 6] 1056 2 #[] #[])
  fields := #[]
  methods := #[k11m0]
  instanceTypes := #[]
  staticTypes := #[]
  resolved := Array.replicate 56 none
  statics := none }

def pool12 : Array CpInfo := pool [(1, .class_ 2), (0, u "java/util/RandomAccess"), (0, .class_ 4), (0, u "java/lang/Object")] 2

/-- java/util/RandomAccess -/
def k12 : Class := { plain "java/util/RandomAccess" (some 0) with
  accessFlags := 1537
  interfaces := #[]
  cf := some (fileOf pool12 1 #[] #[] 1537 3 #[] #[])
  fields := #[]
  methods := #[]
  instanceTypes := #[]
  staticTypes := #[]
  resolved := Array.replicate 7 none
  statics := none }

def pool13 : Array CpInfo := pool [(1, .methodref 2 3), (0, .class_ 4), (0, .nameAndType 5 6), (0, u "java/util/ImmutableCollections$AbstractImmutableCollection"), (0, u "<init>"), (0, u "()V"), (1, .class_ 10), (1, u "java/util/ImmutableCollections"), (2, .methodref 14 15), (0, .class_ 16), (0, .nameAndType 17 18), (0, u "java/util/ImmutableCollections$AbstractImmutableList"), (0, u "size"), (0, u "()I"), (42, .class_ 62), (0, u "java/util/ImmutableCollections$ListItr"), (0, .methodref 61 64), (0, .nameAndType 5 65), (0, u "(Ljava/util/List;I)V"), (11, .class_ 78), (0, u "java/util/List"), (2, u "iterator"), (0, u "()Ljava/util/Iterator;"), (41, .class_ 125), (0, u "java/util/RandomAccess")] 70

def k13c0 : Code := cd_ 1 1 jdk_46_method_1_code
def k13m0 : Method := mt_ "<init>" "()V" [] (none) 0 (some k13c0)
def k13c1 : Code := cd_ 4 1 jdk_46_method_10_code
def k13m1 : Method := mt_ "iterator" "()Ljava/util/Iterator;" [] (some (.object "java/util/Iterator")) 1 (some k13c1)
/-- java/util/ImmutableCollections$AbstractImmutableList -/
def k13 : Class := { plain "java/util/ImmutableCollections$AbstractImmutableList" (some 11) with
  accessFlags := 1056
  interfaces := #[9, 12]
  cf := some (fileOf pool13 14 #[.nestHost 8] #[mi_ 0 5 6, mi_ 1 81 82] 1056 2 #[77, 124] #[])
  fields := #[]
  methods := #[k13m0, k13m1]
  instanceTypes := #[]
  staticTypes := #[]
  resolved := Array.replicate 196 none
  statics := none }

def pool14 : Array CpInfo := pool [(1, .class_ 2), (0, u "java/io/Serializable"), (0, .class_ 4), (0, u "java/lang/Object")] 2

/-- java/io/Serializable -/
def k14 : Class := { plain "java/io/Serializable" (some 0) with
  accessFlags := 1537
  interfaces := #[]
  cf := some (fileOf pool14 1 #[] #[] 1537 3 #[] #[])
  fields := #[]
  methods := #[]
  instanceTypes := #[]
  staticTypes := #[]
  resolved := Array.replicate 7 none
  statics := none }

def pool15 : Array CpInfo := pool [(2, .class_ 4), (1, u "java/util/ImmutableCollections$AbstractImmutableList"), (2, .fieldref 8 9), (0, .class_ 10), (0, .nameAndType 11 12), (0, u "java/util/ImmutableCollections$ListN"), (0, u "elements"), (0, u "[Ljava/lang/Object;"), (2, u "allowNulls"), (0, u "Z"), (12, .methodref 30 31), (0, .class_ 32), (0, .nameAndType 33 34), (0, u "java/util/Arrays"), (0, u "copyOf"), (0, u "([Ljava/lang/Object;I)[Ljava/lang/Object;"), (24, .class_ 60), (0, u "java/io/Serializable"), (13, u "isEmpty"), (0, u "()Z"), (1, u "size"), (0, u "()I"), (16, u "toArray"), (0, u "()[Ljava/lang/Object;"), (17, .class_ 115), (0, u "java/util/ImmutableCollections")] 3

def k15c0 : Code := cd_ 1 1 jdk_45_method_2_code
def k15m0 : Method := mt_ "isEmpty" "()Z" [] (some .boolean) 1 (some k15c0)
def k15c1 : Code := cd_ 1 1 jdk_45_method_3_code
def k15m1 : Method := mt_ "size" "()I" [] (some .int) 1 (some k15c1)
def k15c2 : Code := cd_ 2 1 jdk_45_method_7_code
def k15m2 : Method := mt_ "toArray" "()[Ljava/lang/Object;" [] (some (.array (.object "java/lang/Object"))) 1 (some k15c2)
/-- java/util/ImmutableCollections$ListN -/
def k15 : Class := { plain "java/util/ImmutableCollections$ListN" (some 13) with
  accessFlags := 48
  interfaces := #[14]
  cf := some (fileOf pool15 8 #[.nestHost 114] #[mi_ 1 74 75, mi_ 1 77 78, mi_ 1 95 96] 48 2 #[59] #[fi_ 18 11 12, fi_ 18 15 16])
  fields := #[fd_ "elements" (.array (.object "java/lang/Object")) 18 0, fd_ "allowNulls" .boolean 18 1]
  methods := #[k15m0, k15m1, k15m2]
  instanceTypes := #[(.array (.object "java/lang/Object")), .boolean]
  staticTypes := #[]
  resolved := Array.replicate 119 none
  statics := none }

def pool16 : Array CpInfo := pool [(1, .methodref 2 3), (0, .class_ 4), (0, .nameAndType 5 6), (0, u "java/util/AbstractCollection"), (0, u "<init>"), (0, u "()V"), (0, .fieldref 8 9), (0, .class_ 10), (0, .nameAndType 11 12), (0, u "java/util/AbstractList"), (0, u "modCount"), (0, u "I"), (64, .class_ 78), (0, u "java/util/AbstractList$Itr"), (3, .class_ 83), (0, u "java/util/AbstractList$ListItr"), (9, .class_ 94), (0, u "java/util/AbstractList$RandomAccessSubList"), (3, .class_ 99), (0, u "java/util/AbstractList$SubList"), (33, .class_ 134), (0, u "java/util/List"), (73, .class_ 209), (0, u "java/util/AbstractList$SubList$1"), (0, .class_ 211), (0, u "java/util/AbstractList$RandomAccessSpliterator")] 6

def k16c0 : Code := cd_ 2 1 jdk_39_method_1_code
def k16m0 : Method := mt_ "<init>" "()V" [] (none) 4 (some k16c0)
/-- java/util/AbstractList -/
def k16 : Class := { plain "java/util/AbstractList" (some 10) with
  accessFlags := 1057
  interfaces := #[9]
  cf := some (fileOf pool16 8 #[.nestMembers #[93, 98, 208, 210, 82, 77]] #[mi_ 4 5 6] 1057 2 #[133] #[fi_ 132 11 12])
  fields := #[fd_ "modCount" .int 132 0]
  methods := #[k16m0]
  instanceTypes := #[.int]
  staticTypes := #[]
  resolved := Array.replicate 218 none
  statics := none }

def pool17 : Array CpInfo := pool [(1, .class_ 2), (0, u "java/lang/Cloneable"), (0, .class_ 4), (0, u "java/lang/Object")] 2

/-- java/lang/Cloneable -/
def k17 : Class := { plain "java/lang/Cloneable" (some 0) with
  accessFlags := 1537
  interfaces := #[]
  cf := some (fileOf pool17 1 #[] #[] 1537 3 #[] #[])
  fields := #[]
  methods := #[]
  instanceTypes := #[]
  staticTypes := #[]
  resolved := Array.replicate 7 none
  statics := none }

def pool18 : Array CpInfo := pool [(1, .methodref 2 3), (0, .class_ 4), (0, .nameAndType 5 6), (0, u "java/util/AbstractList"), (0, u "<init>"), (0, u "()V"), (0, .class_ 8), (0, u "java/lang/Object"), (0, .fieldref 10 11), (0, .class_ 12), (0, .nameAndType 13 14), (0, u "java/util/ArrayList"), (0, u "elementData"), (0, u "[Ljava/lang/Object;"), (0, .fieldref 10 16), (0, .nameAndType 17 14), (0, u "EMPTY_ELEMENTDATA"), (21, .fieldref 10 40), (0, .nameAndType 41 14), (0, u "DEFAULTCAPACITY_EMPTY_ELEMENTDATA"), (0, .interfaceMethodref 43 44), (0, .class_ 45), (0, .nameAndType 46 47), (0, u "java/util/Collection"), (0, u "toArray"), (0, u "()[Ljava/lang/Object;"), (0, .fieldref 10 49), (0, .nameAndType 50 51), (0, u "size"), (0, u "I"), (0, .interfaceMethodref 43 53), (0, .nameAndType 54 55), (0, u "getClass"), (0, u "()Ljava/lang/Class;"), (0, .class_ 14), (0, .methodref 58 59), (0, .class_ 60), (0, .nameAndType 61 62), (0, u "java/util/Arrays"), (0, u "copyOf"), (0, u "([Ljava/lang/Object;ILjava/lang/Class;)[Ljava/lang/Object;"), (0, .fieldref 10 64), (0, .nameAndType 65 51), (0, u "modCount"), (0, .methodref 58 67), (0, .nameAndType 61 68), (0, u "([Ljava/lang/Object;I)[Ljava/lang/Object;"), (0, .methodref 10 70), (0, .nameAndType 71 72), (0, u "grow"), (0, u "(I)[Ljava/lang/Object;"), (0, .methodref 74 75), (0, .class_ 76), (0, .nameAndType 77 78), (0, u "jdk/internal/util/ArraysSupport"), (0, u "newLength"), (0, u "(III)I"), (0, .methodref 80 81), (0, .class_ 82), (0, .nameAndType 83 84), (0, u "java/lang/Math"), (0, u "max"), (0, u "(II)I"), (11, u "(Ljava/lang/Object;)Z"), (21, .methodref 119 120), (0, .class_ 121), (0, .nameAndType 122 84), (0, u "java/util/Objects"), (0, u "checkIndex"), (0, .methodref 10 124), (0, .nameAndType 13 125), (0, u "(I)Ljava/lang/Object;"), (3, .methodref 10 130), (0, .nameAndType 71 47), (0, .methodref 10 132), (0, .nameAndType 133 134), (0, u "add"), (0, u "(Ljava/lang/Object;[Ljava/lang/Object;I)V"), (13, .class_ 149), (0, u "java/util/List"), (16, u "iterator"), (0, u "()Ljava/util/Iterator;"), (5, u "()Z"), (12, u "()I"), (75, .class_ 263), (0, u "java/util/ArrayList$ListItr"), (3, .class_ 268), (0, u "java/util/ArrayList$Itr"), (0, .methodref 267 270), (0, .nameAndType 5 271), (0, u "(Ljava/util/ArrayList;)V"), (4, .class_ 277), (0, u "java/util/ArrayList$SubList"), (12, .class_ 291), (0, u "java/util/ArrayList$ArrayListSpliterator"), (37, .class_ 330), (0, u "java/util/RandomAccess"), (0, .class_ 332), (0, u "java/lang/Cloneable"), (0, .class_ 334), (0, u "java/io/Serializable"), (0, u "serialVersionUID"), (0, u "J"), (3, u "DEFAULT_CAPACITY"), (10, u "(Ljava/util/Collection;)V"), (11, u "isEmpty"), (17, u "get"), (118, .class_ 501), (0, u "java/util/ArrayList$SubList$2"), (0, .class_ 503), (0, u "java/util/ArrayList$SubList$1")] 5

def k18c0 : Code := cd_ 2 1 jdk_38_method_2_code
def k18m0 : Method := mt_ "<init>" "()V" [] (none) 1 (some k18c0)
def k18c1 : Code := cd_ 4 3 jdk_38_method_3_code
def k18m1 : Method := mt_ "<init>" "(Ljava/util/Collection;)V" [(.object "java/util/Collection")] (none) 1 (some k18c1)
def k18c2 : Code := cd_ 4 4 jdk_38_method_6_code
def k18m2 : Method := mt_ "grow" "(I)[Ljava/lang/Object;" [.int] (some (.array (.object "java/lang/Object"))) 2 (some k18c2)
def k18c3 : Code := cd_ 3 1 jdk_38_method_7_code
def k18m3 : Method := mt_ "grow" "()[Ljava/lang/Object;" [] (some (.array (.object "java/lang/Object"))) 2 (some k18c3)
def k18c4 : Code := cd_ 1 1 jdk_38_method_8_code
def k18m4 : Method := mt_ "size" "()I" [] (some .int) 1 (some k18c4)
def k18c5 : Code := cd_ 1 1 jdk_38_method_9_code
def k18m5 : Method := mt_ "isEmpty" "()Z" [] (some .boolean) 1 (some k18c5)
def k18c6 : Code := cd_ 2 1 jdk_38_method_16_code
def k18m6 : Method := mt_ "toArray" "()[Ljava/lang/Object;" [] (some (.array (.object "java/lang/Object"))) 1 (some k18c6)
def k18c7 : Code := cd_ 2 2 jdk_38_method_18_code
def k18m7 : Method := mt_ "elementData" "(I)Ljava/lang/Object;" [.int] (some (.object "java/lang/Object")) 0 (some k18c7)
def k18c8 : Code := cd_ 2 2 jdk_38_method_20_code
def k18m8 : Method := mt_ "get" "(I)Ljava/lang/Object;" [.int] (some (.object "java/lang/Object")) 1 (some k18c8)
def k18c9 : Code := cd_ 3 4 jdk_38_method_24_code
def k18m9 : Method := mt_ "add" "(Ljava/lang/Object;[Ljava/lang/Object;I)V" [(.object "java/lang/Object"), (.array (.object "java/lang/Object")), .int] (none) 2 (some k18c9)
def k18c10 : Code := cd_ 4 2 jdk_38_method_25_code
def k18m10 : Method := mt_ "add" "(Ljava/lang/Object;)Z" [(.object "java/lang/Object")] (some .boolean) 1 (some k18c10)
def k18c11 : Code := cd_ 3 1 jdk_38_method_55_code
def k18m11 : Method := mt_ "iterator" "()Ljava/util/Iterator;" [] (some (.object "java/util/Iterator")) 1 (some k18c11)
/-- java/util/ArrayList -/
def k18 : Class := { plain "java/util/ArrayList" (some 16) with
  accessFlags := 33
  interfaces := #[9, 12, 17, 14]
  cf := some (fileOf pool18 10 #[.nestMembers #[290, 276, 500, 502, 262, 267]] #[mi_ 1 5 6, mi_ 1 5 351, mi_ 2 71 72, mi_ 2 71 47, mi_ 1 50 186, mi_ 1 363 173, mi_ 1 46 47, mi_ 0 13 125, mi_ 1 381 125, mi_ 2 133 134, mi_ 1 133 96, mi_ 1 166 167] 33 2 #[148, 329, 331, 333] #[fi_ 26 335 336, fi_ 26 340 51, fi_ 26 17 14, fi_ 26 41 14, fi_ 128 13 14, fi_ 2 50 51])
  fields := #[fd_ "serialVersionUID" .long 26 0, fd_ "DEFAULT_CAPACITY" .int 26 1, fd_ "EMPTY_ELEMENTDATA" (.array (.object "java/lang/Object")) 26 2, fd_ "DEFAULTCAPACITY_EMPTY_ELEMENTDATA" (.array (.object "java/lang/Object")) 26 3, fd_ "elementData" (.array (.object "java/lang/Object")) 128 1, fd_ "size" .int 2 2]
  methods := #[k18m0, k18m1, k18m2, k18m3, k18m4, k18m5, k18m6, k18m7, k18m8, k18m9, k18m10, k18m11]
  instanceTypes := #[.int, (.array (.object "java/lang/Object")), .int]
  staticTypes := #[.long, .int, (.array (.object "java/lang/Object")), (.array (.object "java/lang/Object"))]
  resolved := Array.replicate 509 none
  mirror := some 6
  statics := some 2 }

def pool19 : Array CpInfo := pool [(2, .class_ 4), (1, u "java/lang/Object"), (0, u "<init>"), (0, u "()V"), (7, .class_ 16), (1, u "java/util/Arrays"), (57, .class_ 76), (1, u "java/util/Arrays$NaturalOrder"), (9, .methodref 2 87), (0, .nameAndType 88 89), (0, u "getClass"), (0, u "()Ljava/lang/Class;"), (20, .class_ 111), (0, u "[Ljava/lang/Object;"), (1, .class_ 115), (1, u "java/util/Arrays$LegacyMergeSort"), (1, u "Z"), (32, .methodref 151 152), (0, .class_ 153), (0, .nameAndType 154 155), (0, u "java/lang/System"), (0, u "arraycopy"), (0, u "(Ljava/lang/Object;ILjava/lang/Object;II)V"), (144, .methodref 14 301), (0, .nameAndType 302 303), (0, u "copyOf"), (0, u "([Ljava/lang/Object;ILjava/lang/Class;)[Ljava/lang/Object;"), (0, .methodref 305 306), (0, .class_ 307), (0, .nameAndType 308 309), (0, u "java/lang/Math"), (0, u "min"), (0, u "(II)I"), (65, .class_ 376), (0, u "java/util/Arrays$ArrayList"), (68, u "$assertionsDisabled"), (269, u "MIN_ARRAY_SORT_GRAN"), (0, u "I"), (2, u "INSERTIONSORT_THRESHOLD"), (140, u "([Ljava/lang/Object;I)[Ljava/lang/Object;"), (114, .class_ 976), (0, u "java/util/Arrays$ArrayItr")] 52

def k19m0 : Method := mt_ "<init>" "()V" [] (none) 2 (none)
def k19c1 : Code := cd_ 3 2 jdk_65_method_119_code
def k19m1 : Method := mt_ "copyOf" "([Ljava/lang/Object;I)[Ljava/lang/Object;" [(.array (.object "java/lang/Object")), .int] (some (.array (.object "java/lang/Object"))) 9 (some k19c1)
def k19c2 : Code := cd_ 6 4 jdk_65_method_120_code
def k19m2 : Method := mt_ "copyOf" "([Ljava/lang/Object;ILjava/lang/Class;)[Ljava/lang/Object;" [(.array (.object "java/lang/Object")), .int, (.object "java/lang/Class")] (some (.array (.object "java/lang/Object"))) 9 (some k19c2)
/-- java/util/Arrays -/
def k19 : Class := { plain "java/util/Arrays" (some 0) with
  accessFlags := 49
  interfaces := #[]
  cf := some (fileOf pool19 14 #[.nestMembers #[975, 375, 113, 74]] #[mi_ 2 5 6, mi_ 9 302 860, mi_ 9 302 303] 49 2 #[] #[fi_ 26 715 716, fi_ 26 719 716, fi_ 4120 445 117])
  fields := #[fd_ "MIN_ARRAY_SORT_GRAN" .int 26 0, fd_ "INSERTIONSORT_THRESHOLD" .int 26 1, fd_ "$assertionsDisabled" .boolean 4120 2]
  methods := #[k19m0, k19m1, k19m2]
  instanceTypes := #[]
  staticTypes := #[.int, .int, .boolean]
  resolved := Array.replicate 1029 none
  statics := none }

def pool20 : Array CpInfo := pool [(1, .class_ 2), (0, u "java/lang/Math"), (1, .class_ 6), (1, u "java/lang/Object"), (0, u "<init>"), (0, u "()V"), (89, .class_ 100), (1, u "java/lang/Math$RandomNumberGeneratorHolder"), (20, u "(JJ)J"), (50, u "negativeZeroFloatBits"), (0, u "J"), (2, u "negativeZeroDoubleBits"), (21, u "max"), (2, u "min"), (43, u "$assertionsDisabled"), (0, u "Z"), (88, u "(II)I"), (2, u "twoToTheDoubleScaleDown"), (0, u "D"), (4, u "twoToTheDoubleScaleUp"), (9, u "E"), (3, u "PI"), (2, u "TAU"), (2, u "DEGREES_TO_RADIANS"), (0, u "RADIANS_TO_DEGREES")] 94

def k20m0 : Method := mt_ "<init>" "()V" [] (none) 2 (none)
def k20c1 : Code := cd_ 2 2 jdk_29_method_65_code
def k20m1 : Method := mt_ "max" "(II)I" [.int, .int] (some .int) 9 (some k20c1)
def k20c2 : Code := cd_ 2 2 jdk_29_method_69_code
def k20m2 : Method := mt_ "min" "(II)I" [.int, .int] (some .int) 9 (some k20c2)
def k20c3 : Code := cd_ 4 4 jdk_29_method_70_code
def k20m3 : Method := mt_ "min" "(JJ)J" [.long, .long] (some .long) 9 (some k20c3)
/-- java/lang/Math -/
def k20 : Class := { plain "java/lang/Math" (some 0) with
  accessFlags := 49
  interfaces := #[]
  cf := some (fileOf pool20 1 #[.nestMembers #[98]] #[mi_ 2 7 8, mi_ 9 198 335, mi_ 9 201 335, mi_ 9 201 121] 49 4 #[] #[fi_ 25 354 339, fi_ 25 358 339, fi_ 25 361 339, fi_ 26 364 339, fi_ 26 365 339, fi_ 26 172 173, fi_ 26 176 173, fi_ 8 344 339, fi_ 8 338 339, fi_ 4120 245 246])
  fields := #[fd_ "E" .double 25 0, fd_ "PI" .double 25 1, fd_ "TAU" .double 25 2, fd_ "DEGREES_TO_RADIANS" .double 26 3, fd_ "RADIANS_TO_DEGREES" .double 26 4, fd_ "negativeZeroFloatBits" .long 26 5, fd_ "negativeZeroDoubleBits" .long 26 6, fd_ "twoToTheDoubleScaleUp" .double 8 7, fd_ "twoToTheDoubleScaleDown" .double 8 8, fd_ "$assertionsDisabled" .boolean 4120 9]
  methods := #[k20m0, k20m1, k20m2, k20m3]
  instanceTypes := #[]
  staticTypes := #[.double, .double, .double, .double, .double, .long, .long, .double, .double, .boolean]
  resolved := Array.replicate 460 none
  statics := none }

def pool21 : Array CpInfo := pool [(2, .class_ 4), (1, u "java/lang/Object"), (0, u "<init>"), (0, u "()V"), (1, .class_ 10), (1, u "java/lang/System"), (0, u "allowSecurityManager"), (0, u "I"), (16, u "cons"), (0, u "Ljava/io/Console;"), (77, .class_ 110), (1, u "java/lang/System$CallersHolder"), (43, u "initialErrStream"), (0, u "Ljava/io/PrintStream;"), (19, u "security"), (0, u "Ljava/lang/SecurityManager;"), (31, .class_ 209), (0, u "java/lang/System$1"), (7, u "props"), (0, u "Ljava/util/Properties;"), (2, u "lineSeparator"), (0, u "Ljava/lang/String;"), (96, .class_ 321), (1, u "java/lang/System$LoggerFinder"), (5, .class_ 328), (0, u "java/lang/System$Logger"), (67, u "err"), (2, u "out"), (91, u "notSupportedJnuEncoding"), (15, u "in"), (17, u "initialIn"), (0, u "Ljava/io/InputStream;"), (35, u "bootLayer"), (0, u "Ljava/lang/ModuleLayer;"), (99, .class_ 664), (0, u "java/lang/System$2"), (9, u "NEVER"), (2, u "MAYBE"), (49, u "arraycopy"), (0, u "(Ljava/lang/Object;ILjava/lang/Object;II)V"), (72, .class_ 802), (0, u "java/lang/System$Logger$Level")] 31

def k21m0 : Method := mt_ "<init>" "()V" [] (none) 2 (none)
def k21m1 : Method := mt_ "arraycopy" "(Ljava/lang/Object;ILjava/lang/Object;II)V" [(.object "java/lang/Object"), .int, (.object "java/lang/Object"), .int, .int] (none) 265 (none)
/-- java/lang/System -/
def k21 : Class := { plain "java/lang/System" (some 0) with
  accessFlags := 49
  interfaces := #[]
  cf := some (fileOf pool21 8 #[.nestMembers #[319, 327, 801, 108, 663, 208]] #[mi_ 2 5 6, mi_ 265 727 728] 49 2 #[] #[fi_ 25 507 526, fi_ 25 399 155, fi_ 25 396 155, fi_ 10 525 526, fi_ 26 674 12, fi_ 26 677 12, fi_ 10 11 12, fi_ 74 175 176, fi_ 10 491 222, fi_ 74 29 30, fi_ 74 154 155, fi_ 10 217 218, fi_ 10 221 222, fi_ 8 562 563])
  fields := #[fd_ "in" (.object "java/io/InputStream") 25 0, fd_ "out" (.object "java/io/PrintStream") 25 1, fd_ "err" (.object "java/io/PrintStream") 25 2, fd_ "initialIn" (.object "java/io/InputStream") 10 3, fd_ "NEVER" .int 26 4, fd_ "MAYBE" .int 26 5, fd_ "allowSecurityManager" .int 10 6, fd_ "security" (.object "java/lang/SecurityManager") 74 7, fd_ "notSupportedJnuEncoding" (.object "java/lang/String") 10 8, fd_ "cons" (.object "java/io/Console") 74 9, fd_ "initialErrStream" (.object "java/io/PrintStream") 74 10, fd_ "props" (.object "java/util/Properties") 10 11, fd_ "lineSeparator" (.object "java/lang/String") 10 12, fd_ "bootLayer" (.object "java/lang/ModuleLayer") 8 13]
  methods := #[k21m0, k21m1]
  instanceTypes := #[]
  staticTypes := #[(.object "java/io/InputStream"), (.object "java/io/PrintStream"), (.object "java/io/PrintStream"), (.object "java/io/InputStream"), .int, .int, .int, (.object "java/lang/SecurityManager"), (.object "java/lang/String"), (.object "java/io/Console"), (.object "java/io/PrintStream"), (.object "java/util/Properties"), (.object "java/lang/String"), (.object "java/lang/ModuleLayer")]
  resolved := Array.replicate 834 none
  statics := none }

def pool22 : Array CpInfo := pool [(1, .methodref 2 3), (0, .class_ 4), (0, .nameAndType 5 6), (0, u "java/lang/Record"), (0, u "<init>"), (0, u "()V"), (0, .fieldref 8 9), (0, .class_ 10), (0, .nameAndType 11 12), (0, u "com/example/clean_epoch/cleanepoch/log/Lineage$Entry"), (0, u "epoch"), (0, u "I"), (0, .fieldref 8 14), (0, .nameAndType 15 16), (0, u "startOffset"), (0, u "J"), (12, u "(IJ)V"), (5, u "()I"), (1, u "()J"), (3, .class_ 42), (0, u "com/example/clean_epoch/cleanepoch/log/Lineage")] 28

def k22c0 : Code := cd_ 3 4 prog_23_method_1_code
def k22m0 : Method := mt_ "<init>" "(IJ)V" [.int, .long] (none) 1 (some k22c0)
def k22c1 : Code := cd_ 1 1 prog_23_method_5_code
def k22m1 : Method := mt_ "epoch" "()I" [] (some .int) 1 (some k22c1)
def k22c2 : Code := cd_ 2 1 prog_23_method_6_code
def k22m2 : Method := mt_ "startOffset" "()J" [] (some .long) 1 (some k22c2)
/-- com/example/clean_epoch/cleanepoch/log/Lineage$Entry -/
def k22 : Class := { plain "com/example/clean_epoch/cleanepoch/log/Lineage$Entry" (some 2) with
  accessFlags := 49
  interfaces := #[]
  cf := some (fileOf pool22 8 #[.nestHost 41] #[mi_ 1 5 29, mi_ 1 11 35, mi_ 1 15 37] 49 2 #[] #[fi_ 18 11 12, fi_ 18 15 16])
  fields := #[fd_ "epoch" .int 18 0, fd_ "startOffset" .long 18 1]
  methods := #[k22m0, k22m1, k22m2]
  instanceTypes := #[.int, .long]
  staticTypes := #[]
  resolved := Array.replicate 71 none
  statics := none }

def pool23 : Array CpInfo := pool [(9, u "<init>"), (6, .class_ 18), (1, u "java/lang/Object"), (0, u "()V"), (1, .class_ 23), (1, u "jdk/internal/util/ArraysSupport"), (0, u "LOG2_ARRAY_LONG_INDEX_SCALE"), (0, u "I"), (2, u "U"), (0, u "Ljdk/internal/misc/Unsafe;"), (8, u "BIG_ENDIAN"), (0, u "Z"), (8, u "LOG2_BYTE_BIT_SIZE"), (4, u "LOG2_ARRAY_INT_INDEX_SCALE"), (54, u "JLA"), (0, u "Ljdk/internal/access/JavaLangAccess;"), (11, u "LOG2_ARRAY_BOOLEAN_INDEX_SCALE"), (9, u "LOG2_ARRAY_BYTE_INDEX_SCALE"), (5, u "LOG2_ARRAY_CHAR_INDEX_SCALE"), (5, u "LOG2_ARRAY_SHORT_INDEX_SCALE"), (18, u "LOG2_ARRAY_FLOAT_INDEX_SCALE"), (24, u "LOG2_ARRAY_DOUBLE_INDEX_SCALE"), (6, .methodref 195 196), (0, .class_ 197), (0, .nameAndType 198 199), (0, u "java/lang/Math"), (0, u "max"), (0, u "(II)I"), (0, .integer 2147483639), (76, u "T_BOOLEAN"), (2, u "T_CHAR"), (1, u "T_FLOAT"), (1, u "T_DOUBLE"), (1, u "T_BYTE"), (1, u "T_SHORT"), (1, u "T_INT"), (1, u "T_LONG"), (1, u "SOFT_MAX_ARRAY_LENGTH"), (56, u "newLength"), (0, u "(III)I")] 25

def k23m0 : Method := mt_ "<init>" "()V" [] (none) 2 (none)
def k23c1 : Code := cd_ 3 4 jdk_48_method_27_code
def k23m1 : Method := mt_ "newLength" "(III)I" [.int, .int, .int] (some .int) 9 (some k23c1)
/-- jdk/internal/util/ArraysSupport -/
def k23 : Class := { plain "jdk/internal/util/ArraysSupport" (some 0) with
  accessFlags := 33
  interfaces := #[]
  cf := some (fileOf pool23 21 #[] #[mi_ 2 9 19, mi_ 9 351 352] 33 16 #[] #[fi_ 24 28 29, fi_ 26 38 39, fi_ 25 121 25, fi_ 25 131 25, fi_ 25 137 25, fi_ 25 143 25, fi_ 25 53 25, fi_ 25 24 25, fi_ 25 162 25, fi_ 25 187 25, fi_ 26 48 25, fi_ 25 277 25, fi_ 25 280 25, fi_ 25 282 25, fi_ 25 284 25, fi_ 25 286 25, fi_ 25 288 25, fi_ 25 290 25, fi_ 25 292 25, fi_ 26 108 109, fi_ 25 294 25])
  fields := #[fd_ "U" (.object "jdk/internal/misc/Unsafe") 24 0, fd_ "BIG_ENDIAN" .boolean 26 1, fd_ "LOG2_ARRAY_BOOLEAN_INDEX_SCALE" .int 25 2, fd_ "LOG2_ARRAY_BYTE_INDEX_SCALE" .int 25 3, fd_ "LOG2_ARRAY_CHAR_INDEX_SCALE" .int 25 4, fd_ "LOG2_ARRAY_SHORT_INDEX_SCALE" .int 25 5, fd_ "LOG2_ARRAY_INT_INDEX_SCALE" .int 25 6, fd_ "LOG2_ARRAY_LONG_INDEX_SCALE" .int 25 7, fd_ "LOG2_ARRAY_FLOAT_INDEX_SCALE" .int 25 8, fd_ "LOG2_ARRAY_DOUBLE_INDEX_SCALE" .int 25 9, fd_ "LOG2_BYTE_BIT_SIZE" .int 26 10, fd_ "T_BOOLEAN" .int 25 11, fd_ "T_CHAR" .int 25 12, fd_ "T_FLOAT" .int 25 13, fd_ "T_DOUBLE" .int 25 14, fd_ "T_BYTE" .int 25 15, fd_ "T_SHORT" .int 25 16, fd_ "T_INT" .int 25 17, fd_ "T_LONG" .int 25 18, fd_ "JLA" (.object "jdk/internal/access/JavaLangAccess") 26 19, fd_ "SOFT_MAX_ARRAY_LENGTH" .int 25 20]
  methods := #[k23m0, k23m1]
  instanceTypes := #[]
  staticTypes := #[(.object "jdk/internal/misc/Unsafe"), .boolean, .int, .int, .int, .int, .int, .int, .int, .int, .int, .int, .int, .int, .int, .int, .int, .int, .int, (.object "jdk/internal/access/JavaLangAccess"), .int]
  resolved := Array.replicate 378 none
  statics := none }

def pool24 : Array CpInfo := pool [(16, .class_ 18), (1, u "java/util/Iterator"), (0, u "hasNext"), (0, u "()Z"), (2, u "next"), (0, u "()Ljava/lang/Object;"), (6, .class_ 32), (0, u "java/lang/Object")] 20

def k24m0 : Method := mt_ "hasNext" "()Z" [] (some .boolean) 1025 (none)
def k24m1 : Method := mt_ "next" "()Ljava/lang/Object;" [] (some (.object "java/lang/Object")) 1025 (none)
/-- java/util/Iterator -/
def k24 : Class := { plain "java/util/Iterator" (some 0) with
  accessFlags := 1537
  interfaces := #[]
  cf := some (fileOf pool24 16 #[] #[mi_ 1025 19 20, mi_ 1025 23 24] 1537 31 #[] #[])
  fields := #[]
  methods := #[k24m0, k24m1]
  instanceTypes := #[]
  staticTypes := #[]
  resolved := Array.replicate 53 none
  statics := none }

def pool25 : Array CpInfo := pool [(1, .fieldref 2 3), (0, .class_ 4), (0, .nameAndType 5 6), (0, u "java/util/ArrayList$Itr"), (0, u "this$0"), (0, u "Ljava/util/ArrayList;"), (0, .methodref 8 9), (0, .class_ 10), (0, .nameAndType 11 12), (0, u "java/lang/Object"), (0, u "<init>"), (0, u "()V"), (0, .fieldref 2 14), (0, .nameAndType 15 16), (0, u "lastRet"), (0, u "I"), (0, .fieldref 18 19), (0, .class_ 20), (0, .nameAndType 21 16), (0, u "java/util/ArrayList"), (0, u "modCount"), (0, .fieldref 2 23), (0, .nameAndType 24 16), (0, u "expectedModCount"), (0, .fieldref 2 26), (0, .nameAndType 27 16), (0, u "cursor"), (0, .fieldref 18 29), (0, .nameAndType 30 16), (0, u "size"), (0, .methodref 2 32), (0, .nameAndType 33 12), (0, u "checkForComodification"), (3, .fieldref 18 38), (0, .nameAndType 39 40), (0, u "elementData"), (0, u "[Ljava/lang/Object;"), (28, .class_ 70), (0, u "java/util/Iterator"), (0, u "(Ljava/util/ArrayList;)V"), (8, u "hasNext"), (0, u "()Z"), (1, u "next"), (0, u "()Ljava/lang/Object;")] 19

def k25c0 : Code := cd_ 2 2 jdk_49_method_1_code
def k25m0 : Method := mt_ "<init>" "(Ljava/util/ArrayList;)V" [(.object "java/util/ArrayList")] (none) 0 (some k25c0)
def k25c1 : Code := cd_ 2 1 jdk_49_method_2_code
def k25m1 : Method := mt_ "hasNext" "()Z" [] (some .boolean) 1 (some k25c1)
def k25c2 : Code := cd_ 4 3 jdk_49_method_3_code
def k25m2 : Method := mt_ "next" "()Ljava/lang/Object;" [] (some (.object "java/lang/Object")) 1 (some k25c2)
def k25c3 : Code := cd_ 2 1 jdk_49_method_6_code
def k25m3 : Method := mt_ "checkForComodification" "()V" [] (none) 16 (some k25c3)
/-- java/util/ArrayList$Itr -/
def k25 : Class := { plain "java/util/ArrayList$Itr" (some 0) with
  accessFlags := 32
  interfaces := #[24]
  cf := some (fileOf pool25 2 #[.nestHost 18] #[mi_ 0 11 71, mi_ 1 80 81, mi_ 1 83 84, mi_ 16 33 12] 32 8 #[69] #[fi_ 0 27 16, fi_ 0 15 16, fi_ 0 24 16, fi_ 4112 5 6])
  fields := #[fd_ "cursor" .int 0 0, fd_ "lastRet" .int 0 1, fd_ "expectedModCount" .int 0 2, fd_ "this$0" (.object "java/util/ArrayList") 4112 3]
  methods := #[k25m0, k25m1, k25m2, k25m3]
  instanceTypes := #[.int, .int, .int, (.object "java/util/ArrayList")]
  staticTypes := #[]
  resolved := Array.replicate 104 none
  statics := none }

def pool26 : Array CpInfo := pool [(2, .class_ 4), (1, u "java/lang/Object"), (0, u "<init>"), (0, u "()V"), (3, .class_ 11), (0, u "java/util/ImmutableCollections$List12"), (0, .class_ 13), (0, u "java/util/ImmutableCollections$ListN"), (3, u "Z"), (0, .class_ 19), (0, u "java/util/List"), (0, .interfaceMethodref 21 22), (0, .class_ 23), (0, .nameAndType 24 25), (0, u "java/util/Collection"), (0, u "isEmpty"), (0, u "()Z"), (0, .interfaceMethodref 18 27), (0, .nameAndType 28 29), (0, u "of"), (0, u "()Ljava/util/List;"), (0, .interfaceMethodref 21 31), (0, .nameAndType 32 33), (0, u "toArray"), (0, u "()[Ljava/lang/Object;"), (0, .interfaceMethodref 18 35), (0, .nameAndType 28 36), (0, u "([Ljava/lang/Object;)Ljava/util/List;"), (10, .class_ 49), (1, u "java/util/ImmutableCollections"), (0, u "$assertionsDisabled"), (5, u "[Ljava/lang/Object;"), (5, u "EMPTY_LIST"), (0, u "Ljava/util/ImmutableCollections$ListN;"), (8, u "EMPTY_LIST_NULLS"), (22, u "SALT32L"), (0, u "J"), (2, u "REVERSE"), (6, u "archivedObjects"), (2, u "EMPTY"), (0, u "Ljava/lang/Object;"), (0, .class_ 112), (0, u "java/util/ImmutableCollections$SetN"), (5, u "EMPTY_SET"), (0, u "Ljava/util/ImmutableCollections$SetN;"), (0, .class_ 121), (0, u "java/util/ImmutableCollections$MapN"), (3, u "EMPTY_MAP"), (0, u "Ljava/util/ImmutableCollections$MapN;"), (4, u "EXPAND_FACTOR"), (0, u "I"), (9, u "listCopy"), (0, u "(Ljava/util/Collection;)Ljava/util/List;"), (25, .class_ 170), (0, u "java/util/ImmutableCollections$MapN$MapNIterator"), (0, .class_ 172), (0, u "java/util/ImmutableCollections$MapN$1"), (0, .class_ 174), (0, u "java/util/ImmutableCollections$Map1"), (0, .class_ 176), (0, u "java/util/ImmutableCollections$AbstractImmutableMap"), (0, .class_ 178), (0, u "java/util/ImmutableCollections$SetN$SetNIterator"), (0, .class_ 180), (0, u "java/util/ImmutableCollections$Set12"), (0, .class_ 182), (0, u "java/util/ImmutableCollections$Set12$1"), (0, .class_ 184), (0, u "java/util/ImmutableCollections$AbstractImmutableSet"), (0, .class_ 186), (0, u "java/util/ImmutableCollections$SubList"), (0, .class_ 188), (0, u "java/util/ImmutableCollections$ListItr"), (0, .class_ 190), (0, u "java/util/ImmutableCollections$AbstractImmutableList"), (0, .class_ 192), (0, u "java/util/ImmutableCollections$AbstractImmutableCollection"), (0, .class_ 194), (0, u "java/util/ImmutableCollections$Access"), (0, .class_ 196), (0, u "java/util/ImmutableCollections$Access$1")] 16

def k26m0 : Method := mt_ "<init>" "()V" [] (none) 2 (none)
def k26c1 : Code := cd_ 1 2 jdk_56_method_3_code
def k26m1 : Method := mt_ "listCopy" "(Ljava/util/Collection;)Ljava/util/List;" [(.object "java/util/Collection")] (some (.object "java/util/List")) 8 (some k26c1)
/-- java/util/ImmutableCollections -/
def k26 : Class := { plain "java/util/ImmutableCollections" (some 0) with
  accessFlags := 32
  interfaces := #[]
  cf := some (fileOf pool26 47 #[.nestMembers #[120, 169, 171, 173, 175, 111, 177, 179, 181, 183, 12, 10, 185, 187, 189, 191, 193, 195]] #[mi_ 2 5 6, mi_ 8 142 143] 32 2 #[] #[fi_ 26 95 96, fi_ 26 99 17, fi_ 10 106 56, fi_ 26 109 110, fi_ 24 62 63, fi_ 24 72 63, fi_ 24 118 119, fi_ 24 125 126, fi_ 24 131 132, fi_ 4120 50 17])
  fields := #[fd_ "SALT32L" .long 26 0, fd_ "REVERSE" .boolean 26 1, fd_ "archivedObjects" (.array (.object "java/lang/Object")) 10 2, fd_ "EMPTY" (.object "java/lang/Object") 26 3, fd_ "EMPTY_LIST" (.object "java/util/ImmutableCollections$ListN") 24 4, fd_ "EMPTY_LIST_NULLS" (.object "java/util/ImmutableCollections$ListN") 24 5, fd_ "EMPTY_SET" (.object "java/util/ImmutableCollections$SetN") 24 6, fd_ "EMPTY_MAP" (.object "java/util/ImmutableCollections$MapN") 24 7, fd_ "EXPAND_FACTOR" .int 24 8, fd_ "$assertionsDisabled" .boolean 4120 9]
  methods := #[k26m0, k26m1]
  instanceTypes := #[]
  staticTypes := #[.long, .boolean, (.array (.object "java/lang/Object")), (.object "java/lang/Object"), (.object "java/util/ImmutableCollections$ListN"), (.object "java/util/ImmutableCollections$ListN"), (.object "java/util/ImmutableCollections$SetN"), (.object "java/util/ImmutableCollections$MapN"), .int, .boolean]
  resolved := Array.replicate 213 none
  statics := some 3 }

def pool27 : Array CpInfo := pool [(1, .methodref 2 3), (0, .class_ 4), (0, .nameAndType 5 6), (0, u "java/util/ImmutableCollections$AbstractImmutableList"), (0, u "<init>"), (0, u "()V"), (0, .methodref 8 9), (0, .class_ 10), (0, .nameAndType 11 12), (0, u "java/util/Objects"), (0, u "requireNonNull"), (0, u "(Ljava/lang/Object;)Ljava/lang/Object;"), (0, .fieldref 14 15), (0, .class_ 16), (0, .nameAndType 17 18), (0, u "java/util/ImmutableCollections$List12"), (0, u "e0"), (0, u "Ljava/lang/Object;"), (0, .fieldref 20 21), (0, .class_ 22), (0, .nameAndType 23 18), (0, u "java/util/ImmutableCollections"), (0, u "EMPTY"), (0, .fieldref 14 25), (0, .nameAndType 26 18), (0, u "e1"), (5, .class_ 34), (1, u "java/lang/Object"), (16, u "size"), (0, u "()I"), (17, .class_ 71), (0, u "java/io/Serializable"), (4, u "(Ljava/lang/Object;)V"), (8, u "(Ljava/lang/Object;Ljava/lang/Object;)V"), (2, u "isEmpty"), (0, u "()Z"), (0, u "get"), (0, u "(I)Ljava/lang/Object;"), (18, u "toArray"), (0, u "()[Ljava/lang/Object;")] 13

def k27c0 : Code := cd_ 2 2 jdk_44_method_1_code
def k27m0 : Method := mt_ "<init>" "(Ljava/lang/Object;)V" [(.object "java/lang/Object")] (none) 0 (some k27c0)
def k27c1 : Code := cd_ 2 3 jdk_44_method_2_code
def k27m1 : Method := mt_ "<init>" "(Ljava/lang/Object;Ljava/lang/Object;)V" [(.object "java/lang/Object"), (.object "java/lang/Object")] (none) 0 (some k27c1)
def k27c2 : Code := cd_ 2 1 jdk_44_method_3_code
def k27m2 : Method := mt_ "size" "()I" [] (some .int) 1 (some k27c2)
def k27c3 : Code := cd_ 1 1 jdk_44_method_4_code
def k27m3 : Method := mt_ "isEmpty" "()Z" [] (some .boolean) 1 (some k27c3)
def k27c4 : Code := cd_ 2 2 jdk_44_method_5_code
def k27m4 : Method := mt_ "get" "(I)Ljava/lang/Object;" [.int] (some (.object "java/lang/Object")) 1 (some k27c4)
def k27c5 : Code := cd_ 4 1 jdk_44_method_10_code
def k27m5 : Method := mt_ "toArray" "()[Ljava/lang/Object;" [] (some (.array (.object "java/lang/Object"))) 1 (some k27c5)
/-- java/util/ImmutableCollections$List12 -/
def k27 : Class := { plain "java/util/ImmutableCollections$List12" (some 13) with
  accessFlags := 48
  interfaces := #[14]
  cf := some (fileOf pool27 14 #[.nestHost 20] #[mi_ 0 5 76, mi_ 0 5 85, mi_ 1 51 52, mi_ 1 88 89, mi_ 1 90 91, mi_ 1 110 111] 48 2 #[70] #[fi_ 18 17 18, fi_ 18 26 18])
  fields := #[fd_ "e0" (.object "java/lang/Object") 18 0, fd_ "e1" (.object "java/lang/Object") 18 1]
  methods := #[k27m0, k27m1, k27m2, k27m3, k27m4, k27m5]
  instanceTypes := #[(.object "java/lang/Object"), (.object "java/lang/Object")]
  staticTypes := #[]
  resolved := Array.replicate 125 none
  mirror := some 5
  statics := none }

def pool28 : Array CpInfo := pool [(2, .class_ 4), (1, u "java/lang/Object"), (0, u "<init>"), (0, u "()V"), (35, .class_ 44), (1, u "java/util/Objects"), (0, u "requireNonNull"), (0, u "(Ljava/lang/Object;)Ljava/lang/Object;"), (58, .methodref 106 107), (0, .class_ 108), (0, .nameAndType 109 110), (0, u "jdk/internal/util/Preconditions"), (0, u "checkIndex"), (0, u "(IILjava/util/function/BiFunction;)I"), (60, u "(II)I")] 12

def k28m0 : Method := mt_ "<init>" "()V" [] (none) 2 (none)
def k28c1 : Code := cd_ 2 1 jdk_31_method_10_code
def k28m1 : Method := mt_ "requireNonNull" "(Ljava/lang/Object;)Ljava/lang/Object;" [(.object "java/lang/Object")] (some (.object "java/lang/Object")) 9 (some k28c1)
def k28c2 : Code := cd_ 3 2 jdk_31_method_17_code
def k28m2 : Method := mt_ "checkIndex" "(II)I" [.int, .int] (some .int) 9 (some k28c2)
/-- java/util/Objects -/
def k28 : Class := { plain "java/util/Objects" (some 0) with
  accessFlags := 49
  interfaces := #[]
  cf := some (fileOf pool28 42 #[] #[mi_ 2 5 6, mi_ 9 45 46, mi_ 9 109 171] 49 2 #[] #[])
  fields := #[]
  methods := #[k28m0, k28m1, k28m2]
  instanceTypes := #[]
  staticTypes := #[]
  resolved := Array.replicate 184 none
  statics := none }

def pool29 : Array CpInfo := pool [(2, .class_ 4), (1, u "java/lang/Object"), (0, u "<init>"), (0, u "()V"), (17, .class_ 26), (1, u "jdk/internal/util/Preconditions"), (6, u "checkIndex"), (21, .class_ 56), (0, u "jdk/internal/util/Preconditions$4"), (57, .class_ 115), (0, u "jdk/internal/util/Preconditions$1"), (7, u "SIOOBE_FORMATTER"), (0, u "Ljava/util/function/BiFunction;"), (0, .class_ 126), (0, u "jdk/internal/util/Preconditions$2"), (3, u "AIOOBE_FORMATTER"), (0, .class_ 132), (0, u "jdk/internal/util/Preconditions$3"), (3, u "IOOBE_FORMATTER"), (41, u "(IILjava/util/function/BiFunction;)I")] 15

def k29m0 : Method := mt_ "<init>" "()V" [] (none) 1 (none)
def k29c1 : Code := cd_ 3 3 jdk_41_method_11_code
def k29m1 : Method := mt_ "checkIndex" "(IILjava/util/function/BiFunction;)I" [.int, .int, (.object "java/util/function/BiFunction")] (some .int) 9 (some k29c1)
/-- jdk/internal/util/Preconditions -/
def k29 : Class := { plain "jdk/internal/util/Preconditions" (some 0) with
  accessFlags := 33
  interfaces := #[]
  cf := some (fileOf pool29 24 #[.nestMembers #[55, 131, 125, 114]] #[mi_ 1 5 6, mi_ 9 33 178] 33 2 #[] #[fi_ 25 123 124, fi_ 25 130 124, fi_ 25 136 124])
  fields := #[fd_ "SIOOBE_FORMATTER" (.object "java/util/function/BiFunction") 25 0, fd_ "AIOOBE_FORMATTER" (.object "java/util/function/BiFunction") 25 1, fd_ "IOOBE_FORMATTER" (.object "java/util/function/BiFunction") 25 2]
  methods := #[k29m0, k29m1]
  instanceTypes := #[]
  staticTypes := #[(.object "java/util/function/BiFunction"), (.object "java/util/function/BiFunction"), (.object "java/util/function/BiFunction")]
  resolved := Array.replicate 194 none
  statics := none }

def pool30 : Array CpInfo := pool [(1, .class_ 2), (0, u "java/util/ListIterator"), (0, .class_ 4), (0, u "java/lang/Object"), (0, .class_ 6), (0, u "java/util/Iterator")] 20

/-- java/util/ListIterator -/
def k30 : Class := { plain "java/util/ListIterator" (some 0) with
  accessFlags := 1537
  interfaces := #[24]
  cf := some (fileOf pool30 1 #[] #[] 1537 3 #[5] #[])
  fields := #[]
  methods := #[]
  instanceTypes := #[]
  staticTypes := #[]
  resolved := Array.replicate 27 none
  statics := none }

def pool31 : Array CpInfo := pool [(1, .methodref 2 3), (0, .class_ 4), (0, .nameAndType 5 6), (0, u "java/lang/Object"), (0, u "<init>"), (0, u "()V"), (0, .fieldref 8 9), (0, .class_ 10), (0, .nameAndType 11 12), (0, u "java/util/ImmutableCollections$ListItr"), (0, u "list"), (0, u "Ljava/util/List;"), (0, .fieldref 8 14), (0, .nameAndType 15 16), (0, u "size"), (0, u "I"), (0, .fieldref 8 18), (0, .nameAndType 19 16), (0, u "cursor"), (0, .fieldref 8 21), (0, .nameAndType 22 23), (0, u "isListIterator"), (0, u "Z"), (0, .interfaceMethodref 25 26), (0, .class_ 27), (0, .nameAndType 28 29), (0, u "java/util/List"), (0, u "get"), (0, u "(I)Ljava/lang/Object;"), (6, .class_ 38), (1, u "java/util/ImmutableCollections"), (2, .class_ 42), (0, u "java/util/ListIterator"), (4, u "(Ljava/util/List;I)V"), (11, u "hasNext"), (0, u "()Z"), (1, u "next"), (0, u "()Ljava/lang/Object;")] 22

def k31c0 : Code := cd_ 2 3 jdk_53_method_1_code
def k31m0 : Method := mt_ "<init>" "(Ljava/util/List;I)V" [(.object "java/util/List"), .int] (none) 0 (some k31c0)
def k31c1 : Code := cd_ 2 1 jdk_53_method_3_code
def k31m1 : Method := mt_ "hasNext" "()Z" [] (some .boolean) 1 (some k31c1)
def k31c2 : Code := { maxStack := 3, maxLocals := 3, code := jdk_53_method_4_code, exceptionTable := #[{ startPc := 0, endPc := 24, handlerPc := 25, catchType := 30 }], attributes := #[] }
def k31m2 : Method := mt_ "next" "()Ljava/lang/Object;" [] (some (.object "java/lang/Object")) 1 (some k31c2)
/-- java/util/ImmutableCollections$ListItr -/
def k31 : Class := { plain "java/util/ImmutableCollections$ListItr" (some 0) with
  accessFlags := 48
  interfaces := #[30]
  cf := some (fileOf pool31 8 #[.nestHost 36] #[mi_ 0 5 47, mi_ 1 59 60, mi_ 1 62 63] 48 2 #[41] #[fi_ 18 11 12, fi_ 18 15 16, fi_ 18 22 23, fi_ 2 19 16])
  fields := #[fd_ "list" (.object "java/util/List") 18 0, fd_ "size" .int 18 1, fd_ "isListIterator" .boolean 18 2, fd_ "cursor" .int 2 3]
  methods := #[k31m0, k31m1, k31m2]
  instanceTypes := #[(.object "java/util/List"), .int, .boolean, .int]
  staticTypes := #[]
  resolved := Array.replicate 86 none
  statics := none }

def pool32 : Array CpInfo := pool [(1, u "java/lang/Class"), (0, .class_ 1), (0, u "java/lang/Object"), (0, .class_ 3)] 0

/-- java/lang/Class -/
def k32 : Class := { plain "java/lang/Class" (some 0) with
  accessFlags := 49
  interfaces := #[]
  cf := some (fileOf pool32 2 #[] #[] 49 4 #[] #[])
  fields := #[]
  methods := #[]
  instanceTypes := #[]
  staticTypes := #[]
  resolved := Array.replicate 5 none
  statics := none }

/-- the primitive byte -/
def k33 : Class := { plain "byte" none with kind := .primitive 'B', accessFlags := 0x411 }
/-- [B -/
def k34 : Class := { plain "[B" (some 0) with kind := .array 33 .byte, interfaces := #[17, 14], accessFlags := 1041 }

/-- the primitive int -/
def k35 : Class := { plain "int" none with kind := .primitive 'I', accessFlags := 0x411 }
/-- [I -/
def k36 : Class := { plain "[I" (some 0) with kind := .array 35 .int, interfaces := #[17, 14], accessFlags := 1041 }

/-- [Ljava/lang/Object; -/
def k37 : Class := { plain "[Ljava/lang/Object;" (some 0) with kind := .array 0 (.object "java/lang/Object"), interfaces := #[17, 14], accessFlags := 1041, mirror := some 4 }

def heap : Heap := #[{ cls := 3, slots := #[.ref 11], vm := .statics 3 },
  { cls := 5, slots := #[.ref 9], vm := .statics 5 },
  { cls := 18, slots := #[.long 0, .int 0, .ref 12, .ref 13], vm := .statics 18 },
  { cls := 26, slots := #[.long 0, .int 0, .null, .ref 14, .ref 10, .null, .null, .null, .int 0, .int 1], vm := .statics 26 },
  { cls := 32, slots := #[], vm := .mirror 37 },
  { cls := 32, slots := #[], vm := .mirror 27 },
  { cls := 32, slots := #[], vm := .mirror 18 },
  { cls := 37, slots := #[], vm := .none },
  { cls := 37, slots := #[], vm := .none },
  { cls := 5, slots := #[.int (-1), .long (-1)], vm := .none },
  { cls := 15, slots := #[.ref 8, .int 0], vm := .none },
  { cls := 3, slots := #[.ref 10], vm := .none },
  { cls := 37, slots := #[], vm := .none },
  { cls := 37, slots := #[], vm := .none },
  { cls := 0, slots := #[], vm := .none }]
def classes : Array Class := #[k0, k1, k2, k3, k4, k5, k6, k7, k8, k9, k10, k11, k12, k13, k14, k15, k16, k17, k18, k19, k20, k21, k22, k23, k24, k25, k26, k27, k28, k29, k30, k31, k32, k33, k34, k35, k36, k37]
def interned : List (Array UInt16 × Addr) := []
def slotsUsed : Nat := 21
def theMethod : MethodId := ⟨1, 1⟩
def args0 : Array Value := #[.int 5, .long 6, .int 7, .int 8, .int 9, .long 10]
def aboutOver (below : List Frame) : State where
  vm := { classes := classes, interned := interned.toArray }
  heap := heap
  slotsUsed := slotsUsed
  threads := #[{ frames := .invoking theMethod args0 :: below }]
def below0 : List Frame := [.native { method := ⟨0, 0⟩, args := #[] }]
def about1 : State := aboutOver below0
def p0 : Program := .bare "" "" ""
def e0 : Env := launch0.env 0 0 0
theorem w_frames : about1.frames = Frame.invoking theMethod args0 :: below0 := rfl
set_option maxRecDepth 65536 in
theorem w_args : argsFit about1.vm theMethod args0 = true := by decide +kernel
set_option maxRecDepth 65536 in
theorem w_heap : heapFits about1 = true := by decide +kernel
set_option maxRecDepth 65536 in
theorem w_runnable : about1.curStatus? = some .runnable := by decide +kernel
set_option maxRecDepth 65536 in
theorem w_alone : about1.alone = true := by decide +kernel
set_option maxRecDepth 65536 in
theorem w_named : about1.methodNamed? x = some theMethod := by decide +kernel
set_option maxRecDepth 65536 in
theorem w_hears : about1.hears theMethod below0 = true := by decide +kernel
set_option maxRecDepth 65536 in
theorem w_ripe : about1.ripe theMethod args0 below0 = true := by decide +kernel
theorem w_running : about1.status = .running := rfl
set_option maxRecDepth 65536 in
theorem w_room : about1.hasRoom e0.platform room_1 = true :=
  launch0.hasRoom_least _ room_1 (by decide +kernel) (by decide +kernel) (by decide +kernel) (by decide +kernel) (by decide +kernel) (by decide +kernel)
theorem allAtoms_all (ts : List Jvm.Cond) (a : Array Jvm.Value) (st : Jvm.State) : (allAtoms ts).before a st = ts.all (fun c => c.before a st) := by
  induction ts with
  | nil => rfl
  | cons c t ih =>
    show (Jvm.Cond.and c (allAtoms t)).before a st = _
    rw [Jvm.Cond.before_and, ih, List.all_cons]
def words1 : List Jvm.Cond := Jvm.Cond.code x code maxLocals ret :: tables_1
/-- a 'code' word, met by the world's own term for the bytes: nothing is compared byte by byte -/
theorem code_word {y : MethodName} {bytes : ByteArray} {mx : Nat} {rt : Option FieldType} {a : Array Value} {s : State} {m : MethodId} {meth : Method} {c : Code} (h1 : s.methodNamed? y = some m) (h2 : s.vm.method? m = some meth) (h3 : meth.code = some c) (h4 : c.code = bytes)
    (h5 : (c.maxLocals == mx && c.exceptionTable.isEmpty && decide (c.maxStack ≤ mostOperands) && decide (meth.sig.returnType = rt) && !meth.locks && decide (parseMethodDescriptor y.desc = some meth.sig)) = true) : (Jvm.Cond.code y bytes mx rt).before a s = true := by
  simp only [Bool.and_eq_true, beq_iff_eq, Bool.not_eq_true', decide_eq_true_eq] at h5
  obtain ⟨⟨⟨⟨⟨g1, g2⟩, g3⟩, g4⟩, g5⟩, g6⟩ := h5
  simp [Cond.before, Cond.holds, Cond.value, h1, h2, h3, h4, g1, g2, g3, g4, g5, g6]
def isCode : Jvm.Cond → Bool
  | .code _ _ _ _ => true
  | _ => false
theorem all_split {L : List Jvm.Cond} {P : Jvm.Cond → Bool} (h1 : L.all (fun c => isCode c || P c) = true) (h2 : ∀ c ∈ L.filter isCode, P c = true) : L.all P = true := by
  refine List.all_eq_true.mpr fun c hc => ?_
  have h := List.all_eq_true.mp h1 c hc
  rcases Bool.eq_false_or_eq_true (isCode c) with hi | hi
  · exact h2 c (List.mem_filter.mpr ⟨hc, hi⟩)
  · simpa [hi] using h
abbrev cw_1 : Jvm.Cond := Jvm.Cond.code ({ cls := "com/example/clean_epoch/cleanepoch/log/DivergenceWalk", name := "<init>", desc := "(Lcom/example/clean_epoch/cleanepoch/log/Lineage;J)V" } : Jvm.MethodName) prog_15_method_1_code (4 : Nat) (Option.none : Option Jvm.ClassFile.FieldType)
abbrev cw_2 : Jvm.Cond := Jvm.Cond.code ({ cls := "java/lang/Object", name := "<init>", desc := "()V" } : Jvm.MethodName) object_method_1_code (1 : Nat) (Option.none : Option Jvm.ClassFile.FieldType)
abbrev cw_3 : Jvm.Cond := Jvm.Cond.code ({ cls := "com/example/clean_epoch/cleanepoch/log/EpochEnd", name := "epoch", desc := "()I" } : Jvm.MethodName) prog_19_method_6_code (1 : Nat) (Option.some Jvm.ClassFile.FieldType.int)
abbrev cw_4 : Jvm.Cond := Jvm.Cond.code ({ cls := "com/example/clean_epoch/cleanepoch/log/Lineage", name := "isEmpty", desc := "()Z" } : Jvm.MethodName) prog_22_method_2_code (1 : Nat) (Option.some Jvm.ClassFile.FieldType.boolean)
abbrev cw_5 : Jvm.Cond := Jvm.Cond.code ({ cls := "java/util/ImmutableCollections$ListN", name := "isEmpty", desc := "()Z" } : Jvm.MethodName) jdk_45_method_2_code (1 : Nat) (Option.some Jvm.ClassFile.FieldType.boolean)
abbrev cw_6 : Jvm.Cond := Jvm.Cond.code ({ cls := "com/example/clean_epoch/cleanepoch/log/DivergenceWalk", name := "done", desc := "()Z" } : Jvm.MethodName) prog_15_method_2_code (1 : Nat) (Option.some Jvm.ClassFile.FieldType.boolean)
abbrev cw_7 : Jvm.Cond := Jvm.Cond.code ({ cls := "com/example/clean_epoch/cleanepoch/log/DivergenceWalkDonePinLaw", name := "step", desc := "(Lcom/example/clean_epoch/cleanepoch/log/DivergenceWalk;IJ)Z" } : Jvm.MethodName) method_3_code (10 : Nat) (Option.some Jvm.ClassFile.FieldType.boolean)
abbrev cw_8 : Jvm.Cond := Jvm.Cond.code ({ cls := "com/example/clean_epoch/cleanepoch/log/DivergenceWalk", name := "leaderLogStartDue", desc := "()Z" } : Jvm.MethodName) prog_15_method_3_code (1 : Nat) (Option.some Jvm.ClassFile.FieldType.boolean)
abbrev cw_9 : Jvm.Cond := Jvm.Cond.code ({ cls := "com/example/clean_epoch/cleanepoch/log/Lineage", name := "with", desc := "(IJ)Lcom/example/clean_epoch/cleanepoch/log/Lineage;" } : Jvm.MethodName) prog_22_method_8_code (6 : Nat) (Option.some (Jvm.ClassFile.FieldType.object "com/example/clean_epoch/cleanepoch/log/Lineage"))
abbrev cw_10 : Jvm.Cond := Jvm.Cond.code ({ cls := "java/util/ArrayList", name := "<init>", desc := "(Ljava/util/Collection;)V" } : Jvm.MethodName) jdk_38_method_3_code (3 : Nat) (Option.none : Option Jvm.ClassFile.FieldType)
abbrev cw_11 : Jvm.Cond := Jvm.Cond.code ({ cls := "java/util/AbstractList", name := "<init>", desc := "()V" } : Jvm.MethodName) jdk_39_method_1_code (1 : Nat) (Option.none : Option Jvm.ClassFile.FieldType)
abbrev cw_12 : Jvm.Cond := Jvm.Cond.code ({ cls := "java/util/AbstractCollection", name := "<init>", desc := "()V" } : Jvm.MethodName) jdk_22_method_1_code (1 : Nat) (Option.none : Option Jvm.ClassFile.FieldType)
abbrev cw_13 : Jvm.Cond := Jvm.Cond.code ({ cls := "java/util/ImmutableCollections$ListN", name := "toArray", desc := "()[Ljava/lang/Object;" } : Jvm.MethodName) jdk_45_method_7_code (1 : Nat) (Option.some (Jvm.ClassFile.FieldType.array (Jvm.ClassFile.FieldType.object "java/lang/Object")))
abbrev cw_14 : Jvm.Cond := Jvm.Cond.code ({ cls := "java/util/Arrays", name := "copyOf", desc := "([Ljava/lang/Object;I)[Ljava/lang/Object;" } : Jvm.MethodName) jdk_65_method_119_code (2 : Nat) (Option.some (Jvm.ClassFile.FieldType.array (Jvm.ClassFile.FieldType.object "java/lang/Object")))
abbrev cw_15 : Jvm.Cond := Jvm.Cond.code ({ cls := "java/util/Arrays", name := "copyOf", desc := "([Ljava/lang/Object;ILjava/lang/Class;)[Ljava/lang/Object;" } : Jvm.MethodName) jdk_65_method_120_code (4 : Nat) (Option.some (Jvm.ClassFile.FieldType.array (Jvm.ClassFile.FieldType.object "java/lang/Object")))
abbrev cw_16 : Jvm.Cond := Jvm.Cond.code ({ cls := "java/lang/Math", name := "min", desc := "(II)I" } : Jvm.MethodName) jdk_29_method_69_code (2 : Nat) (Option.some Jvm.ClassFile.FieldType.int)
abbrev cw_17 : Jvm.Cond := Jvm.Cond.code ({ cls := "java/util/ArrayList", name := "isEmpty", desc := "()Z" } : Jvm.MethodName) jdk_38_method_9_code (1 : Nat) (Option.some Jvm.ClassFile.FieldType.boolean)
abbrev cw_18 : Jvm.Cond := Jvm.Cond.code ({ cls := "com/example/clean_epoch/cleanepoch/log/Lineage$Entry", name := "<init>", desc := "(IJ)V" } : Jvm.MethodName) prog_23_method_1_code (4 : Nat) (Option.none : Option Jvm.ClassFile.FieldType)
abbrev cw_19 : Jvm.Cond := Jvm.Cond.code ({ cls := "java/lang/Record", name := "<init>", desc := "()V" } : Jvm.MethodName) jdk_30_method_1_code (1 : Nat) (Option.none : Option Jvm.ClassFile.FieldType)
abbrev cw_20 : Jvm.Cond := Jvm.Cond.code ({ cls := "java/util/ArrayList", name := "add", desc := "(Ljava/lang/Object;)Z" } : Jvm.MethodName) jdk_38_method_25_code (2 : Nat) (Option.some Jvm.ClassFile.FieldType.boolean)
abbrev cw_21 : Jvm.Cond := Jvm.Cond.code ({ cls := "java/util/ArrayList", name := "add", desc := "(Ljava/lang/Object;[Ljava/lang/Object;I)V" } : Jvm.MethodName) jdk_38_method_24_code (4 : Nat) (Option.none : Option Jvm.ClassFile.FieldType)
abbrev cw_22 : Jvm.Cond := Jvm.Cond.code ({ cls := "java/util/ArrayList", name := "grow", desc := "()[Ljava/lang/Object;" } : Jvm.MethodName) jdk_38_method_7_code (1 : Nat) (Option.some (Jvm.ClassFile.FieldType.array (Jvm.ClassFile.FieldType.object "java/lang/Object")))
abbrev cw_23 : Jvm.Cond := Jvm.Cond.code ({ cls := "java/util/ArrayList", name := "grow", desc := "(I)[Ljava/lang/Object;" } : Jvm.MethodName) jdk_38_method_6_code (4 : Nat) (Option.some (Jvm.ClassFile.FieldType.array (Jvm.ClassFile.FieldType.object "java/lang/Object")))
abbrev cw_24 : Jvm.Cond := Jvm.Cond.code ({ cls := "jdk/internal/util/ArraysSupport", name := "newLength", desc := "(III)I" } : Jvm.MethodName) jdk_48_method_27_code (4 : Nat) (Option.some Jvm.ClassFile.FieldType.int)
abbrev cw_25 : Jvm.Cond := Jvm.Cond.code ({ cls := "java/lang/Math", name := "max", desc := "(II)I" } : Jvm.MethodName) jdk_29_method_65_code (2 : Nat) (Option.some Jvm.ClassFile.FieldType.int)
abbrev cw_26 : Jvm.Cond := Jvm.Cond.code ({ cls := "com/example/clean_epoch/cleanepoch/log/Lineage", name := "<init>", desc := "(Ljava/util/List;)V" } : Jvm.MethodName) prog_22_method_1_code (5 : Nat) (Option.none : Option Jvm.ClassFile.FieldType)
abbrev cw_27 : Jvm.Cond := Jvm.Cond.code ({ cls := "java/util/ArrayList", name := "<init>", desc := "()V" } : Jvm.MethodName) jdk_38_method_2_code (1 : Nat) (Option.none : Option Jvm.ClassFile.FieldType)
abbrev cw_28 : Jvm.Cond := Jvm.Cond.code ({ cls := "java/util/ArrayList", name := "iterator", desc := "()Ljava/util/Iterator;" } : Jvm.MethodName) jdk_38_method_55_code (1 : Nat) (Option.some (Jvm.ClassFile.FieldType.object "java/util/Iterator"))
abbrev cw_29 : Jvm.Cond := Jvm.Cond.code ({ cls := "java/util/ArrayList$Itr", name := "<init>", desc := "(Ljava/util/ArrayList;)V" } : Jvm.MethodName) jdk_49_method_1_code (2 : Nat) (Option.none : Option Jvm.ClassFile.FieldType)
abbrev cw_30 : Jvm.Cond := Jvm.Cond.code ({ cls := "java/util/ArrayList$Itr", name := "hasNext", desc := "()Z" } : Jvm.MethodName) jdk_49_method_2_code (1 : Nat) (Option.some Jvm.ClassFile.FieldType.boolean)
abbrev cw_31 : Jvm.Cond := Jvm.Cond.code ({ cls := "java/util/ArrayList$Itr", name := "next", desc := "()Ljava/lang/Object;" } : Jvm.MethodName) jdk_49_method_3_code (3 : Nat) (Option.some (Jvm.ClassFile.FieldType.object "java/lang/Object"))
abbrev cw_32 : Jvm.Cond := Jvm.Cond.code ({ cls := "java/util/ArrayList$Itr", name := "checkForComodification", desc := "()V" } : Jvm.MethodName) jdk_49_method_6_code (1 : Nat) (Option.none : Option Jvm.ClassFile.FieldType)
abbrev cw_33 : Jvm.Cond := Jvm.Cond.code ({ cls := "com/example/clean_epoch/cleanepoch/log/Lineage", name := "follows", desc := "(Ljava/util/List;Lcom/example/clean_epoch/cleanepoch/log/Lineage$Entry;)Z" } : Jvm.MethodName) prog_22_method_11_code (3 : Nat) (Option.some Jvm.ClassFile.FieldType.boolean)
abbrev cw_34 : Jvm.Cond := Jvm.Cond.code ({ cls := "com/example/clean_epoch/cleanepoch/log/Lineage$Entry", name := "epoch", desc := "()I" } : Jvm.MethodName) prog_23_method_5_code (1 : Nat) (Option.some Jvm.ClassFile.FieldType.int)
abbrev cw_35 : Jvm.Cond := Jvm.Cond.code ({ cls := "com/example/clean_epoch/cleanepoch/log/Lineage$Entry", name := "startOffset", desc := "()J" } : Jvm.MethodName) prog_23_method_6_code (1 : Nat) (Option.some Jvm.ClassFile.FieldType.long)
abbrev cw_36 : Jvm.Cond := Jvm.Cond.code ({ cls := "java/util/List", name := "copyOf", desc := "(Ljava/util/Collection;)Ljava/util/List;" } : Jvm.MethodName) jdk_40_method_48_code (1 : Nat) (Option.some (Jvm.ClassFile.FieldType.object "java/util/List"))
abbrev cw_37 : Jvm.Cond := Jvm.Cond.code ({ cls := "java/util/ImmutableCollections", name := "listCopy", desc := "(Ljava/util/Collection;)Ljava/util/List;" } : Jvm.MethodName) jdk_56_method_3_code (2 : Nat) (Option.some (Jvm.ClassFile.FieldType.object "java/util/List"))
abbrev cw_38 : Jvm.Cond := Jvm.Cond.code ({ cls := "java/util/ArrayList", name := "toArray", desc := "()[Ljava/lang/Object;" } : Jvm.MethodName) jdk_38_method_16_code (1 : Nat) (Option.some (Jvm.ClassFile.FieldType.array (Jvm.ClassFile.FieldType.object "java/lang/Object")))
abbrev cw_39 : Jvm.Cond := Jvm.Cond.code ({ cls := "java/util/List", name := "of", desc := "([Ljava/lang/Object;)Ljava/util/List;" } : Jvm.MethodName) jdk_40_method_47_code (2 : Nat) (Option.some (Jvm.ClassFile.FieldType.object "java/util/List"))
abbrev cw_40 : Jvm.Cond := Jvm.Cond.code ({ cls := "java/util/ImmutableCollections$List12", name := "<init>", desc := "(Ljava/lang/Object;)V" } : Jvm.MethodName) jdk_44_method_1_code (2 : Nat) (Option.none : Option Jvm.ClassFile.FieldType)
abbrev cw_41 : Jvm.Cond := Jvm.Cond.code ({ cls := "java/util/ImmutableCollections$AbstractImmutableList", name := "<init>", desc := "()V" } : Jvm.MethodName) jdk_46_method_1_code (1 : Nat) (Option.none : Option Jvm.ClassFile.FieldType)
abbrev cw_42 : Jvm.Cond := Jvm.Cond.code ({ cls := "java/util/ImmutableCollections$AbstractImmutableCollection", name := "<init>", desc := "()V" } : Jvm.MethodName) jdk_47_method_1_code (1 : Nat) (Option.none : Option Jvm.ClassFile.FieldType)
abbrev cw_43 : Jvm.Cond := Jvm.Cond.code ({ cls := "java/util/Objects", name := "requireNonNull", desc := "(Ljava/lang/Object;)Ljava/lang/Object;" } : Jvm.MethodName) jdk_31_method_10_code (1 : Nat) (Option.some (Jvm.ClassFile.FieldType.object "java/lang/Object"))
abbrev cw_44 : Jvm.Cond := Jvm.Cond.code ({ cls := "java/util/ImmutableCollections$List12", name := "toArray", desc := "()[Ljava/lang/Object;" } : Jvm.MethodName) jdk_44_method_10_code (1 : Nat) (Option.some (Jvm.ClassFile.FieldType.array (Jvm.ClassFile.FieldType.object "java/lang/Object")))
abbrev cw_45 : Jvm.Cond := Jvm.Cond.code ({ cls := "java/util/ArrayList", name := "size", desc := "()I" } : Jvm.MethodName) jdk_38_method_8_code (1 : Nat) (Option.some Jvm.ClassFile.FieldType.int)
abbrev cw_46 : Jvm.Cond := Jvm.Cond.code ({ cls := "java/util/ArrayList", name := "get", desc := "(I)Ljava/lang/Object;" } : Jvm.MethodName) jdk_38_method_20_code (2 : Nat) (Option.some (Jvm.ClassFile.FieldType.object "java/lang/Object"))
abbrev cw_47 : Jvm.Cond := Jvm.Cond.code ({ cls := "java/util/Objects", name := "checkIndex", desc := "(II)I" } : Jvm.MethodName) jdk_31_method_17_code (2 : Nat) (Option.some Jvm.ClassFile.FieldType.int)
abbrev cw_48 : Jvm.Cond := Jvm.Cond.code ({ cls := "jdk/internal/util/Preconditions", name := "checkIndex", desc := "(IILjava/util/function/BiFunction;)I" } : Jvm.MethodName) jdk_41_method_11_code (3 : Nat) (Option.some Jvm.ClassFile.FieldType.int)
abbrev cw_49 : Jvm.Cond := Jvm.Cond.code ({ cls := "java/util/ArrayList", name := "elementData", desc := "(I)Ljava/lang/Object;" } : Jvm.MethodName) jdk_38_method_18_code (2 : Nat) (Option.some (Jvm.ClassFile.FieldType.object "java/lang/Object"))
abbrev cw_50 : Jvm.Cond := Jvm.Cond.code ({ cls := "java/util/ImmutableCollections$List12", name := "<init>", desc := "(Ljava/lang/Object;Ljava/lang/Object;)V" } : Jvm.MethodName) jdk_44_method_2_code (3 : Nat) (Option.none : Option Jvm.ClassFile.FieldType)
abbrev cw_51 : Jvm.Cond := Jvm.Cond.code ({ cls := "java/util/ImmutableCollections$List12", name := "isEmpty", desc := "()Z" } : Jvm.MethodName) jdk_44_method_4_code (1 : Nat) (Option.some Jvm.ClassFile.FieldType.boolean)
abbrev cw_52 : Jvm.Cond := Jvm.Cond.code ({ cls := "com/example/clean_epoch/cleanepoch/log/Lineage", name := "entries", desc := "()Ljava/util/List;" } : Jvm.MethodName) prog_22_method_15_code (1 : Nat) (Option.some (Jvm.ClassFile.FieldType.object "java/util/List"))
abbrev cw_53 : Jvm.Cond := Jvm.Cond.code ({ cls := "java/util/ImmutableCollections$List12", name := "get", desc := "(I)Ljava/lang/Object;" } : Jvm.MethodName) jdk_44_method_5_code (2 : Nat) (Option.some (Jvm.ClassFile.FieldType.object "java/lang/Object"))
abbrev cw_54 : Jvm.Cond := Jvm.Cond.code ({ cls := "com/example/clean_epoch/cleanepoch/log/DivergenceWalk", name := "held", desc := "()Lcom/example/clean_epoch/cleanepoch/log/Lineage;" } : Jvm.MethodName) prog_15_method_11_code (1 : Nat) (Option.some (Jvm.ClassFile.FieldType.object "com/example/clean_epoch/cleanepoch/log/Lineage"))
abbrev cw_55 : Jvm.Cond := Jvm.Cond.code ({ cls := "com/example/clean_epoch/cleanepoch/log/DivergenceWalk", name := "epochToAsk", desc := "()I" } : Jvm.MethodName) prog_15_method_4_code (1 : Nat) (Option.some Jvm.ClassFile.FieldType.int)
abbrev cw_56 : Jvm.Cond := Jvm.Cond.code ({ cls := "com/example/clean_epoch/cleanepoch/log/Lineage", name := "lastEpoch", desc := "()I" } : Jvm.MethodName) prog_22_method_3_code (1 : Nat) (Option.some Jvm.ClassFile.FieldType.int)
abbrev cw_57 : Jvm.Cond := Jvm.Cond.code ({ cls := "java/util/ImmutableCollections$List12", name := "size", desc := "()I" } : Jvm.MethodName) jdk_44_method_3_code (1 : Nat) (Option.some Jvm.ClassFile.FieldType.int)
abbrev cw_58 : Jvm.Cond := Jvm.Cond.code ({ cls := "com/example/clean_epoch/cleanepoch/log/EpochEnd", name := "<init>", desc := "(IJ)V" } : Jvm.MethodName) prog_19_method_1_code (4 : Nat) (Option.none : Option Jvm.ClassFile.FieldType)
abbrev cw_59 : Jvm.Cond := Jvm.Cond.code ({ cls := "com/example/clean_epoch/cleanepoch/log/DivergenceWalk", name := "take", desc := "(Lcom/example/clean_epoch/cleanepoch/log/EpochEnd;)V" } : Jvm.MethodName) prog_15_method_5_code (5 : Nat) (Option.none : Option Jvm.ClassFile.FieldType)
abbrev cw_60 : Jvm.Cond := Jvm.Cond.code ({ cls := "com/example/clean_epoch/cleanepoch/log/EpochEnd", name := "answers", desc := "(I)Z" } : Jvm.MethodName) prog_19_method_2_code (2 : Nat) (Option.some Jvm.ClassFile.FieldType.boolean)
abbrev cw_61 : Jvm.Cond := Jvm.Cond.code ({ cls := "com/example/clean_epoch/cleanepoch/log/Lineage", name := "divergenceFrom", desc := "(Lcom/example/clean_epoch/cleanepoch/log/EpochEnd;J)J" } : Jvm.MethodName) prog_22_method_7_code (4 : Nat) (Option.some Jvm.ClassFile.FieldType.long)
abbrev cw_62 : Jvm.Cond := Jvm.Cond.code ({ cls := "com/example/clean_epoch/cleanepoch/log/EpochEnd", name := "endOffset", desc := "()J" } : Jvm.MethodName) prog_19_method_7_code (1 : Nat) (Option.some Jvm.ClassFile.FieldType.long)
abbrev cw_63 : Jvm.Cond := Jvm.Cond.code ({ cls := "com/example/clean_epoch/cleanepoch/log/Lineage", name := "endOf", desc := "(IJ)J" } : Jvm.MethodName) prog_22_method_6_code (6 : Nat) (Option.some Jvm.ClassFile.FieldType.long)
abbrev cw_64 : Jvm.Cond := Jvm.Cond.code ({ cls := "java/util/ImmutableCollections$AbstractImmutableList", name := "iterator", desc := "()Ljava/util/Iterator;" } : Jvm.MethodName) jdk_46_method_10_code (1 : Nat) (Option.some (Jvm.ClassFile.FieldType.object "java/util/Iterator"))
abbrev cw_65 : Jvm.Cond := Jvm.Cond.code ({ cls := "java/util/ImmutableCollections$ListItr", name := "<init>", desc := "(Ljava/util/List;I)V" } : Jvm.MethodName) jdk_53_method_1_code (3 : Nat) (Option.none : Option Jvm.ClassFile.FieldType)
abbrev cw_66 : Jvm.Cond := Jvm.Cond.code ({ cls := "java/util/ImmutableCollections$ListItr", name := "hasNext", desc := "()Z" } : Jvm.MethodName) jdk_53_method_3_code (1 : Nat) (Option.some Jvm.ClassFile.FieldType.boolean)
abbrev cw_67 : Jvm.Cond := Jvm.Cond.code ({ cls := "java/lang/Math", name := "min", desc := "(JJ)J" } : Jvm.MethodName) jdk_29_method_70_code (4 : Nat) (Option.some Jvm.ClassFile.FieldType.long)
abbrev cw_68 : Jvm.Cond := Jvm.Cond.code ({ cls := "com/example/clean_epoch/cleanepoch/log/Lineage", name := "withoutEntriesFrom", desc := "(J)Lcom/example/clean_epoch/cleanepoch/log/Lineage;" } : Jvm.MethodName) prog_22_method_9_code (6 : Nat) (Option.some (Jvm.ClassFile.FieldType.object "com/example/clean_epoch/cleanepoch/log/Lineage"))
abbrev cw_69 : Jvm.Cond := Jvm.Cond.code ({ cls := "java/util/List", name := "of", desc := "()Ljava/util/List;" } : Jvm.MethodName) jdk_40_method_36_code (0 : Nat) (Option.some (Jvm.ClassFile.FieldType.object "java/util/List"))
abbrev cw_70 : Jvm.Cond := Jvm.Cond.code ({ cls := "java/util/ImmutableCollections$ListN", name := "size", desc := "()I" } : Jvm.MethodName) jdk_45_method_3_code (1 : Nat) (Option.some Jvm.ClassFile.FieldType.int)
abbrev cw_71 : Jvm.Cond := Jvm.Cond.code ({ cls := "com/example/clean_epoch/cleanepoch/log/DivergenceWalk", name := "takeLeaderLogStart", desc := "(J)V" } : Jvm.MethodName) prog_15_method_6_code (3 : Nat) (Option.none : Option Jvm.ClassFile.FieldType)
set_option maxRecDepth 65536 in
theorem w_c0 : (Jvm.Cond.code x code maxLocals ret).before args0 about1 = true := code_word (m := ⟨1, 1⟩) (meth := k1m1) (c := k1c1) (by decide +kernel) rfl rfl rfl (by decide +kernel)
set_option maxRecDepth 65536 in
theorem w_c1 : cw_1.before args0 about1 = true := code_word (m := ⟨4, 0⟩) (meth := k4m0) (c := k4c0) (by decide +kernel) rfl rfl rfl (by decide +kernel)
set_option maxRecDepth 65536 in
theorem w_c2 : cw_2.before args0 about1 = true := code_word (m := ⟨0, 0⟩) (meth := k0m0) (c := k0c0) (by decide +kernel) rfl rfl rfl (by decide +kernel)
set_option maxRecDepth 65536 in
theorem w_c3 : cw_3.before args0 about1 = true := code_word (m := ⟨5, 2⟩) (meth := k5m2) (c := k5c2) (by decide +kernel) rfl rfl rfl (by decide +kernel)
set_option maxRecDepth 65536 in
theorem w_c4 : cw_4.before args0 about1 = true := code_word (m := ⟨3, 1⟩) (meth := k3m1) (c := k3c1) (by decide +kernel) rfl rfl rfl (by decide +kernel)
set_option maxRecDepth 65536 in
theorem w_c5 : cw_5.before args0 about1 = true := code_word (m := ⟨15, 0⟩) (meth := k15m0) (c := k15c0) (by decide +kernel) rfl rfl rfl (by decide +kernel)
set_option maxRecDepth 65536 in
theorem w_c6 : cw_6.before args0 about1 = true := code_word (m := ⟨4, 1⟩) (meth := k4m1) (c := k4c1) (by decide +kernel) rfl rfl rfl (by decide +kernel)
set_option maxRecDepth 65536 in
theorem w_c7 : cw_7.before args0 about1 = true := code_word (m := ⟨1, 2⟩) (meth := k1m2) (c := k1c2) (by decide +kernel) rfl rfl rfl (by decide +kernel)
set_option maxRecDepth 65536 in
theorem w_c8 : cw_8.before args0 about1 = true := code_word (m := ⟨4, 2⟩) (meth := k4m2) (c := k4c2) (by decide +kernel) rfl rfl rfl (by decide +kernel)
set_option maxRecDepth 65536 in
theorem w_c9 : cw_9.before args0 about1 = true := code_word (m := ⟨3, 5⟩) (meth := k3m5) (c := k3c5) (by decide +kernel) rfl rfl rfl (by decide +kernel)
set_option maxRecDepth 65536 in
theorem w_c10 : cw_10.before args0 about1 = true := code_word (m := ⟨18, 1⟩) (meth := k18m1) (c := k18c1) (by decide +kernel) rfl rfl rfl (by decide +kernel)
set_option maxRecDepth 65536 in
theorem w_c11 : cw_11.before args0 about1 = true := code_word (m := ⟨16, 0⟩) (meth := k16m0) (c := k16c0) (by decide +kernel) rfl rfl rfl (by decide +kernel)
set_option maxRecDepth 65536 in
theorem w_c12 : cw_12.before args0 about1 = true := code_word (m := ⟨10, 0⟩) (meth := k10m0) (c := k10c0) (by decide +kernel) rfl rfl rfl (by decide +kernel)
set_option maxRecDepth 65536 in
theorem w_c13 : cw_13.before args0 about1 = true := code_word (m := ⟨15, 2⟩) (meth := k15m2) (c := k15c2) (by decide +kernel) rfl rfl rfl (by decide +kernel)
set_option maxRecDepth 65536 in
theorem w_c14 : cw_14.before args0 about1 = true := code_word (m := ⟨19, 1⟩) (meth := k19m1) (c := k19c1) (by decide +kernel) rfl rfl rfl (by decide +kernel)
set_option maxRecDepth 65536 in
theorem w_c15 : cw_15.before args0 about1 = true := code_word (m := ⟨19, 2⟩) (meth := k19m2) (c := k19c2) (by decide +kernel) rfl rfl rfl (by decide +kernel)
set_option maxRecDepth 65536 in
theorem w_c16 : cw_16.before args0 about1 = true := code_word (m := ⟨20, 2⟩) (meth := k20m2) (c := k20c2) (by decide +kernel) rfl rfl rfl (by decide +kernel)
set_option maxRecDepth 65536 in
theorem w_c17 : cw_17.before args0 about1 = true := code_word (m := ⟨18, 5⟩) (meth := k18m5) (c := k18c5) (by decide +kernel) rfl rfl rfl (by decide +kernel)
set_option maxRecDepth 65536 in
theorem w_c18 : cw_18.before args0 about1 = true := code_word (m := ⟨22, 0⟩) (meth := k22m0) (c := k22c0) (by decide +kernel) rfl rfl rfl (by decide +kernel)
set_option maxRecDepth 65536 in
theorem w_c19 : cw_19.before args0 about1 = true := code_word (m := ⟨2, 0⟩) (meth := k2m0) (c := k2c0) (by decide +kernel) rfl rfl rfl (by decide +kernel)
set_option maxRecDepth 65536 in
theorem w_c20 : cw_20.before args0 about1 = true := code_word (m := ⟨18, 10⟩) (meth := k18m10) (c := k18c10) (by decide +kernel) rfl rfl rfl (by decide +kernel)
set_option maxRecDepth 65536 in
theorem w_c21 : cw_21.before args0 about1 = true := code_word (m := ⟨18, 9⟩) (meth := k18m9) (c := k18c9) (by decide +kernel) rfl rfl rfl (by decide +kernel)
set_option maxRecDepth 65536 in
theorem w_c22 : cw_22.before args0 about1 = true := code_word (m := ⟨18, 3⟩) (meth := k18m3) (c := k18c3) (by decide +kernel) rfl rfl rfl (by decide +kernel)
set_option maxRecDepth 65536 in
theorem w_c23 : cw_23.before args0 about1 = true := code_word (m := ⟨18, 2⟩) (meth := k18m2) (c := k18c2) (by decide +kernel) rfl rfl rfl (by decide +kernel)
set_option maxRecDepth 65536 in
theorem w_c24 : cw_24.before args0 about1 = true := code_word (m := ⟨23, 1⟩) (meth := k23m1) (c := k23c1) (by decide +kernel) rfl rfl rfl (by decide +kernel)
set_option maxRecDepth 65536 in
theorem w_c25 : cw_25.before args0 about1 = true := code_word (m := ⟨20, 1⟩) (meth := k20m1) (c := k20c1) (by decide +kernel) rfl rfl rfl (by decide +kernel)
set_option maxRecDepth 65536 in
theorem w_c26 : cw_26.before args0 about1 = true := code_word (m := ⟨3, 0⟩) (meth := k3m0) (c := k3c0) (by decide +kernel) rfl rfl rfl (by decide +kernel)
set_option maxRecDepth 65536 in
theorem w_c27 : cw_27.before args0 about1 = true := code_word (m := ⟨18, 0⟩) (meth := k18m0) (c := k18c0) (by decide +kernel) rfl rfl rfl (by decide +kernel)
set_option maxRecDepth 65536 in
theorem w_c28 : cw_28.before args0 about1 = true := code_word (m := ⟨18, 11⟩) (meth := k18m11) (c := k18c11) (by decide +kernel) rfl rfl rfl (by decide +kernel)
set_option maxRecDepth 65536 in
theorem w_c29 : cw_29.before args0 about1 = true := code_word (m := ⟨25, 0⟩) (meth := k25m0) (c := k25c0) (by decide +kernel) rfl rfl rfl (by decide +kernel)
set_option maxRecDepth 65536 in
theorem w_c30 : cw_30.before args0 about1 = true := code_word (m := ⟨25, 1⟩) (meth := k25m1) (c := k25c1) (by decide +kernel) rfl rfl rfl (by decide +kernel)
set_option maxRecDepth 65536 in
theorem w_c31 : cw_31.before args0 about1 = true := code_word (m := ⟨25, 2⟩) (meth := k25m2) (c := k25c2) (by decide +kernel) rfl rfl rfl (by decide +kernel)
set_option maxRecDepth 65536 in
theorem w_c32 : cw_32.before args0 about1 = true := code_word (m := ⟨25, 3⟩) (meth := k25m3) (c := k25c3) (by decide +kernel) rfl rfl rfl (by decide +kernel)
set_option maxRecDepth 65536 in
theorem w_c33 : cw_33.before args0 about1 = true := code_word (m := ⟨3, 7⟩) (meth := k3m7) (c := k3c7) (by decide +kernel) rfl rfl rfl (by decide +kernel)
set_option maxRecDepth 65536 in
theorem w_c34 : cw_34.before args0 about1 = true := code_word (m := ⟨22, 1⟩) (meth := k22m1) (c := k22c1) (by decide +kernel) rfl rfl rfl (by decide +kernel)
set_option maxRecDepth 65536 in
theorem w_c35 : cw_35.before args0 about1 = true := code_word (m := ⟨22, 2⟩) (meth := k22m2) (c := k22c2) (by decide +kernel) rfl rfl rfl (by decide +kernel)
set_option maxRecDepth 65536 in
theorem w_c36 : cw_36.before args0 about1 = true := code_word (m := ⟨9, 7⟩) (meth := k9m7) (c := k9c7) (by decide +kernel) rfl rfl rfl (by decide +kernel)
set_option maxRecDepth 65536 in
theorem w_c37 : cw_37.before args0 about1 = true := code_word (m := ⟨26, 1⟩) (meth := k26m1) (c := k26c1) (by decide +kernel) rfl rfl rfl (by decide +kernel)
set_option maxRecDepth 65536 in
theorem w_c38 : cw_38.before args0 about1 = true := code_word (m := ⟨18, 6⟩) (meth := k18m6) (c := k18c6) (by decide +kernel) rfl rfl rfl (by decide +kernel)
set_option maxRecDepth 65536 in
theorem w_c39 : cw_39.before args0 about1 = true := code_word (m := ⟨9, 6⟩) (meth := k9m6) (c := k9c6) (by decide +kernel) rfl rfl rfl (by decide +kernel)
set_option maxRecDepth 65536 in
theorem w_c40 : cw_40.before args0 about1 = true := code_word (m := ⟨27, 0⟩) (meth := k27m0) (c := k27c0) (by decide +kernel) rfl rfl rfl (by decide +kernel)
set_option maxRecDepth 65536 in
theorem w_c41 : cw_41.before args0 about1 = true := code_word (m := ⟨13, 0⟩) (meth := k13m0) (c := k13c0) (by decide +kernel) rfl rfl rfl (by decide +kernel)
set_option maxRecDepth 65536 in
theorem w_c42 : cw_42.before args0 about1 = true := code_word (m := ⟨11, 0⟩) (meth := k11m0) (c := k11c0) (by decide +kernel) rfl rfl rfl (by decide +kernel)
set_option maxRecDepth 65536 in
theorem w_c43 : cw_43.before args0 about1 = true := code_word (m := ⟨28, 1⟩) (meth := k28m1) (c := k28c1) (by decide +kernel) rfl rfl rfl (by decide +kernel)
set_option maxRecDepth 65536 in
theorem w_c44 : cw_44.before args0 about1 = true := code_word (m := ⟨27, 5⟩) (meth := k27m5) (c := k27c5) (by decide +kernel) rfl rfl rfl (by decide +kernel)
set_option maxRecDepth 65536 in
theorem w_c45 : cw_45.before args0 about1 = true := code_word (m := ⟨18, 4⟩) (meth := k18m4) (c := k18c4) (by decide +kernel) rfl rfl rfl (by decide +kernel)
set_option maxRecDepth 65536 in
theorem w_c46 : cw_46.before args0 about1 = true := code_word (m := ⟨18, 8⟩) (meth := k18m8) (c := k18c8) (by decide +kernel) rfl rfl rfl (by decide +kernel)
set_option maxRecDepth 65536 in
theorem w_c47 : cw_47.before args0 about1 = true := code_word (m := ⟨28, 2⟩) (meth := k28m2) (c := k28c2) (by decide +kernel) rfl rfl rfl (by decide +kernel)
set_option maxRecDepth 65536 in
theorem w_c48 : cw_48.before args0 about1 = true := code_word (m := ⟨29, 1⟩) (meth := k29m1) (c := k29c1) (by decide +kernel) rfl rfl rfl (by decide +kernel)
set_option maxRecDepth 65536 in
theorem w_c49 : cw_49.before args0 about1 = true := code_word (m := ⟨18, 7⟩) (meth := k18m7) (c := k18c7) (by decide +kernel) rfl rfl rfl (by decide +kernel)
set_option maxRecDepth 65536 in
theorem w_c50 : cw_50.before args0 about1 = true := code_word (m := ⟨27, 1⟩) (meth := k27m1) (c := k27c1) (by decide +kernel) rfl rfl rfl (by decide +kernel)
set_option maxRecDepth 65536 in
theorem w_c51 : cw_51.before args0 about1 = true := code_word (m := ⟨27, 3⟩) (meth := k27m3) (c := k27c3) (by decide +kernel) rfl rfl rfl (by decide +kernel)
set_option maxRecDepth 65536 in
theorem w_c52 : cw_52.before args0 about1 = true := code_word (m := ⟨3, 8⟩) (meth := k3m8) (c := k3c8) (by decide +kernel) rfl rfl rfl (by decide +kernel)
set_option maxRecDepth 65536 in
theorem w_c53 : cw_53.before args0 about1 = true := code_word (m := ⟨27, 4⟩) (meth := k27m4) (c := k27c4) (by decide +kernel) rfl rfl rfl (by decide +kernel)
set_option maxRecDepth 65536 in
theorem w_c54 : cw_54.before args0 about1 = true := code_word (m := ⟨4, 6⟩) (meth := k4m6) (c := k4c6) (by decide +kernel) rfl rfl rfl (by decide +kernel)
set_option maxRecDepth 65536 in
theorem w_c55 : cw_55.before args0 about1 = true := code_word (m := ⟨4, 3⟩) (meth := k4m3) (c := k4c3) (by decide +kernel) rfl rfl rfl (by decide +kernel)
set_option maxRecDepth 65536 in
theorem w_c56 : cw_56.before args0 about1 = true := code_word (m := ⟨3, 2⟩) (meth := k3m2) (c := k3c2) (by decide +kernel) rfl rfl rfl (by decide +kernel)
set_option maxRecDepth 65536 in
theorem w_c57 : cw_57.before args0 about1 = true := code_word (m := ⟨27, 2⟩) (meth := k27m2) (c := k27c2) (by decide +kernel) rfl rfl rfl (by decide +kernel)
set_option maxRecDepth 65536 in
theorem w_c58 : cw_58.before args0 about1 = true := code_word (m := ⟨5, 0⟩) (meth := k5m0) (c := k5c0) (by decide +kernel) rfl rfl rfl (by decide +kernel)
set_option maxRecDepth 65536 in
theorem w_c59 : cw_59.before args0 about1 = true := code_word (m := ⟨4, 4⟩) (meth := k4m4) (c := k4c4) (by decide +kernel) rfl rfl rfl (by decide +kernel)
set_option maxRecDepth 65536 in
theorem w_c60 : cw_60.before args0 about1 = true := code_word (m := ⟨5, 1⟩) (meth := k5m1) (c := k5c1) (by decide +kernel) rfl rfl rfl (by decide +kernel)
set_option maxRecDepth 65536 in
theorem w_c61 : cw_61.before args0 about1 = true := code_word (m := ⟨3, 4⟩) (meth := k3m4) (c := k3c4) (by decide +kernel) rfl rfl rfl (by decide +kernel)
set_option maxRecDepth 65536 in
theorem w_c62 : cw_62.before args0 about1 = true := code_word (m := ⟨5, 3⟩) (meth := k5m3) (c := k5c3) (by decide +kernel) rfl rfl rfl (by decide +kernel)
set_option maxRecDepth 65536 in
theorem w_c63 : cw_63.before args0 about1 = true := code_word (m := ⟨3, 3⟩) (meth := k3m3) (c := k3c3) (by decide +kernel) rfl rfl rfl (by decide +kernel)
set_option maxRecDepth 65536 in
theorem w_c64 : cw_64.before args0 about1 = true := code_word (m := ⟨13, 1⟩) (meth := k13m1) (c := k13c1) (by decide +kernel) rfl rfl rfl (by decide +kernel)
set_option maxRecDepth 65536 in
theorem w_c65 : cw_65.before args0 about1 = true := code_word (m := ⟨31, 0⟩) (meth := k31m0) (c := k31c0) (by decide +kernel) rfl rfl rfl (by decide +kernel)
set_option maxRecDepth 65536 in
theorem w_c66 : cw_66.before args0 about1 = true := code_word (m := ⟨31, 1⟩) (meth := k31m1) (c := k31c1) (by decide +kernel) rfl rfl rfl (by decide +kernel)
set_option maxRecDepth 65536 in
theorem w_c67 : cw_67.before args0 about1 = true := code_word (m := ⟨20, 3⟩) (meth := k20m3) (c := k20c3) (by decide +kernel) rfl rfl rfl (by decide +kernel)
set_option maxRecDepth 65536 in
theorem w_c68 : cw_68.before args0 about1 = true := code_word (m := ⟨3, 6⟩) (meth := k3m6) (c := k3c6) (by decide +kernel) rfl rfl rfl (by decide +kernel)
set_option maxRecDepth 65536 in
theorem w_c69 : cw_69.before args0 about1 = true := code_word (m := ⟨9, 5⟩) (meth := k9m5) (c := k9c5) (by decide +kernel) rfl rfl rfl (by decide +kernel)
set_option maxRecDepth 65536 in
theorem w_c70 : cw_70.before args0 about1 = true := code_word (m := ⟨15, 1⟩) (meth := k15m1) (c := k15c1) (by decide +kernel) rfl rfl rfl (by decide +kernel)
set_option maxRecDepth 65536 in
theorem w_c71 : cw_71.before args0 about1 = true := code_word (m := ⟨4, 5⟩) (meth := k4m5) (c := k4c5) (by decide +kernel) rfl rfl rfl (by decide +kernel)
def codes1 : List Jvm.Cond := [Jvm.Cond.code x code maxLocals ret, cw_1, cw_2, cw_3, cw_4, cw_5, cw_6, cw_7, cw_8, cw_9, cw_10, cw_11, cw_12, cw_13, cw_14, cw_15, cw_16, cw_17, cw_18, cw_19, cw_20, cw_21, cw_22, cw_23, cw_24, cw_25, cw_26, cw_27, cw_28, cw_29, cw_30, cw_31, cw_32, cw_33, cw_34, cw_35, cw_36, cw_37, cw_38, cw_39, cw_40, cw_41, cw_42, cw_43, cw_44, cw_45, cw_46, cw_47, cw_48, cw_49, cw_50, cw_51, cw_52, cw_53, cw_54, cw_55, cw_56, cw_57, cw_58, cw_59, cw_60, cw_61, cw_62, cw_63, cw_64, cw_65, cw_66, cw_67, cw_68, cw_69, cw_70, cw_71]
set_option maxRecDepth 65536 in
theorem codes_eq : words1.filter isCode = codes1 := rfl
theorem w_codes : ∀ c ∈ words1.filter isCode, c.before args0 about1 = true := by
  rw [codes_eq]
  intro c hc
  simp only [codes1, List.mem_cons, List.not_mem_nil, or_false] at hc
  rcases hc with rfl | rfl | rfl | rfl | rfl | rfl | rfl | rfl | rfl | rfl | rfl | rfl | rfl | rfl | rfl | rfl | rfl | rfl | rfl | rfl | rfl | rfl | rfl | rfl | rfl | rfl | rfl | rfl | rfl | rfl | rfl | rfl | rfl | rfl | rfl | rfl | rfl | rfl | rfl | rfl | rfl | rfl | rfl | rfl | rfl | rfl | rfl | rfl | rfl | rfl | rfl | rfl | rfl | rfl | rfl | rfl | rfl | rfl | rfl | rfl | rfl | rfl | rfl | rfl | rfl | rfl | rfl | rfl | rfl | rfl | rfl | rfl
  · exact w_c0
  · exact w_c1
  · exact w_c2
  · exact w_c3
  · exact w_c4
  · exact w_c5
  · exact w_c6
  · exact w_c7
  · exact w_c8
  · exact w_c9
  · exact w_c10
  · exact w_c11
  · exact w_c12
  · exact w_c13
  · exact w_c14
  · exact w_c15
  · exact w_c16
  · exact w_c17
  · exact w_c18
  · exact w_c19
  · exact w_c20
  · exact w_c21
  · exact w_c22
  · exact w_c23
  · exact w_c24
  · exact w_c25
  · exact w_c26
  · exact w_c27
  · exact w_c28
  · exact w_c29
  · exact w_c30
  · exact w_c31
  · exact w_c32
  · exact w_c33
  · exact w_c34
  · exact w_c35
  · exact w_c36
  · exact w_c37
  · exact w_c38
  · exact w_c39
  · exact w_c40
  · exact w_c41
  · exact w_c42
  · exact w_c43
  · exact w_c44
  · exact w_c45
  · exact w_c46
  · exact w_c47
  · exact w_c48
  · exact w_c49
  · exact w_c50
  · exact w_c51
  · exact w_c52
  · exact w_c53
  · exact w_c54
  · exact w_c55
  · exact w_c56
  · exact w_c57
  · exact w_c58
  · exact w_c59
  · exact w_c60
  · exact w_c61
  · exact w_c62
  · exact w_c63
  · exact w_c64
  · exact w_c65
  · exact w_c66
  · exact w_c67
  · exact w_c68
  · exact w_c69
  · exact w_c70
  · exact w_c71
set_option maxRecDepth 65536 in
theorem w_t1 : (words1.take 24).all (fun c => isCode c || c.before args0 about1) = true := by decide +kernel
set_option maxRecDepth 65536 in
theorem w_t2 : ((words1.drop 24).take 24).all (fun c => isCode c || c.before args0 about1) = true := by decide +kernel
set_option maxRecDepth 65536 in
theorem w_t3 : (((words1.drop 24).drop 24).take 24).all (fun c => isCode c || c.before args0 about1) = true := by decide +kernel
set_option maxRecDepth 65536 in
theorem w_t4 : ((((words1.drop 24).drop 24).drop 24).take 24).all (fun c => isCode c || c.before args0 about1) = true := by decide +kernel
set_option maxRecDepth 65536 in
theorem w_t5 : (((((words1.drop 24).drop 24).drop 24).drop 24).take 24).all (fun c => isCode c || c.before args0 about1) = true := by decide +kernel
set_option maxRecDepth 65536 in
theorem w_t6 : ((((((words1.drop 24).drop 24).drop 24).drop 24).drop 24).take 24).all (fun c => isCode c || c.before args0 about1) = true := by decide +kernel
set_option maxRecDepth 65536 in
theorem w_t7 : (((((((words1.drop 24).drop 24).drop 24).drop 24).drop 24).drop 24).take 24).all (fun c => isCode c || c.before args0 about1) = true := by decide +kernel
set_option maxRecDepth 65536 in
theorem w_t8 : ((((((((words1.drop 24).drop 24).drop 24).drop 24).drop 24).drop 24).drop 24).take 24).all (fun c => isCode c || c.before args0 about1) = true := by decide +kernel
set_option maxRecDepth 65536 in
theorem w_t9 : (((((((((words1.drop 24).drop 24).drop 24).drop 24).drop 24).drop 24).drop 24).drop 24).take 24).all (fun c => isCode c || c.before args0 about1) = true := by decide +kernel
set_option maxRecDepth 65536 in
theorem w_t10 : ((((((((((words1.drop 24).drop 24).drop 24).drop 24).drop 24).drop 24).drop 24).drop 24).drop 24).take 24).all (fun c => isCode c || c.before args0 about1) = true := by decide +kernel
set_option maxRecDepth 65536 in
theorem w_t11 : (((((((((((words1.drop 24).drop 24).drop 24).drop 24).drop 24).drop 24).drop 24).drop 24).drop 24).drop 24).take 24).all (fun c => isCode c || c.before args0 about1) = true := by decide +kernel
set_option maxRecDepth 65536 in
theorem w_t12 : ((((((((((((words1.drop 24).drop 24).drop 24).drop 24).drop 24).drop 24).drop 24).drop 24).drop 24).drop 24).drop 24).take 24).all (fun c => isCode c || c.before args0 about1) = true := by decide +kernel
set_option maxRecDepth 65536 in
theorem w_t13 : (((((((((((((words1.drop 24).drop 24).drop 24).drop 24).drop 24).drop 24).drop 24).drop 24).drop 24).drop 24).drop 24).drop 24).take 24).all (fun c => isCode c || c.before args0 about1) = true := by decide +kernel
set_option maxRecDepth 65536 in
theorem w_t14 : ((((((((((((((words1.drop 24).drop 24).drop 24).drop 24).drop 24).drop 24).drop 24).drop 24).drop 24).drop 24).drop 24).drop 24).drop 24).take 24).all (fun c => isCode c || c.before args0 about1) = true := by decide +kernel
set_option maxRecDepth 65536 in
theorem w_t15 : (((((((((((((((words1.drop 24).drop 24).drop 24).drop 24).drop 24).drop 24).drop 24).drop 24).drop 24).drop 24).drop 24).drop 24).drop 24).drop 24).take 24).all (fun c => isCode c || c.before args0 about1) = true := by decide +kernel
set_option maxRecDepth 65536 in
theorem w_t16 : ((((((((((((((((words1.drop 24).drop 24).drop 24).drop 24).drop 24).drop 24).drop 24).drop 24).drop 24).drop 24).drop 24).drop 24).drop 24).drop 24).drop 24).take 24).all (fun c => isCode c || c.before args0 about1) = true := by decide +kernel
set_option maxRecDepth 65536 in
theorem w_t17 : (((((((((((((((((words1.drop 24).drop 24).drop 24).drop 24).drop 24).drop 24).drop 24).drop 24).drop 24).drop 24).drop 24).drop 24).drop 24).drop 24).drop 24).drop 24).take 24).all (fun c => isCode c || c.before args0 about1) = true := by decide +kernel
set_option maxRecDepth 65536 in
theorem w_t18 : ((((((((((((((((((words1.drop 24).drop 24).drop 24).drop 24).drop 24).drop 24).drop 24).drop 24).drop 24).drop 24).drop 24).drop 24).drop 24).drop 24).drop 24).drop 24).drop 24).take 24).all (fun c => isCode c || c.before args0 about1) = true := by decide +kernel
set_option maxRecDepth 65536 in
theorem w_t19 : (((((((((((((((((((words1.drop 24).drop 24).drop 24).drop 24).drop 24).drop 24).drop 24).drop 24).drop 24).drop 24).drop 24).drop 24).drop 24).drop 24).drop 24).drop 24).drop 24).drop 24).take 24).all (fun c => isCode c || c.before args0 about1) = true := by decide +kernel
set_option maxRecDepth 65536 in
theorem w_t20 : ((((((((((((((((((((words1.drop 24).drop 24).drop 24).drop 24).drop 24).drop 24).drop 24).drop 24).drop 24).drop 24).drop 24).drop 24).drop 24).drop 24).drop 24).drop 24).drop 24).drop 24).drop 24).take 24).all (fun c => isCode c || c.before args0 about1) = true := by decide +kernel
set_option maxRecDepth 65536 in
theorem w_t21 : (((((((((((((((((((((words1.drop 24).drop 24).drop 24).drop 24).drop 24).drop 24).drop 24).drop 24).drop 24).drop 24).drop 24).drop 24).drop 24).drop 24).drop 24).drop 24).drop 24).drop 24).drop 24).drop 24).take 24).all (fun c => isCode c || c.before args0 about1) = true := by decide +kernel
set_option maxRecDepth 65536 in
theorem w_t22 : (((((((((((((((((((((words1.drop 24).drop 24).drop 24).drop 24).drop 24).drop 24).drop 24).drop 24).drop 24).drop 24).drop 24).drop 24).drop 24).drop 24).drop 24).drop 24).drop 24).drop 24).drop 24).drop 24).drop 24).all (fun c => isCode c || c.before args0 about1) = true := by decide +kernel
theorem w_tables : (allAtoms (Jvm.Cond.code x code maxLocals ret :: tables_1)).before args0 about1 = true := by
  rw [allAtoms_all]
  show words1.all (fun c => c.before args0 about1) = true
  refine all_split ?_ w_codes
  rw [← List.take_append_drop 24 words1, List.all_append, w_t1, ← List.take_append_drop 24 (words1.drop 24), List.all_append, w_t2, ← List.take_append_drop 24 ((words1.drop 24).drop 24), List.all_append, w_t3, ← List.take_append_drop 24 (((words1.drop 24).drop 24).drop 24), List.all_append, w_t4, ← List.take_append_drop 24 ((((words1.drop 24).drop 24).drop 24).drop 24), List.all_append, w_t5, ← List.take_append_drop 24 (((((words1.drop 24).drop 24).drop 24).drop 24).drop 24), List.all_append, w_t6, ← List.take_append_drop 24 ((((((words1.drop 24).drop 24).drop 24).drop 24).drop 24).drop 24), List.all_append, w_t7, ← List.take_append_drop 24 (((((((words1.drop 24).drop 24).drop 24).drop 24).drop 24).drop 24).drop 24), List.all_append, w_t8, ← List.take_append_drop 24 ((((((((words1.drop 24).drop 24).drop 24).drop 24).drop 24).drop 24).drop 24).drop 24), List.all_append, w_t9, ← List.take_append_drop 24 (((((((((words1.drop 24).drop 24).drop 24).drop 24).drop 24).drop 24).drop 24).drop 24).drop 24), List.all_append, w_t10, ← List.take_append_drop 24 ((((((((((words1.drop 24).drop 24).drop 24).drop 24).drop 24).drop 24).drop 24).drop 24).drop 24).drop 24), List.all_append, w_t11, ← List.take_append_drop 24 (((((((((((words1.drop 24).drop 24).drop 24).drop 24).drop 24).drop 24).drop 24).drop 24).drop 24).drop 24).drop 24), List.all_append, w_t12, ← List.take_append_drop 24 ((((((((((((words1.drop 24).drop 24).drop 24).drop 24).drop 24).drop 24).drop 24).drop 24).drop 24).drop 24).drop 24).drop 24), List.all_append, w_t13, ← List.take_append_drop 24 (((((((((((((words1.drop 24).drop 24).drop 24).drop 24).drop 24).drop 24).drop 24).drop 24).drop 24).drop 24).drop 24).drop 24).drop 24), List.all_append, w_t14, ← List.take_append_drop 24 ((((((((((((((words1.drop 24).drop 24).drop 24).drop 24).drop 24).drop 24).drop 24).drop 24).drop 24).drop 24).drop 24).drop 24).drop 24).drop 24), List.all_append, w_t15, ← List.take_append_drop 24 (((((((((((((((words1.drop 24).drop 24).drop 24).drop 24).drop 24).drop 24).drop 24).drop 24).drop 24).drop 24).drop 24).drop 24).drop 24).drop 24).drop 24), List.all_append, w_t16, ← List.take_append_drop 24 ((((((((((((((((words1.drop 24).drop 24).drop 24).drop 24).drop 24).drop 24).drop 24).drop 24).drop 24).drop 24).drop 24).drop 24).drop 24).drop 24).drop 24).drop 24), List.all_append, w_t17, ← List.take_append_drop 24 (((((((((((((((((words1.drop 24).drop 24).drop 24).drop 24).drop 24).drop 24).drop 24).drop 24).drop 24).drop 24).drop 24).drop 24).drop 24).drop 24).drop 24).drop 24).drop 24), List.all_append, w_t18, ← List.take_append_drop 24 ((((((((((((((((((words1.drop 24).drop 24).drop 24).drop 24).drop 24).drop 24).drop 24).drop 24).drop 24).drop 24).drop 24).drop 24).drop 24).drop 24).drop 24).drop 24).drop 24).drop 24), List.all_append, w_t19, ← List.take_append_drop 24 (((((((((((((((((((words1.drop 24).drop 24).drop 24).drop 24).drop 24).drop 24).drop 24).drop 24).drop 24).drop 24).drop 24).drop 24).drop 24).drop 24).drop 24).drop 24).drop 24).drop 24).drop 24), List.all_append, w_t20, ← List.take_append_drop 24 ((((((((((((((((((((words1.drop 24).drop 24).drop 24).drop 24).drop 24).drop 24).drop 24).drop 24).drop 24).drop 24).drop 24).drop 24).drop 24).drop 24).drop 24).drop 24).drop 24).drop 24).drop 24).drop 24), List.all_append, w_t21, w_t22]
  rfl
set_option maxRecDepth 65536 in
theorem w_rest : rest_1_c.before args0 about1 = true := by decide +kernel
set_option maxRecDepth 65536 in
theorem w_case : (Jvm.Cond.and given_1 narrow_1).before args0 about1 = true := by decide +kernel
theorem w_applies : (headSpec (Jvm.Cond.code x code maxLocals ret :: tables_1) room_1).applies x e0.platform about1 = true :=
  (Spec.applies_iff w_frames).mpr ⟨w_running, w_runnable, w_alone, w_named, w_hears, w_ripe, w_room, w_tables⟩
set_option maxRecDepth 65536 in
theorem atStart : AtStart classFile x code maxLocals ret World_1 tables_1 room_1 Calls_1 rest_1 Pre_1 launch0 p0 e0 about1 theMethod args0 below0 :=
  ⟨lists_1, trivial, launch0.admits_env _ _ _, launch0.least_env, fairChoices_fair.cas, fairChoices_fair.clock, w_frames, w_args, w_heap, w_applies, ⟨⟨37, k37, 4, by decide +kernel, rfl, rfl, _, rfl, rfl⟩, ⟨⟨27, k27, 5, by decide +kernel, rfl, rfl, _, rfl, rfl⟩, ⟨⟨18, k18, 6, by decide +kernel, rfl, rfl, _, rfl, rfl⟩, trivial⟩⟩⟩, w_rest, w_case⟩
end start1
theorem witness_1 : WitnessClaimed_1 := ⟨start1.p0, start1.e0, start1.about1, start1.theMethod, start1.args0, start1.below0, start1.atStart⟩
end Jvm.Pilot.@@N@@
