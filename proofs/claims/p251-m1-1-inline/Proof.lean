import JvmDerived
import JvmDerived.Pilot.@@N@@Statement
import JvmDerived.Pilot.@@N@@Code
set_option linter.unusedVariables false
set_option linter.unusedSimpArgs false
@@BLOCK:TracedD.lean.txt@@
namespace Jvm.Pilot.@@N@@
open Jvm Jvm.ClassFile Sem Op Lib Jvm.Free Jvm.Stand Jvm.LawKit Jvm.RoadKit Bundle Jvm.Pilot.@@N@@.Jvm.D
set_option maxRecDepth 65536
set_option maxHeartbeats 40000000
abbrev HW (Z : State) (a0 : Array Value) : Prop := ∀ d ∈ tables_1, d.before a0 Z = true
theorem mg {α : Type} {L : List α} {i : Nat} {a : α} (h : L[i]? = some a) : a ∈ L := List.mem_of_getElem? h
theorem wd {Z : State} {a0 : Array Value} (hw : HW Z a0) (i : Nat) {d : Jvm.Cond} (h : tables_1[i]? = some d) : d.before a0 Z = true := hw d (mg h)
/-! the walk in continuation form: 'Go' says that from here the body comes to its end with Q -/
def Go (EN : State → Outcome → State → List Loc → Nat → Nat → Prop) (p : Program) (e : Env) (below : List Frame) (s : State) (kc ks : Nat) (Q : Option Value → Heap → List Loc → Prop) (T : State) (g : JFrame) : Prop :=
  ∃ s₂ o, Steps p.tables e below (T.setTop g) s₂ ∧ s₂.status = .running ∧ Ended s₂ below o ∧ ∃ v L, o = .returned v ∧ Q v s₂.heap L ∧ EN s o s₂ L kc ks
section GoLaws
variable {p : Program} {l : Launch} {e : Env} {R : Room} {s : State} {m : MethodId} {args : Array Value} {below : List Frame} {meth : Method} {c : Code} {T T' : State} {locs : List Loc} {cells slots kc ks : Nat} {Q : Option Value → Heap → List Loc → Prop} {g g' : JFrame} {EN : State → Outcome → State → List Loc → Nat → Nat → Prop}
theorem Go.step (st : ∀ t, Steps p.tables e below (T'.setTop g') t → Steps p.tables e below (T.setTop g) t) (k : Go EN p e below s kc ks Q T' g') : Go EN p e below s kc ks Q T g := by
  obtain ⟨a, b, h1, h2⟩ := k
  exact ⟨a, b, st _ h1, h2⟩
theorem Go.trans (st : Steps p.tables e below (T.setTop g) (T'.setTop g')) (k : Go EN p e below s kc ks Q T' g') : Go EN p e below s kc ks Q T g := by
  obtain ⟨a, b, h1, h2⟩ := k
  exact ⟨a, b, st.trans h1, h2⟩
theorem Go.cast (q : g = g') (k : Go EN p e below s kc ks Q T g') : Go EN p e below s kc ks Q T g := q ▸ k
theorem Go.retN (X : Stand p l e R s m args below meth c T locs cells slots) (hx : p.tables.exec = Jvm.exec) {pc : Nat} {Ls : Array Slot} {z : Int32} {t : FieldType} {rest : List Value} (hret : meth.sig.returnType = some t) (ht : t = .boolean ∨ t = .byte ∨ t = .char ∨ t = .short) (hlk : meth.locks = false)
    (hd : decode c.code pc = .ok (.ireturn, 1)) (hc : cells ≤ kc) (hs : slots ≤ ks) (q : Q (some (.int (nar t z))) T.heap locs) : Go FrameEnd p e below s kc ks Q T (mkF m pc Ls (.int z :: rest)) := by
  obtain ⟨fs, hr, hrun, hended, hW, hsame⟩ := X.leave (v := some (.int (nar t z))) (fun h => by rw [hret] at h; cases h) hlk
  exact ⟨_, _, RoadKit.retN X hx hret ht hd hr, hrun, hended, _, _, rfl, q, ⟨_, rfl⟩, hW, hsame.mono hc hs⟩
theorem Go.retI (X : Stand p l e R s m args below meth c T locs cells slots) (hx : p.tables.exec = Jvm.exec) {pc : Nat} {Ls : Array Slot} {z : Int32} {rest : List Value} (hret : meth.sig.returnType = some .int) (hlk : meth.locks = false)
    (hd : decode c.code pc = .ok (.ireturn, 1)) (hc : cells ≤ kc) (hs : slots ≤ ks) (q : Q (some (.int z)) T.heap locs) : Go FrameEnd p e below s kc ks Q T (mkF m pc Ls (.int z :: rest)) := by
  obtain ⟨fs, hr, hrun, hended, hW, hsame⟩ := X.leave (v := some (.int z)) (fun h => by rw [hret] at h; cases h) hlk
  exact ⟨_, _, RoadKit.retOut X hx hret rfl (Or.inl ⟨rfl, Or.inl rfl, _, rfl⟩) hd hr, hrun, hended, _, _, rfl, q, ⟨_, rfl⟩, hW, hsame.mono hc hs⟩
theorem Go.retJ (X : Stand p l e R s m args below meth c T locs cells slots) (hx : p.tables.exec = Jvm.exec) {pc : Nat} {Ls : Array Slot} {z : Int64} {rest : List Value} (hret : meth.sig.returnType = some .long) (hlk : meth.locks = false)
    (hd : decode c.code pc = .ok (.lreturn, 1)) (hc : cells ≤ kc) (hs : slots ≤ ks) (q : Q (some (.long z)) T.heap locs) : Go FrameEnd p e below s kc ks Q T (mkF m pc Ls (.long z :: rest)) := by
  obtain ⟨fs, hr, hrun, hended, hW, hsame⟩ := X.leave (v := some (.long z)) (fun h => by rw [hret] at h; cases h) hlk
  exact ⟨_, _, RoadKit.retOut X hx hret rfl (Or.inr (Or.inl ⟨rfl, rfl, _, rfl⟩)) hd hr, hrun, hended, _, _, rfl, q, ⟨_, rfl⟩, hW, hsame.mono hc hs⟩
theorem Go.retA (X : Stand p l e R s m args below meth c T locs cells slots) (hx : p.tables.exec = Jvm.exec) {pc : Nat} {Ls : Array Slot} {z : Value} {t : FieldType} {rest : List Value} (hret : meth.sig.returnType = some t) (ht : t.isReference = true) (hz : z.isRef = true) (hlk : meth.locks = false)
    (hd : decode c.code pc = .ok (.areturn, 1)) (hc : cells ≤ kc) (hs : slots ≤ ks) (q : Q (some z) T.heap locs) : Go FrameEnd p e below s kc ks Q T (mkF m pc Ls (z :: rest)) := by
  obtain ⟨fs, hr, hrun, hended, hW, hsame⟩ := X.leave (v := some z) (fun h => by rw [hret] at h; cases h) hlk
  exact ⟨_, _, RoadKit.retOut X hx hret (by cases t <;> cases z <;> first | rfl | (cases ht; done) | (cases hz; done)) (Or.inr (Or.inr (Or.inr (Or.inr ⟨rfl, ht, hz⟩)))) hd hr, hrun, hended, _, _, rfl, q, ⟨_, rfl⟩, hW, hsame.mono hc hs⟩
theorem Go.retV (X : Stand p l e R s m args below meth c T locs cells slots) (hx : p.tables.exec = Jvm.exec) {pc : Nat} {Ls : Array Slot} (hret : meth.sig.returnType = none) (hlk : meth.locks = false)
    (hd : decode c.code pc = .ok (.return_, 1)) (hc : cells ≤ kc) (hs : slots ≤ ks) (q : Q none T.heap locs) : Go FrameEnd p e below s kc ks Q T (mkF m pc Ls []) := by
  obtain ⟨fs, hr, hrun, hended, hW, hsame⟩ := X.leave (v := none) (fun _ => rfl) hlk
  exact ⟨_, _, X.returnOut hx hret hd hr, hrun, hended, _, _, rfl, q, ⟨_, rfl⟩, hW, hsame.mono hc hs⟩
theorem rewMono {s t : State} {o : Outcome} {L : List Loc} {k n k' n' : Nat} (h : ReturnedEndW s o t L k n) (hk : k ≤ k') (hn : n ≤ n') : ReturnedEndW s o t L k' n' := ⟨h.1, h.2.1, h.2.2.1, h.2.2.2.mono hk hn⟩
abbrev Met (EN : State → Outcome → State → List Loc → Nat → Nat → Prop) (l : Launch) (y : MethodName) (bytes : ByteArray) (ml : Nat) (rt : Option FieldType) (ws : List Jvm.Cond) (R : Room) (Z : State) (h0 : Heap) (A : Array Value) (Q : Option Value → Heap → List Loc → Prop) : Prop :=
  MetFree l y (head1 (Jvm.Cond.code y bytes ml rt :: ws) R) (fun a U => a = A ∧ Z.Warmed39 U.vm ∧ U.heap = h0) (fun _ _ _ _ _ => True) (fun _ U o U' => ∃ v L, o = .returned v ∧ Q v U'.heap L ∧ EN U o U' L R.cells R.slots)
theorem own_met {y : MethodName} {bytes : ByteArray} {ml : Nat} {rt : Option FieldType} {ws : List Jvm.Cond} {Z : State} {h0 : Heap} {A : Array Value} (own : String) (hpl : plainFor y = true) (hc : y.cls = own) (Ls : Array Slot) (ef : ∀ m, entryFrame m A ml = mkF m 0 Ls [])
    (k : ∀ (p : Program) (e : Env) (s : State) (m : MethodId) (below : List Frame) (meth : Method) (c : Code) (s₁ : State), p.tables.exec = Jvm.exec → c.code = bytes → meth.locks = false → meth.sig.returnType = rt → c.maxLocals = ml → Z.Warmed39 s.vm → s.vm.findClass own = some m.cls → meth.name = y.name → Stand p l e R s m A below meth c s₁ [] 0 0 → s₁.heap = h0 → Go EN p e below s R.cells R.slots Q s₁ (mkF m 0 Ls [])) :
    Met EN l y bytes ml rt ws R Z h0 A Q := by
  refine MetFree.of_bodySF hpl hisR ?_
  intro p e s m args below meth c s₁ Bd hml0 hP hK
  obtain ⟨rfl, hZ, hh⟩ := hP
  exact Go.cast (ef m) (k p e s m below meth c s₁ Bd.exec Bd.bytes Bd.notSynchronized Bd.returns hml0 hZ (hc ▸ findClass_of_methodNamed Bd.named) (name_of_methodNamed Bd.named Bd.method).1 (Stand.of_body Bd) (by rw [← hh, Bd.state]; rfl))
abbrev MetC (EN : State → Outcome → State → List Loc → Nat → Nat → Prop) (l : Launch) (y : MethodName) (bytes : ByteArray) (ml : Nat) (rt : Option FieldType) (hs : List (Nat × Nat × Nat × Nat)) (ws : List Jvm.Cond) (R : Room) (Z : State) (h0 : Heap) (A : Array Value) (Q : Option Value → Heap → List Loc → Prop) : Prop :=
  MetFree l y (head1 (Jvm.Cond.codeWith y bytes ml rt hs :: ws) R) (fun a U => a = A ∧ Z.Warmed39 U.vm ∧ U.heap = h0) (fun _ _ _ _ _ => True) (fun _ U o U' => ∃ v L, o = .returned v ∧ Q v U'.heap L ∧ EN U o U' L R.cells R.slots)
theorem own_metC {y : MethodName} {bytes : ByteArray} {ml : Nat} {rt : Option FieldType} {hs : List (Nat × Nat × Nat × Nat)} {ws : List Jvm.Cond} {Z : State} {h0 : Heap} {A : Array Value} (own : String) (hpl : plainFor y = true) (hc : y.cls = own) (Ls : Array Slot) (ef : ∀ m, entryFrame m A ml = mkF m 0 Ls [])
    (k : ∀ (p : Program) (e : Env) (s : State) (m : MethodId) (below : List Frame) (meth : Method) (c : Code) (s₁ : State), p.tables.exec = Jvm.exec → c.code = bytes → meth.locks = false → meth.sig.returnType = rt → c.maxLocals = ml → Z.Warmed39 s.vm → s.vm.findClass own = some m.cls → meth.name = y.name → Stand p l e R s m A below meth c s₁ [] 0 0 → s₁.heap = h0 → Go EN p e below s R.cells R.slots Q s₁ (mkF m 0 Ls [])) :
    MetC EN l y bytes ml rt hs ws R Z h0 A Q := by
  refine MetFree.of_bodySF hpl hisWith ?_
  intro p e s m args below meth c s₁ Bd hml0 hP hK
  obtain ⟨rfl, hZ, hh⟩ := hP
  exact Go.cast (ef m) (k p e s m below meth c s₁ Bd.exec Bd.bytes Bd.notSynchronized Bd.returns hml0 hZ (hc ▸ findClass_of_methodNamed Bd.named) (name_of_methodNamed Bd.named Bd.method).1 (Stand.of_body Bd) (by rw [← hh, Bd.state]; rfl))
theorem extRfl (h : Heap) : Ext h h := ⟨Nat.le_refl _, fun _ _ q => q⟩
theorem extTr {h1 h2 h3 : Heap} (A : Ext h1 h2) (B : Ext h2 h3) : Ext h1 h3 := ⟨Nat.le_trans A.1 B.1, fun a c q => B.2 a c (A.2 a c q)⟩
theorem extKeep {h1 h2 h3 : Heap} {ws : List Addr} (A : Ext h1 h2) (K : Keep h2 h3 ws) (q : ∀ x ∈ ws, h1.size ≤ x) : Ext h1 h3 := ⟨Nat.le_trans A.1 K.1, fun a c r => K.2.1 a c (A.2 a c r) fun z => absurd (Array.getElem?_eq_some_iff.mp r).1 (Nat.not_lt.mpr (q a z))⟩
theorem extWr {h1 h2 h3 : Heap} {a : Addr} {sl : Nat} {v : Value} (A : Ext h1 h2) (W : Wr h2 h3 a sl v) (q : h1.size ≤ a) : Ext h1 h3 := extKeep A (Keep.of_wr W) (allS q all0)
end GoLaws
/-! single steps, calls and ends in continuation form; 'u': what every step asks of the body -/
abbrev UB (p : Program) (c : Code) (b : ByteArray) (nl : Nat) : Prop := p.tables.exec = Jvm.exec ∧ c.code = b ∧ c.maxLocals = nl
abbrev Dl (b : ByteArray) (L : List (Nat × Instr × Nat)) : Prop := ∀ z ∈ L, decode b z.1 = .ok z.2
theorem dA {b : ByteArray} {L : List (Nat × Instr × Nat)} (h : Dl b L) (i : Nat) {pc n : Nat} {x : Instr} (hi : L[i]? = some (pc, x, n)) : decode b pc = .ok (x, n) := by
  have q := h (pc, x, n) (List.mem_of_getElem? hi)
  exact q
def Qp (val : Option Value) (Z : State) (h0 : Heap) (v : Option Value) (h : Heap) (L : List Loc) : Prop := v = val ∧ Fr Z.heap.size L ∧ h = h0
theorem neL {a b n : Nat} (h : a < n) (g : n ≤ b) : a ≠ b := Nat.ne_of_lt (Nat.lt_of_lt_of_le h g)
theorem neE {a b n : Nat} (h : a < n) (g : b = n) : a ≠ b := neL h (Nat.le_of_eq g.symm)
theorem leE {n k b : Nat} (h : n ≤ k) (g : b = k) : n ≤ b := Nat.le_trans h (Nat.le_of_eq g.symm)
theorem k0 {a : Addr} {ws : List Addr} {q : Prop} : a ∈ a :: ws ∨ q := Or.inl (List.mem_cons_self ..)
theorem k1 {a c : Addr} {ws : List Addr} {q : Prop} : a ∈ c :: a :: ws ∨ q := Or.inl (List.mem_cons_of_mem _ (List.mem_cons_self ..))
theorem frA {n : Nat} {L A B : List Loc} (h : L = A ++ B) (x : Fr n A) (y : Fr n B) : Fr n L := by rw [h]; exact Fr.app x y
section Fo
variable {Z : State} {h h' : Heap} {a x : Addr} {O n d O' n' d' : String} {v w : Value}
theorem fR (W : Wr h h' x (Jvm.RoadKit.slotOf Z O' n' d') w) (F : Fld Z h a O n d v) (q : Jvm.RoadKit.slotOf Z O n d ≠ Jvm.RoadKit.slotOf Z O' n' d') : Fld Z h' a O n d v := Fld.other W F (Or.inr q)
theorem fS (W : Wr h h' x (Jvm.RoadKit.slotOf Z O' n' d') w) (F : Fld Z h a O n d v) (q : Jvm.RoadKit.slotOf Z O' n' d' ≠ Jvm.RoadKit.slotOf Z O n d) : Fld Z h' a O n d v := Fld.other W F (Or.inr (Ne.symm q))
end Fo
section Tiny
variable {p : Program} {l : Launch} {e : Env} {R : Room} {s s' : State} {m : MethodId} {args : Array Value} {below : List Frame} {meth : Method} {c : Code} {T : State} {locs : List Loc} {cells slots kc ks nl : Nat} {Q : Option Value → Heap → List Loc → Prop} {EN : State → Outcome → State → List Loc → Nat → Nat → Prop} {b : ByteArray} {pc : Nat} {Ls l' : Array Slot} {S : List Value} {v : Value} {x y : Int32} {i j : Int64} {k : Nat} {n : Fin 4} {o : Int} {cd : ClassFile.Cond}
theorem t_aN (X : Stand p l e R s' m args below meth c T locs cells slots) (u : UB p c b nl) (d : decode b pc = .ok (.aload_n n, 1)) (h : Ls[n.val]? = some (.val v)) (r : v.isRef = true) (K : Go EN p e below s kc ks Q T (mkF m (pc + 1) Ls (v :: S))) : Go EN p e below s kc ks Q T (mkF m pc Ls (S)) := Go.step (fun _ kt => XS.aloadN X.here u.1 rfl (hb u.2.1 d) h r kt) K
theorem t_aL (X : Stand p l e R s' m args below meth c T locs cells slots) (u : UB p c b nl) (d : decode b pc = .ok (.aload k, 2)) (h : Ls[k]? = some (.val v)) (r : v.isRef = true) (K : Go EN p e below s kc ks Q T (mkF m (pc + 2) Ls (v :: S))) : Go EN p e below s kc ks Q T (mkF m pc Ls (S)) := Go.step (fun _ kt => XS.aload X.here u.1 rfl (hb u.2.1 d) h r kt) K
theorem t_iN (X : Stand p l e R s' m args below meth c T locs cells slots) (u : UB p c b nl) (d : decode b pc = .ok (.iload_n n, 1)) (h : Ls[n.val]? = some (.val (.int x))) (K : Go EN p e below s kc ks Q T (mkF m (pc + 1) Ls (.int x :: S))) : Go EN p e below s kc ks Q T (mkF m pc Ls (S)) := Go.step (fun _ kt => XS.iloadN X.here u.1 rfl (hb u.2.1 d) h kt) K
theorem t_iL (X : Stand p l e R s' m args below meth c T locs cells slots) (u : UB p c b nl) (d : decode b pc = .ok (.iload k, 2)) (h : Ls[k]? = some (.val (.int x))) (K : Go EN p e below s kc ks Q T (mkF m (pc + 2) Ls (.int x :: S))) : Go EN p e below s kc ks Q T (mkF m pc Ls (S)) := Go.step (fun _ kt => XS.iload X.here u.1 rfl (hb u.2.1 d) h kt) K
theorem t_lN (X : Stand p l e R s' m args below meth c T locs cells slots) (u : UB p c b nl) (d : decode b pc = .ok (.lload_n n, 1)) (h : Ls[n.val]? = some (.val (.long i))) (K : Go EN p e below s kc ks Q T (mkF m (pc + 1) Ls (.long i :: S))) : Go EN p e below s kc ks Q T (mkF m pc Ls (S)) := Go.step (fun _ kt => XS.lloadN X.here u.1 rfl (hb u.2.1 d) h kt) K
theorem t_lL (X : Stand p l e R s' m args below meth c T locs cells slots) (u : UB p c b nl) (d : decode b pc = .ok (.lload k, 2)) (h : Ls[k]? = some (.val (.long i))) (K : Go EN p e below s kc ks Q T (mkF m (pc + 2) Ls (.long i :: S))) : Go EN p e below s kc ks Q T (mkF m pc Ls (S)) := Go.step (fun _ kt => XS.lload X.here u.1 rfl (hb u.2.1 d) h kt) K
theorem t_iC (X : Stand p l e R s' m args below meth c T locs cells slots) (u : UB p c b nl) (d : decode b pc = .ok (.iconst o, 1)) (K : Go EN p e below s kc ks Q T (mkF m (pc + 1) Ls (.int (Int32.ofInt o) :: S))) : Go EN p e below s kc ks Q T (mkF m pc Ls (S)) := Go.step (fun _ kt => XS.iconst X.here u.1 rfl (hb u.2.1 d)  kt) K
theorem t_bP (X : Stand p l e R s' m args below meth c T locs cells slots) (u : UB p c b nl) (d : decode b pc = .ok (.bipush o, 2)) (K : Go EN p e below s kc ks Q T (mkF m (pc + 2) Ls (.int (Int8.ofInt o).toInt32 :: S))) : Go EN p e below s kc ks Q T (mkF m pc Ls (S)) := Go.step (fun _ kt => XS.bipush X.here u.1 rfl (hb u.2.1 d)  kt) K
theorem t_nl (X : Stand p l e R s' m args below meth c T locs cells slots) (u : UB p c b nl) (d : decode b pc = .ok (.aconst_null, 1)) (K : Go EN p e below s kc ks Q T (mkF m (pc + 1) Ls (.null :: S))) : Go EN p e below s kc ks Q T (mkF m pc Ls (S)) := Go.step (fun _ kt => XS.aconstNull X.here u.1 rfl (hb u.2.1 d)  kt) K
theorem t_dup (X : Stand p l e R s' m args below meth c T locs cells slots) (u : UB p c b nl) (d : decode b pc = .ok (.dup, 1)) (h : v.category = 1) (K : Go EN p e below s kc ks Q T (mkF m (pc + 1) Ls (v :: v :: S))) : Go EN p e below s kc ks Q T (mkF m pc Ls (v :: S)) := Go.step (fun _ kt => XS.dup X.here u.1 rfl (hb u.2.1 d) rfl h kt) K
theorem t_pop (X : Stand p l e R s' m args below meth c T locs cells slots) (u : UB p c b nl) (d : decode b pc = .ok (.pop, 1)) (h : v.category = 1) (K : Go EN p e below s kc ks Q T (mkF m (pc + 1) Ls (S))) : Go EN p e below s kc ks Q T (mkF m pc Ls (v :: S)) := Go.step (fun _ kt => XS.pop X.here u.1 rfl (hb u.2.1 d) rfl h kt) K
theorem t_isN (X : Stand p l e R s' m args below meth c T locs cells slots) (u : UB p c b nl) (d : decode b pc = .ok (.istore_n n, 1)) (h : storeLocals Ls n.val (.int x) = some l') (K : Go EN p e below s kc ks Q T (mkF m (pc + 1) l' (S))) : Go EN p e below s kc ks Q T (mkF m pc Ls (.int x :: S)) := Go.step (fun _ kt => XS.istoreN X.here u.1 rfl (hb u.2.1 d) rfl h kt) K
theorem t_isL (X : Stand p l e R s' m args below meth c T locs cells slots) (u : UB p c b nl) (d : decode b pc = .ok (.istore k, 2)) (h : storeLocals Ls k (.int x) = some l') (K : Go EN p e below s kc ks Q T (mkF m (pc + 2) l' (S))) : Go EN p e below s kc ks Q T (mkF m pc Ls (.int x :: S)) := Go.step (fun _ kt => XS.istore X.here u.1 rfl (hb u.2.1 d) rfl h kt) K
theorem t_asN (X : Stand p l e R s' m args below meth c T locs cells slots) (u : UB p c b nl) (d : decode b pc = .ok (.astore_n n, 1)) (r : v.isRef = true) (h : storeLocals Ls n.val v = some l') (K : Go EN p e below s kc ks Q T (mkF m (pc + 1) l' (S))) : Go EN p e below s kc ks Q T (mkF m pc Ls (v :: S)) := Go.step (fun _ kt => XS.astoreN X.here u.1 rfl (hb u.2.1 d) rfl r h kt) K
theorem t_asL (X : Stand p l e R s' m args below meth c T locs cells slots) (u : UB p c b nl) (d : decode b pc = .ok (.astore k, 2)) (r : v.isRef = true) (h : storeLocals Ls k v = some l') (K : Go EN p e below s kc ks Q T (mkF m (pc + 2) l' (S))) : Go EN p e below s kc ks Q T (mkF m pc Ls (v :: S)) := Go.step (fun _ kt => XS.astore X.here u.1 rfl (hb u.2.1 d) rfl r h kt) K
theorem t_iadd (X : Stand p l e R s' m args below meth c T locs cells slots) (u : UB p c b nl) (d : decode b pc = .ok (.iadd, 1)) (K : Go EN p e below s kc ks Q T (mkF m (pc + 1) Ls (.int (x + y) :: S))) : Go EN p e below s kc ks Q T (mkF m pc Ls (.int y :: .int x :: S)) := Go.step (fun _ kt => XS.iadd X.here u.1 rfl (hb u.2.1 d) rfl kt) K
theorem t_isub (X : Stand p l e R s' m args below meth c T locs cells slots) (u : UB p c b nl) (d : decode b pc = .ok (.isub, 1)) (K : Go EN p e below s kc ks Q T (mkF m (pc + 1) Ls (.int (x - y) :: S))) : Go EN p e below s kc ks Q T (mkF m pc Ls (.int y :: .int x :: S)) := Go.step (fun _ kt => XS.isub X.here u.1 rfl (hb u.2.1 d) rfl kt) K
theorem t_iand (X : Stand p l e R s' m args below meth c T locs cells slots) (u : UB p c b nl) (d : decode b pc = .ok (.iand, 1)) (K : Go EN p e below s kc ks Q T (mkF m (pc + 1) Ls (.int (x &&& y) :: S))) : Go EN p e below s kc ks Q T (mkF m pc Ls (.int y :: .int x :: S)) := Go.step (fun _ kt => XS.iand X.here u.1 rfl (hb u.2.1 d) rfl kt) K
theorem t_imul (X : Stand p l e R s' m args below meth c T locs cells slots) (u : UB p c b nl) (d : decode b pc = .ok (.imul, 1)) (K : Go EN p e below s kc ks Q T (mkF m (pc + 1) Ls (.int (x * y) :: S))) : Go EN p e below s kc ks Q T (mkF m pc Ls (.int y :: .int x :: S)) := Go.step (fun _ kt => XS.imul X.here u.1 rfl (hb u.2.1 d) rfl kt) K
theorem t_inc (X : Stand p l e R s' m args below meth c T locs cells slots) (u : UB p c b nl) (d : decode b pc = .ok (.iinc k o, 3)) (g : Ls[k]? = some (.val (.int x))) (h : storeLocals Ls k (.int (x + Int32.ofInt o)) = some l') (K : Go EN p e below s kc ks Q T (mkF m (pc + 3) l' (S))) : Go EN p e below s kc ks Q T (mkF m pc Ls (S)) := Go.step (fun _ kt => XS.iinc X.here u.1 rfl (hb u.2.1 d) g h kt) K
theorem t_go (pc0 pc' : Nat) (X : Stand p l e R s' m args below meth c T locs cells slots) (u : UB p c b nl) (hpc : pc = pc0) (d : decode b pc0 = .ok (.goto o, 3)) (hp : 0 ≤ (pc0 : Int) + o ∧ ((pc0 : Int) + o).toNat = pc') (K : Go EN p e below s kc ks Q T (mkF m pc' Ls (S))) : Go EN p e below s kc ks Q T (mkF m pc Ls (S)) := by
  subst hpc
  exact Go.step (fun _ kt => XS.goto X.here u.1 rfl (pc0 := pc) rfl (hb u.2.1 d)  hp.1 hp.2 kt) K
theorem t_ifY (pc0 pc' : Nat) (X : Stand p l e R s' m args below meth c T locs cells slots) (u : UB p c b nl) (hpc : pc = pc0) (d : decode b pc0 = .ok (.ifCond cd o, 3)) (h : ifCond.holds cd x = true) (hp : 0 ≤ (pc0 : Int) + o ∧ ((pc0 : Int) + o).toNat = pc') (K : Go EN p e below s kc ks Q T (mkF m pc' Ls (S))) : Go EN p e below s kc ks Q T (mkF m pc Ls (.int x :: S)) := by
  subst hpc
  exact Go.step (fun _ kt => XS.ifYes X.here u.1 rfl (pc0 := pc) rfl (hb u.2.1 d) rfl h hp.1 hp.2 kt) K
theorem t_icY (pc0 pc' : Nat) (X : Stand p l e R s' m args below meth c T locs cells slots) (u : UB p c b nl) (hpc : pc = pc0) (d : decode b pc0 = .ok (.if_icmp cd o, 3)) (h : if_icmp.holds cd x y = true) (hp : 0 ≤ (pc0 : Int) + o ∧ ((pc0 : Int) + o).toNat = pc') (K : Go EN p e below s kc ks Q T (mkF m pc' Ls (S))) : Go EN p e below s kc ks Q T (mkF m pc Ls (.int y :: .int x :: S)) := by
  subst hpc
  exact Go.step (fun _ kt => XS.icmpYes X.here u.1 rfl (pc0 := pc) rfl (hb u.2.1 d) rfl h hp.1 hp.2 kt) K
theorem t_ifN (X : Stand p l e R s' m args below meth c T locs cells slots) (u : UB p c b nl) (d : decode b pc = .ok (.ifCond cd o, 3)) (h : ifCond.holds cd x = false) (K : Go EN p e below s kc ks Q T (mkF m (pc + 3) Ls (S))) : Go EN p e below s kc ks Q T (mkF m pc Ls (.int x :: S)) := Go.step (fun _ kt => XS.ifNo X.here u.1 rfl (hb u.2.1 d) rfl h kt) K
theorem t_icN (X : Stand p l e R s' m args below meth c T locs cells slots) (u : UB p c b nl) (d : decode b pc = .ok (.if_icmp cd o, 3)) (h : if_icmp.holds cd x y = false) (K : Go EN p e below s kc ks Q T (mkF m (pc + 3) Ls (S))) : Go EN p e below s kc ks Q T (mkF m pc Ls (.int y :: .int x :: S)) := Go.step (fun _ kt => XS.icmpNo X.here u.1 rfl (hb u.2.1 d) rfl h kt) K
end Tiny
section TinyC
variable {p : Program} {l : Launch} {e : Env} {R : Room} {s s' : State} {m : MethodId} {args : Array Value} {below : List Frame} {meth : Method} {c : Code} {T : State} {locs : List Loc} {cells slots kc ks nl : Nat} {Q : Option Value → Heap → List Loc → Prop} {EN : State → Outcome → State → List Loc → Nat → Nat → Prop} {b : ByteArray} {pc : Nat} {Ls : Array Slot} {S : List Value} {Z : State} {a0 : Array Value} {h h0 : Heap} {a : Addr} {v old : Value} {own C O n d : String} {index kk count : Nat} {y z : MethodName} {bytes : ByteArray} {maxL : Nat} {ret rt : Option FieldType} {rm : Room} {Q' : Option Value → Heap → List Loc → Prop} {val : Option Value} {ps : List FieldType} {ty : FieldType}
theorem t_gF (X : Stand p l e R s' m args below meth c T locs cells slots) (u : UB p c b nl) (hZ : Z.Warmed39 s'.vm) (hown : s'.vm.findClass own = some m.cls) (w : (Jvm.Cond.fieldLink own index O n d).before a0 Z = true) (eT : T.heap = h) (F : Fld Z h a O n d v) (dd : decode b pc = .ok (.getfield index, 3)) (K : ∀ T', Stand p l e R s' m args below meth c T' locs cells slots → T'.heap = h → Go EN p e below s kc ks Q T' (mkF m (pc + 3) Ls (v :: S))) : Go EN p e below s kc ks Q T (mkF m pc Ls (.ref a :: S)) := by
  obtain ⟨T', X', e', st⟩ := getF X u.1 hZ hown (host := "") (Or.inl w) Via.refl eT F (g := mkF m pc Ls (.ref a :: S)) rfl rfl (hb u.2.1 dd)
  exact Go.step st (K T' X' e')
theorem t_gS (X : Stand p l e R s' m args below meth c T locs cells slots) (u : UB p c b nl) (hZ : Z.Warmed39 s'.vm) (hown : s'.vm.findClass own = some m.cls) (w : (Jvm.Cond.fieldLink own index O n d).before a0 Z = true) (eT : T.heap = h) (F : Sta Z h O n d v) (dd : decode b pc = .ok (.getstatic index, 3)) (K : ∀ T', Stand p l e R s' m args below meth c T' locs cells slots → T'.heap = h → Go EN p e below s kc ks Q T' (mkF m (pc + 3) Ls (v :: S))) : Go EN p e below s kc ks Q T (mkF m pc Ls S) := by
  obtain ⟨T', X', e', st⟩ := getS2 X u.1 hZ hown (host := "") (Or.inl w) Via.refl eT F (g := mkF m pc Ls S) rfl (hb u.2.1 dd)
  exact Go.step st (K T' X' e')
theorem t_pF (X : Stand p l e R s' m args below meth c T locs cells slots) (u : UB p c b nl) (hZ : Z.Warmed39 s'.vm) (hown : s'.vm.findClass own = some m.cls) (w : (Jvm.Cond.fieldLink own index O n d).before a0 Z = true) (eT : T.heap = h) (F : Fld Z h a O n d old) (E : Exa Z h a C) (L : (Jvm.Cond.lays C O n d).before a0 Z = true ∨ ((Jvm.Cond.laysFinal C O n d).before a0 Z = true ∧ own = O ∧ meth.name = "<init>")) (wi : (Jvm.Cond.instantiable C kk).before a0 Z = true) (hty : parseFieldDescriptor d = some ty) (hn : narrow ty v = v) (hf : fits ty v = true) (dd : decode b pc = .ok (.putfield index, 3)) (K : ∀ T' h', Stand p l e R s' m args below meth c T' (locs ++ [⟨a, Jvm.RoadKit.slotOf Z O n d⟩]) cells slots → T'.heap = h' → Wr h h' a (Jvm.RoadKit.slotOf Z O n d) v → Go EN p e below s kc ks Q T' (mkF m (pc + 3) Ls S)) : Go EN p e below s kc ks Q T (mkF m pc Ls (v :: .ref a :: S)) := by
  obtain ⟨T', h', X', e', W, st⟩ := putF X u.1 hZ hown (host := "") (Or.inl w) Via.refl eT F E L wi hty hn hf (g := mkF m pc Ls (v :: .ref a :: S)) rfl rfl (hb u.2.1 dd)
  exact Go.step st (K T' h' X' e' W)
theorem t_pN (X : Stand p l e R s' m args below meth c T locs cells slots) (u : UB p c b nl) (hZ : Z.Warmed39 s'.vm) (hown : s'.vm.findClass own = some m.cls) (w : (Jvm.Cond.fieldLink own index O n d).before a0 Z = true) (eT : T.heap = h) (F : Fld Z h a O n d old) (E : Exa Z h a C) (L : (Jvm.Cond.lays C O n d).before a0 Z = true ∨ ((Jvm.Cond.laysFinal C O n d).before a0 Z = true ∧ own = O ∧ meth.name = "<init>")) (wi : (Jvm.Cond.instantiable C kk).before a0 Z = true) (v' : Value) (hty : parseFieldDescriptor d = some ty) (hn : narrow ty v = v') (hf : fits ty v' = true) (dd : decode b pc = .ok (.putfield index, 3)) (K : ∀ T' h', Stand p l e R s' m args below meth c T' (locs ++ [⟨a, Jvm.RoadKit.slotOf Z O n d⟩]) cells slots → T'.heap = h' → Wr h h' a (Jvm.RoadKit.slotOf Z O n d) v' → Go EN p e below s kc ks Q T' (mkF m (pc + 3) Ls S)) : Go EN p e below s kc ks Q T (mkF m pc Ls (v :: .ref a :: S)) := by
  obtain ⟨T', h', X', e', W, st⟩ := putFN X u.1 hZ hown w Via.refl eT F E L wi hty hn hf (g := mkF m pc Ls (v :: .ref a :: S)) rfl rfl (hb u.2.1 dd)
  exact Go.step st (K T' h' X' e' W)
theorem t_new (X : Stand p l e R s' m args below meth c T locs cells slots) (u : UB p c b nl) (hZ : Z.Warmed39 s'.vm) (hown : s'.vm.findClass own = some m.cls) {q : Nat} (w : (Jvm.Cond.classLink own index C).before a0 Z = true) (wi : (Jvm.Cond.instantiable C q).before a0 Z = true) (wz : (Jvm.Cond.initialized C).before a0 Z = true) (eT : T.heap = h) (dd : decode b pc = .ok (.new index, 3)) (rr : cells + 1 ≤ R.cells ∧ slots + q ≤ R.slots) (K : ∀ T' h' b', Stand p l e R s' m args below meth c T' locs (cells + 1) (slots + q) → T'.heap = h' → Ext h h' → b' = h.size → Exa Z h' b' C → (∀ {O nm d : String} {ty : FieldType}, Laid Z a0 C O nm d → parseFieldDescriptor d = some ty → Fld Z h' b' O nm d (defaultValue ty)) → Go EN p e below s kc ks Q T' (mkF m (pc + 3) Ls (.ref b' :: S))) : Go EN p e below s kc ks Q T (mkF m pc Ls S) := by
  obtain ⟨T', h', X', e', E, A', D, U, st⟩ := newO X u.1 hZ hown w wi wz eT (g := mkF m pc Ls S) rfl (hb u.2.1 dd) rr.1 rr.2
  exact Go.step st (K T' h' _ X' e' E rfl A' D)
theorem t_in (W : Nat) (X : Stand p l e R s' m args below meth c T locs cells slots) (u : UB p c b nl) (hZ : Z.Warmed39 s'.vm) (hown : s'.vm.findClass own = some m.cls) (w1 : (Jvm.Cond.methodLink own index Lib.objectInit).before a0 Z = true) (w2 : (Jvm.Cond.instanceMethod Lib.objectInit).before a0 Z = true) (w3 : (Jvm.Cond.code Lib.objectInit ⟨#[0xb1]⟩ 1 none).before a0 Z = true) (eT : T.heap = h) (hsz : Ls.size = nl) (dd : decode b pc = .ok (.invokespecial index, 3)) (hW : (S.map fun v => v.category).sum = W) (rr : 1 ≤ R.frames ∧ W + 12 ≤ R.locals) (K : ∀ T', Stand p l e R s' m args below meth c T' locs cells slots → T'.heap = h → Go EN p e below s kc ks Q T' (mkF m (pc + 3) Ls S)) : Go EN p e below s kc ks Q T (mkF m pc Ls (.ref a :: S)) := by
  obtain ⟨T', X', e', st⟩ := initO X u.1 hZ hown w1 w2 w3 eT (g := mkF m pc Ls (.ref a :: S)) rfl (hsz.trans u.2.2.symm) rfl (hb u.2.1 dd) rr.1 (W := W) (by show 2 * 0 + _ ≤ _; omega) rr.2
  exact Go.step st (K T' X' e')
theorem t_bs (i : Nat) (X : Stand p l e R s' m args below meth c T locs cells slots) (u : UB p c b nl) (hZ : Z.Warmed39 s'.vm) (eT : T.heap = h) {kc' : ClassId} {n : Int32} {vs : List Value} {dv : Value} (V : Arv Z h a kc' .byte n vs dv) {j x : Int32} (hj : j.toNatClampNeg = i ∧ ¬ j < 0 ∧ j < n) (hi : i < vs.length) (dd : decode b pc = .ok (.bastore, 1)) (K : ∀ T' h', Stand p l e R s' m args below meth c T' (locs ++ [⟨a, j.toNatClampNeg⟩]) cells slots → T'.heap = h' → Wr h h' a j.toNatClampNeg (.int (nar .byte x)) → Arv Z h' a kc' .byte n (vs.set i (.int x.toInt8.toInt32)) dv → Go EN p e below s kc ks Q T' (mkF m (pc + 1) Ls S)) : Go EN p e below s kc ks Q T (mkF m pc Ls (.int x :: .int j :: .ref a :: S)) := by
  obtain ⟨cl, Ar, q, S', N, H, G⟩ := id V
  obtain ⟨T', h', X', e', W, st⟩ := stB X u.1 hZ eT Ar (j := j) (x := x) (inb_of S' hj.2) (g := mkF m pc Ls (.int x :: .int j :: .ref a :: S)) rfl rfl (hb u.2.1 dd)
  exact Go.step st (K T' h' X' e' W (Arv.set Ar q S' N H G (fits_nar_byte x) W i hj.1 hi))
abbrev VW (Z : State) (a0 : Array Value) (C : String) (z : MethodName) (bytes : ByteArray) (maxL : Nat) (ret : Option FieldType) (ps : List FieldType) (rt : Option FieldType) : Prop := (Jvm.Cond.declares z).before a0 Z = true ∧ (Jvm.Cond.selects C z z).before a0 Z = true ∧ (Jvm.Cond.instanceMethod z).before a0 Z = true ∧ (Jvm.Cond.code z bytes maxL ret).before a0 Z = true ∧ (Jvm.Cond.initialized z.cls).before a0 Z = true ∧ (z.cls ≠ "java/lang/invoke/MethodHandle" ∧ z.cls ≠ "java/lang/invoke/VarHandle") ∧ parseMethodDescriptor z.desc = some ⟨ps, rt⟩
theorem mk_VW (h0 : (Jvm.Cond.declares z).before a0 Z = true) (h1 : (Jvm.Cond.selects C z z).before a0 Z = true) (h2 : (Jvm.Cond.instanceMethod z).before a0 Z = true) (h3 : (Jvm.Cond.code z bytes maxL ret).before a0 Z = true) (h4 : (Jvm.Cond.initialized z.cls).before a0 Z = true) (h5 : (z.cls ≠ "java/lang/invoke/MethodHandle" ∧ z.cls ≠ "java/lang/invoke/VarHandle")) (h6 : parseMethodDescriptor z.desc = some ⟨ps, rt⟩) : VW Z a0 C z bytes maxL ret ps rt := ⟨h0, h1, h2, h3, h4, h5, h6⟩
abbrev PW (Z : State) (a0 : Array Value) (z : MethodName) (bytes : ByteArray) (maxL : Nat) (ret : Option FieldType) (ps : List FieldType) (rt : Option FieldType) : Prop := (Jvm.Cond.instanceMethod z).before a0 Z = true ∧ (Jvm.Cond.selects z.cls z z).before a0 Z = true ∧ (Jvm.Cond.privateMethod z).before a0 Z = true ∧ (Jvm.Cond.code z bytes maxL ret).before a0 Z = true ∧ (Jvm.Cond.initialized z.cls).before a0 Z = true ∧ (z.cls ≠ "java/lang/invoke/MethodHandle" ∧ z.cls ≠ "java/lang/invoke/VarHandle") ∧ parseMethodDescriptor z.desc = some ⟨ps, rt⟩
theorem mk_PW (h0 : (Jvm.Cond.instanceMethod z).before a0 Z = true) (h1 : (Jvm.Cond.selects z.cls z z).before a0 Z = true) (h2 : (Jvm.Cond.privateMethod z).before a0 Z = true) (h3 : (Jvm.Cond.code z bytes maxL ret).before a0 Z = true) (h4 : (Jvm.Cond.initialized z.cls).before a0 Z = true) (h5 : (z.cls ≠ "java/lang/invoke/MethodHandle" ∧ z.cls ≠ "java/lang/invoke/VarHandle")) (h6 : parseMethodDescriptor z.desc = some ⟨ps, rt⟩) : PW Z a0 z bytes maxL ret ps rt := ⟨h0, h1, h2, h3, h4, h5, h6⟩
abbrev UW (Z : State) (a0 : Array Value) (C : String) (O : String) (y : MethodName) (z : MethodName) (bytes : ByteArray) (maxL : Nat) (ret : Option FieldType) (ps : List FieldType) (rt : Option FieldType) : Prop := (Jvm.Cond.sameMethod y.cls O y.name y.desc).before a0 Z = true ∧ (Jvm.Cond.declares ⟨O, y.name, y.desc⟩).before a0 Z = true ∧ (Jvm.Cond.selects C y z).before a0 Z = true ∧ (Jvm.Cond.instanceMethod z).before a0 Z = true ∧ (Jvm.Cond.code z bytes maxL ret).before a0 Z = true ∧ (Jvm.Cond.initialized z.cls).before a0 Z = true ∧ (O ≠ "java/lang/invoke/MethodHandle" ∧ O ≠ "java/lang/invoke/VarHandle") ∧ parseMethodDescriptor y.desc = some ⟨ps, rt⟩
theorem mk_UW (h0 : (Jvm.Cond.sameMethod y.cls O y.name y.desc).before a0 Z = true) (h1 : (Jvm.Cond.declares ⟨O, y.name, y.desc⟩).before a0 Z = true) (h2 : (Jvm.Cond.selects C y z).before a0 Z = true) (h3 : (Jvm.Cond.instanceMethod z).before a0 Z = true) (h4 : (Jvm.Cond.code z bytes maxL ret).before a0 Z = true) (h5 : (Jvm.Cond.initialized z.cls).before a0 Z = true) (h6 : (O ≠ "java/lang/invoke/MethodHandle" ∧ O ≠ "java/lang/invoke/VarHandle")) (h7 : parseMethodDescriptor y.desc = some ⟨ps, rt⟩) : UW Z a0 C O y z bytes maxL ret ps rt := ⟨h0, h1, h2, h3, h4, h5, h6, h7⟩
abbrev XW (Z : State) (a0 : Array Value) (own : String) (z : MethodName) (bytes : ByteArray) (maxL : Nat) (ret : Option FieldType) (ps : List FieldType) (rt : Option FieldType) : Prop := (Jvm.Cond.instanceMethod z).before a0 Z = true ∧ (Jvm.Cond.sameMethod z.cls z.cls z.name z.desc).before a0 Z = true ∧ (Jvm.Cond.superclass own z.cls).before a0 Z = true ∧ (Jvm.Cond.code z bytes maxL ret).before a0 Z = true ∧ (Jvm.Cond.initialized z.cls).before a0 Z = true ∧ (z.cls ≠ "java/lang/invoke/MethodHandle" ∧ z.cls ≠ "java/lang/invoke/VarHandle") ∧ parseMethodDescriptor z.desc = some ⟨ps, rt⟩
theorem mk_XW (h0 : (Jvm.Cond.instanceMethod z).before a0 Z = true) (h1 : (Jvm.Cond.sameMethod z.cls z.cls z.name z.desc).before a0 Z = true) (h2 : (Jvm.Cond.superclass own z.cls).before a0 Z = true) (h3 : (Jvm.Cond.code z bytes maxL ret).before a0 Z = true) (h4 : (Jvm.Cond.initialized z.cls).before a0 Z = true) (h5 : (z.cls ≠ "java/lang/invoke/MethodHandle" ∧ z.cls ≠ "java/lang/invoke/VarHandle")) (h6 : parseMethodDescriptor z.desc = some ⟨ps, rt⟩) : XW Z a0 own z bytes maxL ret ps rt := ⟨h0, h1, h2, h3, h4, h5, h6⟩
abbrev NW (Z : State) (a0 : Array Value) (z : MethodName) (bytes : ByteArray) (maxL : Nat) (ret : Option FieldType) (ps : List FieldType) (rt : Option FieldType) : Prop := (Jvm.Cond.instanceMethod z).before a0 Z = true ∧ (Jvm.Cond.code z bytes maxL ret).before a0 Z = true ∧ (Jvm.Cond.initialized z.cls).before a0 Z = true ∧ (z.cls ≠ "java/lang/invoke/MethodHandle" ∧ z.cls ≠ "java/lang/invoke/VarHandle") ∧ parseMethodDescriptor z.desc = some ⟨ps, rt⟩
theorem mk_NW (h0 : (Jvm.Cond.instanceMethod z).before a0 Z = true) (h1 : (Jvm.Cond.code z bytes maxL ret).before a0 Z = true) (h2 : (Jvm.Cond.initialized z.cls).before a0 Z = true) (h3 : (z.cls ≠ "java/lang/invoke/MethodHandle" ∧ z.cls ≠ "java/lang/invoke/VarHandle")) (h4 : parseMethodDescriptor z.desc = some ⟨ps, rt⟩) : NW Z a0 z bytes maxL ret ps rt := ⟨h0, h1, h2, h3, h4⟩
abbrev SW (Z : State) (a0 : Array Value) (z : MethodName) (bytes : ByteArray) (maxL : Nat) (ret : Option FieldType) (ps : List FieldType) (rt : Option FieldType) : Prop := (Jvm.Cond.static z).before a0 Z = true ∧ (Jvm.Cond.code z bytes maxL ret).before a0 Z = true ∧ (Jvm.Cond.initialized z.cls).before a0 Z = true ∧ (z.cls ≠ "java/lang/invoke/MethodHandle" ∧ z.cls ≠ "java/lang/invoke/VarHandle") ∧ parseMethodDescriptor z.desc = some ⟨ps, rt⟩
theorem mk_SW (h0 : (Jvm.Cond.static z).before a0 Z = true) (h1 : (Jvm.Cond.code z bytes maxL ret).before a0 Z = true) (h2 : (Jvm.Cond.initialized z.cls).before a0 Z = true) (h3 : (z.cls ≠ "java/lang/invoke/MethodHandle" ∧ z.cls ≠ "java/lang/invoke/VarHandle")) (h4 : parseMethodDescriptor z.desc = some ⟨ps, rt⟩) : SW Z a0 z bytes maxL ret ps rt := ⟨h0, h1, h2, h3, h4⟩
theorem t_cV (argsL rest : List Value) (W : Nat) (X : Stand p l e R s' m args below meth c T locs cells slots) (u : UB p c b nl) (hZ : Z.Warmed39 s'.vm) (hown : s'.vm.findClass own = some m.cls) (w1 : (Jvm.Cond.methodLink own index z).before a0 Z = true) (ww : VW Z a0 C z bytes maxL ret ps rt) (eT : T.heap = h) (E : Exa Z h a C) (hM : Met FrameEnd l z bytes maxL ret [] rm Z h (.ref a :: argsL).toArray Q') (hsz : Ls.size = nl) (d : decode b pc = .ok (.invokevirtual index, 3)) (hl : argsL.length = ps.length) (hW : (rest.map fun v => v.category).sum = W) (rr : (rm.frames + 1 ≤ R.frames ∧ W + (maxL + 11) + rm.locals ≤ R.locals) ∧ cells + rm.cells ≤ R.cells ∧ slots + rm.slots ≤ R.slots) (K : ∀ (v : Option Value) (T' : State) (L' Lc : List Loc), Stand p l e R s' m args below meth c T' L' (cells + rm.cells) (slots + rm.slots) → Q' v T'.heap Lc → L' = locs ++ Lc → Go EN p e below s kc ks Q T' (mkF m (pc + 3) Ls (v.toList ++ rest))) : Go EN p e below s kc ks Q T (mkF m pc Ls (argsL.reverse ++ .ref a :: rest)) := by
  obtain ⟨hd, hs, hi, hcode, hini, hy, hp⟩ := ww
  obtain ⟨cB, kB, i1, i2, i3⟩ := isOf hZ eT E
  obtain ⟨v, _, ⟨T', L', k', n'⟩, -, X', ⟨Lc, hQ, l1, y1, z1⟩, st⟩ := X.virtualBack u.1 (y := z) (z := z) hown (mvT hZ w1) (mvT hZ hd) (notFace_of_selects (args := #[]) (mvT hZ hs)) (mvT hZ hs) (mvT hZ hi) hy (backOf (W := W) hM hZ hcode hini rr.1.1 rr.1.2) i1 i3 (g := mkF m pc Ls (argsL.reverse ++ .ref a :: rest)) rfl (hsz.trans u.2.2.symm) (Steps.refl _) (argsL := argsL) (rest := rest) (lenOf hp hl) rfl (by show 2 * 0 + _ ≤ _; omega) (hb u.2.1 d) (fun _ _ => ⟨rfl, eT, rr.2.1, rr.2.2⟩)
  dsimp only [Pt.U, Pt.locs, Pt.cells, Pt.slots] at X' l1 y1 z1 st hQ
  subst y1 z1
  exact Go.trans st (K v T' L' Lc X' hQ l1)
theorem pt_cV (argsL rest : List Value) (W : Nat) (X : Stand p l e R s' m args below meth c T locs cells slots) (u : UB p c b nl) (hZ : Z.Warmed39 s'.vm) (hown : s'.vm.findClass own = some m.cls) (w1 : (Jvm.Cond.methodLink own index z).before a0 Z = true) (ww : VW Z a0 C z bytes maxL ret ps rt) (eT : T.heap = h) (E : Exa Z h a C) (hM : Met FrameEnd l z bytes maxL ret [] rm Z h (.ref a :: argsL).toArray (Qp val Z h)) (hsz : Ls.size = nl) (d : decode b pc = .ok (.invokevirtual index, 3)) (hl : argsL.length = ps.length) (hW : (rest.map fun v => v.category).sum = W) (rr : (rm.frames + 1 ≤ R.frames ∧ W + (maxL + 11) + rm.locals ≤ R.locals) ∧ cells + rm.cells ≤ R.cells ∧ slots + rm.slots ≤ R.slots) (N : Fr Z.heap.size locs) (K : ∀ (T' : State) (L' : List Loc), Stand p l e R s' m args below meth c T' L' (cells + rm.cells) (slots + rm.slots) → T'.heap = h → Fr Z.heap.size L' → Go EN p e below s kc ks Q T' (mkF m (pc + 3) Ls (val.toList ++ rest))) : Go EN p e below s kc ks Q T (mkF m pc Ls (argsL.reverse ++ .ref a :: rest)) := by
  obtain ⟨hd, hs, hi, hcode, hini, hy, hp⟩ := ww
  obtain ⟨cB, kB, i1, i2, i3⟩ := isOf hZ eT E
  obtain ⟨v, _, ⟨T', L', k', n'⟩, -, X', ⟨Lc, hQ, l1, y1, z1⟩, st⟩ := X.virtualBack u.1 (y := z) (z := z) hown (mvT hZ w1) (mvT hZ hd) (notFace_of_selects (args := #[]) (mvT hZ hs)) (mvT hZ hs) (mvT hZ hi) hy (backOf (W := W) hM hZ hcode hini rr.1.1 rr.1.2) i1 i3 (g := mkF m pc Ls (argsL.reverse ++ .ref a :: rest)) rfl (hsz.trans u.2.2.symm) (Steps.refl _) (argsL := argsL) (rest := rest) (lenOf hp hl) rfl (by show 2 * 0 + _ ≤ _; omega) (hb u.2.1 d) (fun _ _ => ⟨rfl, eT, rr.2.1, rr.2.2⟩)
  dsimp only [Pt.U, Pt.locs, Pt.cells, Pt.slots] at X' l1 y1 z1 st hQ
  subst y1 z1
  obtain ⟨rfl, Nq, eq⟩ := hQ
  exact Go.trans st (K T' L' X' eq (by rw [l1]; exact Fr.app N Nq))
theorem t_cN (argsL rest : List Value) (W : Nat) (X : Stand p l e R s' m args below meth c T locs cells slots) (u : UB p c b nl) (hZ : Z.Warmed39 s'.vm) (hown : s'.vm.findClass own = some m.cls) (hn : z.name = "<init>") (w1 : (Jvm.Cond.methodLink own index z).before a0 Z = true) (ww : NW Z a0 z bytes maxL none ps rt) (eT : T.heap = h) (hM : Met FrameEnd l z bytes maxL none [] rm Z h (.ref a :: argsL).toArray Q') (hsz : Ls.size = nl) (d : decode b pc = .ok (.invokespecial index, 3)) (hl : argsL.length = ps.length) (hW : (rest.map fun v => v.category).sum = W) (rr : (rm.frames + 1 ≤ R.frames ∧ W + (maxL + 11) + rm.locals ≤ R.locals) ∧ cells + rm.cells ≤ R.cells ∧ slots + rm.slots ≤ R.slots) (K : ∀ (v : Option Value) (T' : State) (L' Lc : List Loc), Stand p l e R s' m args below meth c T' L' (cells + rm.cells) (slots + rm.slots) → Q' v T'.heap Lc → L' = locs ++ Lc → Go EN p e below s kc ks Q T' (mkF m (pc + 3) Ls (v.toList ++ rest))) : Go EN p e below s kc ks Q T (mkF m pc Ls (argsL.reverse ++ .ref a :: rest)) := by
  obtain ⟨hi, hcode, hini, hy, hp⟩ := ww
  obtain ⟨v, _, ⟨T', L', k', n'⟩, -, X', ⟨Lc, hQ, l1, y1, z1⟩, st⟩ := X.specialBack u.1 (y := z) hn hown (mvT hZ w1) (mvT hZ hi) (mvT hZ hcode) hy (backOf (W := W) hM hZ hcode hini rr.1.1 rr.1.2) (g := mkF m pc Ls (argsL.reverse ++ .ref a :: rest)) rfl (hsz.trans u.2.2.symm) (Steps.refl _) (a := a) (argsL := argsL) (rest := rest) (lenOf hp hl) rfl (by show 2 * 0 + _ ≤ _; omega) (hb u.2.1 d) (fun _ _ => ⟨rfl, eT, rr.2.1, rr.2.2⟩)
  dsimp only [Pt.U, Pt.locs, Pt.cells, Pt.slots] at X' l1 y1 z1 st hQ
  subst y1 z1
  exact Go.trans st (K v T' L' Lc X' hQ l1)
theorem t_cS (argsL rest : List Value) (W : Nat) (X : Stand p l e R s' m args below meth c T locs cells slots) (u : UB p c b nl) (hZ : Z.Warmed39 s'.vm) (hown : s'.vm.findClass own = some m.cls) (w1 : (Jvm.Cond.methodLink own index z).before a0 Z = true) (ww : SW Z a0 z bytes maxL ret ps rt) (eT : T.heap = h) (hM : Met FrameEnd l z bytes maxL ret [] rm Z h argsL.toArray Q') (hsz : Ls.size = nl) (d : decode b pc = .ok (.invokestatic index, 3)) (hl : argsL.length = ps.length) (hW : (rest.map fun v => v.category).sum = W) (rr : (rm.frames + 1 ≤ R.frames ∧ W + (maxL + 11) + rm.locals ≤ R.locals) ∧ cells + rm.cells ≤ R.cells ∧ slots + rm.slots ≤ R.slots) (K : ∀ (v : Option Value) (T' : State) (L' Lc : List Loc), Stand p l e R s' m args below meth c T' L' (cells + rm.cells) (slots + rm.slots) → Q' v T'.heap Lc → L' = locs ++ Lc → Go EN p e below s kc ks Q T' (mkF m (pc + 3) Ls (v.toList ++ rest))) : Go EN p e below s kc ks Q T (mkF m pc Ls (argsL.reverse ++ rest)) := by
  obtain ⟨hs, hcode, hini, hy, hp⟩ := ww
  obtain ⟨v, _, ⟨T', L', k', n'⟩, -, X', ⟨Lc, hQ, l1, y1, z1⟩, st⟩ := Jvm.LawKit.callS X u.1 (y := z) hown (mvT hZ w1) (mvT hZ hs) (mvT hZ hini) (mvT hZ hcode) hy (backOf (W := W) hM hZ hcode hini rr.1.1 rr.1.2) (g := mkF m pc Ls (argsL.reverse ++ rest)) rfl (hsz.trans u.2.2.symm) (argsL := argsL) (rest := rest) (lenOf hp hl) rfl (by show 2 * 0 + _ ≤ _; omega) (hb u.2.1 d) (fun _ _ => ⟨rfl, eT, rr.2.1, rr.2.2⟩)
  dsimp only [Pt.U, Pt.locs, Pt.cells, Pt.slots] at X' l1 y1 z1 st hQ
  subst y1 z1
  exact Go.step st (K v T' L' Lc X' hQ l1)
theorem pt_cS (argsL rest : List Value) (W : Nat) (X : Stand p l e R s' m args below meth c T locs cells slots) (u : UB p c b nl) (hZ : Z.Warmed39 s'.vm) (hown : s'.vm.findClass own = some m.cls) (w1 : (Jvm.Cond.methodLink own index z).before a0 Z = true) (ww : SW Z a0 z bytes maxL ret ps rt) (eT : T.heap = h) (hM : Met FrameEnd l z bytes maxL ret [] rm Z h argsL.toArray (Qp val Z h)) (hsz : Ls.size = nl) (d : decode b pc = .ok (.invokestatic index, 3)) (hl : argsL.length = ps.length) (hW : (rest.map fun v => v.category).sum = W) (rr : (rm.frames + 1 ≤ R.frames ∧ W + (maxL + 11) + rm.locals ≤ R.locals) ∧ cells + rm.cells ≤ R.cells ∧ slots + rm.slots ≤ R.slots) (N : Fr Z.heap.size locs) (K : ∀ (T' : State) (L' : List Loc), Stand p l e R s' m args below meth c T' L' (cells + rm.cells) (slots + rm.slots) → T'.heap = h → Fr Z.heap.size L' → Go EN p e below s kc ks Q T' (mkF m (pc + 3) Ls (val.toList ++ rest))) : Go EN p e below s kc ks Q T (mkF m pc Ls (argsL.reverse ++ rest)) := by
  obtain ⟨hs, hcode, hini, hy, hp⟩ := ww
  obtain ⟨v, _, ⟨T', L', k', n'⟩, -, X', ⟨Lc, hQ, l1, y1, z1⟩, st⟩ := Jvm.LawKit.callS X u.1 (y := z) hown (mvT hZ w1) (mvT hZ hs) (mvT hZ hini) (mvT hZ hcode) hy (backOf (W := W) hM hZ hcode hini rr.1.1 rr.1.2) (g := mkF m pc Ls (argsL.reverse ++ rest)) rfl (hsz.trans u.2.2.symm) (argsL := argsL) (rest := rest) (lenOf hp hl) rfl (by show 2 * 0 + _ ≤ _; omega) (hb u.2.1 d) (fun _ _ => ⟨rfl, eT, rr.2.1, rr.2.2⟩)
  dsimp only [Pt.U, Pt.locs, Pt.cells, Pt.slots] at X' l1 y1 z1 st hQ
  subst y1 z1
  obtain ⟨rfl, Nq, eq⟩ := hQ
  exact Go.step st (K T' L' X' eq (by rw [l1]; exact Fr.app N Nq))
theorem t_cP (argsL rest : List Value) (W : Nat) (X : Stand p l e R s' m args below meth c T locs cells slots) (u : UB p c b nl) (hZ : Z.Warmed39 s'.vm) (hown : s'.vm.findClass own = some m.cls) (E : Exa Z h a C) (w1 : (Jvm.Cond.methodLink own index z).before a0 Z = true) (ww : PW Z a0 z bytes maxL ret ps rt) (eT : T.heap = h) (hM : Met FrameEnd l z bytes maxL ret [] rm Z h (.ref a :: argsL).toArray Q') (hsz : Ls.size = nl) (d : decode b pc = .ok (.invokevirtual index, 3)) (hl : argsL.length = ps.length) (hW : (rest.map fun v => v.category).sum = W) (rr : (rm.frames + 1 ≤ R.frames ∧ W + (maxL + 11) + rm.locals ≤ R.locals) ∧ cells + rm.cells ≤ R.cells ∧ slots + rm.slots ≤ R.slots) (K : ∀ (v : Option Value) (T' : State) (L' Lc : List Loc), Stand p l e R s' m args below meth c T' L' (cells + rm.cells) (slots + rm.slots) → Q' v T'.heap Lc → L' = locs ++ Lc → Go EN p e below s kc ks Q T' (mkF m (pc + 3) Ls (v.toList ++ rest))) : Go EN p e below s kc ks Q T (mkF m pc Ls (argsL.reverse ++ .ref a :: rest)) := by
  obtain ⟨hi, hs, hpr, hcode, hini, hy, hp⟩ := ww
  obtain ⟨cq, j1, j2⟩ := E.cell
  obtain ⟨v, _, ⟨T', L', k', n'⟩, -, X', ⟨Lc, hQ, l1, y1, z1⟩, st⟩ := X.privateBack u.1 (y := z) hown (mvT hZ w1) (mvT hZ hi) (mvT hZ hs) (Cond.privateMethod_at (mvP hZ hpr (args := #[]))) (mvT hZ hcode) hy (backOf (W := W) hM hZ hcode hini rr.1.1 rr.1.2) (g := mkF m pc Ls (argsL.reverse ++ .ref a :: rest)) rfl (hsz.trans u.2.2.symm) (Steps.refl _) (a := a) (by rw [eT]; exact j1) j2 (argsL := argsL) (rest := rest) (lenOf hp hl) rfl (by show 2 * 0 + _ ≤ _; omega) (hb u.2.1 d) (fun _ _ => ⟨rfl, eT, rr.2.1, rr.2.2⟩)
  dsimp only [Pt.U, Pt.locs, Pt.cells, Pt.slots] at X' l1 y1 z1 st hQ
  subst y1 z1
  exact Go.trans st (K v T' L' Lc X' hQ l1)
theorem pt_cP (argsL rest : List Value) (W : Nat) (X : Stand p l e R s' m args below meth c T locs cells slots) (u : UB p c b nl) (hZ : Z.Warmed39 s'.vm) (hown : s'.vm.findClass own = some m.cls) (E : Exa Z h a C) (w1 : (Jvm.Cond.methodLink own index z).before a0 Z = true) (ww : PW Z a0 z bytes maxL ret ps rt) (eT : T.heap = h) (hM : Met FrameEnd l z bytes maxL ret [] rm Z h (.ref a :: argsL).toArray (Qp val Z h)) (hsz : Ls.size = nl) (d : decode b pc = .ok (.invokevirtual index, 3)) (hl : argsL.length = ps.length) (hW : (rest.map fun v => v.category).sum = W) (rr : (rm.frames + 1 ≤ R.frames ∧ W + (maxL + 11) + rm.locals ≤ R.locals) ∧ cells + rm.cells ≤ R.cells ∧ slots + rm.slots ≤ R.slots) (N : Fr Z.heap.size locs) (K : ∀ (T' : State) (L' : List Loc), Stand p l e R s' m args below meth c T' L' (cells + rm.cells) (slots + rm.slots) → T'.heap = h → Fr Z.heap.size L' → Go EN p e below s kc ks Q T' (mkF m (pc + 3) Ls (val.toList ++ rest))) : Go EN p e below s kc ks Q T (mkF m pc Ls (argsL.reverse ++ .ref a :: rest)) := by
  obtain ⟨hi, hs, hpr, hcode, hini, hy, hp⟩ := ww
  obtain ⟨cq, j1, j2⟩ := E.cell
  obtain ⟨v, _, ⟨T', L', k', n'⟩, -, X', ⟨Lc, hQ, l1, y1, z1⟩, st⟩ := X.privateBack u.1 (y := z) hown (mvT hZ w1) (mvT hZ hi) (mvT hZ hs) (Cond.privateMethod_at (mvP hZ hpr (args := #[]))) (mvT hZ hcode) hy (backOf (W := W) hM hZ hcode hini rr.1.1 rr.1.2) (g := mkF m pc Ls (argsL.reverse ++ .ref a :: rest)) rfl (hsz.trans u.2.2.symm) (Steps.refl _) (a := a) (by rw [eT]; exact j1) j2 (argsL := argsL) (rest := rest) (lenOf hp hl) rfl (by show 2 * 0 + _ ≤ _; omega) (hb u.2.1 d) (fun _ _ => ⟨rfl, eT, rr.2.1, rr.2.2⟩)
  dsimp only [Pt.U, Pt.locs, Pt.cells, Pt.slots] at X' l1 y1 z1 st hQ
  subst y1 z1
  obtain ⟨rfl, Nq, eq⟩ := hQ
  exact Go.trans st (K T' L' X' eq (by rw [l1]; exact Fr.app N Nq))
theorem pt_cU (argsL rest : List Value) (W : Nat) (X : Stand p l e R s' m args below meth c T locs cells slots) (u : UB p c b nl) (hZ : Z.Warmed39 s'.vm) (hown : s'.vm.findClass own = some m.cls) (w1 : (Jvm.Cond.methodLink own index y).before a0 Z = true) (ww : UW Z a0 C O y z bytes maxL ret ps rt) (eT : T.heap = h) (E : Exa Z h a C) (hM : Met FrameEnd l z bytes maxL ret [] rm Z h (.ref a :: argsL).toArray (Qp val Z h)) (hsz : Ls.size = nl) (d : decode b pc = .ok (.invokevirtual index, 3)) (hl : argsL.length = ps.length) (hW : (rest.map fun v => v.category).sum = W) (rr : (rm.frames + 1 ≤ R.frames ∧ W + (maxL + 11) + rm.locals ≤ R.locals) ∧ cells + rm.cells ≤ R.cells ∧ slots + rm.slots ≤ R.slots) (N : Fr Z.heap.size locs) (K : ∀ (T' : State) (L' : List Loc), Stand p l e R s' m args below meth c T' L' (cells + rm.cells) (slots + rm.slots) → T'.heap = h → Fr Z.heap.size L' → Go EN p e below s kc ks Q T' (mkF m (pc + 3) Ls (val.toList ++ rest))) : Go EN p e below s kc ks Q T (mkF m pc Ls (argsL.reverse ++ .ref a :: rest)) := by
  obtain ⟨hsm, hd, hs, hi, hcode, hini, hy, hp⟩ := ww
  obtain ⟨cB, kB, i1, i2, i3⟩ := isOf hZ eT E
  obtain ⟨v, _, ⟨T', L', k', n'⟩, -, X', ⟨Lc, hQ, l1, y1, z1⟩, st⟩ := X.virtualBackUp u.1 (x := y) (y := z) hown (mvT hZ w1) (mvT hZ hsm) (mvT hZ hd) hy (mvT hZ hs) (mvT hZ hi) (backOf (W := W) hM hZ hcode hini rr.1.1 rr.1.2) i1 i3 (g := mkF m pc Ls (argsL.reverse ++ .ref a :: rest)) rfl (hsz.trans u.2.2.symm) (Steps.refl _) (argsL := argsL) (rest := rest) (lenOf hp hl) rfl (by show 2 * 0 + _ ≤ _; omega) (hb u.2.1 d) (fun _ _ => ⟨rfl, eT, rr.2.1, rr.2.2⟩)
  dsimp only [Pt.U, Pt.locs, Pt.cells, Pt.slots] at X' l1 y1 z1 st hQ
  subst y1 z1
  obtain ⟨rfl, Nq, eq⟩ := hQ
  exact Go.trans st (K T' L' X' eq (by rw [l1]; exact Fr.app N Nq))
theorem t_cX (argsL rest : List Value) (W : Nat) (X : Stand p l e R s' m args below meth c T locs cells slots) (u : UB p c b nl) (hZ : Z.Warmed39 s'.vm) (hown : s'.vm.findClass own = some m.cls) (hn : z.name ≠ "<init>") (E : Exa Z h a C) (w1 : (Jvm.Cond.methodLink own index z).before a0 Z = true) (ww : XW Z a0 own z bytes maxL ret ps rt) (eT : T.heap = h) (hM : Met FrameEnd l z bytes maxL ret [] rm Z h (.ref a :: argsL).toArray Q') (hsz : Ls.size = nl) (d : decode b pc = .ok (.invokespecial index, 3)) (hl : argsL.length = ps.length) (hW : (rest.map fun v => v.category).sum = W) (rr : (rm.frames + 1 ≤ R.frames ∧ W + (maxL + 11) + rm.locals ≤ R.locals) ∧ cells + rm.cells ≤ R.cells ∧ slots + rm.slots ≤ R.slots) (K : ∀ (v : Option Value) (T' : State) (L' Lc : List Loc), Stand p l e R s' m args below meth c T' L' (cells + rm.cells) (slots + rm.slots) → Q' v T'.heap Lc → L' = locs ++ Lc → Go EN p e below s kc ks Q T' (mkF m (pc + 3) Ls (v.toList ++ rest))) : Go EN p e below s kc ks Q T (mkF m pc Ls (argsL.reverse ++ .ref a :: rest)) := by
  obtain ⟨hi, hsm, hsu, hcode, hini, hy, hp⟩ := ww
  obtain ⟨v, _, ⟨T', L', k', n'⟩, -, X', ⟨Lc, hQ, l1, y1, z1⟩, st⟩ := superBack X u.1 hZ (y := z) hown w1 hsm hi hsu hn (backOf (W := W) hM hZ hcode hini rr.1.1 rr.1.2) eT (Ins.self E) (g := mkF m pc Ls (argsL.reverse ++ .ref a :: rest)) rfl (hsz.trans u.2.2.symm) hcode (argsL := argsL) (rest := rest) (lenOf hp hl) rfl (by show 2 * 0 + _ ≤ _; omega) (hb u.2.1 d) (fun _ _ => ⟨rfl, eT, rr.2.1, rr.2.2⟩)
  dsimp only [Pt.U, Pt.locs, Pt.cells, Pt.slots] at X' l1 y1 z1 st hQ
  subst y1 z1
  exact Go.trans st (K v T' L' Lc X' hQ l1)
theorem pt_cX (argsL rest : List Value) (W : Nat) (X : Stand p l e R s' m args below meth c T locs cells slots) (u : UB p c b nl) (hZ : Z.Warmed39 s'.vm) (hown : s'.vm.findClass own = some m.cls) (hn : z.name ≠ "<init>") (E : Exa Z h a C) (w1 : (Jvm.Cond.methodLink own index z).before a0 Z = true) (ww : XW Z a0 own z bytes maxL ret ps rt) (eT : T.heap = h) (hM : Met FrameEnd l z bytes maxL ret [] rm Z h (.ref a :: argsL).toArray (Qp val Z h)) (hsz : Ls.size = nl) (d : decode b pc = .ok (.invokespecial index, 3)) (hl : argsL.length = ps.length) (hW : (rest.map fun v => v.category).sum = W) (rr : (rm.frames + 1 ≤ R.frames ∧ W + (maxL + 11) + rm.locals ≤ R.locals) ∧ cells + rm.cells ≤ R.cells ∧ slots + rm.slots ≤ R.slots) (N : Fr Z.heap.size locs) (K : ∀ (T' : State) (L' : List Loc), Stand p l e R s' m args below meth c T' L' (cells + rm.cells) (slots + rm.slots) → T'.heap = h → Fr Z.heap.size L' → Go EN p e below s kc ks Q T' (mkF m (pc + 3) Ls (val.toList ++ rest))) : Go EN p e below s kc ks Q T (mkF m pc Ls (argsL.reverse ++ .ref a :: rest)) := by
  obtain ⟨hi, hsm, hsu, hcode, hini, hy, hp⟩ := ww
  obtain ⟨v, _, ⟨T', L', k', n'⟩, -, X', ⟨Lc, hQ, l1, y1, z1⟩, st⟩ := superBack X u.1 hZ (y := z) hown w1 hsm hi hsu hn (backOf (W := W) hM hZ hcode hini rr.1.1 rr.1.2) eT (Ins.self E) (g := mkF m pc Ls (argsL.reverse ++ .ref a :: rest)) rfl (hsz.trans u.2.2.symm) hcode (argsL := argsL) (rest := rest) (lenOf hp hl) rfl (by show 2 * 0 + _ ≤ _; omega) (hb u.2.1 d) (fun _ _ => ⟨rfl, eT, rr.2.1, rr.2.2⟩)
  dsimp only [Pt.U, Pt.locs, Pt.cells, Pt.slots] at X' l1 y1 z1 st hQ
  subst y1 z1
  obtain ⟨rfl, Nq, eq⟩ := hQ
  exact Go.trans st (K T' L' X' eq (by rw [l1]; exact Fr.app N Nq))
theorem t_rI (X : Stand p l e R s m args below meth c T locs cells slots) (u : UB p c b nl) {x : Int32} (hret : meth.sig.returnType = some .int) (hlk : meth.locks = false) (d : decode b pc = .ok (.ireturn, 1)) (eT : T.heap = h0) (N : Fr Z.heap.size locs) (cc : cells ≤ kc ∧ slots ≤ ks) : Go FrameEnd p e below s kc ks (Qp (some (.int x)) Z h0) T (mkF m pc Ls (.int x :: S)) := Go.retI X u.1 hret hlk (hb u.2.1 d) cc.1 cc.2 ⟨rfl, N, eT⟩
theorem t_rN (X : Stand p l e R s m args below meth c T locs cells slots) (u : UB p c b nl) {x : Int32} {t : FieldType} (hret : meth.sig.returnType = some t) (hlk : meth.locks = false) (ht : t = .boolean ∨ t = .byte ∨ t = .char ∨ t = .short) (hv : val = some (.int (nar t x))) (d : decode b pc = .ok (.ireturn, 1)) (eT : T.heap = h0) (N : Fr Z.heap.size locs) (cc : cells ≤ kc ∧ slots ≤ ks) : Go FrameEnd p e below s kc ks (Qp val Z h0) T (mkF m pc Ls (.int x :: S)) := Go.retN X u.1 hret ht hlk (hb u.2.1 d) cc.1 cc.2 ⟨hv.symm, N, eT⟩
theorem t_rA (X : Stand p l e R s m args below meth c T locs cells slots) (u : UB p c b nl) {t : FieldType} (hret : meth.sig.returnType = some t) (hlk : meth.locks = false) (ht : t.isReference = true) (hv : v.isRef = true) (d : decode b pc = .ok (.areturn, 1)) (eT : T.heap = h0) (N : Fr Z.heap.size locs) (cc : cells ≤ kc ∧ slots ≤ ks) : Go FrameEnd p e below s kc ks (Qp (some v) Z h0) T (mkF m pc Ls (v :: S)) := Go.retA X u.1 hret ht hv hlk (hb u.2.1 d) cc.1 cc.2 ⟨rfl, N, eT⟩
theorem t_rV (X : Stand p l e R s m args below meth c T locs cells slots) (u : UB p c b nl) (hret : meth.sig.returnType = none) (hlk : meth.locks = false) (d : decode b pc = .ok (.return_, 1)) (eT : T.heap = h0) (N : Fr Z.heap.size locs) (cc : cells ≤ kc ∧ slots ≤ ks) : Go FrameEnd p e below s kc ks (Qp none Z h0) T (mkF m pc Ls []) := Go.retV X u.1 hret hlk (hb u.2.1 d) cc.1 cc.2 ⟨rfl, N, eT⟩
end TinyC
/-! walks that intern, over the invariant of the booked constants -/
section HeldGo
variable {p : Program} {l : Launch} {e : Env} {R : Room} {s : State} {m : MethodId} {args : Array Value} {below : List Frame} {meth : Method} {c : Code} {T : State} {locs : List Loc} {cells slots kc ks : Nat} {Q : Option Value → Heap → List Loc → Prop} {Z : State} {a0 : Array Value} {EL : List (String × Nat)} {h h0 : Heap} {vm0 : Vm}
def ENH (Z : State) (EL : List (String × Nat)) (U : State) (o : Outcome) (U' : State) (L : List Loc) (k n : Nat) : Prop := CHr Z EL U.vm U.heap U'.vm U'.heap ∧ ReturnedEndW U o U' L k n
theorem sg0 : ∀ x ∈ ([] : List Addr), x < h.size ∧ Safe Z EL vm0 h x := fun _ q => nomatch q
theorem endH (hh : s.heap = h0) (eT : T.heap = h) (X : Stand p l e R (s.setVm vm0) m args below meth c T locs cells slots) (hZ : Z.Warmed39 vm0) (hEL : EW Z a0 EL) (A : CHr Z EL s.vm h0 vm0 h) : CHr Z EL s.vm s.heap T.vm T.heap := by
  subst hh eT; exact A.trans (CHv.at X hZ hEL A.1)
theorem Go.retNH {k0 : Nat} (A : CHr Z EL s.vm s.heap T.vm T.heap) (X : Stand p l e R (s.setVm vm0) m args below meth c T locs cells slots) (hS : s.Since vm0 k0) (hk : k0 ≤ T.heap.size) (hx : p.tables.exec = Jvm.exec) {pc : Nat} {Ls : Array Slot} {z : Int32} {t : FieldType} {rest : List Value} (hret : meth.sig.returnType = some t) (ht : t = .boolean ∨ t = .byte ∨ t = .char ∨ t = .short) (hlk : meth.locks = false)
    (hd : decode c.code pc = .ok (.ireturn, 1)) (hc : cells ≤ kc) (hs : slots ≤ ks) (q : Q (some (.int (nar t z))) T.heap locs) : Go (ENH Z EL) p e below s kc ks Q T (mkF m pc Ls (.int z :: rest)) := by
  obtain ⟨fs, hr, hrun, hended, hW⟩ := X.leaveW hS hk (v := some (.int (nar t z))) (fun h => by rw [hret] at h; cases h) hlk
  exact ⟨_, _, RoadKit.retN X hx hret ht hd hr, hrun, hended, _, _, rfl, q, A, rewMono hW hc hs⟩
theorem Go.retAH {k0 : Nat} (A : CHr Z EL s.vm s.heap T.vm T.heap) (X : Stand p l e R (s.setVm vm0) m args below meth c T locs cells slots) (hS : s.Since vm0 k0) (hk : k0 ≤ T.heap.size) (hx : p.tables.exec = Jvm.exec) {pc : Nat} {Ls : Array Slot} {z : Value} {t : FieldType} {rest : List Value} (hret : meth.sig.returnType = some t) (ht : t.isReference = true) (hz : z.isRef = true) (hlk : meth.locks = false)
    (hd : decode c.code pc = .ok (.areturn, 1)) (hc : cells ≤ kc) (hs : slots ≤ ks) (q : Q (some z) T.heap locs) : Go (ENH Z EL) p e below s kc ks Q T (mkF m pc Ls (z :: rest)) := by
  obtain ⟨fs, hr, hrun, hended, hW⟩ := X.leaveW hS hk (v := some z) (fun h => by rw [hret] at h; cases h) hlk
  exact ⟨_, _, RoadKit.retOut X hx hret (by cases t <;> cases z <;> first | rfl | (cases ht; done) | (cases hz; done)) (Or.inr (Or.inr (Or.inr (Or.inr ⟨rfl, ht, hz⟩)))) hd hr, hrun, hended, _, _, rfl, q, A, rewMono hW hc hs⟩
end HeldGo
/-! walks beneath which a stack trace is filled in: the frames and the tables are known -/
section KnownGo
variable {l : Launch} {R : Room} {Q : Option Value → Heap → List Loc → Prop} {Z : State} {EL : List (String × Nat)} {h h' h0 : Heap}
abbrev MetK (l : Launch) (y : MethodName) (bytes : ByteArray) (ml : Nat) (rt : Option FieldType) (ws : List Jvm.Cond) (R : Room) (Z : State) (h0 : Heap) (A : Array Value) (Q : Option Value → Heap → List Loc → Prop) : Prop :=
  MetFree l y (head1 (Jvm.Cond.code y bytes ml rt :: ws) R) (fun a U => a = A ∧ Z.Warmed39 U.vm ∧ U.heap = h0) (fun _ _ bl s _ => s.vm.MethodsKnown ∧ s.vm.FramesKnown bl) (fun _ U o U' => ∃ v L, o = .returned v ∧ Q v U'.heap L ∧ FrameEnd U o U' L R.cells R.slots)
theorem own_metK {y : MethodName} {bytes : ByteArray} {ml : Nat} {rt : Option FieldType} {ws : List Jvm.Cond} {A : Array Value} (own : String) (hpl : plainFor y = true) (hc : y.cls = own) (Ls : Array Slot) (ef : ∀ m, entryFrame m A ml = mkF m 0 Ls [])
    (k : ∀ (p : Program) (e : Env) (s : State) (m : MethodId) (below : List Frame) (meth : Method) (c : Code) (s₁ : State), p.tables.exec = Jvm.exec → c.code = bytes → meth.locks = false → meth.sig.returnType = rt → c.maxLocals = ml → Z.Warmed39 s.vm → s.vm.findClass own = some m.cls → meth.name = y.name → Stand p l e R s m A below meth c s₁ [] 0 0 → s₁.heap = h0 → s.heap = h0 → s.vm.MethodsKnown → s.vm.FramesKnown below → Go FrameEnd p e below s R.cells R.slots Q s₁ (mkF m 0 Ls [])) :
    MetK l y bytes ml rt ws R Z h0 A Q := by
  refine MetFree.of_bodySF hpl hisR ?_
  intro p e s m args below meth c s₁ Bd hml0 hP hK
  obtain ⟨rfl, hZ, hh⟩ := hP
  exact Go.cast (ef m) (k p e s m below meth c s₁ Bd.exec Bd.bytes Bd.notSynchronized Bd.returns hml0 hZ (hc ▸ findClass_of_methodNamed Bd.named) (name_of_methodNamed Bd.named Bd.method).1 (Stand.of_body Bd) (by rw [← hh, Bd.state]; rfl) hh hK.1 hK.2)
abbrev MetHK (l : Launch) (y : MethodName) (bytes : ByteArray) (ml : Nat) (rt : Option FieldType) (ws : List Jvm.Cond) (R : Room) (Z : State) (EL : List (String × Nat)) (h0 : Heap) (A : Array Value) (Q : Option Value → Heap → List Loc → Prop) : Prop :=
  MetFree l y (head1 (Jvm.Cond.code y bytes ml rt :: ws) R) (fun a U => a = A ∧ Z.Warmed39 U.vm ∧ U.heap = h0 ∧ CHv Z EL U.vm h0) (fun _ _ bl s _ => s.vm.MethodsKnown ∧ s.vm.FramesKnown bl) (fun _ U o U' => ∃ v L, o = .returned v ∧ Q v U'.heap L ∧ CHr Z EL U.vm U.heap U'.vm U'.heap ∧ ReturnedEndW U o U' L R.cells R.slots)
theorem own_metHK {y : MethodName} {bytes : ByteArray} {ml : Nat} {rt : Option FieldType} {ws : List Jvm.Cond} {A : Array Value} (own : String) (hpl : plainFor y = true) (hc : y.cls = own) (Ls : Array Slot) (ef : ∀ m, entryFrame m A ml = mkF m 0 Ls [])
    (k : ∀ (p : Program) (e : Env) (s : State) (m : MethodId) (below : List Frame) (meth : Method) (c : Code) (s₁ : State), p.tables.exec = Jvm.exec → c.code = bytes → meth.locks = false → meth.sig.returnType = rt → c.maxLocals = ml → Z.Warmed39 s.vm → s.vm.findClass own = some m.cls → meth.name = y.name → Stand p l e R (s.setVm s.vm) m A below meth c s₁ [] 0 0 → s₁.heap = h0 → s.Since s.vm 0 → 0 ≤ h0.size → s.heap = h0 → CHv Z EL s.vm h0 → s.vm.MethodsKnown → s.vm.FramesKnown below → Go (ENH Z EL) p e below s R.cells R.slots Q s₁ (mkF m 0 Ls [])) :
    MetHK l y bytes ml rt ws R Z EL h0 A Q := by
  refine MetFree.of_bodySF hpl hisR ?_
  intro p e s m args below meth c s₁ Bd hml0 hP hK
  obtain ⟨rfl, hZ, hh, hH⟩ := hP
  exact Go.cast (ef m) (k p e s m below meth c s₁ Bd.exec Bd.bytes Bd.notSynchronized Bd.returns hml0 hZ (hc ▸ findClass_of_methodNamed Bd.named) (name_of_methodNamed Bd.named Bd.method).1 (Stand.of_body Bd) (by rw [← hh, Bd.state]; rfl) (State.WarmedH.since (State.WarmedH.refl s) 0) (Nat.zero_le _) hh hH hK.1 hK.2)
end KnownGo
/-! Throwable.fillInStackTrace() on an object of a class fe, over the words that this sheet has (it lacks 'lays Throwable Throwable suppressedExceptions', which the library's bundle asks) -/
section FillGo
open Jvm.Free.Exc Jvm.Free.Str
def TW (fe : String) : List Jvm.Cond := [.initialized tN, .superclass tN "java/lang/Object", .instanceMethod tFill, .codeSync tFill LibCode.Throwable.Fill.code 1 (some (.object tN)), .instanceMethod tFill0, .native tFill0, .instanceMethod oInit, .code oInit ⟨#[0xb1]⟩ 1 none, .methodLink tN 1 oInit, .methodLink tN 27 tFill, .methodLink tN 202 tFill0,
  .fieldLink tN 7 tN "cause" thD, .fieldLink tN 17 tN "stackTrace" steD, .fieldLink tN 24 tN "suppressedExceptions" listD, .fieldLink tN 13 tN "UNASSIGNED_STACK" steD, .laysStatic tN "UNASSIGNED_STACK" steD, .fieldLink tN 20 tN "SUPPRESSED_SENTINEL" listD, .laysStatic tN "SUPPRESSED_SENTINEL" listD,
  .lays fe tN "cause" thD, .lays fe tN "stackTrace" steD, .lays fe tN "suppressedExceptions" listD, .lays fe tN "detailMessage" msgD, .lays fe tN "backtrace" obD, .lays fe tN "depth" "I", .fieldLink tN 198 tN "backtrace" obD, .arrayOver (.object "java/lang/Object"), .soleField tN "backtrace", .soleField tN "depth", .selects fe tFill0 tFill0, .selects fe tFill tFill, .declares tFill]
theorem own_T {fe : String} {args : Array Value} {s : State} {pl : Platform} (o1 : pl.frameOwnsMonitors = true) (o2 : pl.finalization = false) (o3 : pl.magicAccessors = ({} : Platform).magicAccessors) (w : ∀ d ∈ TW fe, d.before args s = true) {cX : ClassId} {kX : Class} (hX : s.vm.findClass fe = some cX) (hkX : s.vm.classes[cX]? = some kX) :
    ∃ T : ThrowableC, T.Links pl s ∧ s.vm.findClass tN = some T.cT ∧ s.methodNamed? tFill = some T.fill ∧ s.methodNamed? tFill0 = some T.fill0 ∧ s.fieldFound? tN "stackTrace" steD = some (T.cT, T.kT, T.i17, T.fStack) ∧ s.fieldFound? tN "UNASSIGNED_STACK" steD = some (T.cT, T.kT, T.i13, T.fUnassigned) ∧ T.fStack.type = .array (.object "java/lang/StackTraceElement") := by
  have W : ∀ (i : Nat) {d : Jvm.Cond}, (TW fe)[i]? = some d → d.before args s = true := fun i d h => w d (mg h)
  obtain ⟨⟨c, j0⟩, m0, n0, v0, na0, co0, lk0, sg0⟩ := Cond.native_spec (W 5 rfl)
  have hc : s.vm.findClass tN = some c := findClass_of_methodNamed n0
  obtain ⟨k, hk, hname⟩ := Vm.findClass_spec hc
  obtain ⟨_, k1, _, _, hk1, _, _, _, _, hni⟩ := Cond.superclass_spec hc (W 1 rfl)
  cases hk.symm.trans hk1
  obtain ⟨iF, mF, nF, vF, atF, stF, abF, -, -⟩ := Cond.ownMethod (x := tFill) hc hk (W 2 rfl)
  obtain ⟨mF', cF, vF', coF, byF, loF, reF, lkF, -, sgF⟩ := Cond.codeSync_spec nF (W 3 rfl)
  cases vF.symm.trans vF'
  obtain ⟨i0, m0', n0', v0', at0, st0, ab0, nm0, ds0⟩ := Cond.ownMethod (x := tFill0) hc hk (W 4 rfl)
  cases n0.symm.trans n0'
  cases v0.symm.trans v0'
  obtain ⟨mO, eO, nO, vO, stO, abO⟩ := Cond.instanceMethod_spec (W 6 rfl)
  obtain ⟨eO', cO, vO', coO, byO, loO, -, lkO, -, sgO⟩ := Cond.code_spec nO (W 7 rfl)
  cases vO.symm.trans vO'
  obtain ⟨kO, hkO, hnO⟩ := Vm.findClass_spec (findClass_of_methodNamed nO)
  obtain ⟨nmO, dsO⟩ := name_of_methodNamed nO vO
  obtain ⟨c1, t1, cf, l1, r1, f1, p1⟩ := Cond.linkedMethod hc hk nO (W 8 rfl) pl o3
  obtain ⟨c27, t27, cf', l27, r27, f27, p27⟩ := Cond.linkedMethod hc hk nF (W 9 rfl) pl o3
  cases f1.symm.trans f27
  obtain ⟨c202, t202, cf', l202, r202, f202, p202⟩ := Cond.linkedMethod hc hk n0 (W 10 rfl) pl o3
  cases f1.symm.trans f202
  obtain ⟨c7, i7, f7, l7, r7, a7, s7, z7, -, -, -⟩ := Cond.ownField (t := .object tN) hc hk (by decide +kernel) (W 11 rfl) (W 18 rfl) pl o3
  obtain ⟨c17, i17, f17, l17, r17, a17, s17, z17, m17, y17, q17⟩ := Cond.ownField (t := .array (.object "java/lang/StackTraceElement")) hc hk (by decide +kernel) (W 12 rfl) (W 19 rfl) pl o3
  obtain ⟨c24, i24, f24, l24, r24, a24, s24, z24, m24, -, q24⟩ := Cond.ownField (t := .object "java/util/List") hc hk (by decide +kernel) (W 13 rfl) (W 20 rfl) pl o3
  obtain ⟨c13, i13, f13, aS, ce, l13, r13, a13, s13, -, -, hst, -, -, -, -, q13⟩ := Cond.ownStatic (t := .array (.object "java/lang/StackTraceElement")) hc hk (by decide +kernel) (W 14 rfl) (W 15 rfl) pl o3
  obtain ⟨c20, i20, f20, _, _, l20, r20, a20, s20, -⟩ := Cond.ownStatic (t := .object "java/util/List") hc hk (by decide +kernel) (W 16 rfl) (W 17 rfl) pl o3
  obtain ⟨_, _, _, _, _, fM, _, _, _, sM, zM, _⟩ := Cond.lays_spec (W 21 rfl)
  obtain ⟨-, d1, e1, e2⟩ := Cond.laysAt hX hkX q17 (W 19 rfl)
  obtain ⟨-, d2, e3, e4⟩ := Cond.laysAt hX hkX q24 (W 20 rfl)
  have ap := Cond.laysApart e1 e3 e2 e4 (by rw [m17, m24]; decide)
  have pF := Option.some.inj (sgF.symm.trans (by decide +kernel : parseMethodDescriptor tFill.desc = some ⟨[], some (.object tN)⟩))
  have p0 := Option.some.inj (sg0.symm.trans (by decide +kernel : parseMethodDescriptor tFill0.desc = some ⟨[.int], some (.object tN)⟩))
  have pO := Option.some.inj (sgO.symm.trans (by decide +kernel : parseMethodDescriptor oInit.desc = some ⟨[], none⟩))
  exact ⟨{ cT := c, kT := k, cO := c, aS := aS, fillIdx := iF, fill0Idx := j0, initSIdx := iF, obj := mO, kObj := kO, methFill := mF, methFill0 := m0, methInitS := mF, methObj := eO, codeFill := cF, codeInitS := cF, codeObj := cO, fBack := f7, fDepth := f7, fStack := f17, fCause := f7, fSupp := f24, fMsg := fM, fUnassigned := f13, fSentinel := f20, cfT := cf, ci1 := c1, n1 := t1, ci27 := c27, n27 := t27, ci202 := c202, n202 := t202, ci7 := c7, i7 := i7, ci13 := c13, i13 := i13, ci17 := c17, i17 := i17, ci20 := c20, i20 := i20, ci24 := c24, i24 := i24 },
    ⟨o1, o2, hk, hname, Vm.findClass_boot hc hk, hni, Cond.initialized_spec hc hk (W 0 rfl), hst, atF, coF, byF, loF, lkF, stF, abF, reF, by rw [pF], at0, nm0, ds0, by rw [p0], st0, na0, co0, lk0, ab0, s17, z17, s13, hkO, hnO, vO, nmO, stO, abO, by rw [dsO]; exact lookupSpecial_of_named nO vO stO, by rw [pO]; rfl, coO, byO, lkO, s7, z7, s20, s24, z24, sM, zM, ap, f1, l1, r1, p1, l27, r27, p27, l202, r202, p202, l7, r7, a7, l13, r13, a13, l17, r17, a17, l20, r20, a20, l24, r24, a24⟩, hc, nF, n0, q17, q13, y17⟩
variable {p : Program} {l : Launch} {e : Env} {R : Room} {s : State} {m : MethodId} {args : Array Value} {below : List Frame} {meth : Method} {c : Code} {T : State} {locs : List Loc} {cells slots : Nat} {Z : State} {a0 : Array Value} {h : Heap}
theorem own_fill {fe : String} {n : Nat} (X : Stand p l e R s m args below meth c T locs cells slots) (hx : p.tables.exec = Jvm.exec) (hl : l.stackTraces = true) (hZ : Z.Warmed39 s.vm) (hT0 : ThS Z s.heap) (w : ∀ d ∈ TW fe, d.before a0 Z = true) (wi : (Jvm.Cond.instantiable fe n).before a0 Z = true) (hown : s.vm.findClass tN = some m.cls) (hTK : s.vm.MethodsKnown) (hBl : s.vm.FramesKnown below) (eT : T.heap = h) {a us : Addr}
    (E : Exa Z h a fe) (N : Unt h a) (B : Fld Z h a tN "backtrace" obD .null) (F : Fld Z h a tN "stackTrace" steD (.ref us)) (S : Sta Z h tN "UNASSIGNED_STACK" steD (.ref us)) {g : JFrame} (hg : g.method = m) (hsize : g.locals.size = c.maxLocals) {rest : List Value} (hs : g.stack = .ref a :: rest) (hd : decode c.code g.pc = .ok (.invokevirtual 27, 3))
    (hf : 3 ≤ R.frames) {W0 : Nat} (hW : 2 * g.monitorRoom + (rest.map fun v => v.category).sum ≤ W0) (hlo : W0 + 42 ≤ R.locals) (hc : cells + 1 ≤ R.cells) (hsl : slots + 2752 ≤ R.slots) :
    ∃ (T' : State) (h' : Heap) (L : List Loc), Stand p l e R s m args below meth c T' (locs ++ L) (cells + 1) (slots + 2752) ∧ T'.heap = h' ∧ (∀ y ∈ L, y.base = a) ∧ Keep h h' [a] ∧ Unt h' a ∧ Steps p.tables e below (T.setTop g) (T'.setTop { g with pc := g.pc + 3, stack := .ref a :: rest }) := by
  have W' : ∀ d ∈ TW fe, d.before args s = true := fun d hd => mvX hT0 hZ (List.all_eq_true.mp (rfl : (TW fe).all xOk = true) d hd) (w d hd)
  have W : ∀ (i : Nat) {d : Jvm.Cond}, (TW fe)[i]? = some d → d.before args s = true := fun i d h => W' d (mg h)
  obtain ⟨cell, kc, e1, e2, e3, -, e5⟩ := E
  obtain ⟨c2, u1, u2, u3⟩ := N
  cases e1.symm.trans u1
  have hX : s.vm.findClass fe = some cell.cls := by rw [hZ.alike.findClass]; exact e2
  obtain ⟨kX, hkX, hek⟩ := hZ.alike.2.2 _ _ e3
  obtain ⟨c4, k2, i1, i2, hord, -⟩ := Cond.instantiable_spec (mv (args := args) hZ wi)
  cases hX.symm.trans i1
  cases hkX.symm.trans i2
  have hsz : cell.slots.size = kX.instanceTypes.size := by
    have q := e5 (by rw [hek] at hord; exact hord)
    rw [q, hek]
  have htr : e.platform.stackTraces = true := by rw [X.admits.platform]; exact hl
  have o3 : e.platform.magicAccessors = ({} : Platform).magicAccessors := by rw [X.admits.platform]
  obtain ⟨TT, LL, hfT, nF, n0, qS, qU, tyS⟩ := own_T (pl := e.platform) (by rw [X.admits.platform]) (by rw [X.admits.platform]) o3 W' hX hkX
  have hsel0 : selectMethod e.platform s.vm cell.cls TT.fill0 = .method TT.fill0 := by
    obtain ⟨c5, r5, m5, q1, q2, q3, q4, -⟩ := Cond.selects_spec (W 28 rfl)
    cases Option.some.inj (q1.symm.trans hX)
    cases Option.some.inj (q2.symm.trans (State.methodFound?_of_named n0 (by decide)))
    cases Option.some.inj (q3.symm.trans n0)
    rw [Launch.admits_selectMethod X.admits]; exact q4
  have ride : ∀ {C nm d : String} {cf : ClassId} {k : Class} {i : Nat} {f : Field}, Z.fieldFound? C nm d = some (cf, k, i, f) → ∃ k' : Class, s.fieldFound? C nm d = some (cf, k', i, f) ∧ k'.statics = k.statics := fun hq => by
    obtain ⟨k', r1, r2⟩ := State.fieldFound?_setVm (s := Z) hZ.alike hq
    exact ⟨k', r1, by rw [r2]⟩
  obtain ⟨cF, cfF, kF, iF, fF, b1, b2, -, -, -, -, b7⟩ := F
  cases e1.symm.trans b1
  obtain ⟨kF', r1, -⟩ := ride b2
  have eS : fF = TT.fStack := by
    have q := Option.some.inj (r1.symm.trans qS)
    simp only [Prod.mk.injEq] at q
    exact q.2.2.2
  subst eS
  obtain ⟨cfU, iU, kU, fU, st, cS, v1, -, -, v4, v5, v6, v7⟩ := S
  obtain ⟨kU', r2, r3⟩ := ride v1
  have eU : kU' = TT.kT ∧ fU = TT.fUnassigned := by
    have q := Option.some.inj (r2.symm.trans qU)
    simp only [Prod.mk.injEq] at q
    exact ⟨q.2.1, q.2.2.2⟩
  obtain ⟨eU1, rfl⟩ := eU
  have est : st = TT.aS := by
    have q := LL.statics
    rw [← eU1, r3, v4] at q
    exact Option.some.inj q
  subst est
  have hneS : TT.aS ≠ a := fun q => by
    rw [q, e1] at v5
    rw [← Option.some.inj v5, u2] at v6
    cases v6
  obtain ⟨cB, cfB, kB, iB, fB, b3, b4, -, -, -, -, b8⟩ := B
  cases e1.symm.trans b3
  obtain ⟨kB', r4, -⟩ := ride b4
  obtain ⟨c198, i198, fB', l198, r198, a198, sB, -, mB, tB, qB⟩ := Cond.ownField (t := .object "java/lang/Object") hfT LL.cls (by decide +kernel) (W 24 rfl) (W 22 rfl) e.platform o3
  have eB : fB = fB' := by
    have q := Option.some.inj (r4.symm.trans qB)
    simp only [Prod.mk.injEq] at q
    exact q.2.2.2
  subst eB
  obtain ⟨_, _, cD, kD, iD, fD, -, -, qD, sD, -⟩ := Cond.lays_spec (W 23 rfl)
  cases Option.some.inj ((Cond.lays_declared (W 23 rfl) qD).symm.trans hfT)
  obtain ⟨hkD, hatD⟩ := State.fieldFound?_spec qD
  cases Option.some.inj (hkD.symm.trans LL.cls)
  obtain ⟨nD, tD⟩ := State.fieldFound?_type qD (t := .int) (by decide +kernel)
  obtain ⟨comp, cO, kO, -, -, hkO, hkindO, hO⟩ := Cond.arrayOver_spec (W 25 rfl)
  have tk : ∀ {f : Field} {v : Value}, kX.instanceTypes[f.slot]? = some f.type → fits f.type v = true → Takes s cell f v := fun {f v} q1 q2 => by
    obtain ⟨z1, z2⟩ := Takes.of_laid (v := v) hkX hord q1 q2
    exact ⟨by rw [hsz]; simpa using z1, by rw [u2]; exact z2⟩
  have xS := (Cond.laysAt hX hkX qS (W 19 rfl)).1
  have xB := (Cond.laysAt hX hkX qB (W 22 rfl)).1
  have xD := (Cond.laysAt hX hkX qD (W 23 rfl)).1
  have hSE := W 29 rfl
  obtain ⟨v6', vm6, ⟨T6, L6, c6, n6⟩, hW6, X6, ⟨hv6, vm7, lines, hlines, hW7, hU6, hL6, hc6, hn6⟩, st6⟩ := X.virtualBack hx (own := tN) (C := fe) (index := 27) (y := tFill) (z := tFill) hown (W 9 rfl) (W 30 rfl) (notFace_of_selects hSE) hSE (W 2 rfl) (by decide)
    (fillPays (l := l) (W := W0) hx htr TT LL nF (u0 := ⟨.ref us, rfl⟩) (by simp) (self := a) (cell := cell) (cellS := cS) (fun _ => by rw [u2]; simp) (by rw [u2]; simp) (by rw [u3]) (by rw [u3]) b7 hsel0 hneS (fun q => by rw [q] at v6; cases v6) v7 (tk xS (by rw [tyS]; rfl))
      ⟨{ ci198 := c198, i198 := i198, fBack := fB }, ⟨l198, r198, a198, sB⟩, b8⟩ hTK hBl hfT hO hkO hkindO (Cond.soleField_find hfT LL.cls (W 26 rfl) a198 mB sB) (Cond.soleField_find hfT LL.cls (W 27 rfl) hatD nD sD) (fun _ => tk xB (by rw [tB]; rfl)) (fun _ => tk xD (by rw [tD]; rfl)) hf hlo)
    (b := a) (cB := cell.cls) hX ⟨cell, by rw [eT]; exact e1, rfl, by rw [u2]; rfl⟩ (g := g) hg hsize (Steps.refl _) (argsL := []) (rest := rest) (fun sig q => by rw [show parseMethodDescriptor tFill.desc = some ⟨[], some (.object tN)⟩ from by decide +kernel] at q; rw [← Option.some.inj q]; rfl) hs hW hd
    (fun vmx _ => ⟨rfl, hc, hsl, by show T.heap[a]? = _; rw [eT]; exact e1, by show T.heap[TT.aS]? = _; rw [eT]; exact v5⟩)
  dsimp only [Pt.U, Pt.locs, Pt.cells, Pt.slots] at X6 hU6 hL6 hc6 hn6 st6
  subst hv6 hL6 hc6 hn6
  have hh : T6.heap = (h.push (traceHolder cO lines)).setIfInBounds a (filledOn TT.toThrowableT fB fD cell ⟨.ref us, rfl⟩ T.heap.size lines.length.toInt32) := by rw [hU6, ← eT]; rfl
  have hlt : a < h.size := (Array.getElem?_eq_some_iff.mp e1).1
  have hat : T6.heap[a]? = some (filledOn TT.toThrowableT fB fD cell ⟨.ref us, rfl⟩ T.heap.size lines.length.toInt32) := by
    rw [hh, Array.getElem?_setIfInBounds_self_of_lt (by rw [Array.size_push]; exact Nat.lt_succ_of_lt hlt)]
  have hot : ∀ x : Addr, x < h.size → x ≠ a → T6.heap[x]? = h[x]? := fun x q1 q2 => by
    rw [hh, Array.getElem?_setIfInBounds_ne (Ne.symm q2), Array.getElem?_push_lt q1, Array.getElem?_eq_getElem q1]
  refine ⟨T6, _, _, X6.more (Nat.le_refl _) (by simp [traceHolder]; omega), rfl, ?_, ⟨by rw [hh]; simp, fun x cx q1 q2 => ?_, fun x cx q1 => ?_⟩, ⟨_, hat, by simp [Cell.setSlot, u2], by simp [Cell.setSlot, u3]⟩, st6⟩
  · intro y hy
    simp only [List.mem_cons, List.not_mem_nil, or_false] at hy
    rcases hy with rfl | rfl | rfl <;> rfl
  · rw [hot x (Array.getElem?_eq_some_iff.mp q1).1 fun q => q2 (by rw [q]; exact List.mem_cons_self ..)]; exact q1
  · by_cases q : x = a
    · subst q
      cases e1.symm.trans q1
      exact ⟨_, hat, by simp [Cell.setSlot], by simp [Cell.setSlot], by simp [Cell.setSlot]⟩
    · exact ⟨cx, by rw [hot x (Array.getElem?_eq_some_iff.mp q1).1 q]; exact q1, rfl, rfl, rfl⟩
end FillGo
abbrev fl_0 (Z : State) (h : Heap) (a : Addr) (v : Value) : Prop := Fld Z h a "java/lang/Throwable" "detailMessage" "Ljava/lang/String;" v
abbrev fl_1 (Z : State) (h : Heap) (a : Addr) (v : Value) : Prop := Fld Z h a "java/lang/Throwable" "cause" "Ljava/lang/Throwable;" v
abbrev fl_2 (Z : State) (h : Heap) (a : Addr) (v : Value) : Prop := Fld Z h a "java/lang/Throwable" "backtrace" "Ljava/lang/Object;" v
abbrev fl_3 (Z : State) (h : Heap) (a : Addr) (v : Value) : Prop := Fld Z h a "com/example/layout_to_rows/layouttorows/harvest/FetchException" "attempted" "Z" v
abbrev fl_4 (Z : State) (h : Heap) (a : Addr) (v : Value) : Prop := Fld Z h a "java/lang/String" "coder" "B" v
abbrev fl_5 (Z : State) (h : Heap) (a : Addr) (v : Value) : Prop := Fld Z h a "java/lang/String" "value" "[B" v
abbrev fl_6 (Z : State) (h : Heap) (a : Addr) (v : Value) : Prop := Fld Z h a "java/lang/AbstractStringBuilder" "value" "[B" v
abbrev fl_7 (Z : State) (h : Heap) (a : Addr) (v : Value) : Prop := Fld Z h a "java/lang/AbstractStringBuilder" "coder" "B" v
abbrev fl_8 (Z : State) (h : Heap) (a : Addr) (v : Value) : Prop := Fld Z h a "java/lang/AbstractStringBuilder" "count" "I" v
abbrev ex_0 (Z : State) (h : Heap) (a : Addr) : Prop := Exa Z h a "[B"
abbrev ex_1 (Z : State) (h : Heap) (a : Addr) : Prop := Exa Z h a "com/example/layout_to_rows/layouttorows/harvest/FetchException"
abbrev ex_2 (Z : State) (h : Heap) (a : Addr) : Prop := Exa Z h a "java/lang/String"
abbrev ex_3 (Z : State) (h : Heap) (a : Addr) : Prop := Exa Z h a "java/lang/StringBuilder"
abbrev v_0 : Value := .int (0 : Int32)
abbrev v_1 : Value := .int (1 : Int32)
abbrev v_7 : Value := .int (7 : Int32)
abbrev v_8 : Value := .int (8 : Int32)
abbrev v_9 : Value := .int (9 : Int32)
abbrev v_10 : Value := .int (10 : Int32)
abbrev v_11 : Value := .int (11 : Int32)
abbrev v_12 : Value := .int (12 : Int32)
abbrev v_13 : Value := .int (13 : Int32)
abbrev v_14 : Value := .int (14 : Int32)
abbrev v_15 : Value := .int (15 : Int32)
abbrev v_16 : Value := .int (16 : Int32)
abbrev v_17 : Value := .int (17 : Int32)
abbrev v_18 : Value := .int (18 : Int32)
abbrev v_32 : Value := .int (32 : Int32)
abbrev v_34 : Value := .int (34 : Int32)
abbrev v_45 : Value := .int (45 : Int32)
abbrev v_97 : Value := .int (97 : Int32)
abbrev v_115 : Value := .int (115 : Int32)
abbrev v_116 : Value := .int (116 : Int32)
abbrev v_117 : Value := .int (117 : Int32)
theorem D1 : Dl prog_9_method_3_code [(0, .new 8, 3), (3, .dup, 1), (4, .new 18, 3), (7, .dup, 1), (8, .invokespecial 20, 3), (11, .ldc 23, 2), (13, .invokevirtual 25, 3), (16, .iload_n 0, 1), (17, .invokevirtual 29, 3), (20, .invokevirtual 32, 3), (23, .iconst 1, 1), (24, .aconst_null, 1), (25, .invokespecial 15, 3), (28, .areturn, 1)] := by decide +kernel
def d1_0 := dA D1 0 rfl
def d1_3 := dA D1 1 rfl
def d1_4 := dA D1 2 rfl
def d1_7 := dA D1 3 rfl
def d1_8 := dA D1 4 rfl
def d1_11 := dA D1 5 rfl
def d1_13 := dA D1 6 rfl
def d1_16 := dA D1 7 rfl
def d1_17 := dA D1 8 rfl
def d1_20 := dA D1 9 rfl
def d1_23 := dA D1 10 rfl
def d1_24 := dA D1 11 rfl
def d1_25 := dA D1 12 rfl
def d1_28 := dA D1 13 rfl
theorem D2 : Dl jdk_67_method_1_code [(0, .aload_n 0, 1), (1, .bipush 16, 2), (3, .invokespecial 1, 3), (6, .return_, 1)] := by decide +kernel
def d2_0 := dA D2 0 rfl
def d2_1 := dA D2 1 rfl
def d2_3 := dA D2 2 rfl
def d2_6 := dA D2 3 rfl
theorem D3 : Dl jdk_68_method_2_code [(0, .aload_n 0, 1), (1, .invokespecial 3, 3), (4, .getstatic 18, 3), (7, .ifCond .eq 18, 3), (10, .aload_n 0, 1), (11, .iload_n 1, 1), (12, .newarray .byte, 2), (14, .putfield 15, 3), (17, .aload_n 0, 1), (18, .iconst 0, 1), (19, .putfield 22, 3), (22, .goto 16, 3), (38, .return_, 1)] := by decide +kernel
def d3_0 := dA D3 0 rfl
def d3_1 := dA D3 1 rfl
def d3_4 := dA D3 2 rfl
def d3_7 := dA D3 3 rfl
def d3_10 := dA D3 4 rfl
def d3_11 := dA D3 5 rfl
def d3_12 := dA D3 6 rfl
def d3_14 := dA D3 7 rfl
def d3_17 := dA D3 8 rfl
def d3_18 := dA D3 9 rfl
def d3_19 := dA D3 10 rfl
def d3_22 := dA D3 11 rfl
def d3_38 := dA D3 12 rfl
theorem D5 : Dl jdk_67_method_7_code [(0, .aload_n 0, 1), (1, .aload_n 1, 1), (2, .invokespecial 29, 3), (5, .pop, 1), (6, .aload_n 0, 1), (7, .areturn, 1)] := by decide +kernel
def d5_0 := dA D5 0 rfl
def d5_1 := dA D5 1 rfl
def d5_2 := dA D5 2 rfl
def d5_5 := dA D5 3 rfl
def d5_6 := dA D5 4 rfl
def d5_7 := dA D5 5 rfl
theorem D6 : Dl jdk_68_method_22_code [(0, .aload_n 1, 1), (1, .ifnonnull 8, 3), (9, .aload_n 1, 1), (10, .invokevirtual 32, 3), (13, .istore_n 2, 1), (14, .aload_n 0, 1), (15, .aload_n 0, 1), (16, .getfield 79, 3), (19, .iload_n 2, 1), (20, .iadd, 1), (21, .invokevirtual 100, 3), (24, .aload_n 0, 1), (25, .aload_n 0, 1), (26, .getfield 79, 3), (29, .aload_n 1, 1), (30, .invokevirtual 208, 3), (33, .aload_n 0, 1), (34, .dup, 1), (35, .getfield 79, 3), (38, .iload_n 2, 1), (39, .iadd, 1), (40, .putfield 79, 3), (43, .aload_n 0, 1), (44, .areturn, 1)] := by decide +kernel
def d6_0 := dA D6 0 rfl
def d6_1 := dA D6 1 rfl
def d6_9 := dA D6 2 rfl
def d6_10 := dA D6 3 rfl
def d6_13 := dA D6 4 rfl
def d6_14 := dA D6 5 rfl
def d6_15 := dA D6 6 rfl
def d6_16 := dA D6 7 rfl
def d6_19 := dA D6 8 rfl
def d6_20 := dA D6 9 rfl
def d6_21 := dA D6 10 rfl
def d6_24 := dA D6 11 rfl
def d6_25 := dA D6 12 rfl
def d6_26 := dA D6 13 rfl
def d6_29 := dA D6 14 rfl
def d6_30 := dA D6 15 rfl
def d6_33 := dA D6 16 rfl
def d6_34 := dA D6 17 rfl
def d6_35 := dA D6 18 rfl
def d6_38 := dA D6 19 rfl
def d6_39 := dA D6 20 rfl
def d6_40 := dA D6 21 rfl
def d6_43 := dA D6 22 rfl
def d6_44 := dA D6 23 rfl
theorem D7 : Dl jdk_42_method_54_code [(0, .aload_n 0, 1), (1, .getfield 9, 3), (4, .arraylength, 1), (5, .aload_n 0, 1), (6, .invokevirtual 335, 3), (9, .ishr, 1), (10, .ireturn, 1)] := by decide +kernel
def d7_0 := dA D7 0 rfl
def d7_1 := dA D7 1 rfl
def d7_4 := dA D7 2 rfl
def d7_5 := dA D7 3 rfl
def d7_6 := dA D7 4 rfl
def d7_9 := dA D7 5 rfl
def d7_10 := dA D7 6 rfl
theorem D8 : Dl jdk_42_method_152_code [(0, .getstatic 38, 3), (3, .ifCond .eq 10, 3), (6, .aload_n 0, 1), (7, .getfield 15, 3), (10, .goto 4, 3), (14, .ireturn, 1)] := by decide +kernel
def d8_0 := dA D8 0 rfl
def d8_3 := dA D8 1 rfl
def d8_6 := dA D8 2 rfl
def d8_7 := dA D8 3 rfl
def d8_10 := dA D8 4 rfl
def d8_14 := dA D8 5 rfl
theorem D9 : Dl jdk_68_method_9_code [(0, .aload_n 0, 1), (1, .getfield 15, 3), (4, .arraylength, 1), (5, .aload_n 0, 1), (6, .getfield 22, 3), (9, .ishr, 1), (10, .istore_n 2, 1), (11, .iload_n 1, 1), (12, .iload_n 2, 1), (13, .isub, 1), (14, .ifCond .le 24, 3), (17, .aload_n 0, 1), (18, .aload_n 0, 1), (19, .getfield 15, 3), (22, .aload_n 0, 1), (23, .iload_n 1, 1), (24, .invokevirtual 104, 3), (27, .aload_n 0, 1), (28, .getfield 22, 3), (31, .ishl, 1), (32, .invokestatic 108, 3), (35, .putfield 15, 3), (38, .return_, 1)] := by decide +kernel
def d9_0 := dA D9 0 rfl
def d9_1 := dA D9 1 rfl
def d9_4 := dA D9 2 rfl
def d9_5 := dA D9 3 rfl
def d9_6 := dA D9 4 rfl
def d9_9 := dA D9 5 rfl
def d9_10 := dA D9 6 rfl
def d9_11 := dA D9 7 rfl
def d9_12 := dA D9 8 rfl
def d9_13 := dA D9 9 rfl
def d9_14 := dA D9 10 rfl
def d9_17 := dA D9 11 rfl
def d9_18 := dA D9 12 rfl
def d9_19 := dA D9 13 rfl
def d9_22 := dA D9 14 rfl
def d9_23 := dA D9 15 rfl
def d9_24 := dA D9 16 rfl
def d9_27 := dA D9 17 rfl
def d9_28 := dA D9 18 rfl
def d9_31 := dA D9 19 rfl
def d9_32 := dA D9 20 rfl
def d9_35 := dA D9 21 rfl
def d9_38 := dA D9 22 rfl
theorem D10 : Dl jdk_68_method_73_code [(0, .aload_n 0, 1), (1, .aload_n 2, 1), (2, .invokevirtual 397, 3), (5, .aload_n 2, 1), (6, .aload_n 0, 1), (7, .getfield 15, 3), (10, .iload_n 1, 1), (11, .aload_n 0, 1), (12, .getfield 22, 3), (15, .invokevirtual 399, 3), (18, .return_, 1)] := by decide +kernel
def d10_0 := dA D10 0 rfl
def d10_1 := dA D10 1 rfl
def d10_2 := dA D10 2 rfl
def d10_5 := dA D10 3 rfl
def d10_6 := dA D10 4 rfl
def d10_7 := dA D10 5 rfl
def d10_10 := dA D10 6 rfl
def d10_11 := dA D10 7 rfl
def d10_12 := dA D10 8 rfl
def d10_15 := dA D10 9 rfl
def d10_18 := dA D10 10 rfl
theorem D11 : Dl jdk_68_method_71_code [(0, .getstatic 18, 3), (3, .ifCond .eq 18, 3), (6, .aload_n 0, 1), (7, .getfield 22, 3), (10, .aload_n 1, 1), (11, .invokevirtual 40, 3), (14, .if_icmp .eq 7, 3), (21, .return_, 1)] := by decide +kernel
def d11_0 := dA D11 0 rfl
def d11_3 := dA D11 1 rfl
def d11_6 := dA D11 2 rfl
def d11_7 := dA D11 3 rfl
def d11_10 := dA D11 4 rfl
def d11_11 := dA D11 5 rfl
def d11_14 := dA D11 6 rfl
def d11_21 := dA D11 7 rfl
theorem D12 : Dl jdk_42_method_147_code [(0, .aload_n 0, 1), (1, .invokevirtual 335, 3), (4, .iload_n 3, 1), (5, .if_icmp .ne 23, 3), (8, .aload_n 0, 1), (9, .getfield 9, 3), (12, .iconst 0, 1), (13, .aload_n 1, 1), (14, .iload_n 2, 1), (15, .iload_n 3, 1), (16, .ishl, 1), (17, .aload_n 0, 1), (18, .getfield 9, 3), (21, .arraylength, 1), (22, .invokestatic 212, 3), (25, .goto 18, 3), (43, .return_, 1)] := by decide +kernel
def d12_0 := dA D12 0 rfl
def d12_1 := dA D12 1 rfl
def d12_4 := dA D12 2 rfl
def d12_5 := dA D12 3 rfl
def d12_8 := dA D12 4 rfl
def d12_9 := dA D12 5 rfl
def d12_12 := dA D12 6 rfl
def d12_13 := dA D12 7 rfl
def d12_14 := dA D12 8 rfl
def d12_15 := dA D12 9 rfl
def d12_16 := dA D12 10 rfl
def d12_17 := dA D12 11 rfl
def d12_18 := dA D12 12 rfl
def d12_21 := dA D12 13 rfl
def d12_22 := dA D12 14 rfl
def d12_25 := dA D12 15 rfl
def d12_43 := dA D12 16 rfl
theorem D13 : Dl jdk_67_method_15_code [(0, .aload_n 0, 1), (1, .iload_n 1, 1), (2, .invokespecial 53, 3), (5, .pop, 1), (6, .aload_n 0, 1), (7, .areturn, 1)] := by decide +kernel
def d13_0 := dA D13 0 rfl
def d13_1 := dA D13 1 rfl
def d13_2 := dA D13 2 rfl
def d13_5 := dA D13 3 rfl
def d13_6 := dA D13 4 rfl
def d13_7 := dA D13 5 rfl
theorem D14 : Dl jdk_68_method_32_code [(0, .aload_n 0, 1), (1, .getfield 79, 3), (4, .istore_n 2, 1), (5, .iload_n 2, 1), (6, .iload_n 1, 1), (7, .invokestatic 245, 3), (10, .iadd, 1), (11, .istore_n 3, 1), (12, .aload_n 0, 1), (13, .iload_n 3, 1), (14, .invokevirtual 100, 3), (17, .aload_n 0, 1), (18, .invokevirtual 83, 3), (21, .ifCond .eq 16, 3), (24, .iload_n 1, 1), (25, .iload_n 3, 1), (26, .aload_n 0, 1), (27, .getfield 15, 3), (30, .invokestatic 248, 3), (33, .pop, 1), (34, .goto 14, 3), (48, .aload_n 0, 1), (49, .iload_n 3, 1), (50, .putfield 79, 3), (53, .aload_n 0, 1), (54, .areturn, 1)] := by decide +kernel
def d14_0 := dA D14 0 rfl
def d14_1 := dA D14 1 rfl
def d14_4 := dA D14 2 rfl
def d14_5 := dA D14 3 rfl
def d14_6 := dA D14 4 rfl
def d14_7 := dA D14 5 rfl
def d14_10 := dA D14 6 rfl
def d14_11 := dA D14 7 rfl
def d14_12 := dA D14 8 rfl
def d14_13 := dA D14 9 rfl
def d14_14 := dA D14 10 rfl
def d14_17 := dA D14 11 rfl
def d14_18 := dA D14 12 rfl
def d14_21 := dA D14 13 rfl
def d14_24 := dA D14 14 rfl
def d14_25 := dA D14 15 rfl
def d14_26 := dA D14 16 rfl
def d14_27 := dA D14 17 rfl
def d14_30 := dA D14 18 rfl
def d14_33 := dA D14 19 rfl
def d14_34 := dA D14 20 rfl
def d14_48 := dA D14 21 rfl
def d14_49 := dA D14 22 rfl
def d14_50 := dA D14 23 rfl
def d14_53 := dA D14 24 rfl
def d14_54 := dA D14 25 rfl
theorem D15 : Dl jdk_33_method_13_code [(0, .iconst 1, 1), (1, .istore_n 1, 1), (2, .iload_n 0, 1), (3, .ifCond .lt 8, 3), (6, .iconst 0, 1), (7, .istore_n 1, 1), (8, .iload_n 0, 1), (9, .ineg, 1), (10, .istore_n 0, 1), (11, .bipush (-10), 2), (13, .istore_n 2, 1), (14, .iconst 1, 1), (15, .istore_n 3, 1), (16, .iload_n 3, 1), (17, .bipush 10, 2), (19, .if_icmp .ge 23, 3), (22, .iload_n 0, 1), (23, .iload_n 2, 1), (24, .if_icmp .le 7, 3), (27, .iload_n 3, 1), (28, .iload_n 1, 1), (29, .iadd, 1), (30, .ireturn, 1), (31, .bipush 10, 2), (33, .iload_n 2, 1), (34, .imul, 1), (35, .istore_n 2, 1), (36, .iinc 3 1, 3), (39, .goto (-23), 3), (42, .bipush 10, 2), (44, .iload_n 1, 1), (45, .iadd, 1), (46, .ireturn, 1)] := by decide +kernel
def d15_0 := dA D15 0 rfl
def d15_1 := dA D15 1 rfl
def d15_2 := dA D15 2 rfl
def d15_3 := dA D15 3 rfl
def d15_6 := dA D15 4 rfl
def d15_7 := dA D15 5 rfl
def d15_8 := dA D15 6 rfl
def d15_9 := dA D15 7 rfl
def d15_10 := dA D15 8 rfl
def d15_11 := dA D15 9 rfl
def d15_13 := dA D15 10 rfl
def d15_14 := dA D15 11 rfl
def d15_15 := dA D15 12 rfl
def d15_16 := dA D15 13 rfl
def d15_17 := dA D15 14 rfl
def d15_19 := dA D15 15 rfl
def d15_22 := dA D15 16 rfl
def d15_23 := dA D15 17 rfl
def d15_24 := dA D15 18 rfl
def d15_27 := dA D15 19 rfl
def d15_28 := dA D15 20 rfl
def d15_29 := dA D15 21 rfl
def d15_30 := dA D15 22 rfl
def d15_31 := dA D15 23 rfl
def d15_33 := dA D15 24 rfl
def d15_34 := dA D15 25 rfl
def d15_35 := dA D15 26 rfl
def d15_36 := dA D15 27 rfl
def d15_39 := dA D15 28 rfl
def d15_42 := dA D15 29 rfl
def d15_44 := dA D15 30 rfl
def d15_45 := dA D15 31 rfl
def d15_46 := dA D15 32 rfl
theorem D16 : Dl jdk_68_method_68_code [(0, .getstatic 18, 3), (3, .ifCond .eq 14, 3), (6, .aload_n 0, 1), (7, .getfield 22, 3), (10, .ifCond .ne 7, 3), (13, .iconst 1, 1), (14, .goto 4, 3), (18, .ireturn, 1)] := by decide +kernel
def d16_0 := dA D16 0 rfl
def d16_3 := dA D16 1 rfl
def d16_6 := dA D16 2 rfl
def d16_7 := dA D16 3 rfl
def d16_10 := dA D16 4 rfl
def d16_13 := dA D16 5 rfl
def d16_14 := dA D16 6 rfl
def d16_18 := dA D16 7 rfl
theorem D17 : Dl jdk_33_method_12_code [(0, .iload_n 1, 1), (1, .istore 5, 2), (3, .iload_n 0, 1), (4, .ifCond .ge 7, 3), (7, .iconst 1, 1), (8, .goto 4, 3), (11, .iconst 0, 1), (12, .istore 6, 2), (14, .iload 6, 2), (16, .ifCond .ne 6, 3), (19, .iload_n 0, 1), (20, .ineg, 1), (21, .istore_n 0, 1), (22, .iload_n 0, 1), (23, .bipush (-100), 2), (25, .if_icmp .gt 47, 3), (28, .iload_n 0, 1), (29, .bipush 100, 2), (31, .idiv, 1), (32, .istore_n 3, 1), (33, .iload_n 3, 1), (34, .bipush 100, 2), (36, .imul, 1), (37, .iload_n 0, 1), (38, .isub, 1), (39, .istore 4, 2), (41, .iload_n 3, 1), (42, .istore_n 0, 1), (43, .aload_n 2, 1), (44, .iinc 5 (-1), 3), (47, .iload 5, 2), (49, .getstatic 83, 3), (52, .iload 4, 2), (54, .baload, 1), (55, .bastore, 1), (56, .aload_n 2, 1), (57, .iinc 5 (-1), 3), (60, .iload 5, 2), (62, .getstatic 87, 3), (65, .iload 4, 2), (67, .baload, 1), (68, .bastore, 1), (69, .goto (-47), 3), (72, .aload_n 2, 1), (73, .iinc 5 (-1), 3), (76, .iload 5, 2), (78, .getstatic 83, 3), (81, .iload_n 0, 1), (82, .ineg, 1), (83, .baload, 1), (84, .bastore, 1), (85, .iload_n 0, 1), (86, .bipush (-9), 2), (88, .if_icmp .ge 16, 3), (91, .aload_n 2, 1), (92, .iinc 5 (-1), 3), (95, .iload 5, 2), (97, .getstatic 87, 3), (100, .iload_n 0, 1), (101, .ineg, 1), (102, .baload, 1), (103, .bastore, 1), (104, .iload 6, 2), (106, .ifCond .eq 12, 3), (109, .aload_n 2, 1), (110, .iinc 5 (-1), 3), (113, .iload 5, 2), (115, .bipush 45, 2), (117, .bastore, 1), (118, .iload 5, 2), (120, .ireturn, 1)] := by decide +kernel
def d17_0 := dA D17 0 rfl
def d17_1 := dA D17 1 rfl
def d17_3 := dA D17 2 rfl
def d17_4 := dA D17 3 rfl
def d17_7 := dA D17 4 rfl
def d17_8 := dA D17 5 rfl
def d17_11 := dA D17 6 rfl
def d17_12 := dA D17 7 rfl
def d17_14 := dA D17 8 rfl
def d17_16 := dA D17 9 rfl
def d17_19 := dA D17 10 rfl
def d17_20 := dA D17 11 rfl
def d17_21 := dA D17 12 rfl
def d17_22 := dA D17 13 rfl
def d17_23 := dA D17 14 rfl
def d17_25 := dA D17 15 rfl
def d17_28 := dA D17 16 rfl
def d17_29 := dA D17 17 rfl
def d17_31 := dA D17 18 rfl
def d17_32 := dA D17 19 rfl
def d17_33 := dA D17 20 rfl
def d17_34 := dA D17 21 rfl
def d17_36 := dA D17 22 rfl
def d17_37 := dA D17 23 rfl
def d17_38 := dA D17 24 rfl
def d17_39 := dA D17 25 rfl
def d17_41 := dA D17 26 rfl
def d17_42 := dA D17 27 rfl
def d17_43 := dA D17 28 rfl
def d17_44 := dA D17 29 rfl
def d17_47 := dA D17 30 rfl
def d17_49 := dA D17 31 rfl
def d17_52 := dA D17 32 rfl
def d17_54 := dA D17 33 rfl
def d17_55 := dA D17 34 rfl
def d17_56 := dA D17 35 rfl
def d17_57 := dA D17 36 rfl
def d17_60 := dA D17 37 rfl
def d17_62 := dA D17 38 rfl
def d17_65 := dA D17 39 rfl
def d17_67 := dA D17 40 rfl
def d17_68 := dA D17 41 rfl
def d17_69 := dA D17 42 rfl
def d17_72 := dA D17 43 rfl
def d17_73 := dA D17 44 rfl
def d17_76 := dA D17 45 rfl
def d17_78 := dA D17 46 rfl
def d17_81 := dA D17 47 rfl
def d17_82 := dA D17 48 rfl
def d17_83 := dA D17 49 rfl
def d17_84 := dA D17 50 rfl
def d17_85 := dA D17 51 rfl
def d17_86 := dA D17 52 rfl
def d17_88 := dA D17 53 rfl
def d17_91 := dA D17 54 rfl
def d17_92 := dA D17 55 rfl
def d17_95 := dA D17 56 rfl
def d17_97 := dA D17 57 rfl
def d17_100 := dA D17 58 rfl
def d17_101 := dA D17 59 rfl
def d17_102 := dA D17 60 rfl
def d17_103 := dA D17 61 rfl
def d17_104 := dA D17 62 rfl
def d17_106 := dA D17 63 rfl
def d17_109 := dA D17 64 rfl
def d17_110 := dA D17 65 rfl
def d17_113 := dA D17 66 rfl
def d17_115 := dA D17 67 rfl
def d17_117 := dA D17 68 rfl
def d17_118 := dA D17 69 rfl
def d17_120 := dA D17 70 rfl
theorem D18 : Dl jdk_67_method_42_code [(0, .new 18, 3), (3, .dup, 1), (4, .aload_n 0, 1), (5, .invokespecial 137, 3), (8, .areturn, 1)] := by decide +kernel
def d18_0 := dA D18 0 rfl
def d18_3 := dA D18 1 rfl
def d18_4 := dA D18 2 rfl
def d18_5 := dA D18 3 rfl
def d18_8 := dA D18 4 rfl
theorem D19 : Dl jdk_42_method_53_code [(0, .aload_n 0, 1), (1, .aload_n 1, 1), (2, .aconst_null, 1), (3, .invokespecial 489, 3), (6, .return_, 1)] := by decide +kernel
def d19_0 := dA D19 0 rfl
def d19_1 := dA D19 1 rfl
def d19_2 := dA D19 2 rfl
def d19_3 := dA D19 3 rfl
def d19_6 := dA D19 4 rfl
theorem D20 : Dl jdk_42_method_150_code [(0, .aload_n 0, 1), (1, .invokespecial 1, 3), (4, .aload_n 1, 1), (5, .invokevirtual 552, 3), (8, .astore_n 3, 1), (9, .aload_n 1, 1), (10, .invokevirtual 549, 3), (13, .istore 4, 2), (15, .aload_n 1, 1), (16, .invokevirtual 1047, 3), (19, .ifCond .eq 22, 3), (22, .aload_n 0, 1), (23, .iconst 0, 1), (24, .putfield 15, 3), (27, .aload_n 0, 1), (28, .aload_n 3, 1), (29, .iconst 0, 1), (30, .iload 4, 2), (32, .invokestatic 54, 3), (35, .putfield 9, 3), (38, .goto 59, 3), (97, .return_, 1)] := by decide +kernel
def d20_0 := dA D20 0 rfl
def d20_1 := dA D20 1 rfl
def d20_4 := dA D20 2 rfl
def d20_5 := dA D20 3 rfl
def d20_8 := dA D20 4 rfl
def d20_9 := dA D20 5 rfl
def d20_10 := dA D20 6 rfl
def d20_13 := dA D20 7 rfl
def d20_15 := dA D20 8 rfl
def d20_16 := dA D20 9 rfl
def d20_19 := dA D20 10 rfl
def d20_22 := dA D20 11 rfl
def d20_23 := dA D20 12 rfl
def d20_24 := dA D20 13 rfl
def d20_27 := dA D20 14 rfl
def d20_28 := dA D20 15 rfl
def d20_29 := dA D20 16 rfl
def d20_30 := dA D20 17 rfl
def d20_32 := dA D20 18 rfl
def d20_35 := dA D20 19 rfl
def d20_38 := dA D20 20 rfl
def d20_97 := dA D20 21 rfl
theorem D21 : Dl jdk_68_method_64_code [(0, .aload_n 0, 1), (1, .getfield 15, 3), (4, .areturn, 1)] := by decide +kernel
def d21_0 := dA D21 0 rfl
def d21_1 := dA D21 1 rfl
def d21_4 := dA D21 2 rfl
theorem D22 : Dl jdk_67_method_93_code [(0, .aload_n 0, 1), (1, .invokespecial 343, 3), (4, .ireturn, 1)] := by decide +kernel
def d22_0 := dA D22 0 rfl
def d22_1 := dA D22 1 rfl
def d22_4 := dA D22 2 rfl
theorem D23 : Dl jdk_68_method_6_code [(0, .aload_n 0, 1), (1, .getfield 79, 3), (4, .ireturn, 1)] := by decide +kernel
def d23_0 := dA D23 0 rfl
def d23_1 := dA D23 1 rfl
def d23_4 := dA D23 2 rfl
theorem D24 : Dl jdk_65_method_132_code [(0, .iload_n 1, 1), (1, .ifCond .ne 9, 3), (4, .iload_n 2, 1), (5, .aload_n 0, 1), (6, .arraylength, 1), (7, .if_icmp .eq 10, 3), (10, .aload_n 0, 1), (11, .iload_n 1, 1), (12, .iload_n 2, 1), (13, .invokestatic 339, 3), (16, .areturn, 1), (17, .aload_n 0, 1), (18, .invokevirtual 310, 3), (21, .checkcast 311, 3), (24, .areturn, 1)] := by decide +kernel
def d24_0 := dA D24 0 rfl
def d24_1 := dA D24 1 rfl
def d24_4 := dA D24 2 rfl
def d24_5 := dA D24 3 rfl
def d24_6 := dA D24 4 rfl
def d24_7 := dA D24 5 rfl
def d24_10 := dA D24 6 rfl
def d24_11 := dA D24 7 rfl
def d24_12 := dA D24 8 rfl
def d24_13 := dA D24 9 rfl
def d24_16 := dA D24 10 rfl
def d24_17 := dA D24 11 rfl
def d24_18 := dA D24 12 rfl
def d24_21 := dA D24 13 rfl
def d24_24 := dA D24 14 rfl
theorem D25 : Dl jdk_65_method_133_code [(0, .iload_n 1, 1), (1, .iload_n 2, 1), (2, .invokestatic 343, 3), (5, .iload_n 2, 1), (6, .iload_n 1, 1), (7, .isub, 1), (8, .istore_n 3, 1), (9, .iload_n 3, 1), (10, .newarray .byte, 2), (12, .astore 4, 2), (14, .aload_n 0, 1), (15, .iload_n 1, 1), (16, .aload 4, 2), (18, .iconst 0, 1), (19, .aload_n 0, 1), (20, .arraylength, 1), (21, .iload_n 1, 1), (22, .isub, 1), (23, .iload_n 3, 1), (24, .invokestatic 304, 3), (27, .invokestatic 150, 3), (30, .aload 4, 2), (32, .areturn, 1)] := by decide +kernel
def d25_0 := dA D25 0 rfl
def d25_1 := dA D25 1 rfl
def d25_2 := dA D25 2 rfl
def d25_5 := dA D25 3 rfl
def d25_6 := dA D25 4 rfl
def d25_7 := dA D25 5 rfl
def d25_8 := dA D25 6 rfl
def d25_9 := dA D25 7 rfl
def d25_10 := dA D25 8 rfl
def d25_12 := dA D25 9 rfl
def d25_14 := dA D25 10 rfl
def d25_15 := dA D25 11 rfl
def d25_16 := dA D25 12 rfl
def d25_18 := dA D25 13 rfl
def d25_19 := dA D25 14 rfl
def d25_20 := dA D25 15 rfl
def d25_21 := dA D25 16 rfl
def d25_22 := dA D25 17 rfl
def d25_23 := dA D25 18 rfl
def d25_24 := dA D25 19 rfl
def d25_27 := dA D25 20 rfl
def d25_30 := dA D25 21 rfl
def d25_32 := dA D25 22 rfl
theorem D26 : Dl jdk_65_method_131_code [(0, .iload_n 1, 1), (1, .iload_n 0, 1), (2, .if_icmp .ge 35, 3), (37, .return_, 1)] := by decide +kernel
def d26_0 := dA D26 0 rfl
def d26_1 := dA D26 1 rfl
def d26_2 := dA D26 2 rfl
def d26_37 := dA D26 3 rfl
theorem D27 : Dl jdk_29_method_69_code [(0, .iload_n 0, 1), (1, .iload_n 1, 1), (2, .if_icmp .gt 7, 3), (5, .iload_n 0, 1), (6, .goto 4, 3), (9, .iload_n 1, 1), (10, .ireturn, 1)] := by decide +kernel
def d27_0 := dA D27 0 rfl
def d27_1 := dA D27 1 rfl
def d27_2 := dA D27 2 rfl
def d27_5 := dA D27 3 rfl
def d27_6 := dA D27 4 rfl
def d27_9 := dA D27 5 rfl
def d27_10 := dA D27 6 rfl
theorem D28 : Dl prog_9_method_1_code [(0, .aload_n 0, 1), (1, .aload_n 1, 1), (2, .aload_n 3, 1), (3, .invokespecial 1, 3), (6, .aload_n 0, 1), (7, .iload_n 2, 1), (8, .putfield 7, 3), (11, .return_, 1)] := by decide +kernel
def d28_0 := dA D28 0 rfl
def d28_1 := dA D28 1 rfl
def d28_2 := dA D28 2 rfl
def d28_3 := dA D28 3 rfl
def d28_6 := dA D28 4 rfl
def d28_7 := dA D28 5 rfl
def d28_8 := dA D28 6 rfl
def d28_11 := dA D28 7 rfl
theorem D29 : Dl jdk_59_method_3_code [(0, .aload_n 0, 1), (1, .aload_n 1, 1), (2, .aload_n 2, 1), (3, .invokespecial 10, 3), (6, .return_, 1)] := by decide +kernel
def d29_0 := dA D29 0 rfl
def d29_1 := dA D29 1 rfl
def d29_2 := dA D29 2 rfl
def d29_3 := dA D29 3 rfl
def d29_6 := dA D29 4 rfl
theorem D30 : Dl jdk_78_method_3_code [(0, .aload_n 0, 1), (1, .invokespecial 1, 3), (4, .aload_n 0, 1), (5, .aload_n 0, 1), (6, .putfield 7, 3), (9, .aload_n 0, 1), (10, .getstatic 13, 3), (13, .putfield 17, 3), (16, .aload_n 0, 1), (17, .getstatic 20, 3), (20, .putfield 24, 3), (23, .aload_n 0, 1), (24, .invokevirtual 27, 3), (27, .pop, 1), (28, .aload_n 0, 1), (29, .aload_n 1, 1), (30, .putfield 31, 3), (33, .aload_n 0, 1), (34, .aload_n 2, 1), (35, .putfield 7, 3), (38, .return_, 1)] := by decide +kernel
def d30_0 := dA D30 0 rfl
def d30_1 := dA D30 1 rfl
def d30_4 := dA D30 2 rfl
def d30_5 := dA D30 3 rfl
def d30_6 := dA D30 4 rfl
def d30_9 := dA D30 5 rfl
def d30_10 := dA D30 6 rfl
def d30_13 := dA D30 7 rfl
def d30_16 := dA D30 8 rfl
def d30_17 := dA D30 9 rfl
def d30_20 := dA D30 10 rfl
def d30_23 := dA D30 11 rfl
def d30_24 := dA D30 12 rfl
def d30_27 := dA D30 13 rfl
def d30_28 := dA D30 14 rfl
def d30_29 := dA D30 15 rfl
def d30_30 := dA D30 16 rfl
def d30_33 := dA D30 17 rfl
def d30_34 := dA D30 18 rfl
def d30_35 := dA D30 19 rfl
def d30_38 := dA D30 20 rfl
theorem D33 : Dl prog_9_method_5_code [(0, .aload_n 0, 1), (1, .getfield 7, 3), (4, .ireturn, 1)] := by decide +kernel
def d33_0 := dA D33 0 rfl
def d33_1 := dA D33 1 rfl
def d33_4 := dA D33 2 rfl
theorem D35 : Dl jdk_78_method_6_code [(0, .aload_n 0, 1), (1, .getfield 31, 3), (4, .areturn, 1)] := by decide +kernel
def d35_0 := dA D35 0 rfl
def d35_1 := dA D35 1 rfl
def d35_4 := dA D35 2 rfl
theorem D36 : Dl jdk_29_method_61_code [(0, .lload_n 0, 1), (1, .lconst 0, 1), (2, .lcmp, 1), (3, .ifCond .ge 8, 3), (6, .lload_n 0, 1), (7, .lneg, 1), (8, .goto 4, 3), (11, .lload_n 0, 1), (12, .lreturn, 1)] := by decide +kernel
def d36_0 := dA D36 0 rfl
def d36_1 := dA D36 1 rfl
def d36_2 := dA D36 2 rfl
def d36_3 := dA D36 3 rfl
def d36_6 := dA D36 4 rfl
def d36_7 := dA D36 5 rfl
def d36_8 := dA D36 6 rfl
def d36_11 := dA D36 7 rfl
def d36_12 := dA D36 8 rfl
theorem D37 : Dl method_3_code [(0, .lload_n 0, 1), (1, .ldc2_w 51, 3), (4, .lcmp, 1), (5, .ifCond .ge 5, 3), (8, .iconst 1, 1), (9, .ireturn, 1), (10, .lload_n 0, 1), (11, .ldc2_w 53, 3), (14, .lcmp, 1), (15, .ifCond .ge 5, 3), (18, .iconst 2, 1), (19, .ireturn, 1), (20, .lload_n 0, 1), (21, .ldc2_w 55, 3), (24, .lcmp, 1), (25, .ifCond .ge 5, 3), (28, .iconst 3, 1), (29, .ireturn, 1), (30, .lload_n 0, 1), (31, .ldc2_w 57, 3), (34, .lcmp, 1), (35, .ifCond .ge 5, 3), (38, .iconst 4, 1), (39, .ireturn, 1), (40, .lload_n 0, 1), (41, .ldc2_w 59, 3), (44, .lcmp, 1), (45, .ifCond .ge 5, 3), (48, .iconst 5, 1), (49, .ireturn, 1), (50, .lload_n 0, 1), (51, .ldc2_w 61, 3), (54, .lcmp, 1), (55, .ifCond .ge 6, 3), (58, .bipush 6, 2), (60, .ireturn, 1), (61, .lload_n 0, 1), (62, .ldc2_w 63, 3), (65, .lcmp, 1), (66, .ifCond .ge 6, 3), (69, .bipush 7, 2), (71, .ireturn, 1), (72, .lload_n 0, 1), (73, .ldc2_w 65, 3), (76, .lcmp, 1), (77, .ifCond .ge 6, 3), (80, .bipush 8, 2), (82, .ireturn, 1), (83, .lload_n 0, 1), (84, .ldc2_w 67, 3), (87, .lcmp, 1), (88, .ifCond .ge 6, 3), (91, .bipush 9, 2), (93, .ireturn, 1), (94, .bipush 10, 2), (96, .ireturn, 1)] := by decide +kernel
def d37_0 := dA D37 0 rfl
def d37_1 := dA D37 1 rfl
def d37_4 := dA D37 2 rfl
def d37_5 := dA D37 3 rfl
def d37_8 := dA D37 4 rfl
def d37_9 := dA D37 5 rfl
def d37_10 := dA D37 6 rfl
def d37_11 := dA D37 7 rfl
def d37_14 := dA D37 8 rfl
def d37_15 := dA D37 9 rfl
def d37_18 := dA D37 10 rfl
def d37_19 := dA D37 11 rfl
def d37_20 := dA D37 12 rfl
def d37_21 := dA D37 13 rfl
def d37_24 := dA D37 14 rfl
def d37_25 := dA D37 15 rfl
def d37_28 := dA D37 16 rfl
def d37_29 := dA D37 17 rfl
def d37_30 := dA D37 18 rfl
def d37_31 := dA D37 19 rfl
def d37_34 := dA D37 20 rfl
def d37_35 := dA D37 21 rfl
def d37_38 := dA D37 22 rfl
def d37_39 := dA D37 23 rfl
def d37_40 := dA D37 24 rfl
def d37_41 := dA D37 25 rfl
def d37_44 := dA D37 26 rfl
def d37_45 := dA D37 27 rfl
def d37_48 := dA D37 28 rfl
def d37_49 := dA D37 29 rfl
def d37_50 := dA D37 30 rfl
def d37_51 := dA D37 31 rfl
def d37_54 := dA D37 32 rfl
def d37_55 := dA D37 33 rfl
def d37_58 := dA D37 34 rfl
def d37_60 := dA D37 35 rfl
def d37_61 := dA D37 36 rfl
def d37_62 := dA D37 37 rfl
def d37_65 := dA D37 38 rfl
def d37_66 := dA D37 39 rfl
def d37_69 := dA D37 40 rfl
def d37_71 := dA D37 41 rfl
def d37_72 := dA D37 42 rfl
def d37_73 := dA D37 43 rfl
def d37_76 := dA D37 44 rfl
def d37_77 := dA D37 45 rfl
def d37_80 := dA D37 46 rfl
def d37_82 := dA D37 47 rfl
def d37_83 := dA D37 48 rfl
def d37_84 := dA D37 49 rfl
def d37_87 := dA D37 50 rfl
def d37_88 := dA D37 51 rfl
def d37_91 := dA D37 52 rfl
def d37_93 := dA D37 53 rfl
def d37_94 := dA D37 54 rfl
def d37_96 := dA D37 55 rfl
theorem D38 : Dl jdk_42_method_56_code [(0, .aload_n 0, 1), (1, .invokevirtual 492, 3), (4, .ifCond .eq 12, 3), (7, .aload_n 0, 1), (8, .getfield 9, 3), (11, .iload_n 1, 1), (12, .invokestatic 495, 3), (15, .ireturn, 1)] := by decide +kernel
def d38_0 := dA D38 0 rfl
def d38_1 := dA D38 1 rfl
def d38_4 := dA D38 2 rfl
def d38_7 := dA D38 3 rfl
def d38_8 := dA D38 4 rfl
def d38_11 := dA D38 5 rfl
def d38_12 := dA D38 6 rfl
def d38_15 := dA D38 7 rfl
theorem D39 : Dl jdk_42_method_154_code [(0, .getstatic 38, 3), (3, .ifCond .eq 14, 3), (6, .aload_n 0, 1), (7, .getfield 15, 3), (10, .ifCond .ne 7, 3), (13, .iconst 1, 1), (14, .goto 4, 3), (18, .ireturn, 1)] := by decide +kernel
def d39_0 := dA D39 0 rfl
def d39_3 := dA D39 1 rfl
def d39_6 := dA D39 2 rfl
def d39_7 := dA D39 3 rfl
def d39_10 := dA D39 4 rfl
def d39_13 := dA D39 5 rfl
def d39_14 := dA D39 6 rfl
def d39_18 := dA D39 7 rfl
theorem D40 : Dl jdk_43_method_2_code [(0, .iload_n 1, 1), (1, .aload_n 0, 1), (2, .arraylength, 1), (3, .invokestatic 9, 3), (6, .aload_n 0, 1), (7, .iload_n 1, 1), (8, .baload, 1), (9, .sipush 255, 3), (12, .iand, 1), (13, .i2c, 1), (14, .ireturn, 1)] := by decide +kernel
def d40_0 := dA D40 0 rfl
def d40_1 := dA D40 1 rfl
def d40_2 := dA D40 2 rfl
def d40_3 := dA D40 3 rfl
def d40_6 := dA D40 4 rfl
def d40_7 := dA D40 5 rfl
def d40_8 := dA D40 6 rfl
def d40_9 := dA D40 7 rfl
def d40_12 := dA D40 8 rfl
def d40_13 := dA D40 9 rfl
def d40_14 := dA D40 10 rfl
theorem D41 : Dl jdk_42_method_155_code [(0, .iload_n 0, 1), (1, .iload_n 1, 1), (2, .getstatic 1053, 3), (5, .invokestatic 1059, 3), (8, .pop, 1), (9, .return_, 1)] := by decide +kernel
def d41_0 := dA D41 0 rfl
def d41_1 := dA D41 1 rfl
def d41_2 := dA D41 2 rfl
def d41_5 := dA D41 3 rfl
def d41_8 := dA D41 4 rfl
def d41_9 := dA D41 5 rfl
theorem D42 : Dl jdk_41_method_11_code [(0, .iload_n 0, 1), (1, .ifCond .lt 8, 3), (4, .iload_n 0, 1), (5, .iload_n 1, 1), (6, .if_icmp .lt 10, 3), (16, .iload_n 0, 1), (17, .ireturn, 1)] := by decide +kernel
def d42_0 := dA D42 0 rfl
def d42_1 := dA D42 1 rfl
def d42_4 := dA D42 2 rfl
def d42_5 := dA D42 3 rfl
def d42_6 := dA D42 4 rfl
def d42_16 := dA D42 5 rfl
def d42_17 := dA D42 6 rfl
theorem D43 : Dl method_5_code [(0, .iload 5, 2), (2, .iload 4, 2), (4, .if_icmp .lt 5, 3), (7, .iconst 1, 1), (8, .ireturn, 1), (9, .iload 4, 2), (11, .iconst 1, 1), (12, .isub, 1), (13, .iload 5, 2), (15, .isub, 1), (16, .invokestatic 69, 3), (19, .lstore 6, 2), (21, .lload_n 2, 1), (22, .lload 6, 2), (24, .ldiv, 1), (25, .ldc2_w 51, 3), (28, .lrem, 1), (29, .l2i, 1), (30, .istore 8, 2), (32, .aload_n 0, 1), (33, .iload_n 1, 1), (34, .iload 5, 2), (36, .iadd, 1), (37, .invokevirtual 43, 3), (40, .bipush 48, 2), (42, .iload 8, 2), (44, .iadd, 1), (45, .i2c, 1), (46, .if_icmp .ne 7, 3), (49, .iconst 1, 1), (50, .goto 4, 3), (54, .ireturn, 1)] := by decide +kernel
def d43_0 := dA D43 0 rfl
def d43_2 := dA D43 1 rfl
def d43_4 := dA D43 2 rfl
def d43_7 := dA D43 3 rfl
def d43_8 := dA D43 4 rfl
def d43_9 := dA D43 5 rfl
def d43_11 := dA D43 6 rfl
def d43_12 := dA D43 7 rfl
def d43_13 := dA D43 8 rfl
def d43_15 := dA D43 9 rfl
def d43_16 := dA D43 10 rfl
def d43_19 := dA D43 11 rfl
def d43_21 := dA D43 12 rfl
def d43_22 := dA D43 13 rfl
def d43_24 := dA D43 14 rfl
def d43_25 := dA D43 15 rfl
def d43_28 := dA D43 16 rfl
def d43_29 := dA D43 17 rfl
def d43_30 := dA D43 18 rfl
def d43_32 := dA D43 19 rfl
def d43_33 := dA D43 20 rfl
def d43_34 := dA D43 21 rfl
def d43_36 := dA D43 22 rfl
def d43_37 := dA D43 23 rfl
def d43_40 := dA D43 24 rfl
def d43_42 := dA D43 25 rfl
def d43_44 := dA D43 26 rfl
def d43_45 := dA D43 27 rfl
def d43_46 := dA D43 28 rfl
def d43_49 := dA D43 29 rfl
def d43_50 := dA D43 30 rfl
def d43_54 := dA D43 31 rfl
theorem D44 : Dl method_4_code [(0, .bipush 10, 2), (2, .newarray .long, 2), (4, .dup, 1), (5, .iconst 0, 1), (6, .lconst 1, 1), (7, .lastore, 1), (8, .dup, 1), (9, .iconst 1, 1), (10, .ldc2_w 51, 3), (13, .lastore, 1), (14, .dup, 1), (15, .iconst 2, 1), (16, .ldc2_w 53, 3), (19, .lastore, 1), (20, .dup, 1), (21, .iconst 3, 1), (22, .ldc2_w 55, 3), (25, .lastore, 1), (26, .dup, 1), (27, .iconst 4, 1), (28, .ldc2_w 57, 3), (31, .lastore, 1), (32, .dup, 1), (33, .iconst 5, 1), (34, .ldc2_w 59, 3), (37, .lastore, 1), (38, .dup, 1), (39, .bipush 6, 2), (41, .ldc2_w 61, 3), (44, .lastore, 1), (45, .dup, 1), (46, .bipush 7, 2), (48, .ldc2_w 63, 3), (51, .lastore, 1), (52, .dup, 1), (53, .bipush 8, 2), (55, .ldc2_w 65, 3), (58, .lastore, 1), (59, .dup, 1), (60, .bipush 9, 2), (62, .ldc2_w 67, 3), (65, .lastore, 1), (66, .astore_n 1, 1), (67, .iload_n 0, 1), (68, .ifCond .lt 9, 3), (71, .iload_n 0, 1), (72, .bipush 9, 2), (74, .if_icmp .le 5, 3), (79, .aload_n 1, 1), (80, .iload_n 0, 1), (81, .laload, 1), (82, .lreturn, 1)] := by decide +kernel
def d44_0 := dA D44 0 rfl
def d44_2 := dA D44 1 rfl
def d44_4 := dA D44 2 rfl
def d44_5 := dA D44 3 rfl
def d44_6 := dA D44 4 rfl
def d44_7 := dA D44 5 rfl
def d44_8 := dA D44 6 rfl
def d44_9 := dA D44 7 rfl
def d44_10 := dA D44 8 rfl
def d44_13 := dA D44 9 rfl
def d44_14 := dA D44 10 rfl
def d44_15 := dA D44 11 rfl
def d44_16 := dA D44 12 rfl
def d44_19 := dA D44 13 rfl
def d44_20 := dA D44 14 rfl
def d44_21 := dA D44 15 rfl
def d44_22 := dA D44 16 rfl
def d44_25 := dA D44 17 rfl
def d44_26 := dA D44 18 rfl
def d44_27 := dA D44 19 rfl
def d44_28 := dA D44 20 rfl
def d44_31 := dA D44 21 rfl
def d44_32 := dA D44 22 rfl
def d44_33 := dA D44 23 rfl
def d44_34 := dA D44 24 rfl
def d44_37 := dA D44 25 rfl
def d44_38 := dA D44 26 rfl
def d44_39 := dA D44 27 rfl
def d44_41 := dA D44 28 rfl
def d44_44 := dA D44 29 rfl
def d44_45 := dA D44 30 rfl
def d44_46 := dA D44 31 rfl
def d44_48 := dA D44 32 rfl
def d44_51 := dA D44 33 rfl
def d44_52 := dA D44 34 rfl
def d44_53 := dA D44 35 rfl
def d44_55 := dA D44 36 rfl
def d44_58 := dA D44 37 rfl
def d44_59 := dA D44 38 rfl
def d44_60 := dA D44 39 rfl
def d44_62 := dA D44 40 rfl
def d44_65 := dA D44 41 rfl
def d44_66 := dA D44 42 rfl
def d44_67 := dA D44 43 rfl
def d44_68 := dA D44 44 rfl
def d44_71 := dA D44 45 rfl
def d44_72 := dA D44 46 rfl
def d44_74 := dA D44 47 rfl
def d44_79 := dA D44 48 rfl
def d44_80 := dA D44 49 rfl
def d44_81 := dA D44 50 rfl
def d44_82 := dA D44 51 rfl
theorem D45 : Dl jdk_68_method_10_code [(0, .aload_n 0, 1), (1, .getfield 15, 3), (4, .arraylength, 1), (5, .istore_n 2, 1), (6, .iload_n 1, 1), (7, .aload_n 0, 1), (8, .getfield 22, 3), (11, .ishl, 1), (12, .istore_n 3, 1), (13, .iload_n 3, 1), (14, .iload_n 2, 1), (15, .isub, 1), (16, .istore 4, 2), (18, .iload_n 2, 1), (19, .iload 4, 2), (21, .iload_n 2, 1), (22, .iconst 2, 1), (23, .aload_n 0, 1), (24, .getfield 22, 3), (27, .ishl, 1), (28, .iadd, 1), (29, .invokestatic 114, 3), (32, .istore 5, 2), (34, .iload 5, 2), (36, .ldc 39, 2), (38, .if_icmp .ne 13, 3), (51, .iload 5, 2), (53, .aload_n 0, 1), (54, .getfield 22, 3), (57, .ishr, 1), (58, .ireturn, 1)] := by decide +kernel
def d45_0 := dA D45 0 rfl
def d45_1 := dA D45 1 rfl
def d45_4 := dA D45 2 rfl
def d45_5 := dA D45 3 rfl
def d45_6 := dA D45 4 rfl
def d45_7 := dA D45 5 rfl
def d45_8 := dA D45 6 rfl
def d45_11 := dA D45 7 rfl
def d45_12 := dA D45 8 rfl
def d45_13 := dA D45 9 rfl
def d45_14 := dA D45 10 rfl
def d45_15 := dA D45 11 rfl
def d45_16 := dA D45 12 rfl
def d45_18 := dA D45 13 rfl
def d45_19 := dA D45 14 rfl
def d45_21 := dA D45 15 rfl
def d45_22 := dA D45 16 rfl
def d45_23 := dA D45 17 rfl
def d45_24 := dA D45 18 rfl
def d45_27 := dA D45 19 rfl
def d45_28 := dA D45 20 rfl
def d45_29 := dA D45 21 rfl
def d45_32 := dA D45 22 rfl
def d45_34 := dA D45 23 rfl
def d45_36 := dA D45 24 rfl
def d45_38 := dA D45 25 rfl
def d45_51 := dA D45 26 rfl
def d45_53 := dA D45 27 rfl
def d45_54 := dA D45 28 rfl
def d45_57 := dA D45 29 rfl
def d45_58 := dA D45 30 rfl
theorem D46 : Dl jdk_48_method_27_code [(0, .iload_n 0, 1), (1, .iload_n 1, 1), (2, .iload_n 2, 1), (3, .invokestatic 194, 3), (6, .iadd, 1), (7, .istore_n 3, 1), (8, .iconst 0, 1), (9, .iload_n 3, 1), (10, .if_icmp .ge 11, 3), (13, .iload_n 3, 1), (14, .ldc 200, 2), (16, .if_icmp .gt 5, 3), (19, .iload_n 3, 1), (20, .ireturn, 1)] := by decide +kernel
def d46_0 := dA D46 0 rfl
def d46_1 := dA D46 1 rfl
def d46_2 := dA D46 2 rfl
def d46_3 := dA D46 3 rfl
def d46_6 := dA D46 4 rfl
def d46_7 := dA D46 5 rfl
def d46_8 := dA D46 6 rfl
def d46_9 := dA D46 7 rfl
def d46_10 := dA D46 8 rfl
def d46_13 := dA D46 9 rfl
def d46_14 := dA D46 10 rfl
def d46_16 := dA D46 11 rfl
def d46_19 := dA D46 12 rfl
def d46_20 := dA D46 13 rfl
theorem D47 : Dl jdk_29_method_65_code [(0, .iload_n 0, 1), (1, .iload_n 1, 1), (2, .if_icmp .lt 7, 3), (9, .iload_n 1, 1), (10, .ireturn, 1)] := by decide +kernel
def d47_0 := dA D47 0 rfl
def d47_1 := dA D47 1 rfl
def d47_2 := dA D47 2 rfl
def d47_9 := dA D47 3 rfl
def d47_10 := dA D47 4 rfl
theorem D48 : Dl jdk_65_method_121_code [(0, .iload_n 1, 1), (1, .aload_n 0, 1), (2, .arraylength, 1), (3, .if_icmp .ne 11, 3), (14, .iload_n 1, 1), (15, .newarray .byte, 2), (17, .astore_n 2, 1), (18, .aload_n 0, 1), (19, .iconst 0, 1), (20, .aload_n 2, 1), (21, .iconst 0, 1), (22, .aload_n 0, 1), (23, .arraylength, 1), (24, .iload_n 1, 1), (25, .invokestatic 304, 3), (28, .invokestatic 150, 3), (31, .aload_n 2, 1), (32, .areturn, 1)] := by decide +kernel
def d48_0 := dA D48 0 rfl
def d48_1 := dA D48 1 rfl
def d48_2 := dA D48 2 rfl
def d48_3 := dA D48 3 rfl
def d48_14 := dA D48 4 rfl
def d48_15 := dA D48 5 rfl
def d48_17 := dA D48 6 rfl
def d48_18 := dA D48 7 rfl
def d48_19 := dA D48 8 rfl
def d48_20 := dA D48 9 rfl
def d48_21 := dA D48 10 rfl
def d48_22 := dA D48 11 rfl
def d48_23 := dA D48 12 rfl
def d48_24 := dA D48 13 rfl
def d48_25 := dA D48 14 rfl
def d48_28 := dA D48 15 rfl
def d48_31 := dA D48 16 rfl
def d48_32 := dA D48 17 rfl
theorem own_selP {Z : State} {a0 : Array Value} {C : String} {y : MethodName} (w : (Jvm.Cond.selects C y y).before a0 Z = true) (wp : (Jvm.Cond.privateMethod y).before a0 Z = true) (wi : (Jvm.Cond.instanceMethod y).before a0 Z = true) (hy : y.cls ≠ "java/lang/invoke/MethodHandle" ∧ y.cls ≠ "java/lang/invoke/VarHandle") : (Jvm.Cond.selects y.cls y y).before a0 Z = true := by
  obtain ⟨c, r, m, -, -, h3, -, mk, h5, h6⟩ := Cond.selects_spec w
  exact Jvm.Stand.selects_self_of_private (findClass_of_methodNamed h3) h5 h6 (Cond.privateMethod_at wp) wi hy
theorem own_same {Z : State} {a0 : Array Value} {C : String} {y z : MethodName} (wd_ : (Jvm.Cond.declares y).before a0 Z = true) (ws : (Jvm.Cond.selects C z z).before a0 Z = true) (hy : y.cls ≠ "java/lang/invoke/MethodHandle" ∧ y.cls ≠ "java/lang/invoke/VarHandle") (hz : z.cls = y.cls) : (Jvm.Cond.sameMethod y.cls y.cls y.name y.desc).before a0 Z = true := by
  obtain ⟨r0, r, hn, -, -, -⟩ := Cond.declares_spec wd_
  obtain ⟨c, r', m, -, -, h3, -⟩ := Cond.selects_spec ws
  obtain ⟨kr, h1, h2⟩ := notFace_of_selects (args := #[]) ws m h3
  have hf := State.methodFound?_of_named hn hy
  have hc := findClass_of_methodNamed hn
  have hcz := findClass_of_methodNamed h3
  rw [hz, hc] at hcz
  rw [← Option.some.inj hcz] at h1
  simp [Jvm.Cond.before, Jvm.Cond.holds, Jvm.Cond.value, hc, hf, hn, h1, h2]
theorem own_nf {s : State} {C : String} {y z : MethodName} (ws : (Jvm.Cond.selects C z z).before #[] s = true) (hz : z.cls = y.cls) : NotFace s y := fun r0 hn => by
  obtain ⟨c, r', m, -, -, h3, -⟩ := Cond.selects_spec ws
  obtain ⟨kr, h1, h2⟩ := notFace_of_selects (args := #[]) ws m h3
  have hcz := findClass_of_methodNamed h3
  rw [hz, findClass_of_methodNamed hn] at hcz
  rw [← Option.some.inj hcz] at h1
  exact ⟨kr, h1, h2⟩
section Dig0
variable {p : Program} {l : Launch} {e : Env} {R : Room} {s s' : State} {m : MethodId} {args : Array Value} {below : List Frame} {meth : Method} {c : Code} {T : State} {locs : List Loc} {cells slots kc ks nl : Nat} {Q : Option Value → Heap → List Loc → Prop} {EN : State → Outcome → State → List Loc → Nat → Nat → Prop} {b : ByteArray} {pc : Nat} {Ls : Array Slot} {S : List Value} {Z : State} {h : Heap} {a : Addr} {i z r x : Int32} {q : Nat}
variable {a0 : Array Value} {own C : String} {index : Nat}
theorem t_newU (X : Stand p l e R s' m args below meth c T locs cells slots) (u : UB p c b nl) (hZ : Z.Warmed39 s'.vm) (hown : s'.vm.findClass own = some m.cls) {q : Nat} (w : (Jvm.Cond.classLink own index C).before a0 Z = true) (wi : (Jvm.Cond.instantiable C q).before a0 Z = true) (wz : (Jvm.Cond.initialized C).before a0 Z = true) (eT : T.heap = h) (dd : decode b pc = .ok (.new index, 3)) (rr : cells + 1 ≤ R.cells ∧ slots + q ≤ R.slots) (K : ∀ (T' : State) (h' : Heap) (b' : Addr), Stand p l e R s' m args below meth c T' locs (cells + 1) (slots + q) → T'.heap = h' → Ext h h' → b' = h.size → Exa Z h' b' C → (∀ {O nm d : String} {ty : FieldType}, Laid Z a0 C O nm d → parseFieldDescriptor d = some ty → Fld Z h' b' O nm d (defaultValue ty)) → Unt h' b' → Go EN p e below s kc ks Q T' (mkF m (pc + 3) Ls (.ref b' :: S))) : Go EN p e below s kc ks Q T (mkF m pc Ls (S)) := by
  obtain ⟨T', h', X', e', E, A', D, U, st⟩ := newO X u.1 hZ hown w wi wz eT (g := mkF m pc Ls S) rfl (hb u.2.1 dd) rr.1 rr.2
  exact Go.step st (K T' h' _ X' e' E rfl A' D U)
theorem t_nB (k : Nat) (X : Stand p l e R s' m args below meth c T locs cells slots) (u : UB p c b nl) (hZ : Z.Warmed39 s'.vm) (w : (Jvm.Cond.arrayClass .byte).before a0 Z = true) (eT : T.heap = h) {n : Int32} (dd : decode b pc = .ok (.newarray .byte, 2)) (rr : ¬ n < 0 ∧ n.toNatClampNeg = k ∧ k * 8 ≤ 536870912 ∧ cells + 1 ≤ R.cells ∧ slots + k ≤ R.slots) (K : ∀ (T' : State) (h' : Heap) (b' : Addr) (k' : ClassId), Stand p l e R s' m args below meth c T' locs (cells + 1) (slots + k) → T'.heap = h' → Ext h h' → b' = h.size → Arv Z h' b' k' .byte n (List.replicate k (.int 0)) (.int 0) → Exa Z h' b' "[B" → Go EN p e below s kc ks Q T' (mkF m (pc + 2) Ls (.ref b' :: S))) : Go EN p e below s kc ks Q T (mkF m pc Ls (.int n :: S)) := by
  obtain ⟨T', h', k', X', e', E, A', B', st⟩ := newPE X u.1 hZ (aty := .byte) w eT (g := mkF m pc Ls (.int n :: S)) rfl (hb u.2.1 dd) rfl rr.1 (cap := k) (Nat.le_of_eq rr.2.1) rr.2.2.1 rr.2.2.2.1 rr.2.2.2.2 (ad := "[B") rfl
  exact Go.step st (K T' h' _ k' X' e' E rfl ((Arv.new A' rr.1).pad (pad_rep [] _ k)) B')
theorem t_cl (W k : Nat) (X : Stand p l e R s' m args below meth c T locs cells slots) (u : UB p c b nl) (hZ : Z.Warmed39 s'.vm) (hown : s'.vm.findClass own = some m.cls) (w1 : (Jvm.Cond.methodLink own index ⟨"[B", "clone", "()Ljava/lang/Object;"⟩).before a0 Z = true) (w2 : (Jvm.Cond.sameMethod "[B" "java/lang/Object" "clone" "()Ljava/lang/Object;").before a0 Z = true) (w3 : (Jvm.Cond.native ⟨"java/lang/Object", "clone", "()Ljava/lang/Object;"⟩).before a0 Z = true) (w4 : (Jvm.Cond.instanceMethod ⟨"java/lang/Object", "clone", "()Ljava/lang/Object;"⟩).before a0 Z = true) (w5 : (Jvm.Cond.selects "[B" ⟨"[B", "clone", "()Ljava/lang/Object;"⟩ ⟨"java/lang/Object", "clone", "()Ljava/lang/Object;"⟩).before a0 Z = true) (w6 : (Jvm.Cond.castable "[B" "java/lang/Cloneable").before a0 Z = true) (eT : T.heap = h) {kc' : ClassId} {n : Int32} {vs : List Value} {dv : Value} (V : Arv Z h a kc' .byte n vs dv) (E : ex_0 Z h a) (hsz : Ls.size = nl) (dd : decode b pc = .ok (.invokevirtual index, 3)) (hW : (S.map fun v => v.category).sum = W) (hk : n.toNatClampNeg = k) (rr : (1 ≤ R.frames ∧ W + 14 ≤ R.locals) ∧ cells + 1 ≤ R.cells ∧ slots + k ≤ R.slots) (K : ∀ (T' : State) (h' : Heap) (b' : Addr), Stand p l e R s' m args below meth c T' locs (cells + 1) (slots + k) → T'.heap = h' → Ext h h' → b' = h.size → Arv Z h' b' kc' .byte n vs dv → Exa Z h' b' "[B" → Go EN p e below s kc ks Q T' (mkF m (pc + 3) Ls (.ref b' :: S))) : Go EN p e below s kc ks Q T (mkF m pc Ls (.ref a :: S)) := by
  obtain ⟨cl, A, q1, S', q3, H, G⟩ := V
  have FC : FitC Z cl := fitC_of A fun i hi v hv => by rw [H i hi] at hv; cases hv; exact G i hi
  obtain ⟨T', h', X', e', ex, A', E', st⟩ := cloneA X u.1 hZ hown w1 w2 w3 w4 w5 w6 eT A E FC (g := mkF m pc Ls (.ref a :: S)) rfl (hsz.trans u.2.2.symm) rfl (hb u.2.1 dd) rr.1.1 (W := W) (cap := k) (by show 2 * 0 + _ ≤ _; omega) rr.1.2 (by rw [S', hk]; exact Nat.le_refl _) rr.2.1 rr.2.2
  exact Go.step st (K T' h' _ X' e' ex rfl ⟨cloneOf cl, A', q1, S', q3, H, G⟩ E')
end Dig0
abbrev y_15 : MethodName := ⟨"java/lang/Integer", "stringSize", "(I)I"⟩
abbrev y_17 : MethodName := ⟨"java/lang/Integer", "getChars", "(II[B)I"⟩
abbrev y_30 : MethodName := ⟨"java/lang/Throwable", "<init>", "(Ljava/lang/String;Ljava/lang/Throwable;)V"⟩
theorem pd_LLjava_lang_String_Ljava_lang_Throwable_RV : parseMethodDescriptor "(Ljava/lang/String;Ljava/lang/Throwable;)V" = some ⟨[(.object "java/lang/String"), (.object "java/lang/Throwable")], none⟩ := by decide +kernel
abbrev y_29 : MethodName := ⟨"java/lang/Exception", "<init>", "(Ljava/lang/String;Ljava/lang/Throwable;)V"⟩
abbrev y_28 : MethodName := ⟨"com/example/layout_to_rows/layouttorows/harvest/FetchException", "<init>", "(Ljava/lang/String;ZLjava/io/IOException;)V"⟩
abbrev y_3 : MethodName := ⟨"java/lang/AbstractStringBuilder", "<init>", "(I)V"⟩
theorem pd_LIRV : parseMethodDescriptor "(I)V" = some ⟨[.int], none⟩ := by decide +kernel
def m_0 {Z : State} {a0 : Array Value} (hw : HW Z a0) := mk_NW (wd hw 13 rfl) (wd hw 17 rfl) (wd hw 16 rfl) (by decide) pd_LIRV
abbrev y_2 : MethodName := ⟨"java/lang/StringBuilder", "<init>", "()V"⟩
theorem pd_LRV : parseMethodDescriptor "()V" = some ⟨[], none⟩ := by decide +kernel
def m_1 {Z : State} {a0 : Array Value} (hw : HW Z a0) := mk_NW (wd hw 10 rfl) (wd hw 11 rfl) (wd hw 8 rfl) (by decide) pd_LRV
abbrev y_8 : MethodName := ⟨"java/lang/String", "coder", "()B"⟩
theorem pd_LRB : parseMethodDescriptor "()B" = some ⟨[], some .byte⟩ := by decide +kernel
def m_2 {Z : State} {a0 : Array Value} (hw : HW Z a0) := mk_VW (wd hw 51 rfl) (wd hw 53 rfl) (wd hw 52 rfl) (wd hw 54 rfl) (wd hw 22 rfl) (by decide) pd_LRB
abbrev y_7 : MethodName := ⟨"java/lang/String", "length", "()I"⟩
theorem pd_LRI : parseMethodDescriptor "()I" = some ⟨[], some .int⟩ := by decide +kernel
def m_3 {Z : State} {a0 : Array Value} (hw : HW Z a0) := mk_VW (wd hw 45 rfl) (wd hw 47 rfl) (wd hw 46 rfl) (wd hw 48 rfl) (wd hw 22 rfl) (by decide) pd_LRI
abbrev y_9 : MethodName := ⟨"java/lang/AbstractStringBuilder", "ensureCapacityInternal", "(I)V"⟩
def m_4 {Z : State} {a0 : Array Value} (hw : HW Z a0) := mk_PW (wd hw 60 rfl) (own_selP (wd hw 62 rfl) (wd hw 61 rfl) (wd hw 60 rfl) (by decide)) (wd hw 61 rfl) (wd hw 63 rfl) (wd hw 16 rfl) (by decide) pd_LIRV
abbrev y_11 : MethodName := ⟨"java/lang/AbstractStringBuilder", "inflateIfNeededFor", "(Ljava/lang/String;)V"⟩
theorem pd_LLjava_lang_String_RV : parseMethodDescriptor "(Ljava/lang/String;)V" = some ⟨[(.object "java/lang/String")], none⟩ := by decide +kernel
def m_5 {Z : State} {a0 : Array Value} (hw : HW Z a0) := mk_PW (wd hw 70 rfl) (own_selP (wd hw 72 rfl) (wd hw 71 rfl) (wd hw 70 rfl) (by decide)) (wd hw 71 rfl) (wd hw 73 rfl) (wd hw 16 rfl) (by decide) pd_LLjava_lang_String_RV
abbrev y_12 : MethodName := ⟨"java/lang/String", "getBytes", "([BIB)V"⟩
theorem pd_LABIBRV : parseMethodDescriptor "([BIB)V" = some ⟨[(.array .byte), .int, .byte], none⟩ := by decide +kernel
def m_6 {Z : State} {a0 : Array Value} (hw : HW Z a0) := mk_VW (wd hw 76 rfl) (wd hw 78 rfl) (wd hw 77 rfl) (wd hw 79 rfl) (wd hw 22 rfl) (by decide) pd_LABIBRV
abbrev y_10 : MethodName := ⟨"java/lang/AbstractStringBuilder", "putStringAt", "(ILjava/lang/String;)V"⟩
theorem pd_LILjava_lang_String_RV : parseMethodDescriptor "(ILjava/lang/String;)V" = some ⟨[.int, (.object "java/lang/String")], none⟩ := by decide +kernel
def m_7 {Z : State} {a0 : Array Value} (hw : HW Z a0) := mk_PW (wd hw 65 rfl) (own_selP (wd hw 67 rfl) (wd hw 66 rfl) (wd hw 65 rfl) (by decide)) (wd hw 66 rfl) (wd hw 68 rfl) (wd hw 16 rfl) (by decide) pd_LILjava_lang_String_RV
abbrev y_6 : MethodName := ⟨"java/lang/AbstractStringBuilder", "append", "(Ljava/lang/String;)Ljava/lang/AbstractStringBuilder;"⟩
theorem pd_LLjava_lang_String_RLjava_lang_AbstractStringBuilder_ : parseMethodDescriptor "(Ljava/lang/String;)Ljava/lang/AbstractStringBuilder;" = some ⟨[(.object "java/lang/String")], some (.object "java/lang/AbstractStringBuilder")⟩ := by decide +kernel
def m_8 {Z : State} {a0 : Array Value} (hw : HW Z a0) := mk_XW (wd hw 40 rfl) (own_same (wd hw 42 rfl) (wd hw 62 rfl) (by decide) rfl) (wd hw 41 rfl) (wd hw 43 rfl) (wd hw 16 rfl) (by decide) pd_LLjava_lang_String_RLjava_lang_AbstractStringBuilder_
abbrev y_5 : MethodName := ⟨"java/lang/StringBuilder", "append", "(Ljava/lang/String;)Ljava/lang/StringBuilder;"⟩
theorem pd_LLjava_lang_String_RLjava_lang_StringBuilder_ : parseMethodDescriptor "(Ljava/lang/String;)Ljava/lang/StringBuilder;" = some ⟨[(.object "java/lang/String")], some (.object "java/lang/StringBuilder")⟩ := by decide +kernel
def m_9 {Z : State} {a0 : Array Value} (hw : HW Z a0) := mk_VW (wd hw 35 rfl) (wd hw 37 rfl) (wd hw 36 rfl) (wd hw 38 rfl) (wd hw 8 rfl) (by decide) pd_LLjava_lang_String_RLjava_lang_StringBuilder_
theorem pd_LIRI : parseMethodDescriptor "(I)I" = some ⟨[.int], some .int⟩ := by decide +kernel
def m_10 {Z : State} {a0 : Array Value} (hw : HW Z a0) := mk_SW (wd hw 94 rfl) (wd hw 96 rfl) (wd hw 95 rfl) (by decide) pd_LIRI
abbrev y_16 : MethodName := ⟨"java/lang/AbstractStringBuilder", "isLatin1", "()Z"⟩
theorem pd_LRZ : parseMethodDescriptor "()Z" = some ⟨[], some .boolean⟩ := by decide +kernel
def m_11 {Z : State} {a0 : Array Value} (hw : HW Z a0) := mk_VW (wd hw 98 rfl) (wd hw 100 rfl) (wd hw 99 rfl) (wd hw 101 rfl) (wd hw 16 rfl) (by decide) pd_LRZ
theorem pd_LIIABRI : parseMethodDescriptor "(II[B)I" = some ⟨[.int, .int, (.array .byte)], some .int⟩ := by decide +kernel
def m_12 {Z : State} {a0 : Array Value} (hw : HW Z a0) := mk_SW (wd hw 103 rfl) (wd hw 104 rfl) (wd hw 95 rfl) (by decide) pd_LIIABRI
abbrev y_14 : MethodName := ⟨"java/lang/AbstractStringBuilder", "append", "(I)Ljava/lang/AbstractStringBuilder;"⟩
theorem pd_LIRLjava_lang_AbstractStringBuilder_ : parseMethodDescriptor "(I)Ljava/lang/AbstractStringBuilder;" = some ⟨[.int], some (.object "java/lang/AbstractStringBuilder")⟩ := by decide +kernel
def m_13 {Z : State} {a0 : Array Value} (hw : HW Z a0) := mk_XW (wd hw 90 rfl) (own_same (wd hw 91 rfl) (wd hw 62 rfl) (by decide) rfl) (wd hw 41 rfl) (wd hw 92 rfl) (wd hw 16 rfl) (by decide) pd_LIRLjava_lang_AbstractStringBuilder_
abbrev y_13 : MethodName := ⟨"java/lang/StringBuilder", "append", "(I)Ljava/lang/StringBuilder;"⟩
theorem pd_LIRLjava_lang_StringBuilder_ : parseMethodDescriptor "(I)Ljava/lang/StringBuilder;" = some ⟨[.int], some (.object "java/lang/StringBuilder")⟩ := by decide +kernel
def m_14 {Z : State} {a0 : Array Value} (hw : HW Z a0) := mk_VW (wd hw 85 rfl) (wd hw 87 rfl) (wd hw 86 rfl) (wd hw 88 rfl) (wd hw 8 rfl) (by decide) pd_LIRLjava_lang_StringBuilder_
abbrev y_21 : MethodName := ⟨"java/lang/AbstractStringBuilder", "getValue", "()[B"⟩
theorem pd_LRAB : parseMethodDescriptor "()[B" = some ⟨[], some (.array .byte)⟩ := by decide +kernel
def m_15 {Z : State} {a0 : Array Value} (hw : HW Z a0) := mk_VW (wd hw 121 rfl) (wd hw 123 rfl) (wd hw 122 rfl) (wd hw 124 rfl) (wd hw 16 rfl) (by decide) pd_LRAB
abbrev y_23 : MethodName := ⟨"java/lang/AbstractStringBuilder", "length", "()I"⟩
def m_16 {Z : State} {a0 : Array Value} (hw : HW Z a0) := mk_XW (wd hw 127 rfl) (own_same (wd hw 126 rfl) (wd hw 62 rfl) (by decide) rfl) (wd hw 41 rfl) (wd hw 132 rfl) (wd hw 16 rfl) (by decide) pd_LRI
abbrev y_22 : MethodName := ⟨"java/lang/StringBuilder", "length", "()I"⟩
abbrev y_26 : MethodName := ⟨"java/util/Arrays", "checkLength", "(II)V"⟩
theorem pd_LIIRV : parseMethodDescriptor "(II)V" = some ⟨[.int, .int], none⟩ := by decide +kernel
def m_17 {Z : State} {a0 : Array Value} (hw : HW Z a0) := mk_SW (wd hw 142 rfl) (wd hw 143 rfl) (wd hw 136 rfl) (by decide) pd_LIIRV
abbrev y_27 : MethodName := ⟨"java/lang/Math", "min", "(II)I"⟩
theorem pd_LIIRI : parseMethodDescriptor "(II)I" = some ⟨[.int, .int], some .int⟩ := by decide +kernel
def m_18 {Z : State} {a0 : Array Value} (hw : HW Z a0) := mk_SW (wd hw 145 rfl) (wd hw 147 rfl) (wd hw 146 rfl) (by decide) pd_LIIRI
abbrev y_25 : MethodName := ⟨"java/util/Arrays", "copyOfRangeByte", "([BII)[B"⟩
theorem pd_LABIIRAB : parseMethodDescriptor "([BII)[B" = some ⟨[(.array .byte), .int, .int], some (.array .byte)⟩ := by decide +kernel
def m_19 {Z : State} {a0 : Array Value} (hw : HW Z a0) := mk_SW (wd hw 139 rfl) (wd hw 140 rfl) (wd hw 136 rfl) (by decide) pd_LABIIRAB
abbrev y_24 : MethodName := ⟨"java/util/Arrays", "copyOfRange", "([BII)[B"⟩
def m_20 {Z : State} {a0 : Array Value} (hw : HW Z a0) := mk_SW (wd hw 135 rfl) (wd hw 137 rfl) (wd hw 136 rfl) (by decide) pd_LABIIRAB
abbrev y_20 : MethodName := ⟨"java/lang/String", "<init>", "(Ljava/lang/AbstractStringBuilder;Ljava/lang/Void;)V"⟩
theorem pd_LLjava_lang_AbstractStringBuilder_Ljava_lang_Void_RV : parseMethodDescriptor "(Ljava/lang/AbstractStringBuilder;Ljava/lang/Void;)V" = some ⟨[(.object "java/lang/AbstractStringBuilder"), (.object "java/lang/Void")], none⟩ := by decide +kernel
def m_21 {Z : State} {a0 : Array Value} (hw : HW Z a0) := mk_NW (wd hw 117 rfl) (wd hw 118 rfl) (wd hw 22 rfl) (by decide) pd_LLjava_lang_AbstractStringBuilder_Ljava_lang_Void_RV
abbrev y_19 : MethodName := ⟨"java/lang/String", "<init>", "(Ljava/lang/StringBuilder;)V"⟩
theorem pd_LLjava_lang_StringBuilder_RV : parseMethodDescriptor "(Ljava/lang/StringBuilder;)V" = some ⟨[(.object "java/lang/StringBuilder")], none⟩ := by decide +kernel
def m_22 {Z : State} {a0 : Array Value} (hw : HW Z a0) := mk_NW (wd hw 113 rfl) (wd hw 115 rfl) (wd hw 22 rfl) (by decide) pd_LLjava_lang_StringBuilder_RV
abbrev y_18 : MethodName := ⟨"java/lang/StringBuilder", "toString", "()Ljava/lang/String;"⟩
theorem pd_LRLjava_lang_String_ : parseMethodDescriptor "()Ljava/lang/String;" = some ⟨[], some (.object "java/lang/String")⟩ := by decide +kernel
def m_23 {Z : State} {a0 : Array Value} (hw : HW Z a0) := mk_VW (wd hw 107 rfl) (wd hw 109 rfl) (wd hw 108 rfl) (wd hw 110 rfl) (wd hw 8 rfl) (by decide) pd_LRLjava_lang_String_
theorem pd_LLjava_lang_String_ZLjava_io_IOException_RV : parseMethodDescriptor "(Ljava/lang/String;ZLjava/io/IOException;)V" = some ⟨[(.object "java/lang/String"), .boolean, (.object "java/io/IOException")], none⟩ := by decide +kernel
abbrev y_47 : MethodName := ⟨"java/lang/Math", "max", "(II)I"⟩
def m_24 {Z : State} {a0 : Array Value} (hw : HW Z a0) := mk_SW (wd hw 285 rfl) (wd hw 286 rfl) (wd hw 146 rfl) (by decide) pd_LIIRI
abbrev y_46 : MethodName := ⟨"jdk/internal/util/ArraysSupport", "newLength", "(III)I"⟩
theorem pd_LIIIRI : parseMethodDescriptor "(III)I" = some ⟨[.int, .int, .int], some .int⟩ := by decide +kernel
def m_25 {Z : State} {a0 : Array Value} (hw : HW Z a0) := mk_SW (wd hw 281 rfl) (wd hw 283 rfl) (wd hw 282 rfl) (by decide) pd_LIIIRI
abbrev y_45 : MethodName := ⟨"java/lang/AbstractStringBuilder", "newCapacity", "(I)I"⟩
def m_26 {Z : State} {a0 : Array Value} (hw : HW Z a0) := mk_PW (wd hw 276 rfl) (own_selP (wd hw 278 rfl) (wd hw 277 rfl) (wd hw 276 rfl) (by decide)) (wd hw 277 rfl) (wd hw 279 rfl) (wd hw 16 rfl) (by decide) pd_LIRI
abbrev y_48 : MethodName := ⟨"java/util/Arrays", "copyOf", "([BI)[B"⟩
theorem pd_LABIRAB : parseMethodDescriptor "([BI)[B" = some ⟨[(.array .byte), .int], some (.array .byte)⟩ := by decide +kernel
def m_27 {Z : State} {a0 : Array Value} (hw : HW Z a0) := mk_SW (wd hw 290 rfl) (wd hw 291 rfl) (wd hw 136 rfl) (by decide) pd_LABIRAB
abbrev y_1 : MethodName := ⟨"com/example/layout_to_rows/layouttorows/harvest/FetchException", "status", "(I)Lcom/example/layout_to_rows/layouttorows/harvest/FetchException;"⟩
abbrev y_42 : MethodName := ⟨"jdk/internal/util/Preconditions", "checkIndex", "(IILjava/util/function/BiFunction;)I"⟩
theorem pd_LIILjava_util_function_BiFunction_RI : parseMethodDescriptor "(IILjava/util/function/BiFunction;)I" = some ⟨[.int, .int, (.object "java/util/function/BiFunction")], some .int⟩ := by decide +kernel
def m_28 {Z : State} {a0 : Array Value} (hw : HW Z a0) := mk_SW (wd hw 248 rfl) (wd hw 249 rfl) (wd hw 246 rfl) (by decide) pd_LIILjava_util_function_BiFunction_RI
abbrev y_41 : MethodName := ⟨"java/lang/String", "checkIndex", "(II)V"⟩
def m_29 {Z : State} {a0 : Array Value} (hw : HW Z a0) := mk_SW (wd hw 243 rfl) (wd hw 244 rfl) (wd hw 22 rfl) (by decide) pd_LIIRV
abbrev y_40 : MethodName := ⟨"java/lang/StringLatin1", "charAt", "([BI)C"⟩
abbrev y_39 : MethodName := ⟨"java/lang/String", "isLatin1", "()Z"⟩
def m_30 {Z : State} {a0 : Array Value} (hw : HW Z a0) := mk_VW (wd hw 234 rfl) (wd hw 236 rfl) (wd hw 235 rfl) (wd hw 237 rfl) (wd hw 22 rfl) (by decide) pd_LRZ
theorem pd_LABIRC : parseMethodDescriptor "([BI)C" = some ⟨[(.array .byte), .int], some .char⟩ := by decide +kernel
def m_31 {Z : State} {a0 : Array Value} (hw : HW Z a0) := mk_SW (wd hw 239 rfl) (wd hw 241 rfl) (wd hw 240 rfl) (by decide) pd_LABIRC
abbrev y_38 : MethodName := ⟨"java/lang/String", "charAt", "(I)C"⟩
abbrev y_36 : MethodName := ⟨"java/lang/Math", "abs", "(J)J"⟩
abbrev y_37 : MethodName := ⟨"com/example/layout_to_rows/layouttorows/harvest/FetchExceptionStatusPinLaw", "digits", "(J)I"⟩
abbrev y_44 : MethodName := ⟨"com/example/layout_to_rows/layouttorows/harvest/FetchExceptionStatusPinLaw", "pow10", "(I)J"⟩
theorem pd_LIRJ : parseMethodDescriptor "(I)J" = some ⟨[.int], some .long⟩ := by decide +kernel
def m_32 {Z : State} {a0 : Array Value} (hw : HW Z a0) := mk_SW (wd hw 254 rfl) (wd hw 255 rfl) (wd hw 224 rfl) (by decide) pd_LIRJ
theorem pd_LIRC : parseMethodDescriptor "(I)C" = some ⟨[.int], some .char⟩ := by decide +kernel
def m_33 {Z : State} {a0 : Array Value} (hw : HW Z a0) := mk_VW (wd hw 229 rfl) (wd hw 231 rfl) (wd hw 230 rfl) (wd hw 232 rfl) (wd hw 22 rfl) (by decide) pd_LIRC
abbrev y_43 : MethodName := ⟨"com/example/layout_to_rows/layouttorows/harvest/FetchExceptionStatusPinLaw", "d", "(Ljava/lang/String;IJII)Z"⟩
abbrev y_33 : MethodName := ⟨"com/example/layout_to_rows/layouttorows/harvest/FetchException", "attempted", "()Z"⟩
def m_34 {Z : State} {a0 : Array Value} (hw : HW Z a0) := mk_VW (wd hw 203 rfl) (wd hw 205 rfl) (wd hw 204 rfl) (wd hw 206 rfl) (wd hw 2 rfl) (by decide) pd_LRZ
theorem pd_LRLjava_lang_Throwable_ : parseMethodDescriptor "()Ljava/lang/Throwable;" = some ⟨[], some (.object "java/lang/Throwable")⟩ := by decide +kernel
abbrev y_35 : MethodName := ⟨"java/lang/Throwable", "getMessage", "()Ljava/lang/String;"⟩
def m_35 {Z : State} {a0 : Array Value} (hw : HW Z a0) := mk_UW (wd hw 214 rfl) (wd hw 215 rfl) (wd hw 217 rfl) (wd hw 216 rfl) (wd hw 218 rfl) (wd hw 161 rfl) (by decide) pd_LRLjava_lang_String_
theorem pd_LJRJ : parseMethodDescriptor "(J)J" = some ⟨[.long], some .long⟩ := by decide +kernel
def m_36 {Z : State} {a0 : Array Value} (hw : HW Z a0) := mk_SW (wd hw 220 rfl) (wd hw 221 rfl) (wd hw 146 rfl) (by decide) pd_LJRJ
theorem pd_LJRI : parseMethodDescriptor "(J)I" = some ⟨[.long], some .int⟩ := by decide +kernel
def m_37 {Z : State} {a0 : Array Value} (hw : HW Z a0) := mk_SW (wd hw 223 rfl) (wd hw 225 rfl) (wd hw 224 rfl) (by decide) pd_LJRI
theorem pd_LLjava_lang_String_IJIIRZ : parseMethodDescriptor "(Ljava/lang/String;IJII)Z" = some ⟨[(.object "java/lang/String"), .int, .long, .int, .int], some .boolean⟩ := by decide +kernel
def m_38 {Z : State} {a0 : Array Value} (hw : HW Z a0) := mk_SW (wd hw 251 rfl) (wd hw 252 rfl) (wd hw 224 rfl) (by decide) pd_LLjava_lang_String_IJIIRZ
theorem pd_LIRLcom_example_layout_to_rows_layouttorows_harvest_FetchException_ : parseMethodDescriptor "(I)Lcom/example/layout_to_rows/layouttorows/harvest/FetchException;" = some ⟨[.int], some (.object "com/example/layout_to_rows/layouttorows/harvest/FetchException")⟩ := by decide +kernel
theorem pf_Ljava_lang_Throwable_ : parseFieldDescriptor "Ljava/lang/Throwable;" = some (.object "java/lang/Throwable") := by decide
theorem pf_ALjava_lang_StackTraceElement_ : parseFieldDescriptor "[Ljava/lang/StackTraceElement;" = some (.array (.object "java/lang/StackTraceElement")) := by decide
theorem pf_Ljava_util_List_ : parseFieldDescriptor "Ljava/util/List;" = some (.object "java/util/List") := by decide
theorem pf_Ljava_lang_Object_ : parseFieldDescriptor "Ljava/lang/Object;" = some (.object "java/lang/Object") := by decide
theorem pf_Ljava_lang_String_ : parseFieldDescriptor "Ljava/lang/String;" = some (.object "java/lang/String") := by decide
theorem pf_Z : parseFieldDescriptor "Z" = some .boolean := by decide
theorem pf_I : parseFieldDescriptor "I" = some .int := by decide
theorem pf_AB : parseFieldDescriptor "[B" = some (.array .byte) := by decide
theorem pf_B : parseFieldDescriptor "B" = some .byte := by decide
section Slots
variable {Z : State} {a0 : Array Value} (hw : ∀ d ∈ tables_1, d.before a0 Z = true)
def sn_0 := slot_ne (Or.inl (wd hw 168 rfl)) (Or.inl (wd hw 165 rfl)) (by decide) pf_ALjava_lang_StackTraceElement_ pf_Ljava_lang_Throwable_
def sn_1 := slot_ne (Or.inl (wd hw 171 rfl)) (Or.inl (wd hw 165 rfl)) (by decide) pf_Ljava_util_List_ pf_Ljava_lang_Throwable_
def sn_2 := slot_ne (Or.inl (wd hw 171 rfl)) (Or.inl (wd hw 168 rfl)) (by decide) pf_Ljava_util_List_ pf_ALjava_lang_StackTraceElement_
def sn_3 := slot_ne (Or.inl (wd hw 196 rfl)) (Or.inl (wd hw 165 rfl)) (by decide) pf_Ljava_lang_Object_ pf_Ljava_lang_Throwable_
def sn_4 := slot_ne (Or.inl (wd hw 196 rfl)) (Or.inl (wd hw 168 rfl)) (by decide) pf_Ljava_lang_Object_ pf_ALjava_lang_StackTraceElement_
def sn_5 := slot_ne (Or.inl (wd hw 196 rfl)) (Or.inl (wd hw 171 rfl)) (by decide) pf_Ljava_lang_Object_ pf_Ljava_util_List_
def sn_6 := slot_ne (Or.inl (wd hw 165 rfl)) (Or.inl (wd hw 195 rfl)) (by decide) pf_Ljava_lang_Throwable_ pf_Ljava_lang_String_
def sn_7 := slot_ne (Or.inl (wd hw 195 rfl)) (Or.inr (wd hw 201 rfl)) (by decide) pf_Ljava_lang_String_ pf_Z
def sn_8 := slot_ne (Or.inl (wd hw 165 rfl)) (Or.inr (wd hw 201 rfl)) (by decide) pf_Ljava_lang_Throwable_ pf_Z
def sn_9 := slot_ne (Or.inl (wd hw 27 rfl)) (Or.inl (wd hw 25 rfl)) (by decide) pf_B pf_AB
def sn_10 := slot_ne (Or.inl (wd hw 58 rfl)) (Or.inl (wd hw 25 rfl)) (by decide) pf_I pf_AB
def sn_11 := slot_ne (Or.inl (wd hw 58 rfl)) (Or.inl (wd hw 27 rfl)) (by decide) pf_I pf_B
def sn_12 := slot_ne (Or.inr (wd hw 30 rfl)) (Or.inr (wd hw 31 rfl)) (by decide) pf_AB pf_B
end Slots
abbrev GT : Type := Int32 × Value × Addr × Addr × Cell × Cell × Addr × Addr
abbrev GT.cs (G : GT) : Int32 := G.1
abbrev GT.sv (G : GT) : Value := G.2.1
abbrev GT.d1 (G : GT) : Addr := G.2.2.1
abbrev GT.d2 (G : GT) : Addr := G.2.2.2.1
abbrev GT.c1 (G : GT) : Cell := G.2.2.2.2.1
abbrev GT.c2 (G : GT) : Cell := G.2.2.2.2.2.1
abbrev GT.us (G : GT) : Addr := G.2.2.2.2.2.2.1
abbrev GT.ss (G : GT) : Addr := G.2.2.2.2.2.2.2
def Dgs (Z : State) (a : Addr) (c : Cell) (f : Int32 → Int32) : Prop := Arr Z Z.heap a c .byte ∧ ∀ j : Int32, 0 ≤ j.toInt → j.toInt < 100 → ¬ (j < 0 ∨ c.slots.size ≤ j.toNatClampNeg) ∧ c.slots[j.toNatClampNeg]? = some (.int (f j))
abbrev GP (Z : State) (G : GT) : Prop := (Sta Z Z.heap "java/lang/String" "COMPACT_STRINGS" "Z" (.int G.cs)) ∧ (¬ (G.cs = (0 : Int32))) ∧ (Sta Z Z.heap "jdk/internal/util/Preconditions" "SIOOBE_FORMATTER" "Ljava/util/function/BiFunction;" G.sv) ∧ (G.sv = .null ∨ ∃ a, G.sv = .ref a) ∧ (Sta Z Z.heap "java/lang/Integer" "DigitOnes" "[B" (.ref G.d1)) ∧ (Dgs Z G.d1 G.c1 (fun j => 48 + j % 10)) ∧ (Sta Z Z.heap "java/lang/Integer" "DigitTens" "[B" (.ref G.d2)) ∧ (Dgs Z G.d2 G.c2 (fun j => 48 + j / 10)) ∧ (Sta Z Z.heap "java/lang/Throwable" "UNASSIGNED_STACK" "[Ljava/lang/StackTraceElement;" (.ref G.us)) ∧ (Sta Z Z.heap "java/lang/Throwable" "SUPPRESSED_SENTINEL" "Ljava/util/List;" (.ref G.ss))
theorem GP.S_cs {Z : State} {G : GT} (h : GP Z G) : Sta Z Z.heap "java/lang/String" "COMPACT_STRINGS" "Z" (.int G.cs) := h.1
theorem GP.H_cs {Z : State} {G : GT} (h : GP Z G) : ¬ (G.cs = (0 : Int32)) := h.2.1
theorem GP.S_sv {Z : State} {G : GT} (h : GP Z G) : Sta Z Z.heap "jdk/internal/util/Preconditions" "SIOOBE_FORMATTER" "Ljava/util/function/BiFunction;" G.sv := h.2.2.1
theorem GP.H_sv {Z : State} {G : GT} (h : GP Z G) : G.sv = .null ∨ ∃ a, G.sv = .ref a := h.2.2.2.1
theorem GP.S_d1 {Z : State} {G : GT} (h : GP Z G) : Sta Z Z.heap "java/lang/Integer" "DigitOnes" "[B" (.ref G.d1) := h.2.2.2.2.1
theorem GP.T_d1 {Z : State} {G : GT} (h : GP Z G) : Dgs Z G.d1 G.c1 (fun j => 48 + j % 10) := h.2.2.2.2.2.1
theorem GP.S_d2 {Z : State} {G : GT} (h : GP Z G) : Sta Z Z.heap "java/lang/Integer" "DigitTens" "[B" (.ref G.d2) := h.2.2.2.2.2.2.1
theorem GP.T_d2 {Z : State} {G : GT} (h : GP Z G) : Dgs Z G.d2 G.c2 (fun j => 48 + j / 10) := h.2.2.2.2.2.2.2.1
theorem GP.S_us {Z : State} {G : GT} (h : GP Z G) : Sta Z Z.heap "java/lang/Throwable" "UNASSIGNED_STACK" "[Ljava/lang/StackTraceElement;" (.ref G.us) := h.2.2.2.2.2.2.2.2.1
theorem GP.S_ss {Z : State} {G : GT} (h : GP Z G) : Sta Z Z.heap "java/lang/Throwable" "SUPPRESSED_SENTINEL" "Ljava/util/List;" (.ref G.ss) := h.2.2.2.2.2.2.2.2.2
def dq (x : Int32) (k : Nat) : Int32 := Int32.ofNat (48 + x.toInt.natAbs / 10 ^ k % 10)
abbrev Dg_0_1 (x : Int32) : Prop := ¬ (x < (0 : Int32)) ∧ 0 ≤ x.toInt.natAbs ∧ x.toInt.natAbs < 10
abbrev Dg_0_2 (x : Int32) : Prop := ¬ (x < (0 : Int32)) ∧ 10 ≤ x.toInt.natAbs ∧ x.toInt.natAbs < 100
abbrev Dg_0_3 (x : Int32) : Prop := ¬ (x < (0 : Int32)) ∧ 100 ≤ x.toInt.natAbs ∧ x.toInt.natAbs < 1000
abbrev Dg_0_4 (x : Int32) : Prop := ¬ (x < (0 : Int32)) ∧ 1000 ≤ x.toInt.natAbs ∧ x.toInt.natAbs < 10000
abbrev Dg_0_5 (x : Int32) : Prop := ¬ (x < (0 : Int32)) ∧ 10000 ≤ x.toInt.natAbs ∧ x.toInt.natAbs < 100000
abbrev Dg_0_6 (x : Int32) : Prop := ¬ (x < (0 : Int32)) ∧ 100000 ≤ x.toInt.natAbs ∧ x.toInt.natAbs < 1000000
abbrev Dg_0_7 (x : Int32) : Prop := ¬ (x < (0 : Int32)) ∧ 1000000 ≤ x.toInt.natAbs ∧ x.toInt.natAbs < 10000000
abbrev Dg_0_8 (x : Int32) : Prop := ¬ (x < (0 : Int32)) ∧ 10000000 ≤ x.toInt.natAbs ∧ x.toInt.natAbs < 100000000
abbrev Dg_0_9 (x : Int32) : Prop := ¬ (x < (0 : Int32)) ∧ 100000000 ≤ x.toInt.natAbs ∧ x.toInt.natAbs < 1000000000
abbrev Dg_0_10 (x : Int32) : Prop := ¬ (x < (0 : Int32)) ∧ 1000000000 ≤ x.toInt.natAbs ∧ x.toInt.natAbs < 10000000000
abbrev Dg_1_1 (x : Int32) : Prop := x < (0 : Int32) ∧ 1 ≤ x.toInt.natAbs ∧ x.toInt.natAbs < 10
abbrev Dg_1_2 (x : Int32) : Prop := x < (0 : Int32) ∧ 10 ≤ x.toInt.natAbs ∧ x.toInt.natAbs < 100
abbrev Dg_1_3 (x : Int32) : Prop := x < (0 : Int32) ∧ 100 ≤ x.toInt.natAbs ∧ x.toInt.natAbs < 1000
abbrev Dg_1_4 (x : Int32) : Prop := x < (0 : Int32) ∧ 1000 ≤ x.toInt.natAbs ∧ x.toInt.natAbs < 10000
abbrev Dg_1_5 (x : Int32) : Prop := x < (0 : Int32) ∧ 10000 ≤ x.toInt.natAbs ∧ x.toInt.natAbs < 100000
abbrev Dg_1_6 (x : Int32) : Prop := x < (0 : Int32) ∧ 100000 ≤ x.toInt.natAbs ∧ x.toInt.natAbs < 1000000
abbrev Dg_1_7 (x : Int32) : Prop := x < (0 : Int32) ∧ 1000000 ≤ x.toInt.natAbs ∧ x.toInt.natAbs < 10000000
abbrev Dg_1_8 (x : Int32) : Prop := x < (0 : Int32) ∧ 10000000 ≤ x.toInt.natAbs ∧ x.toInt.natAbs < 100000000
abbrev Dg_1_9 (x : Int32) : Prop := x < (0 : Int32) ∧ 100000000 ≤ x.toInt.natAbs ∧ x.toInt.natAbs < 1000000000
abbrev Dg_1_10 (x : Int32) : Prop := x < (0 : Int32) ∧ 1000000000 ≤ x.toInt.natAbs ∧ x.toInt.natAbs < 10000000000
theorem own_i0 {x : Int32} (h : x < (0 : Int32)) : x.toInt = -(x.toInt.natAbs : Int) := by
  rw [Int32.lt_iff_toInt_lt] at h
  have e : (0 : Int32).toInt = 0 := rfl
  omega
theorem own_i0n {x : Int32} (h : ¬ (x < (0 : Int32))) : ∃ z : Int32, -x = z ∧ z.toInt = -(x.toInt.natAbs : Int) := by
  rw [Int32.lt_iff_toInt_lt] at h
  have e : (0 : Int32).toInt = 0 := rfl
  have r := rng32 x
  refine ⟨-x, rfl, ?_⟩
  rw [Int32.toInt_neg]
  rw [Int.bmod_eq_of_le (by omega) (by omega)]
  omega
theorem own_dv {i : Int32} {m : Nat} (h : i.toInt = -(m : Int)) : ∃ z : Int32, i / (100 : Int32) = z ∧ z.toInt = -((m / 100 : Nat) : Int) := by
  have c := c_idiv i 100 100 rfl (by decide)
  refine ⟨_, rfl, ?_⟩
  by_cases q : i.toInt < 0
  · rw [c.2 q, h]; omega
  · rw [c.1 (by omega), h]; omega
theorem own_rm {i z : Int32} {m : Nat} (h : i.toInt = -(m : Int)) (g : z.toInt = -((m / 100 : Nat) : Int)) : ∃ r : Int32, z * (100 : Int32) - i = r ∧ r.toInt = ((m % 100 : Nat) : Int) := by
  have c1 := c_imul z 100
  have c2 := c_isub (z * 100) i
  have r1 := rng32 (z * 100)
  have r2 := rng32 (z * 100 - i)
  have r3 := rng32 i
  have e : (100 : Int32).toInt = 100 := rfl
  refine ⟨_, rfl, ?_⟩
  rw [e] at c1
  omega
theorem own_p1 {i p : Int32} {m k : Nat} (h : i.toInt = -(m : Int)) (hp : p.toInt = -(k : Int)) (q : m < k) : p < i := by
  rw [Int32.lt_iff_toInt_lt]; omega
theorem own_p0 {i p : Int32} {m k : Nat} (h : i.toInt = -(m : Int)) (hp : p.toInt = -(k : Int)) (q : k ≤ m) : ¬ (p < i) := by
  rw [Int32.lt_iff_toInt_lt]; omega
theorem own_ng {i : Int32} {m : Nat} (h : i.toInt = -(m : Int)) (q : m < 100) : ∃ r : Int32, -i = r ∧ r.toInt = (m : Int) := by
  refine ⟨-i, rfl, ?_⟩
  rw [Int32.toInt_neg]
  rw [Int.bmod_eq_of_le (by omega) (by omega)]
  omega
theorem own_dq {x r : Int32} {m k : Nat} (hm : x.toInt.natAbs / 10 ^ k = m) (h : r.toInt = ((m % 100 : Nat) : Int)) : (48 : Int32) + r % 10 = dq x k := by
  rw [← Int32.toInt_inj]
  have c := (c_irem r 10 10 rfl).1 (by omega)
  have a := c_iadd 48 (r % 10)
  have q := rng32 (48 + r % 10)
  have e : (48 : Int32).toInt = 48 := rfl
  rw [dq, hm, Int32.toInt_ofNat_of_lt (by omega)]
  omega
theorem own_dt {x r : Int32} {m k : Nat} (hm : x.toInt.natAbs / 10 ^ k = m) (h : r.toInt = ((m % 100 : Nat) : Int)) : (48 : Int32) + r / 10 = dq x (k + 1) := by
  rw [← Int32.toInt_inj]
  have c := (c_idiv r 10 10 rfl (by decide)).1 (by omega)
  have a := c_iadd 48 (r / 10)
  have q := rng32 (48 + r / 10)
  have e : (48 : Int32).toInt = 48 := rfl
  have w : x.toInt.natAbs / 10 ^ (k + 1) = m / 10 := by rw [Nat.pow_succ, ← Nat.div_div_eq_div_mul, hm]
  rw [dq, w, Int32.toInt_ofNat_of_lt (by omega)]
  omega
section Dig
variable {p : Program} {l : Launch} {e : Env} {R : Room} {s s' : State} {m : MethodId} {args : Array Value} {below : List Frame} {meth : Method} {c : Code} {T : State} {locs : List Loc} {cells slots kc ks nl : Nat} {Q : Option Value → Heap → List Loc → Prop} {EN : State → Outcome → State → List Loc → Nat → Nat → Prop} {b : ByteArray} {pc : Nat} {Ls : Array Slot} {S : List Value} {Z : State} {h : Heap} {a : Addr} {i z r x : Int32} {q : Nat}
theorem t_dv (X : Stand p l e R s' m args below meth c T locs cells slots) (u : UB p c b nl) (hi : i.toInt = -(q : Int)) (d : decode b pc = .ok (.idiv, 1)) (K : ∀ z : Int32, z.toInt = -((q / 100 : Nat) : Int) → Go EN p e below s kc ks Q T (mkF m (pc + 1) Ls (.int z :: S))) : Go EN p e below s kc ks Q T (mkF m pc Ls (.int (100 : Int32) :: .int i :: S)) := by
  obtain ⟨z, ez, hz⟩ := own_dv hi
  refine Go.step (fun _ kt => XS.idiv X.here u.1 rfl (hb u.2.1 d) rfl (by decide) kt) ?_
  rw [ez]; exact K z hz
theorem t_rm (X : Stand p l e R s' m args below meth c T locs cells slots) (u : UB p c b nl) (hi : i.toInt = -(q : Int)) (hz : z.toInt = -((q / 100 : Nat) : Int)) (d : decode b pc = .ok (.isub, 1)) (K : ∀ r : Int32, r.toInt = ((q % 100 : Nat) : Int) → Go EN p e below s kc ks Q T (mkF m (pc + 1) Ls (.int r :: S))) : Go EN p e below s kc ks Q T (mkF m pc Ls (.int i :: .int (z * (100 : Int32)) :: S)) := by
  obtain ⟨r, er, hr⟩ := own_rm hi hz
  refine Go.step (fun _ kt => XS.isub X.here u.1 rfl (hb u.2.1 d) rfl kt) ?_
  rw [er]; exact K r hr
theorem t_ng0 (X : Stand p l e R s' m args below meth c T locs cells slots) (u : UB p c b nl) (hs : ¬ (x < (0 : Int32))) (d : decode b pc = .ok (.ineg, 1)) (K : ∀ z : Int32, z.toInt = -(x.toInt.natAbs : Int) → Go EN p e below s kc ks Q T (mkF m (pc + 1) Ls (.int z :: S))) : Go EN p e below s kc ks Q T (mkF m pc Ls (.int x :: S)) := by
  obtain ⟨z, ez, hz⟩ := own_i0n hs
  refine Go.step (fun _ kt => XS.ineg X.here u.1 rfl (hb u.2.1 d) rfl kt) ?_
  rw [ez]; exact K z hz
theorem t_ng (X : Stand p l e R s' m args below meth c T locs cells slots) (u : UB p c b nl) (hi : i.toInt = -(q : Int)) (hq : q < 100) (d : decode b pc = .ok (.ineg, 1)) (K : ∀ r : Int32, r.toInt = ((q % 100 : Nat) : Int) → Go EN p e below s kc ks Q T (mkF m (pc + 1) Ls (.int r :: S))) : Go EN p e below s kc ks Q T (mkF m pc Ls (.int i :: S)) := by
  obtain ⟨r, er, hr⟩ := own_ng hi hq
  refine Go.step (fun _ kt => XS.ineg X.here u.1 rfl (hb u.2.1 d) rfl kt) ?_
  rw [er]; exact K r (by rw [hr]; omega)
theorem t_dg (X : Stand p l e R s' m args below meth c T locs cells slots) (u : UB p c b nl) (hZ : Z.Warmed39 s'.vm) (eT : T.heap = h) (O : Ext Z.heap h) {cl : Cell} {f : Int32 → Int32} (D : Dgs Z a cl f) (hr : r.toInt = ((q % 100 : Nat) : Int)) {v : Int32} (hv : f r = v) (d : decode b pc = .ok (.baload, 1)) (K : Go EN p e below s kc ks Q T (mkF m (pc + 1) Ls (.int v :: S))) : Go EN p e below s kc ks Q T (mkF m pc Ls (.int r :: .ref a :: S)) := by
  obtain ⟨hin, hs⟩ := D.2 r (by rw [hr]; omega) (by rw [hr]; omega)
  rw [hv] at hs
  exact Go.step (X.baloadBytes u.1 (j := r) (v := .int v) (by rw [eT]; exact (D.1.ext O).1) (State.isArrayOf_alike hZ.alike D.1.2.1) D.1.2.2 hin hs (g := mkF m pc Ls (.int r :: .ref a :: S)) rfl rfl (hb u.2.1 d)) K
end Dig
theorem own_q1 {i : Int32} {m : Nat} (h : i.toInt = -(m : Int)) (q : 9 < m) : i < (-9 : Int32) := by
  rw [Int32.lt_iff_toInt_lt]
  have e : (-9 : Int32).toInt = -9 := rfl
  omega
theorem own_q0 {i : Int32} {m : Nat} (h : i.toInt = -(m : Int)) (q : m ≤ 9) : ¬ (i < (-9 : Int32)) := by
  rw [Int32.lt_iff_toInt_lt]
  have e : (-9 : Int32).toInt = -9 := rfl
  omega
abbrev bq (x : Int32) (k : Nat) : Int32 := (dq x k).toInt8.toInt32
section Dig2
variable {p : Program} {l : Launch} {e : Env} {R : Room} {s s' : State} {m : MethodId} {args : Array Value} {below : List Frame} {meth : Method} {c : Code} {T : State} {locs : List Loc} {cells slots kc ks nl : Nat} {Q : Option Value → Heap → List Loc → Prop} {EN : State → Outcome → State → List Loc → Nat → Nat → Prop} {b : ByteArray} {pc : Nat} {Ls : Array Slot} {S : List Value} {Z : State} {h : Heap} {a : Addr} {i z r x : Int32} {q : Nat}
variable {a0 : Array Value} {G : GT} {h0 : Heap} {kk : ClassId} {n P p1 p2 p3 I1 I6 dd P' i' : Int32} {vs : List Value} {dv : Value} {S3 S4 : Slot}
theorem ss_t (hp : ¬ (P < z)) (X : Stand p l e R s' m args below meth c T locs cells slots) (u : UB p c jdk_33_method_13_code 4) (q : i < 10 ∧ 10 * P = P' ∧ i + Int32.ofInt 1 = i') (K : Go EN p e below s kc ks Q T (mkF m 16 #[.val (.int z), .val (.int dd), .val (.int P'), .val (.int i')] [])) : Go EN p e below s kc ks Q T (mkF m 16 #[.val (.int z), .val (.int dd), .val (.int P), .val (.int i)] []) := by
  obtain ⟨q1, q2, q3⟩ := q
  subst q2 q3
  refine t_iN X u d15_16 rfl ?_
  refine t_bP X u d15_17 ?_
  refine t_icN X u d15_19 (tlt q1).2.1 ?_
  refine t_iN X u d15_22 rfl ?_
  refine t_iN X u d15_23 rfl ?_
  refine t_icY 24 31 X u rfl d15_24 (flt hp).2.2.2 (by decide) ?_
  refine t_bP X u d15_31 ?_
  refine t_iN X u d15_33 rfl ?_
  refine t_imul X u d15_34 ?_
  refine t_isN X u d15_35 (l' := #[.val (.int z), .val (.int dd), .val (.int (10 * P)), .val (.int i)]) rfl ?_
  refine t_inc X u d15_36 rfl (l' := #[.val (.int z), .val (.int dd), .val (.int (10 * P)), .val (.int (i + Int32.ofInt 1))]) rfl ?_
  exact t_go 39 16 X u rfl d15_39 (by decide) K
theorem ss_x (hp : P < z) {val : Option Value} (X : Stand p l e R s m args below meth c T locs cells slots) (u : UB p c jdk_33_method_13_code 4) (hret : meth.sig.returnType = some .int) (hlk : meth.locks = false) (eT : T.heap = h0) (N : Fr Z.heap.size locs) (cc : cells ≤ kc ∧ slots ≤ ks) (q : i < 10) (hv : some (.int (i + dd)) = val) : Go FrameEnd p e below s kc ks (Qp val Z h0) T (mkF m 16 #[.val (.int z), .val (.int dd), .val (.int P), .val (.int i)] []) := by
  subst hv
  refine t_iN X u d15_16 rfl ?_
  refine t_bP X u d15_17 ?_
  refine t_icN X u d15_19 (tlt q).2.1 ?_
  refine t_iN X u d15_22 rfl ?_
  refine t_iN X u d15_23 rfl ?_
  refine t_icN X u d15_24 (tlt hp).2.2.2 ?_
  refine t_iN X u d15_27 rfl ?_
  refine t_iN X u d15_28 rfl ?_
  refine t_iadd X u d15_29 ?_
  exact t_rI X u hret hlk d15_30 eT N cc
theorem gc_t (x : Int32) (k j1 j2 : Nat) (hw : HW Z a0) (GG : GP Z G) (X : Stand p l e R s' m args below meth c T locs cells slots) (u : UB p c jdk_33_method_12_code 7) (hZ : Z.Warmed39 s'.vm) (hown : s'.vm.findClass "java/lang/Integer" = some m.cls) (eT : T.heap = h) (O : Ext Z.heap h) (N : Fr Z.heap.size locs) (K0 : Keep h0 h [a]) (g : Z.heap.size ≤ a) (V : Arv Z h a kk .byte n vs dv) (hi : i.toInt = -(q : Int)) (hm : x.toInt.natAbs / 10 ^ k = q) (hq : 100 ≤ q) (hP : (P + Int32.ofInt (-1) = p1 ∧ p1.toNatClampNeg = j1 ∧ ¬ p1 < 0 ∧ p1 < n) ∧ (p1 + Int32.ofInt (-1) = p2 ∧ p2.toNatClampNeg = j2 ∧ ¬ p2 < 0 ∧ p2 < n)) (hj1 : j1 < vs.length) (hj2 : j2 < (vs.set j1 (.int (bq x k))).length) (st : ∀ z w : Int32, storeLocals #[.val (.int i), .val (.int I1), .val (.ref a), S3, S4, .val (.int P), .val (.int I6)] 3 (.int z) = some #[.val (.int i), .val (.int I1), .val (.ref a), .val (.int z), S4, .val (.int P), .val (.int I6)] ∧ storeLocals #[.val (.int i), .val (.int I1), .val (.ref a), .val (.int z), S4, .val (.int P), .val (.int I6)] 4 (.int w) = some #[.val (.int i), .val (.int I1), .val (.ref a), .val (.int z), .val (.int w), .val (.int P), .val (.int I6)]) (K : ∀ (T' : State) (h' : Heap) (L' : List Loc) (z r : Int32), Stand p l e R s' m args below meth c T' L' cells slots → T'.heap = h' → Ext Z.heap h' → Fr Z.heap.size L' → Keep h0 h' [a] → Arv Z h' a kk .byte n ((vs.set j1 (.int (bq x k))).set j2 (.int (bq x (k + 1)))) dv → z.toInt = -((q / 100 : Nat) : Int) → Go EN p e below s kc ks Q T' (mkF m 22 #[.val (.int z), .val (.int I1), .val (.ref a), .val (.int z), .val (.int r), .val (.int p2), .val (.int I6)] [])) : Go EN p e below s kc ks Q T (mkF m 22 #[.val (.int i), .val (.int I1), .val (.ref a), S3, S4, .val (.int P), .val (.int I6)] []) := by
  obtain ⟨⟨w1, w2⟩, w3, w4⟩ := id hP
  subst w1 w3
  refine t_iN X u d17_22 rfl ?_
  refine t_bP X u d17_23 ?_
  refine t_icN X u d17_25 (flt (own_p0 hi (k := 100) rfl hq)).2.2.1 ?_
  refine t_iN X u d17_28 rfl ?_
  refine t_bP X u d17_29 ?_
  refine t_dv X u hi d17_31 ?_
  intro z hz
  refine t_isN X u d17_32 (l' := #[.val (.int i), .val (.int I1), .val (.ref a), .val (.int z), S4, .val (.int P), .val (.int I6)]) (st z z).1 ?_
  refine t_iN X u d17_33 rfl ?_
  refine t_bP X u d17_34 ?_
  refine t_imul X u d17_36 ?_
  refine t_iN X u d17_37 rfl ?_
  refine t_rm X u hi hz d17_38 ?_
  intro r hr
  refine t_isL X u d17_39 (l' := #[.val (.int i), .val (.int I1), .val (.ref a), .val (.int z), .val (.int r), .val (.int P), .val (.int I6)]) (st z r).2 ?_
  refine t_iN X u d17_41 rfl ?_
  refine t_isN X u d17_42 (l' := #[.val (.int z), .val (.int I1), .val (.ref a), .val (.int z), .val (.int r), .val (.int P), .val (.int I6)]) rfl ?_
  refine t_aN X u d17_43 rfl rfl ?_
  refine t_inc X u d17_44 rfl (l' := #[.val (.int z), .val (.int I1), .val (.ref a), .val (.int z), .val (.int r), .val (.int (P + Int32.ofInt (-1))), .val (.int I6)]) rfl ?_
  refine t_iL X u d17_47 rfl ?_
  refine t_gS X u hZ hown (wd hw 105 rfl) eT (Sta.ext O GG.S_d1) d17_49 ?_
  intro T1 X1 e1
  refine t_iL X1 u d17_52 rfl ?_
  refine t_dg X1 u hZ e1 O GG.T_d1 hr (own_dq (x := x) (k := k) hm hr) d17_54 ?_
  refine t_bs j1 X1 u hZ e1 V hP.1.2 hj1 d17_55 ?_
  intro T1b h1b X1b e1b W1b V1b
  have N1b := Fr.snoc X1b N g
  have O1b := extWr O W1b g
  have K1b := Keep.wr K0 W1b k0
  refine t_aN X1b u d17_56 rfl rfl ?_
  refine t_inc X1b u d17_57 rfl (l' := #[.val (.int z), .val (.int I1), .val (.ref a), .val (.int z), .val (.int r), .val (.int (P + Int32.ofInt (-1) + Int32.ofInt (-1))), .val (.int I6)]) rfl ?_
  refine t_iL X1b u d17_60 rfl ?_
  refine t_gS X1b u hZ hown (wd hw 265 rfl) e1b (Sta.ext O1b GG.S_d2) d17_62 ?_
  intro T2 X2 e2
  refine t_iL X2 u d17_65 rfl ?_
  refine t_dg X2 u hZ e2 O1b GG.T_d2 hr (own_dt (x := x) (k := k) hm hr) d17_67 ?_
  refine t_bs j2 X2 u hZ e2 V1b hP.2.2 hj2 d17_68 ?_
  intro T2b h2b X2b e2b W2b V2b
  have N2b := Fr.snoc X2b N1b g
  have O2b := extWr O1b W2b g
  have K2b := Keep.wr K1b W2b k0
  refine t_go 69 22 X2b u rfl d17_69 (by decide) ?_
  exact K _ _ _ z r X2b e2b O2b N2b K2b V2b hz
theorem gc_1 (x : Int32) (k j1 : Nat) (hw : HW Z a0) (GG : GP Z G) (X : Stand p l e R s' m args below meth c T locs cells slots) (u : UB p c jdk_33_method_12_code 7) (hZ : Z.Warmed39 s'.vm) (hown : s'.vm.findClass "java/lang/Integer" = some m.cls) (eT : T.heap = h) (O : Ext Z.heap h) (N : Fr Z.heap.size locs) (K0 : Keep h0 h [a]) (g : Z.heap.size ≤ a) (V : Arv Z h a kk .byte n vs dv) (hi : i.toInt = -(q : Int)) (hm : x.toInt.natAbs / 10 ^ k = q) (hq : q ≤ 9) (hP : P + Int32.ofInt (-1) = p1 ∧ p1.toNatClampNeg = j1 ∧ ¬ p1 < 0 ∧ p1 < n) (hj1 : j1 < vs.length) (K : ∀ (T' : State) (h' : Heap) (L' : List Loc), Stand p l e R s' m args below meth c T' L' cells slots → T'.heap = h' → Ext Z.heap h' → Fr Z.heap.size L' → Keep h0 h' [a] → Arv Z h' a kk .byte n (vs.set j1 (.int (bq x k))) dv → Go EN p e below s kc ks Q T' (mkF m 104 #[.val (.int i), .val (.int I1), .val (.ref a), S3, S4, .val (.int p1), .val (.int I6)] [])) : Go EN p e below s kc ks Q T (mkF m 22 #[.val (.int i), .val (.int I1), .val (.ref a), S3, S4, .val (.int P), .val (.int I6)] []) := by
  obtain ⟨w1, w2⟩ := id hP
  subst w1
  refine t_iN X u d17_22 rfl ?_
  refine t_bP X u d17_23 ?_
  refine t_icY 25 72 X u rfl d17_25 (tlt (own_p1 hi (k := 100) rfl (by omega))).2.2.1 (by decide) ?_
  refine t_aN X u d17_72 rfl rfl ?_
  refine t_inc X u d17_73 rfl (l' := #[.val (.int i), .val (.int I1), .val (.ref a), S3, S4, .val (.int (P + Int32.ofInt (-1))), .val (.int I6)]) rfl ?_
  refine t_iL X u d17_76 rfl ?_
  refine t_gS X u hZ hown (wd hw 105 rfl) eT (Sta.ext O GG.S_d1) d17_78 ?_
  intro T1 X1 e1
  refine t_iN X1 u d17_81 rfl ?_
  refine t_ng X1 u hi (by omega) d17_82 ?_
  intro r hr
  refine t_dg X1 u hZ e1 O GG.T_d1 hr (own_dq (x := x) (k := k) hm hr) d17_83 ?_
  refine t_bs j1 X1 u hZ e1 V hP.2 hj1 d17_84 ?_
  intro T1b h1b X1b e1b W1b V1b
  have N1b := Fr.snoc X1b N g
  have O1b := extWr O W1b g
  have K1b := Keep.wr K0 W1b k0
  refine t_iN X1b u d17_85 rfl ?_
  refine t_bP X1b u d17_86 ?_
  refine t_icY 88 104 X1b u rfl d17_88 (flt (own_q0 hi hq)).2.1 (by decide) ?_
  exact K _ _ _ X1b e1b O1b N1b K1b V1b
theorem gc_2 (x : Int32) (k j1 j2 : Nat) (hw : HW Z a0) (GG : GP Z G) (X : Stand p l e R s' m args below meth c T locs cells slots) (u : UB p c jdk_33_method_12_code 7) (hZ : Z.Warmed39 s'.vm) (hown : s'.vm.findClass "java/lang/Integer" = some m.cls) (eT : T.heap = h) (O : Ext Z.heap h) (N : Fr Z.heap.size locs) (K0 : Keep h0 h [a]) (g : Z.heap.size ≤ a) (V : Arv Z h a kk .byte n vs dv) (hi : i.toInt = -(q : Int)) (hm : x.toInt.natAbs / 10 ^ k = q) (hq : 9 < q ∧ q < 100) (hP : P + Int32.ofInt (-1) = p1 ∧ p1.toNatClampNeg = j1 ∧ ¬ p1 < 0 ∧ p1 < n) (hP2 : p1 + Int32.ofInt (-1) = p2 ∧ p2.toNatClampNeg = j2 ∧ ¬ p2 < 0 ∧ p2 < n) (hj1 : j1 < vs.length) (hj2 : j2 < (vs.set j1 (.int (bq x k))).length) (K : ∀ (T' : State) (h' : Heap) (L' : List Loc), Stand p l e R s' m args below meth c T' L' cells slots → T'.heap = h' → Ext Z.heap h' → Fr Z.heap.size L' → Keep h0 h' [a] → Arv Z h' a kk .byte n ((vs.set j1 (.int (bq x k))).set j2 (.int (bq x (k + 1)))) dv → Go EN p e below s kc ks Q T' (mkF m 104 #[.val (.int i), .val (.int I1), .val (.ref a), S3, S4, .val (.int p2), .val (.int I6)] [])) : Go EN p e below s kc ks Q T (mkF m 22 #[.val (.int i), .val (.int I1), .val (.ref a), S3, S4, .val (.int P), .val (.int I6)] []) := by
  obtain ⟨w1, w2⟩ := id hP
  obtain ⟨w3, w4⟩ := id hP2
  subst w1 w3
  refine t_iN X u d17_22 rfl ?_
  refine t_bP X u d17_23 ?_
  refine t_icY 25 72 X u rfl d17_25 (tlt (own_p1 hi (k := 100) rfl (by omega))).2.2.1 (by decide) ?_
  refine t_aN X u d17_72 rfl rfl ?_
  refine t_inc X u d17_73 rfl (l' := #[.val (.int i), .val (.int I1), .val (.ref a), S3, S4, .val (.int (P + Int32.ofInt (-1))), .val (.int I6)]) rfl ?_
  refine t_iL X u d17_76 rfl ?_
  refine t_gS X u hZ hown (wd hw 105 rfl) eT (Sta.ext O GG.S_d1) d17_78 ?_
  intro T1 X1 e1
  refine t_iN X1 u d17_81 rfl ?_
  refine t_ng X1 u hi (by omega) d17_82 ?_
  intro r hr
  refine t_dg X1 u hZ e1 O GG.T_d1 hr (own_dq (x := x) (k := k) hm hr) d17_83 ?_
  refine t_bs j1 X1 u hZ e1 V hP.2 hj1 d17_84 ?_
  intro T1b h1b X1b e1b W1b V1b
  have N1b := Fr.snoc X1b N g
  have O1b := extWr O W1b g
  have K1b := Keep.wr K0 W1b k0
  refine t_iN X1b u d17_85 rfl ?_
  refine t_bP X1b u d17_86 ?_
  refine t_icN X1b u d17_88 (tlt (own_q1 hi hq.1)).2.1 ?_
  refine t_aN X1b u d17_91 rfl rfl ?_
  refine t_inc X1b u d17_92 rfl (l' := #[.val (.int i), .val (.int I1), .val (.ref a), S3, S4, .val (.int (P + Int32.ofInt (-1) + Int32.ofInt (-1))), .val (.int I6)]) rfl ?_
  refine t_iL X1b u d17_95 rfl ?_
  refine t_gS X1b u hZ hown (wd hw 265 rfl) e1b (Sta.ext O1b GG.S_d2) d17_97 ?_
  intro T2 X2 e2
  refine t_iN X2 u d17_100 rfl ?_
  refine t_ng X2 u hi (by omega) d17_101 ?_
  intro r2 hr2
  refine t_dg X2 u hZ e2 O1b GG.T_d2 hr2 (own_dt (x := x) (k := k) hm hr2) d17_102 ?_
  refine t_bs j2 X2 u hZ e2 V1b hP2.2 hj2 d17_103 ?_
  intro T2b h2b X2b e2b W2b V2b
  have N2b := Fr.snoc X2b N1b g
  have O2b := extWr O1b W2b g
  have K2b := Keep.wr K1b W2b k0
  exact K _ _ _ X2b e2b O2b N2b K2b V2b
end Dig2
theorem pn_15 : plainName "java/lang/Integer" = true := by first | (simp [plainName, overriddenIn]; done) | decide +kernel
abbrev MF {Z : State} {a0 : Array Value} {G : GT} (_ : HW Z a0) (_ : GP Z G) (l : Launch) (y : MethodName) (bytes : ByteArray) (ml : Nat) (rt : Option FieldType) (ws : List Jvm.Cond) (R : Room) (h0 : Heap) (A : Array Value) (Q : Option Value → Heap → List Loc → Prop) : Prop := Met FrameEnd l y bytes ml rt ws R Z h0 A Q
theorem own_mF {l : Launch} {y : MethodName} {bytes : ByteArray} {ml : Nat} {rt : Option FieldType} {ws : List Jvm.Cond} {R : Room} {Z : State} {a0 : Array Value} {G : GT} {hw : HW Z a0} {GG : GP Z G} {h0 : Heap} {A : Array Value} {Q : Option Value → Heap → List Loc → Prop} (Ls : Array Slot) (hpl : plainFor y = true) (ef : ∀ m, entryFrame m A ml = mkF m 0 Ls [])
    (k : ∀ (p : Program) (e : Env) (s : State) (m : MethodId) (below : List Frame) (meth : Method) (c : Code) (s₁ : State), UB p c bytes ml → meth.locks = false → meth.sig.returnType = rt → Z.Warmed39 s.vm → s.vm.findClass y.cls = some m.cls → meth.name = y.name → Stand p l e R s m A below meth c s₁ [] 0 0 → s₁.heap = h0 → Fr Z.heap.size [] → Go FrameEnd p e below s R.cells R.slots Q s₁ (mkF m 0 Ls [])) : MF hw GG l y bytes ml rt ws R h0 A Q :=
  own_met y.cls hpl rfl Ls ef fun p e s m below meth c s₁ h1 h2 h3 h4 h5 h6 h7 h8 h9 h10 => k p e s m below meth c s₁ ⟨h1, h2, h5⟩ h3 h4 h6 h7 h8 h9 h10 (Fr.nil _)
abbrev MFC {Z : State} {a0 : Array Value} {G : GT} (_ : HW Z a0) (_ : GP Z G) (l : Launch) (y : MethodName) (bytes : ByteArray) (ml : Nat) (rt : Option FieldType) (hs : List (Nat × Nat × Nat × Nat)) (ws : List Jvm.Cond) (R : Room) (h0 : Heap) (A : Array Value) (Q : Option Value → Heap → List Loc → Prop) : Prop := MetC FrameEnd l y bytes ml rt hs ws R Z h0 A Q
theorem own_mFC {l : Launch} {y : MethodName} {bytes : ByteArray} {ml : Nat} {rt : Option FieldType} {hs : List (Nat × Nat × Nat × Nat)} {ws : List Jvm.Cond} {R : Room} {Z : State} {a0 : Array Value} {G : GT} {hw : HW Z a0} {GG : GP Z G} {h0 : Heap} {A : Array Value} {Q : Option Value → Heap → List Loc → Prop} (Ls : Array Slot) (hpl : plainFor y = true) (ef : ∀ m, entryFrame m A ml = mkF m 0 Ls [])
    (k : ∀ (p : Program) (e : Env) (s : State) (m : MethodId) (below : List Frame) (meth : Method) (c : Code) (s₁ : State), UB p c bytes ml → meth.locks = false → meth.sig.returnType = rt → Z.Warmed39 s.vm → s.vm.findClass y.cls = some m.cls → meth.name = y.name → Stand p l e R s m A below meth c s₁ [] 0 0 → s₁.heap = h0 → Fr Z.heap.size [] → Go FrameEnd p e below s R.cells R.slots Q s₁ (mkF m 0 Ls [])) : MFC hw GG l y bytes ml rt hs ws R h0 A Q :=
  own_metC y.cls hpl rfl Ls ef fun p e s m below meth c s₁ h1 h2 h3 h4 h5 h6 h7 h8 h9 h10 => k p e s m below meth c s₁ ⟨h1, h2, h5⟩ h3 h4 h6 h7 h8 h9 h10 (Fr.nil _)
section Contracts
variable (l : Launch) (Z : State) (a0 : Array Value) (hw : HW Z a0) (ws : List Jvm.Cond) (G : GT) (GG : GP Z G)
theorem rm_ss_0_1 (x0 : Int32) (h0 : Heap) (O0 : Ext Z.heap h0) (hD : Dg_0_1 x0) :
    MF hw GG l y_15 jdk_33_method_13_code 4 (some .int) ws ⟨0, 0, 0, 0⟩ h0 #[(.int x0)] (Qp (some v_1) Z h0) := by
  refine own_mF #[.val (.int x0), .unset, .unset, .unset] (plainFor_of_name pn_15) (fun _ => rfl) ?_
  intro p e s m below meth c s₁ u hlk hret hZ hown hnm X0 e0 N0
  obtain ⟨hx, hby, hml⟩ := id u
  obtain ⟨hs, hlo, hhi⟩ := id hD
  refine t_iC X0 u d15_0  ?_
  refine t_isN X0 u d15_1 (l' := #[.val (.int x0), .val v_1, .unset, .unset]) rfl ?_
  refine t_iN X0 u d15_2 rfl ?_
  refine t_ifN X0 u d15_3 ((if0 _ _).trans (flt hs).1) ?_
  refine t_iC X0 u d15_6  ?_
  refine t_isN X0 u d15_7 (l' := #[.val (.int x0), .val v_0, .unset, .unset]) rfl ?_
  refine t_iN X0 u d15_8 rfl ?_
  refine Go.step (fun _ kt_ => XS.ineg X0.here hx rfl (hb hby d15_9) rfl kt_) ?_
  show Go _ _ _ _ _ _ _ _ s₁ (mkF m 10 #[.val (.int x0), .val v_0, .unset, .unset] [(.int (-x0))])
  obtain ⟨i0, ei0, hi0⟩ := own_i0n hs
  rw [ei0]
  show Go _ _ _ _ _ _ _ _ s₁ (mkF m 10 #[.val (.int x0), .val v_0, .unset, .unset] [(.int i0)])
  refine t_isN X0 u d15_10 (l' := #[.val (.int i0), .val v_0, .unset, .unset]) rfl ?_
  refine t_bP X0 u d15_11  ?_
  refine t_isN X0 u d15_13 (l' := #[.val (.int i0), .val v_0, .val (.int (-10 : Int32)), .unset]) rfl ?_
  refine t_iC X0 u d15_14  ?_
  refine t_isN X0 u d15_15 (l' := #[.val (.int i0), .val v_0, .val (.int (-10 : Int32)), .val v_1]) rfl ?_
  show Go _ _ _ _ _ _ _ _ s₁ (mkF m 16 #[.val (.int i0), .val v_0, .val (.int (-10 : Int32)), .val v_1] [])
  exact ss_x (own_p1 hi0 (k := 10) rfl (by omega)) X0 u hret hlk e0 N0 (by decide) (by decide) rfl
theorem pn_17 : plainName "java/lang/Integer" = true := by first | (simp [plainName, overriddenIn]; done) | decide +kernel
def Q_gc_0_1 (Z : State) (x0 : Int32) (x2 : Addr) (kk : ClassId) (h0 : Heap) (v : Option Value) (h : Heap) (L : List Loc) : Prop := v = some v_7 ∧ Fr Z.heap.size L ∧ Keep h0 h [x2] ∧ Arv Z h x2 kk .byte (16 : Int32) [v_115, v_116, v_97, v_116, v_117, v_115, v_32, (.int (bq x0 0))] v_0
theorem rm_gc_0_1 (x0 : Int32) (x2 : Addr) (kk : ClassId) (h0 : Heap) (O0 : Ext Z.heap h0) (hD : Dg_0_1 x0) (g_x2 : Z.heap.size ≤ x2) (V0 : Arv Z h0 x2 kk .byte (16 : Int32) [v_115, v_116, v_97, v_116, v_117, v_115, v_32, v_0] v_0) :
    MF hw GG l y_17 jdk_33_method_12_code 7 (some .int) ws ⟨0, 0, 0, 0⟩ h0 #[(.int x0), v_8, (.ref x2)] (Q_gc_0_1 Z x0 x2 kk h0) := by
  refine own_mF #[.val (.int x0), .val v_8, .val (.ref x2), .unset, .unset, .unset, .unset] (plainFor_of_name pn_17) (fun _ => rfl) ?_
  intro p e s m below meth c s₁ u hlk hret hZ hown hnm X0 e0 N0
  obtain ⟨hx, hby, hml⟩ := id u
  obtain ⟨hs, hlo, hhi⟩ := id hD
  refine t_iN X0 u d17_0 rfl ?_
  refine t_isL X0 u d17_1 (l' := #[.val (.int x0), .val v_8, .val (.ref x2), .unset, .unset, .val v_8, .unset]) rfl ?_
  refine t_iN X0 u d17_3 rfl ?_
  refine t_ifY 4 11 X0 u rfl d17_4 ((if0 _ _).trans (flt hs).2.1) (by decide) ?_
  refine t_iC X0 u d17_11  ?_
  refine t_isL X0 u d17_12 (l' := #[.val (.int x0), .val v_8, .val (.ref x2), .unset, .unset, .val v_8, .val v_0]) rfl ?_
  refine t_iL X0 u d17_14 rfl ?_
  refine t_ifN X0 u d17_16 ((if0 _ _).trans (teq (by decide : (0 : Int32) = (0 : Int32))).2) ?_
  refine t_iN X0 u d17_19 rfl ?_
  show Go _ _ _ _ _ _ _ _ s₁ (mkF m 20 #[.val (.int x0), .val v_8, .val (.ref x2), .unset, .unset, .val v_8, .val v_0] [(.int x0)])
  refine t_ng0 X0 u hs d17_20 ?_
  intro i0 hi0
  refine t_isN X0 u d17_21 (l' := #[.val (.int i0), .val v_8, .val (.ref x2), .unset, .unset, .val v_8, .val v_0]) rfl ?_
  show Go _ _ _ _ _ _ _ _ s₁ (mkF m 22 #[.val (.int i0), .val v_8, .val (.ref x2), .unset, .unset, .val v_8, .val v_0] [])
  refine gc_1 x0 0 7 hw GG X0 u hZ hown e0 O0 N0 (Keep.refl h0 [x2]) g_x2 V0 hi0 (by simp [Nat.div_div_eq_div_mul]) (p1 := (7 : Int32)) (by omega) (by decide) (Nat.le_of_ble_eq_true rfl) ?_
  intro T1 h1 L1 X1 e1 O1 N1 K1 V1
  refine t_iL X1 u d17_104 rfl ?_
  refine t_ifY 106 118 X1 u rfl d17_106 ((if0 _ _).trans (teq (by decide : (0 : Int32) = (0 : Int32))).1) (by decide) ?_
  refine t_iL X1 u d17_118 rfl ?_
  exact Go.retI X1 hx hret hlk (hb hby d17_120) (by decide) (by decide) (by show Q_gc_0_1 ..; rw [e1]; exact ⟨rfl, N1, K1, V1⟩)
theorem rm_ss_0_2 (x0 : Int32) (h0 : Heap) (O0 : Ext Z.heap h0) (hD : Dg_0_2 x0) :
    MF hw GG l y_15 jdk_33_method_13_code 4 (some .int) ws ⟨0, 0, 0, 0⟩ h0 #[(.int x0)] (Qp (some (.int (2 : Int32))) Z h0) := by
  refine own_mF #[.val (.int x0), .unset, .unset, .unset] (plainFor_of_name pn_15) (fun _ => rfl) ?_
  intro p e s m below meth c s₁ u hlk hret hZ hown hnm X0 e0 N0
  obtain ⟨hx, hby, hml⟩ := id u
  obtain ⟨hs, hlo, hhi⟩ := id hD
  refine t_iC X0 u d15_0  ?_
  refine t_isN X0 u d15_1 (l' := #[.val (.int x0), .val v_1, .unset, .unset]) rfl ?_
  refine t_iN X0 u d15_2 rfl ?_
  refine t_ifN X0 u d15_3 ((if0 _ _).trans (flt hs).1) ?_
  refine t_iC X0 u d15_6  ?_
  refine t_isN X0 u d15_7 (l' := #[.val (.int x0), .val v_0, .unset, .unset]) rfl ?_
  refine t_iN X0 u d15_8 rfl ?_
  refine Go.step (fun _ kt_ => XS.ineg X0.here hx rfl (hb hby d15_9) rfl kt_) ?_
  show Go _ _ _ _ _ _ _ _ s₁ (mkF m 10 #[.val (.int x0), .val v_0, .unset, .unset] [(.int (-x0))])
  obtain ⟨i0, ei0, hi0⟩ := own_i0n hs
  rw [ei0]
  show Go _ _ _ _ _ _ _ _ s₁ (mkF m 10 #[.val (.int x0), .val v_0, .unset, .unset] [(.int i0)])
  refine t_isN X0 u d15_10 (l' := #[.val (.int i0), .val v_0, .unset, .unset]) rfl ?_
  refine t_bP X0 u d15_11  ?_
  refine t_isN X0 u d15_13 (l' := #[.val (.int i0), .val v_0, .val (.int (-10 : Int32)), .unset]) rfl ?_
  refine t_iC X0 u d15_14  ?_
  refine t_isN X0 u d15_15 (l' := #[.val (.int i0), .val v_0, .val (.int (-10 : Int32)), .val v_1]) rfl ?_
  show Go _ _ _ _ _ _ _ _ s₁ (mkF m 16 #[.val (.int i0), .val v_0, .val (.int (-10 : Int32)), .val v_1] [])
  refine ss_t (P' := (-100 : Int32)) (i' := (2 : Int32)) (own_p0 hi0 (k := 10) rfl (by omega)) X0 u (by decide) ?_
  exact ss_x (own_p1 hi0 (k := 100) rfl (by omega)) X0 u hret hlk e0 N0 (by decide) (by decide) rfl
def Q_gc_0_2 (Z : State) (x0 : Int32) (x2 : Addr) (kk : ClassId) (h0 : Heap) (v : Option Value) (h : Heap) (L : List Loc) : Prop := v = some v_7 ∧ Fr Z.heap.size L ∧ Keep h0 h [x2] ∧ Arv Z h x2 kk .byte (16 : Int32) [v_115, v_116, v_97, v_116, v_117, v_115, v_32, (.int (bq x0 1)), (.int (bq x0 0))] v_0
theorem rm_gc_0_2 (x0 : Int32) (x2 : Addr) (kk : ClassId) (h0 : Heap) (O0 : Ext Z.heap h0) (hD : Dg_0_2 x0) (g_x2 : Z.heap.size ≤ x2) (V0 : Arv Z h0 x2 kk .byte (16 : Int32) [v_115, v_116, v_97, v_116, v_117, v_115, v_32, v_0, v_0] v_0) :
    MF hw GG l y_17 jdk_33_method_12_code 7 (some .int) ws ⟨0, 0, 0, 0⟩ h0 #[(.int x0), v_9, (.ref x2)] (Q_gc_0_2 Z x0 x2 kk h0) := by
  refine own_mF #[.val (.int x0), .val v_9, .val (.ref x2), .unset, .unset, .unset, .unset] (plainFor_of_name pn_17) (fun _ => rfl) ?_
  intro p e s m below meth c s₁ u hlk hret hZ hown hnm X0 e0 N0
  obtain ⟨hx, hby, hml⟩ := id u
  obtain ⟨hs, hlo, hhi⟩ := id hD
  refine t_iN X0 u d17_0 rfl ?_
  refine t_isL X0 u d17_1 (l' := #[.val (.int x0), .val v_9, .val (.ref x2), .unset, .unset, .val v_9, .unset]) rfl ?_
  refine t_iN X0 u d17_3 rfl ?_
  refine t_ifY 4 11 X0 u rfl d17_4 ((if0 _ _).trans (flt hs).2.1) (by decide) ?_
  refine t_iC X0 u d17_11  ?_
  refine t_isL X0 u d17_12 (l' := #[.val (.int x0), .val v_9, .val (.ref x2), .unset, .unset, .val v_9, .val v_0]) rfl ?_
  refine t_iL X0 u d17_14 rfl ?_
  refine t_ifN X0 u d17_16 ((if0 _ _).trans (teq (by decide : (0 : Int32) = (0 : Int32))).2) ?_
  refine t_iN X0 u d17_19 rfl ?_
  show Go _ _ _ _ _ _ _ _ s₁ (mkF m 20 #[.val (.int x0), .val v_9, .val (.ref x2), .unset, .unset, .val v_9, .val v_0] [(.int x0)])
  refine t_ng0 X0 u hs d17_20 ?_
  intro i0 hi0
  refine t_isN X0 u d17_21 (l' := #[.val (.int i0), .val v_9, .val (.ref x2), .unset, .unset, .val v_9, .val v_0]) rfl ?_
  show Go _ _ _ _ _ _ _ _ s₁ (mkF m 22 #[.val (.int i0), .val v_9, .val (.ref x2), .unset, .unset, .val v_9, .val v_0] [])
  refine gc_2 x0 0 8 7 hw GG X0 u hZ hown e0 O0 N0 (Keep.refl h0 [x2]) g_x2 V0 hi0 (by simp [Nat.div_div_eq_div_mul]) (p1 := (8 : Int32)) (p2 := (7 : Int32)) ⟨by omega, by omega⟩ (by decide) (by decide) (Nat.le_of_ble_eq_true rfl) (Nat.le_of_ble_eq_true rfl) ?_
  intro T1 h1 L1 X1 e1 O1 N1 K1 V1
  refine t_iL X1 u d17_104 rfl ?_
  refine t_ifY 106 118 X1 u rfl d17_106 ((if0 _ _).trans (teq (by decide : (0 : Int32) = (0 : Int32))).1) (by decide) ?_
  refine t_iL X1 u d17_118 rfl ?_
  exact Go.retI X1 hx hret hlk (hb hby d17_120) (by decide) (by decide) (by show Q_gc_0_2 ..; rw [e1]; exact ⟨rfl, N1, K1, V1⟩)
theorem rm_ss_0_3 (x0 : Int32) (h0 : Heap) (O0 : Ext Z.heap h0) (hD : Dg_0_3 x0) :
    MF hw GG l y_15 jdk_33_method_13_code 4 (some .int) ws ⟨0, 0, 0, 0⟩ h0 #[(.int x0)] (Qp (some (.int (3 : Int32))) Z h0) := by
  refine own_mF #[.val (.int x0), .unset, .unset, .unset] (plainFor_of_name pn_15) (fun _ => rfl) ?_
  intro p e s m below meth c s₁ u hlk hret hZ hown hnm X0 e0 N0
  obtain ⟨hx, hby, hml⟩ := id u
  obtain ⟨hs, hlo, hhi⟩ := id hD
  refine t_iC X0 u d15_0  ?_
  refine t_isN X0 u d15_1 (l' := #[.val (.int x0), .val v_1, .unset, .unset]) rfl ?_
  refine t_iN X0 u d15_2 rfl ?_
  refine t_ifN X0 u d15_3 ((if0 _ _).trans (flt hs).1) ?_
  refine t_iC X0 u d15_6  ?_
  refine t_isN X0 u d15_7 (l' := #[.val (.int x0), .val v_0, .unset, .unset]) rfl ?_
  refine t_iN X0 u d15_8 rfl ?_
  refine Go.step (fun _ kt_ => XS.ineg X0.here hx rfl (hb hby d15_9) rfl kt_) ?_
  show Go _ _ _ _ _ _ _ _ s₁ (mkF m 10 #[.val (.int x0), .val v_0, .unset, .unset] [(.int (-x0))])
  obtain ⟨i0, ei0, hi0⟩ := own_i0n hs
  rw [ei0]
  show Go _ _ _ _ _ _ _ _ s₁ (mkF m 10 #[.val (.int x0), .val v_0, .unset, .unset] [(.int i0)])
  refine t_isN X0 u d15_10 (l' := #[.val (.int i0), .val v_0, .unset, .unset]) rfl ?_
  refine t_bP X0 u d15_11  ?_
  refine t_isN X0 u d15_13 (l' := #[.val (.int i0), .val v_0, .val (.int (-10 : Int32)), .unset]) rfl ?_
  refine t_iC X0 u d15_14  ?_
  refine t_isN X0 u d15_15 (l' := #[.val (.int i0), .val v_0, .val (.int (-10 : Int32)), .val v_1]) rfl ?_
  show Go _ _ _ _ _ _ _ _ s₁ (mkF m 16 #[.val (.int i0), .val v_0, .val (.int (-10 : Int32)), .val v_1] [])
  refine ss_t (P' := (-100 : Int32)) (i' := (2 : Int32)) (own_p0 hi0 (k := 10) rfl (by omega)) X0 u (by decide) ?_
  refine ss_t (P' := (-1000 : Int32)) (i' := (3 : Int32)) (own_p0 hi0 (k := 100) rfl (by omega)) X0 u (by decide) ?_
  exact ss_x (own_p1 hi0 (k := 1000) rfl (by omega)) X0 u hret hlk e0 N0 (by decide) (by decide) rfl
def Q_gc_0_3 (Z : State) (x0 : Int32) (x2 : Addr) (kk : ClassId) (h0 : Heap) (v : Option Value) (h : Heap) (L : List Loc) : Prop := v = some v_7 ∧ Fr Z.heap.size L ∧ Keep h0 h [x2] ∧ Arv Z h x2 kk .byte (16 : Int32) [v_115, v_116, v_97, v_116, v_117, v_115, v_32, (.int (bq x0 2)), (.int (bq x0 1)), (.int (bq x0 0))] v_0
theorem rm_gc_0_3 (x0 : Int32) (x2 : Addr) (kk : ClassId) (h0 : Heap) (O0 : Ext Z.heap h0) (hD : Dg_0_3 x0) (g_x2 : Z.heap.size ≤ x2) (V0 : Arv Z h0 x2 kk .byte (16 : Int32) [v_115, v_116, v_97, v_116, v_117, v_115, v_32, v_0, v_0, v_0] v_0) :
    MF hw GG l y_17 jdk_33_method_12_code 7 (some .int) ws ⟨0, 0, 0, 0⟩ h0 #[(.int x0), v_10, (.ref x2)] (Q_gc_0_3 Z x0 x2 kk h0) := by
  refine own_mF #[.val (.int x0), .val v_10, .val (.ref x2), .unset, .unset, .unset, .unset] (plainFor_of_name pn_17) (fun _ => rfl) ?_
  intro p e s m below meth c s₁ u hlk hret hZ hown hnm X0 e0 N0
  obtain ⟨hx, hby, hml⟩ := id u
  obtain ⟨hs, hlo, hhi⟩ := id hD
  refine t_iN X0 u d17_0 rfl ?_
  refine t_isL X0 u d17_1 (l' := #[.val (.int x0), .val v_10, .val (.ref x2), .unset, .unset, .val v_10, .unset]) rfl ?_
  refine t_iN X0 u d17_3 rfl ?_
  refine t_ifY 4 11 X0 u rfl d17_4 ((if0 _ _).trans (flt hs).2.1) (by decide) ?_
  refine t_iC X0 u d17_11  ?_
  refine t_isL X0 u d17_12 (l' := #[.val (.int x0), .val v_10, .val (.ref x2), .unset, .unset, .val v_10, .val v_0]) rfl ?_
  refine t_iL X0 u d17_14 rfl ?_
  refine t_ifN X0 u d17_16 ((if0 _ _).trans (teq (by decide : (0 : Int32) = (0 : Int32))).2) ?_
  refine t_iN X0 u d17_19 rfl ?_
  show Go _ _ _ _ _ _ _ _ s₁ (mkF m 20 #[.val (.int x0), .val v_10, .val (.ref x2), .unset, .unset, .val v_10, .val v_0] [(.int x0)])
  refine t_ng0 X0 u hs d17_20 ?_
  intro i0 hi0
  refine t_isN X0 u d17_21 (l' := #[.val (.int i0), .val v_10, .val (.ref x2), .unset, .unset, .val v_10, .val v_0]) rfl ?_
  show Go _ _ _ _ _ _ _ _ s₁ (mkF m 22 #[.val (.int i0), .val v_10, .val (.ref x2), .unset, .unset, .val v_10, .val v_0] [])
  refine gc_t x0 0 9 8 hw GG X0 u hZ hown e0 O0 N0 (Keep.refl h0 [x2]) g_x2 V0 hi0 (by simp [Nat.div_div_eq_div_mul]) (p1 := (9 : Int32)) (p2 := (8 : Int32)) (by omega) (by decide) (Nat.le_of_ble_eq_true rfl) (Nat.le_of_ble_eq_true rfl) (fun _ _ => ⟨rfl, rfl⟩) ?_
  intro T1 h1 L1 i1 r1_ X1 e1 O1 N1 K1 V1 hi1
  refine gc_1 x0 2 7 hw GG X1 u hZ hown e1 O1 N1 K1 g_x2 V1 hi1 (by simp [Nat.div_div_eq_div_mul]) (p1 := (7 : Int32)) (by omega) (by decide) (Nat.le_of_ble_eq_true rfl) ?_
  intro T2 h2 L2 X2 e2 O2 N2 K2 V2
  refine t_iL X2 u d17_104 rfl ?_
  refine t_ifY 106 118 X2 u rfl d17_106 ((if0 _ _).trans (teq (by decide : (0 : Int32) = (0 : Int32))).1) (by decide) ?_
  refine t_iL X2 u d17_118 rfl ?_
  exact Go.retI X2 hx hret hlk (hb hby d17_120) (by decide) (by decide) (by show Q_gc_0_3 ..; rw [e2]; exact ⟨rfl, N2, K2, V2⟩)
theorem rm_ss_0_4 (x0 : Int32) (h0 : Heap) (O0 : Ext Z.heap h0) (hD : Dg_0_4 x0) :
    MF hw GG l y_15 jdk_33_method_13_code 4 (some .int) ws ⟨0, 0, 0, 0⟩ h0 #[(.int x0)] (Qp (some (.int (4 : Int32))) Z h0) := by
  refine own_mF #[.val (.int x0), .unset, .unset, .unset] (plainFor_of_name pn_15) (fun _ => rfl) ?_
  intro p e s m below meth c s₁ u hlk hret hZ hown hnm X0 e0 N0
  obtain ⟨hx, hby, hml⟩ := id u
  obtain ⟨hs, hlo, hhi⟩ := id hD
  refine t_iC X0 u d15_0  ?_
  refine t_isN X0 u d15_1 (l' := #[.val (.int x0), .val v_1, .unset, .unset]) rfl ?_
  refine t_iN X0 u d15_2 rfl ?_
  refine t_ifN X0 u d15_3 ((if0 _ _).trans (flt hs).1) ?_
  refine t_iC X0 u d15_6  ?_
  refine t_isN X0 u d15_7 (l' := #[.val (.int x0), .val v_0, .unset, .unset]) rfl ?_
  refine t_iN X0 u d15_8 rfl ?_
  refine Go.step (fun _ kt_ => XS.ineg X0.here hx rfl (hb hby d15_9) rfl kt_) ?_
  show Go _ _ _ _ _ _ _ _ s₁ (mkF m 10 #[.val (.int x0), .val v_0, .unset, .unset] [(.int (-x0))])
  obtain ⟨i0, ei0, hi0⟩ := own_i0n hs
  rw [ei0]
  show Go _ _ _ _ _ _ _ _ s₁ (mkF m 10 #[.val (.int x0), .val v_0, .unset, .unset] [(.int i0)])
  refine t_isN X0 u d15_10 (l' := #[.val (.int i0), .val v_0, .unset, .unset]) rfl ?_
  refine t_bP X0 u d15_11  ?_
  refine t_isN X0 u d15_13 (l' := #[.val (.int i0), .val v_0, .val (.int (-10 : Int32)), .unset]) rfl ?_
  refine t_iC X0 u d15_14  ?_
  refine t_isN X0 u d15_15 (l' := #[.val (.int i0), .val v_0, .val (.int (-10 : Int32)), .val v_1]) rfl ?_
  show Go _ _ _ _ _ _ _ _ s₁ (mkF m 16 #[.val (.int i0), .val v_0, .val (.int (-10 : Int32)), .val v_1] [])
  refine ss_t (P' := (-100 : Int32)) (i' := (2 : Int32)) (own_p0 hi0 (k := 10) rfl (by omega)) X0 u (by decide) ?_
  refine ss_t (P' := (-1000 : Int32)) (i' := (3 : Int32)) (own_p0 hi0 (k := 100) rfl (by omega)) X0 u (by decide) ?_
  refine ss_t (P' := (-10000 : Int32)) (i' := (4 : Int32)) (own_p0 hi0 (k := 1000) rfl (by omega)) X0 u (by decide) ?_
  exact ss_x (own_p1 hi0 (k := 10000) rfl (by omega)) X0 u hret hlk e0 N0 (by decide) (by decide) rfl
def Q_gc_0_4 (Z : State) (x0 : Int32) (x2 : Addr) (kk : ClassId) (h0 : Heap) (v : Option Value) (h : Heap) (L : List Loc) : Prop := v = some v_7 ∧ Fr Z.heap.size L ∧ Keep h0 h [x2] ∧ Arv Z h x2 kk .byte (16 : Int32) [v_115, v_116, v_97, v_116, v_117, v_115, v_32, (.int (bq x0 3)), (.int (bq x0 2)), (.int (bq x0 1)), (.int (bq x0 0))] v_0
theorem rm_gc_0_4 (x0 : Int32) (x2 : Addr) (kk : ClassId) (h0 : Heap) (O0 : Ext Z.heap h0) (hD : Dg_0_4 x0) (g_x2 : Z.heap.size ≤ x2) (V0 : Arv Z h0 x2 kk .byte (16 : Int32) [v_115, v_116, v_97, v_116, v_117, v_115, v_32, v_0, v_0, v_0, v_0] v_0) :
    MF hw GG l y_17 jdk_33_method_12_code 7 (some .int) ws ⟨0, 0, 0, 0⟩ h0 #[(.int x0), v_11, (.ref x2)] (Q_gc_0_4 Z x0 x2 kk h0) := by
  refine own_mF #[.val (.int x0), .val v_11, .val (.ref x2), .unset, .unset, .unset, .unset] (plainFor_of_name pn_17) (fun _ => rfl) ?_
  intro p e s m below meth c s₁ u hlk hret hZ hown hnm X0 e0 N0
  obtain ⟨hx, hby, hml⟩ := id u
  obtain ⟨hs, hlo, hhi⟩ := id hD
  refine t_iN X0 u d17_0 rfl ?_
  refine t_isL X0 u d17_1 (l' := #[.val (.int x0), .val v_11, .val (.ref x2), .unset, .unset, .val v_11, .unset]) rfl ?_
  refine t_iN X0 u d17_3 rfl ?_
  refine t_ifY 4 11 X0 u rfl d17_4 ((if0 _ _).trans (flt hs).2.1) (by decide) ?_
  refine t_iC X0 u d17_11  ?_
  refine t_isL X0 u d17_12 (l' := #[.val (.int x0), .val v_11, .val (.ref x2), .unset, .unset, .val v_11, .val v_0]) rfl ?_
  refine t_iL X0 u d17_14 rfl ?_
  refine t_ifN X0 u d17_16 ((if0 _ _).trans (teq (by decide : (0 : Int32) = (0 : Int32))).2) ?_
  refine t_iN X0 u d17_19 rfl ?_
  show Go _ _ _ _ _ _ _ _ s₁ (mkF m 20 #[.val (.int x0), .val v_11, .val (.ref x2), .unset, .unset, .val v_11, .val v_0] [(.int x0)])
  refine t_ng0 X0 u hs d17_20 ?_
  intro i0 hi0
  refine t_isN X0 u d17_21 (l' := #[.val (.int i0), .val v_11, .val (.ref x2), .unset, .unset, .val v_11, .val v_0]) rfl ?_
  show Go _ _ _ _ _ _ _ _ s₁ (mkF m 22 #[.val (.int i0), .val v_11, .val (.ref x2), .unset, .unset, .val v_11, .val v_0] [])
  refine gc_t x0 0 10 9 hw GG X0 u hZ hown e0 O0 N0 (Keep.refl h0 [x2]) g_x2 V0 hi0 (by simp [Nat.div_div_eq_div_mul]) (p1 := (10 : Int32)) (p2 := (9 : Int32)) (by omega) (by decide) (Nat.le_of_ble_eq_true rfl) (Nat.le_of_ble_eq_true rfl) (fun _ _ => ⟨rfl, rfl⟩) ?_
  intro T1 h1 L1 i1 r1_ X1 e1 O1 N1 K1 V1 hi1
  refine gc_2 x0 2 8 7 hw GG X1 u hZ hown e1 O1 N1 K1 g_x2 V1 hi1 (by simp [Nat.div_div_eq_div_mul]) (p1 := (8 : Int32)) (p2 := (7 : Int32)) ⟨by omega, by omega⟩ (by decide) (by decide) (Nat.le_of_ble_eq_true rfl) (Nat.le_of_ble_eq_true rfl) ?_
  intro T2 h2 L2 X2 e2 O2 N2 K2 V2
  refine t_iL X2 u d17_104 rfl ?_
  refine t_ifY 106 118 X2 u rfl d17_106 ((if0 _ _).trans (teq (by decide : (0 : Int32) = (0 : Int32))).1) (by decide) ?_
  refine t_iL X2 u d17_118 rfl ?_
  exact Go.retI X2 hx hret hlk (hb hby d17_120) (by decide) (by decide) (by show Q_gc_0_4 ..; rw [e2]; exact ⟨rfl, N2, K2, V2⟩)
theorem rm_ss_0_5 (x0 : Int32) (h0 : Heap) (O0 : Ext Z.heap h0) (hD : Dg_0_5 x0) :
    MF hw GG l y_15 jdk_33_method_13_code 4 (some .int) ws ⟨0, 0, 0, 0⟩ h0 #[(.int x0)] (Qp (some (.int (5 : Int32))) Z h0) := by
  refine own_mF #[.val (.int x0), .unset, .unset, .unset] (plainFor_of_name pn_15) (fun _ => rfl) ?_
  intro p e s m below meth c s₁ u hlk hret hZ hown hnm X0 e0 N0
  obtain ⟨hx, hby, hml⟩ := id u
  obtain ⟨hs, hlo, hhi⟩ := id hD
  refine t_iC X0 u d15_0  ?_
  refine t_isN X0 u d15_1 (l' := #[.val (.int x0), .val v_1, .unset, .unset]) rfl ?_
  refine t_iN X0 u d15_2 rfl ?_
  refine t_ifN X0 u d15_3 ((if0 _ _).trans (flt hs).1) ?_
  refine t_iC X0 u d15_6  ?_
  refine t_isN X0 u d15_7 (l' := #[.val (.int x0), .val v_0, .unset, .unset]) rfl ?_
  refine t_iN X0 u d15_8 rfl ?_
  refine Go.step (fun _ kt_ => XS.ineg X0.here hx rfl (hb hby d15_9) rfl kt_) ?_
  show Go _ _ _ _ _ _ _ _ s₁ (mkF m 10 #[.val (.int x0), .val v_0, .unset, .unset] [(.int (-x0))])
  obtain ⟨i0, ei0, hi0⟩ := own_i0n hs
  rw [ei0]
  show Go _ _ _ _ _ _ _ _ s₁ (mkF m 10 #[.val (.int x0), .val v_0, .unset, .unset] [(.int i0)])
  refine t_isN X0 u d15_10 (l' := #[.val (.int i0), .val v_0, .unset, .unset]) rfl ?_
  refine t_bP X0 u d15_11  ?_
  refine t_isN X0 u d15_13 (l' := #[.val (.int i0), .val v_0, .val (.int (-10 : Int32)), .unset]) rfl ?_
  refine t_iC X0 u d15_14  ?_
  refine t_isN X0 u d15_15 (l' := #[.val (.int i0), .val v_0, .val (.int (-10 : Int32)), .val v_1]) rfl ?_
  show Go _ _ _ _ _ _ _ _ s₁ (mkF m 16 #[.val (.int i0), .val v_0, .val (.int (-10 : Int32)), .val v_1] [])
  refine ss_t (P' := (-100 : Int32)) (i' := (2 : Int32)) (own_p0 hi0 (k := 10) rfl (by omega)) X0 u (by decide) ?_
  refine ss_t (P' := (-1000 : Int32)) (i' := (3 : Int32)) (own_p0 hi0 (k := 100) rfl (by omega)) X0 u (by decide) ?_
  refine ss_t (P' := (-10000 : Int32)) (i' := (4 : Int32)) (own_p0 hi0 (k := 1000) rfl (by omega)) X0 u (by decide) ?_
  refine ss_t (P' := (-100000 : Int32)) (i' := (5 : Int32)) (own_p0 hi0 (k := 10000) rfl (by omega)) X0 u (by decide) ?_
  exact ss_x (own_p1 hi0 (k := 100000) rfl (by omega)) X0 u hret hlk e0 N0 (by decide) (by decide) rfl
def Q_gc_0_5 (Z : State) (x0 : Int32) (x2 : Addr) (kk : ClassId) (h0 : Heap) (v : Option Value) (h : Heap) (L : List Loc) : Prop := v = some v_7 ∧ Fr Z.heap.size L ∧ Keep h0 h [x2] ∧ Arv Z h x2 kk .byte (16 : Int32) [v_115, v_116, v_97, v_116, v_117, v_115, v_32, (.int (bq x0 4)), (.int (bq x0 3)), (.int (bq x0 2)), (.int (bq x0 1)), (.int (bq x0 0))] v_0
theorem rm_gc_0_5 (x0 : Int32) (x2 : Addr) (kk : ClassId) (h0 : Heap) (O0 : Ext Z.heap h0) (hD : Dg_0_5 x0) (g_x2 : Z.heap.size ≤ x2) (V0 : Arv Z h0 x2 kk .byte (16 : Int32) [v_115, v_116, v_97, v_116, v_117, v_115, v_32, v_0, v_0, v_0, v_0, v_0] v_0) :
    MF hw GG l y_17 jdk_33_method_12_code 7 (some .int) ws ⟨0, 0, 0, 0⟩ h0 #[(.int x0), v_12, (.ref x2)] (Q_gc_0_5 Z x0 x2 kk h0) := by
  refine own_mF #[.val (.int x0), .val v_12, .val (.ref x2), .unset, .unset, .unset, .unset] (plainFor_of_name pn_17) (fun _ => rfl) ?_
  intro p e s m below meth c s₁ u hlk hret hZ hown hnm X0 e0 N0
  obtain ⟨hx, hby, hml⟩ := id u
  obtain ⟨hs, hlo, hhi⟩ := id hD
  refine t_iN X0 u d17_0 rfl ?_
  refine t_isL X0 u d17_1 (l' := #[.val (.int x0), .val v_12, .val (.ref x2), .unset, .unset, .val v_12, .unset]) rfl ?_
  refine t_iN X0 u d17_3 rfl ?_
  refine t_ifY 4 11 X0 u rfl d17_4 ((if0 _ _).trans (flt hs).2.1) (by decide) ?_
  refine t_iC X0 u d17_11  ?_
  refine t_isL X0 u d17_12 (l' := #[.val (.int x0), .val v_12, .val (.ref x2), .unset, .unset, .val v_12, .val v_0]) rfl ?_
  refine t_iL X0 u d17_14 rfl ?_
  refine t_ifN X0 u d17_16 ((if0 _ _).trans (teq (by decide : (0 : Int32) = (0 : Int32))).2) ?_
  refine t_iN X0 u d17_19 rfl ?_
  show Go _ _ _ _ _ _ _ _ s₁ (mkF m 20 #[.val (.int x0), .val v_12, .val (.ref x2), .unset, .unset, .val v_12, .val v_0] [(.int x0)])
  refine t_ng0 X0 u hs d17_20 ?_
  intro i0 hi0
  refine t_isN X0 u d17_21 (l' := #[.val (.int i0), .val v_12, .val (.ref x2), .unset, .unset, .val v_12, .val v_0]) rfl ?_
  show Go _ _ _ _ _ _ _ _ s₁ (mkF m 22 #[.val (.int i0), .val v_12, .val (.ref x2), .unset, .unset, .val v_12, .val v_0] [])
  refine gc_t x0 0 11 10 hw GG X0 u hZ hown e0 O0 N0 (Keep.refl h0 [x2]) g_x2 V0 hi0 (by simp [Nat.div_div_eq_div_mul]) (p1 := (11 : Int32)) (p2 := (10 : Int32)) (by omega) (by decide) (Nat.le_of_ble_eq_true rfl) (Nat.le_of_ble_eq_true rfl) (fun _ _ => ⟨rfl, rfl⟩) ?_
  intro T1 h1 L1 i1 r1_ X1 e1 O1 N1 K1 V1 hi1
  refine gc_t x0 2 9 8 hw GG X1 u hZ hown e1 O1 N1 K1 g_x2 V1 hi1 (by simp [Nat.div_div_eq_div_mul]) (p1 := (9 : Int32)) (p2 := (8 : Int32)) (by omega) (by decide) (Nat.le_of_ble_eq_true rfl) (Nat.le_of_ble_eq_true rfl) (fun _ _ => ⟨rfl, rfl⟩) ?_
  intro T2 h2 L2 i2 r2_ X2 e2 O2 N2 K2 V2 hi2
  refine gc_1 x0 4 7 hw GG X2 u hZ hown e2 O2 N2 K2 g_x2 V2 hi2 (by simp [Nat.div_div_eq_div_mul]) (p1 := (7 : Int32)) (by omega) (by decide) (Nat.le_of_ble_eq_true rfl) ?_
  intro T3 h3 L3 X3 e3 O3 N3 K3 V3
  refine t_iL X3 u d17_104 rfl ?_
  refine t_ifY 106 118 X3 u rfl d17_106 ((if0 _ _).trans (teq (by decide : (0 : Int32) = (0 : Int32))).1) (by decide) ?_
  refine t_iL X3 u d17_118 rfl ?_
  exact Go.retI X3 hx hret hlk (hb hby d17_120) (by decide) (by decide) (by show Q_gc_0_5 ..; rw [e3]; exact ⟨rfl, N3, K3, V3⟩)
theorem rm_ss_0_6 (x0 : Int32) (h0 : Heap) (O0 : Ext Z.heap h0) (hD : Dg_0_6 x0) :
    MF hw GG l y_15 jdk_33_method_13_code 4 (some .int) ws ⟨0, 0, 0, 0⟩ h0 #[(.int x0)] (Qp (some (.int (6 : Int32))) Z h0) := by
  refine own_mF #[.val (.int x0), .unset, .unset, .unset] (plainFor_of_name pn_15) (fun _ => rfl) ?_
  intro p e s m below meth c s₁ u hlk hret hZ hown hnm X0 e0 N0
  obtain ⟨hx, hby, hml⟩ := id u
  obtain ⟨hs, hlo, hhi⟩ := id hD
  refine t_iC X0 u d15_0  ?_
  refine t_isN X0 u d15_1 (l' := #[.val (.int x0), .val v_1, .unset, .unset]) rfl ?_
  refine t_iN X0 u d15_2 rfl ?_
  refine t_ifN X0 u d15_3 ((if0 _ _).trans (flt hs).1) ?_
  refine t_iC X0 u d15_6  ?_
  refine t_isN X0 u d15_7 (l' := #[.val (.int x0), .val v_0, .unset, .unset]) rfl ?_
  refine t_iN X0 u d15_8 rfl ?_
  refine Go.step (fun _ kt_ => XS.ineg X0.here hx rfl (hb hby d15_9) rfl kt_) ?_
  show Go _ _ _ _ _ _ _ _ s₁ (mkF m 10 #[.val (.int x0), .val v_0, .unset, .unset] [(.int (-x0))])
  obtain ⟨i0, ei0, hi0⟩ := own_i0n hs
  rw [ei0]
  show Go _ _ _ _ _ _ _ _ s₁ (mkF m 10 #[.val (.int x0), .val v_0, .unset, .unset] [(.int i0)])
  refine t_isN X0 u d15_10 (l' := #[.val (.int i0), .val v_0, .unset, .unset]) rfl ?_
  refine t_bP X0 u d15_11  ?_
  refine t_isN X0 u d15_13 (l' := #[.val (.int i0), .val v_0, .val (.int (-10 : Int32)), .unset]) rfl ?_
  refine t_iC X0 u d15_14  ?_
  refine t_isN X0 u d15_15 (l' := #[.val (.int i0), .val v_0, .val (.int (-10 : Int32)), .val v_1]) rfl ?_
  show Go _ _ _ _ _ _ _ _ s₁ (mkF m 16 #[.val (.int i0), .val v_0, .val (.int (-10 : Int32)), .val v_1] [])
  refine ss_t (P' := (-100 : Int32)) (i' := (2 : Int32)) (own_p0 hi0 (k := 10) rfl (by omega)) X0 u (by decide) ?_
  refine ss_t (P' := (-1000 : Int32)) (i' := (3 : Int32)) (own_p0 hi0 (k := 100) rfl (by omega)) X0 u (by decide) ?_
  refine ss_t (P' := (-10000 : Int32)) (i' := (4 : Int32)) (own_p0 hi0 (k := 1000) rfl (by omega)) X0 u (by decide) ?_
  refine ss_t (P' := (-100000 : Int32)) (i' := (5 : Int32)) (own_p0 hi0 (k := 10000) rfl (by omega)) X0 u (by decide) ?_
  refine ss_t (P' := (-1000000 : Int32)) (i' := (6 : Int32)) (own_p0 hi0 (k := 100000) rfl (by omega)) X0 u (by decide) ?_
  exact ss_x (own_p1 hi0 (k := 1000000) rfl (by omega)) X0 u hret hlk e0 N0 (by decide) (by decide) rfl
def Q_gc_0_6 (Z : State) (x0 : Int32) (x2 : Addr) (kk : ClassId) (h0 : Heap) (v : Option Value) (h : Heap) (L : List Loc) : Prop := v = some v_7 ∧ Fr Z.heap.size L ∧ Keep h0 h [x2] ∧ Arv Z h x2 kk .byte (16 : Int32) [v_115, v_116, v_97, v_116, v_117, v_115, v_32, (.int (bq x0 5)), (.int (bq x0 4)), (.int (bq x0 3)), (.int (bq x0 2)), (.int (bq x0 1)), (.int (bq x0 0))] v_0
theorem rm_gc_0_6 (x0 : Int32) (x2 : Addr) (kk : ClassId) (h0 : Heap) (O0 : Ext Z.heap h0) (hD : Dg_0_6 x0) (g_x2 : Z.heap.size ≤ x2) (V0 : Arv Z h0 x2 kk .byte (16 : Int32) [v_115, v_116, v_97, v_116, v_117, v_115, v_32, v_0, v_0, v_0, v_0, v_0, v_0] v_0) :
    MF hw GG l y_17 jdk_33_method_12_code 7 (some .int) ws ⟨0, 0, 0, 0⟩ h0 #[(.int x0), v_13, (.ref x2)] (Q_gc_0_6 Z x0 x2 kk h0) := by
  refine own_mF #[.val (.int x0), .val v_13, .val (.ref x2), .unset, .unset, .unset, .unset] (plainFor_of_name pn_17) (fun _ => rfl) ?_
  intro p e s m below meth c s₁ u hlk hret hZ hown hnm X0 e0 N0
  obtain ⟨hx, hby, hml⟩ := id u
  obtain ⟨hs, hlo, hhi⟩ := id hD
  refine t_iN X0 u d17_0 rfl ?_
  refine t_isL X0 u d17_1 (l' := #[.val (.int x0), .val v_13, .val (.ref x2), .unset, .unset, .val v_13, .unset]) rfl ?_
  refine t_iN X0 u d17_3 rfl ?_
  refine t_ifY 4 11 X0 u rfl d17_4 ((if0 _ _).trans (flt hs).2.1) (by decide) ?_
  refine t_iC X0 u d17_11  ?_
  refine t_isL X0 u d17_12 (l' := #[.val (.int x0), .val v_13, .val (.ref x2), .unset, .unset, .val v_13, .val v_0]) rfl ?_
  refine t_iL X0 u d17_14 rfl ?_
  refine t_ifN X0 u d17_16 ((if0 _ _).trans (teq (by decide : (0 : Int32) = (0 : Int32))).2) ?_
  refine t_iN X0 u d17_19 rfl ?_
  show Go _ _ _ _ _ _ _ _ s₁ (mkF m 20 #[.val (.int x0), .val v_13, .val (.ref x2), .unset, .unset, .val v_13, .val v_0] [(.int x0)])
  refine t_ng0 X0 u hs d17_20 ?_
  intro i0 hi0
  refine t_isN X0 u d17_21 (l' := #[.val (.int i0), .val v_13, .val (.ref x2), .unset, .unset, .val v_13, .val v_0]) rfl ?_
  show Go _ _ _ _ _ _ _ _ s₁ (mkF m 22 #[.val (.int i0), .val v_13, .val (.ref x2), .unset, .unset, .val v_13, .val v_0] [])
  refine gc_t x0 0 12 11 hw GG X0 u hZ hown e0 O0 N0 (Keep.refl h0 [x2]) g_x2 V0 hi0 (by simp [Nat.div_div_eq_div_mul]) (p1 := (12 : Int32)) (p2 := (11 : Int32)) (by omega) (by decide) (Nat.le_of_ble_eq_true rfl) (Nat.le_of_ble_eq_true rfl) (fun _ _ => ⟨rfl, rfl⟩) ?_
  intro T1 h1 L1 i1 r1_ X1 e1 O1 N1 K1 V1 hi1
  refine gc_t x0 2 10 9 hw GG X1 u hZ hown e1 O1 N1 K1 g_x2 V1 hi1 (by simp [Nat.div_div_eq_div_mul]) (p1 := (10 : Int32)) (p2 := (9 : Int32)) (by omega) (by decide) (Nat.le_of_ble_eq_true rfl) (Nat.le_of_ble_eq_true rfl) (fun _ _ => ⟨rfl, rfl⟩) ?_
  intro T2 h2 L2 i2 r2_ X2 e2 O2 N2 K2 V2 hi2
  refine gc_2 x0 4 8 7 hw GG X2 u hZ hown e2 O2 N2 K2 g_x2 V2 hi2 (by simp [Nat.div_div_eq_div_mul]) (p1 := (8 : Int32)) (p2 := (7 : Int32)) ⟨by omega, by omega⟩ (by decide) (by decide) (Nat.le_of_ble_eq_true rfl) (Nat.le_of_ble_eq_true rfl) ?_
  intro T3 h3 L3 X3 e3 O3 N3 K3 V3
  refine t_iL X3 u d17_104 rfl ?_
  refine t_ifY 106 118 X3 u rfl d17_106 ((if0 _ _).trans (teq (by decide : (0 : Int32) = (0 : Int32))).1) (by decide) ?_
  refine t_iL X3 u d17_118 rfl ?_
  exact Go.retI X3 hx hret hlk (hb hby d17_120) (by decide) (by decide) (by show Q_gc_0_6 ..; rw [e3]; exact ⟨rfl, N3, K3, V3⟩)
theorem rm_ss_0_7 (x0 : Int32) (h0 : Heap) (O0 : Ext Z.heap h0) (hD : Dg_0_7 x0) :
    MF hw GG l y_15 jdk_33_method_13_code 4 (some .int) ws ⟨0, 0, 0, 0⟩ h0 #[(.int x0)] (Qp (some v_7) Z h0) := by
  refine own_mF #[.val (.int x0), .unset, .unset, .unset] (plainFor_of_name pn_15) (fun _ => rfl) ?_
  intro p e s m below meth c s₁ u hlk hret hZ hown hnm X0 e0 N0
  obtain ⟨hx, hby, hml⟩ := id u
  obtain ⟨hs, hlo, hhi⟩ := id hD
  refine t_iC X0 u d15_0  ?_
  refine t_isN X0 u d15_1 (l' := #[.val (.int x0), .val v_1, .unset, .unset]) rfl ?_
  refine t_iN X0 u d15_2 rfl ?_
  refine t_ifN X0 u d15_3 ((if0 _ _).trans (flt hs).1) ?_
  refine t_iC X0 u d15_6  ?_
  refine t_isN X0 u d15_7 (l' := #[.val (.int x0), .val v_0, .unset, .unset]) rfl ?_
  refine t_iN X0 u d15_8 rfl ?_
  refine Go.step (fun _ kt_ => XS.ineg X0.here hx rfl (hb hby d15_9) rfl kt_) ?_
  show Go _ _ _ _ _ _ _ _ s₁ (mkF m 10 #[.val (.int x0), .val v_0, .unset, .unset] [(.int (-x0))])
  obtain ⟨i0, ei0, hi0⟩ := own_i0n hs
  rw [ei0]
  show Go _ _ _ _ _ _ _ _ s₁ (mkF m 10 #[.val (.int x0), .val v_0, .unset, .unset] [(.int i0)])
  refine t_isN X0 u d15_10 (l' := #[.val (.int i0), .val v_0, .unset, .unset]) rfl ?_
  refine t_bP X0 u d15_11  ?_
  refine t_isN X0 u d15_13 (l' := #[.val (.int i0), .val v_0, .val (.int (-10 : Int32)), .unset]) rfl ?_
  refine t_iC X0 u d15_14  ?_
  refine t_isN X0 u d15_15 (l' := #[.val (.int i0), .val v_0, .val (.int (-10 : Int32)), .val v_1]) rfl ?_
  show Go _ _ _ _ _ _ _ _ s₁ (mkF m 16 #[.val (.int i0), .val v_0, .val (.int (-10 : Int32)), .val v_1] [])
  refine ss_t (P' := (-100 : Int32)) (i' := (2 : Int32)) (own_p0 hi0 (k := 10) rfl (by omega)) X0 u (by decide) ?_
  refine ss_t (P' := (-1000 : Int32)) (i' := (3 : Int32)) (own_p0 hi0 (k := 100) rfl (by omega)) X0 u (by decide) ?_
  refine ss_t (P' := (-10000 : Int32)) (i' := (4 : Int32)) (own_p0 hi0 (k := 1000) rfl (by omega)) X0 u (by decide) ?_
  refine ss_t (P' := (-100000 : Int32)) (i' := (5 : Int32)) (own_p0 hi0 (k := 10000) rfl (by omega)) X0 u (by decide) ?_
  refine ss_t (P' := (-1000000 : Int32)) (i' := (6 : Int32)) (own_p0 hi0 (k := 100000) rfl (by omega)) X0 u (by decide) ?_
  refine ss_t (P' := (-10000000 : Int32)) (i' := (7 : Int32)) (own_p0 hi0 (k := 1000000) rfl (by omega)) X0 u (by decide) ?_
  exact ss_x (own_p1 hi0 (k := 10000000) rfl (by omega)) X0 u hret hlk e0 N0 (by decide) (by decide) rfl
def Q_gc_0_7 (Z : State) (x0 : Int32) (x2 : Addr) (kk : ClassId) (h0 : Heap) (v : Option Value) (h : Heap) (L : List Loc) : Prop := v = some v_7 ∧ Fr Z.heap.size L ∧ Keep h0 h [x2] ∧ Arv Z h x2 kk .byte (16 : Int32) [v_115, v_116, v_97, v_116, v_117, v_115, v_32, (.int (bq x0 6)), (.int (bq x0 5)), (.int (bq x0 4)), (.int (bq x0 3)), (.int (bq x0 2)), (.int (bq x0 1)), (.int (bq x0 0))] v_0
theorem rm_gc_0_7 (x0 : Int32) (x2 : Addr) (kk : ClassId) (h0 : Heap) (O0 : Ext Z.heap h0) (hD : Dg_0_7 x0) (g_x2 : Z.heap.size ≤ x2) (V0 : Arv Z h0 x2 kk .byte (16 : Int32) [v_115, v_116, v_97, v_116, v_117, v_115, v_32, v_0, v_0, v_0, v_0, v_0, v_0, v_0] v_0) :
    MF hw GG l y_17 jdk_33_method_12_code 7 (some .int) ws ⟨0, 0, 0, 0⟩ h0 #[(.int x0), v_14, (.ref x2)] (Q_gc_0_7 Z x0 x2 kk h0) := by
  refine own_mF #[.val (.int x0), .val v_14, .val (.ref x2), .unset, .unset, .unset, .unset] (plainFor_of_name pn_17) (fun _ => rfl) ?_
  intro p e s m below meth c s₁ u hlk hret hZ hown hnm X0 e0 N0
  obtain ⟨hx, hby, hml⟩ := id u
  obtain ⟨hs, hlo, hhi⟩ := id hD
  refine t_iN X0 u d17_0 rfl ?_
  refine t_isL X0 u d17_1 (l' := #[.val (.int x0), .val v_14, .val (.ref x2), .unset, .unset, .val v_14, .unset]) rfl ?_
  refine t_iN X0 u d17_3 rfl ?_
  refine t_ifY 4 11 X0 u rfl d17_4 ((if0 _ _).trans (flt hs).2.1) (by decide) ?_
  refine t_iC X0 u d17_11  ?_
  refine t_isL X0 u d17_12 (l' := #[.val (.int x0), .val v_14, .val (.ref x2), .unset, .unset, .val v_14, .val v_0]) rfl ?_
  refine t_iL X0 u d17_14 rfl ?_
  refine t_ifN X0 u d17_16 ((if0 _ _).trans (teq (by decide : (0 : Int32) = (0 : Int32))).2) ?_
  refine t_iN X0 u d17_19 rfl ?_
  show Go _ _ _ _ _ _ _ _ s₁ (mkF m 20 #[.val (.int x0), .val v_14, .val (.ref x2), .unset, .unset, .val v_14, .val v_0] [(.int x0)])
  refine t_ng0 X0 u hs d17_20 ?_
  intro i0 hi0
  refine t_isN X0 u d17_21 (l' := #[.val (.int i0), .val v_14, .val (.ref x2), .unset, .unset, .val v_14, .val v_0]) rfl ?_
  show Go _ _ _ _ _ _ _ _ s₁ (mkF m 22 #[.val (.int i0), .val v_14, .val (.ref x2), .unset, .unset, .val v_14, .val v_0] [])
  refine gc_t x0 0 13 12 hw GG X0 u hZ hown e0 O0 N0 (Keep.refl h0 [x2]) g_x2 V0 hi0 (by simp [Nat.div_div_eq_div_mul]) (p1 := (13 : Int32)) (p2 := (12 : Int32)) (by omega) (by decide) (Nat.le_of_ble_eq_true rfl) (Nat.le_of_ble_eq_true rfl) (fun _ _ => ⟨rfl, rfl⟩) ?_
  intro T1 h1 L1 i1 r1_ X1 e1 O1 N1 K1 V1 hi1
  refine gc_t x0 2 11 10 hw GG X1 u hZ hown e1 O1 N1 K1 g_x2 V1 hi1 (by simp [Nat.div_div_eq_div_mul]) (p1 := (11 : Int32)) (p2 := (10 : Int32)) (by omega) (by decide) (Nat.le_of_ble_eq_true rfl) (Nat.le_of_ble_eq_true rfl) (fun _ _ => ⟨rfl, rfl⟩) ?_
  intro T2 h2 L2 i2 r2_ X2 e2 O2 N2 K2 V2 hi2
  refine gc_t x0 4 9 8 hw GG X2 u hZ hown e2 O2 N2 K2 g_x2 V2 hi2 (by simp [Nat.div_div_eq_div_mul]) (p1 := (9 : Int32)) (p2 := (8 : Int32)) (by omega) (by decide) (Nat.le_of_ble_eq_true rfl) (Nat.le_of_ble_eq_true rfl) (fun _ _ => ⟨rfl, rfl⟩) ?_
  intro T3 h3 L3 i3 r3_ X3 e3 O3 N3 K3 V3 hi3
  refine gc_1 x0 6 7 hw GG X3 u hZ hown e3 O3 N3 K3 g_x2 V3 hi3 (by simp [Nat.div_div_eq_div_mul]) (p1 := (7 : Int32)) (by omega) (by decide) (Nat.le_of_ble_eq_true rfl) ?_
  intro T4 h4 L4 X4 e4 O4 N4 K4 V4
  refine t_iL X4 u d17_104 rfl ?_
  refine t_ifY 106 118 X4 u rfl d17_106 ((if0 _ _).trans (teq (by decide : (0 : Int32) = (0 : Int32))).1) (by decide) ?_
  refine t_iL X4 u d17_118 rfl ?_
  exact Go.retI X4 hx hret hlk (hb hby d17_120) (by decide) (by decide) (by show Q_gc_0_7 ..; rw [e4]; exact ⟨rfl, N4, K4, V4⟩)
theorem rm_ss_0_8 (x0 : Int32) (h0 : Heap) (O0 : Ext Z.heap h0) (hD : Dg_0_8 x0) :
    MF hw GG l y_15 jdk_33_method_13_code 4 (some .int) ws ⟨0, 0, 0, 0⟩ h0 #[(.int x0)] (Qp (some v_8) Z h0) := by
  refine own_mF #[.val (.int x0), .unset, .unset, .unset] (plainFor_of_name pn_15) (fun _ => rfl) ?_
  intro p e s m below meth c s₁ u hlk hret hZ hown hnm X0 e0 N0
  obtain ⟨hx, hby, hml⟩ := id u
  obtain ⟨hs, hlo, hhi⟩ := id hD
  refine t_iC X0 u d15_0  ?_
  refine t_isN X0 u d15_1 (l' := #[.val (.int x0), .val v_1, .unset, .unset]) rfl ?_
  refine t_iN X0 u d15_2 rfl ?_
  refine t_ifN X0 u d15_3 ((if0 _ _).trans (flt hs).1) ?_
  refine t_iC X0 u d15_6  ?_
  refine t_isN X0 u d15_7 (l' := #[.val (.int x0), .val v_0, .unset, .unset]) rfl ?_
  refine t_iN X0 u d15_8 rfl ?_
  refine Go.step (fun _ kt_ => XS.ineg X0.here hx rfl (hb hby d15_9) rfl kt_) ?_
  show Go _ _ _ _ _ _ _ _ s₁ (mkF m 10 #[.val (.int x0), .val v_0, .unset, .unset] [(.int (-x0))])
  obtain ⟨i0, ei0, hi0⟩ := own_i0n hs
  rw [ei0]
  show Go _ _ _ _ _ _ _ _ s₁ (mkF m 10 #[.val (.int x0), .val v_0, .unset, .unset] [(.int i0)])
  refine t_isN X0 u d15_10 (l' := #[.val (.int i0), .val v_0, .unset, .unset]) rfl ?_
  refine t_bP X0 u d15_11  ?_
  refine t_isN X0 u d15_13 (l' := #[.val (.int i0), .val v_0, .val (.int (-10 : Int32)), .unset]) rfl ?_
  refine t_iC X0 u d15_14  ?_
  refine t_isN X0 u d15_15 (l' := #[.val (.int i0), .val v_0, .val (.int (-10 : Int32)), .val v_1]) rfl ?_
  show Go _ _ _ _ _ _ _ _ s₁ (mkF m 16 #[.val (.int i0), .val v_0, .val (.int (-10 : Int32)), .val v_1] [])
  refine ss_t (P' := (-100 : Int32)) (i' := (2 : Int32)) (own_p0 hi0 (k := 10) rfl (by omega)) X0 u (by decide) ?_
  refine ss_t (P' := (-1000 : Int32)) (i' := (3 : Int32)) (own_p0 hi0 (k := 100) rfl (by omega)) X0 u (by decide) ?_
  refine ss_t (P' := (-10000 : Int32)) (i' := (4 : Int32)) (own_p0 hi0 (k := 1000) rfl (by omega)) X0 u (by decide) ?_
  refine ss_t (P' := (-100000 : Int32)) (i' := (5 : Int32)) (own_p0 hi0 (k := 10000) rfl (by omega)) X0 u (by decide) ?_
  refine ss_t (P' := (-1000000 : Int32)) (i' := (6 : Int32)) (own_p0 hi0 (k := 100000) rfl (by omega)) X0 u (by decide) ?_
  refine ss_t (P' := (-10000000 : Int32)) (i' := (7 : Int32)) (own_p0 hi0 (k := 1000000) rfl (by omega)) X0 u (by decide) ?_
  refine ss_t (P' := (-100000000 : Int32)) (i' := (8 : Int32)) (own_p0 hi0 (k := 10000000) rfl (by omega)) X0 u (by decide) ?_
  exact ss_x (own_p1 hi0 (k := 100000000) rfl (by omega)) X0 u hret hlk e0 N0 (by decide) (by decide) rfl
def Q_gc_0_8 (Z : State) (x0 : Int32) (x2 : Addr) (kk : ClassId) (h0 : Heap) (v : Option Value) (h : Heap) (L : List Loc) : Prop := v = some v_7 ∧ Fr Z.heap.size L ∧ Keep h0 h [x2] ∧ Arv Z h x2 kk .byte (16 : Int32) [v_115, v_116, v_97, v_116, v_117, v_115, v_32, (.int (bq x0 7)), (.int (bq x0 6)), (.int (bq x0 5)), (.int (bq x0 4)), (.int (bq x0 3)), (.int (bq x0 2)), (.int (bq x0 1)), (.int (bq x0 0))] v_0
theorem rm_gc_0_8 (x0 : Int32) (x2 : Addr) (kk : ClassId) (h0 : Heap) (O0 : Ext Z.heap h0) (hD : Dg_0_8 x0) (g_x2 : Z.heap.size ≤ x2) (V0 : Arv Z h0 x2 kk .byte (16 : Int32) [v_115, v_116, v_97, v_116, v_117, v_115, v_32, v_0, v_0, v_0, v_0, v_0, v_0, v_0, v_0] v_0) :
    MF hw GG l y_17 jdk_33_method_12_code 7 (some .int) ws ⟨0, 0, 0, 0⟩ h0 #[(.int x0), v_15, (.ref x2)] (Q_gc_0_8 Z x0 x2 kk h0) := by
  refine own_mF #[.val (.int x0), .val v_15, .val (.ref x2), .unset, .unset, .unset, .unset] (plainFor_of_name pn_17) (fun _ => rfl) ?_
  intro p e s m below meth c s₁ u hlk hret hZ hown hnm X0 e0 N0
  obtain ⟨hx, hby, hml⟩ := id u
  obtain ⟨hs, hlo, hhi⟩ := id hD
  refine t_iN X0 u d17_0 rfl ?_
  refine t_isL X0 u d17_1 (l' := #[.val (.int x0), .val v_15, .val (.ref x2), .unset, .unset, .val v_15, .unset]) rfl ?_
  refine t_iN X0 u d17_3 rfl ?_
  refine t_ifY 4 11 X0 u rfl d17_4 ((if0 _ _).trans (flt hs).2.1) (by decide) ?_
  refine t_iC X0 u d17_11  ?_
  refine t_isL X0 u d17_12 (l' := #[.val (.int x0), .val v_15, .val (.ref x2), .unset, .unset, .val v_15, .val v_0]) rfl ?_
  refine t_iL X0 u d17_14 rfl ?_
  refine t_ifN X0 u d17_16 ((if0 _ _).trans (teq (by decide : (0 : Int32) = (0 : Int32))).2) ?_
  refine t_iN X0 u d17_19 rfl ?_
  show Go _ _ _ _ _ _ _ _ s₁ (mkF m 20 #[.val (.int x0), .val v_15, .val (.ref x2), .unset, .unset, .val v_15, .val v_0] [(.int x0)])
  refine t_ng0 X0 u hs d17_20 ?_
  intro i0 hi0
  refine t_isN X0 u d17_21 (l' := #[.val (.int i0), .val v_15, .val (.ref x2), .unset, .unset, .val v_15, .val v_0]) rfl ?_
  show Go _ _ _ _ _ _ _ _ s₁ (mkF m 22 #[.val (.int i0), .val v_15, .val (.ref x2), .unset, .unset, .val v_15, .val v_0] [])
  refine gc_t x0 0 14 13 hw GG X0 u hZ hown e0 O0 N0 (Keep.refl h0 [x2]) g_x2 V0 hi0 (by simp [Nat.div_div_eq_div_mul]) (p1 := (14 : Int32)) (p2 := (13 : Int32)) (by omega) (by decide) (Nat.le_of_ble_eq_true rfl) (Nat.le_of_ble_eq_true rfl) (fun _ _ => ⟨rfl, rfl⟩) ?_
  intro T1 h1 L1 i1 r1_ X1 e1 O1 N1 K1 V1 hi1
  refine gc_t x0 2 12 11 hw GG X1 u hZ hown e1 O1 N1 K1 g_x2 V1 hi1 (by simp [Nat.div_div_eq_div_mul]) (p1 := (12 : Int32)) (p2 := (11 : Int32)) (by omega) (by decide) (Nat.le_of_ble_eq_true rfl) (Nat.le_of_ble_eq_true rfl) (fun _ _ => ⟨rfl, rfl⟩) ?_
  intro T2 h2 L2 i2 r2_ X2 e2 O2 N2 K2 V2 hi2
  refine gc_t x0 4 10 9 hw GG X2 u hZ hown e2 O2 N2 K2 g_x2 V2 hi2 (by simp [Nat.div_div_eq_div_mul]) (p1 := (10 : Int32)) (p2 := (9 : Int32)) (by omega) (by decide) (Nat.le_of_ble_eq_true rfl) (Nat.le_of_ble_eq_true rfl) (fun _ _ => ⟨rfl, rfl⟩) ?_
  intro T3 h3 L3 i3 r3_ X3 e3 O3 N3 K3 V3 hi3
  refine gc_2 x0 6 8 7 hw GG X3 u hZ hown e3 O3 N3 K3 g_x2 V3 hi3 (by simp [Nat.div_div_eq_div_mul]) (p1 := (8 : Int32)) (p2 := (7 : Int32)) ⟨by omega, by omega⟩ (by decide) (by decide) (Nat.le_of_ble_eq_true rfl) (Nat.le_of_ble_eq_true rfl) ?_
  intro T4 h4 L4 X4 e4 O4 N4 K4 V4
  refine t_iL X4 u d17_104 rfl ?_
  refine t_ifY 106 118 X4 u rfl d17_106 ((if0 _ _).trans (teq (by decide : (0 : Int32) = (0 : Int32))).1) (by decide) ?_
  refine t_iL X4 u d17_118 rfl ?_
  exact Go.retI X4 hx hret hlk (hb hby d17_120) (by decide) (by decide) (by show Q_gc_0_8 ..; rw [e4]; exact ⟨rfl, N4, K4, V4⟩)
theorem rm_ss_0_9 (x0 : Int32) (h0 : Heap) (O0 : Ext Z.heap h0) (hD : Dg_0_9 x0) :
    MF hw GG l y_15 jdk_33_method_13_code 4 (some .int) ws ⟨0, 0, 0, 0⟩ h0 #[(.int x0)] (Qp (some v_9) Z h0) := by
  refine own_mF #[.val (.int x0), .unset, .unset, .unset] (plainFor_of_name pn_15) (fun _ => rfl) ?_
  intro p e s m below meth c s₁ u hlk hret hZ hown hnm X0 e0 N0
  obtain ⟨hx, hby, hml⟩ := id u
  obtain ⟨hs, hlo, hhi⟩ := id hD
  refine t_iC X0 u d15_0  ?_
  refine t_isN X0 u d15_1 (l' := #[.val (.int x0), .val v_1, .unset, .unset]) rfl ?_
  refine t_iN X0 u d15_2 rfl ?_
  refine t_ifN X0 u d15_3 ((if0 _ _).trans (flt hs).1) ?_
  refine t_iC X0 u d15_6  ?_
  refine t_isN X0 u d15_7 (l' := #[.val (.int x0), .val v_0, .unset, .unset]) rfl ?_
  refine t_iN X0 u d15_8 rfl ?_
  refine Go.step (fun _ kt_ => XS.ineg X0.here hx rfl (hb hby d15_9) rfl kt_) ?_
  show Go _ _ _ _ _ _ _ _ s₁ (mkF m 10 #[.val (.int x0), .val v_0, .unset, .unset] [(.int (-x0))])
  obtain ⟨i0, ei0, hi0⟩ := own_i0n hs
  rw [ei0]
  show Go _ _ _ _ _ _ _ _ s₁ (mkF m 10 #[.val (.int x0), .val v_0, .unset, .unset] [(.int i0)])
  refine t_isN X0 u d15_10 (l' := #[.val (.int i0), .val v_0, .unset, .unset]) rfl ?_
  refine t_bP X0 u d15_11  ?_
  refine t_isN X0 u d15_13 (l' := #[.val (.int i0), .val v_0, .val (.int (-10 : Int32)), .unset]) rfl ?_
  refine t_iC X0 u d15_14  ?_
  refine t_isN X0 u d15_15 (l' := #[.val (.int i0), .val v_0, .val (.int (-10 : Int32)), .val v_1]) rfl ?_
  show Go _ _ _ _ _ _ _ _ s₁ (mkF m 16 #[.val (.int i0), .val v_0, .val (.int (-10 : Int32)), .val v_1] [])
  refine ss_t (P' := (-100 : Int32)) (i' := (2 : Int32)) (own_p0 hi0 (k := 10) rfl (by omega)) X0 u (by decide) ?_
  refine ss_t (P' := (-1000 : Int32)) (i' := (3 : Int32)) (own_p0 hi0 (k := 100) rfl (by omega)) X0 u (by decide) ?_
  refine ss_t (P' := (-10000 : Int32)) (i' := (4 : Int32)) (own_p0 hi0 (k := 1000) rfl (by omega)) X0 u (by decide) ?_
  refine ss_t (P' := (-100000 : Int32)) (i' := (5 : Int32)) (own_p0 hi0 (k := 10000) rfl (by omega)) X0 u (by decide) ?_
  refine ss_t (P' := (-1000000 : Int32)) (i' := (6 : Int32)) (own_p0 hi0 (k := 100000) rfl (by omega)) X0 u (by decide) ?_
  refine ss_t (P' := (-10000000 : Int32)) (i' := (7 : Int32)) (own_p0 hi0 (k := 1000000) rfl (by omega)) X0 u (by decide) ?_
  refine ss_t (P' := (-100000000 : Int32)) (i' := (8 : Int32)) (own_p0 hi0 (k := 10000000) rfl (by omega)) X0 u (by decide) ?_
  refine ss_t (P' := (-1000000000 : Int32)) (i' := (9 : Int32)) (own_p0 hi0 (k := 100000000) rfl (by omega)) X0 u (by decide) ?_
  exact ss_x (own_p1 hi0 (k := 1000000000) rfl (by omega)) X0 u hret hlk e0 N0 (by decide) (by decide) rfl
def Q_gc_0_9 (Z : State) (x0 : Int32) (x2 : Addr) (kk : ClassId) (h0 : Heap) (v : Option Value) (h : Heap) (L : List Loc) : Prop := v = some v_7 ∧ Fr Z.heap.size L ∧ Keep h0 h [x2] ∧ Arv Z h x2 kk .byte (16 : Int32) [v_115, v_116, v_97, v_116, v_117, v_115, v_32, (.int (bq x0 8)), (.int (bq x0 7)), (.int (bq x0 6)), (.int (bq x0 5)), (.int (bq x0 4)), (.int (bq x0 3)), (.int (bq x0 2)), (.int (bq x0 1)), (.int (bq x0 0))] v_0
theorem rm_gc_0_9 (x0 : Int32) (x2 : Addr) (kk : ClassId) (h0 : Heap) (O0 : Ext Z.heap h0) (hD : Dg_0_9 x0) (g_x2 : Z.heap.size ≤ x2) (V0 : Arv Z h0 x2 kk .byte (16 : Int32) [v_115, v_116, v_97, v_116, v_117, v_115, v_32, v_0, v_0, v_0, v_0, v_0, v_0, v_0, v_0, v_0] v_0) :
    MF hw GG l y_17 jdk_33_method_12_code 7 (some .int) ws ⟨0, 0, 0, 0⟩ h0 #[(.int x0), v_16, (.ref x2)] (Q_gc_0_9 Z x0 x2 kk h0) := by
  refine own_mF #[.val (.int x0), .val v_16, .val (.ref x2), .unset, .unset, .unset, .unset] (plainFor_of_name pn_17) (fun _ => rfl) ?_
  intro p e s m below meth c s₁ u hlk hret hZ hown hnm X0 e0 N0
  obtain ⟨hx, hby, hml⟩ := id u
  obtain ⟨hs, hlo, hhi⟩ := id hD
  refine t_iN X0 u d17_0 rfl ?_
  refine t_isL X0 u d17_1 (l' := #[.val (.int x0), .val v_16, .val (.ref x2), .unset, .unset, .val v_16, .unset]) rfl ?_
  refine t_iN X0 u d17_3 rfl ?_
  refine t_ifY 4 11 X0 u rfl d17_4 ((if0 _ _).trans (flt hs).2.1) (by decide) ?_
  refine t_iC X0 u d17_11  ?_
  refine t_isL X0 u d17_12 (l' := #[.val (.int x0), .val v_16, .val (.ref x2), .unset, .unset, .val v_16, .val v_0]) rfl ?_
  refine t_iL X0 u d17_14 rfl ?_
  refine t_ifN X0 u d17_16 ((if0 _ _).trans (teq (by decide : (0 : Int32) = (0 : Int32))).2) ?_
  refine t_iN X0 u d17_19 rfl ?_
  show Go _ _ _ _ _ _ _ _ s₁ (mkF m 20 #[.val (.int x0), .val v_16, .val (.ref x2), .unset, .unset, .val v_16, .val v_0] [(.int x0)])
  refine t_ng0 X0 u hs d17_20 ?_
  intro i0 hi0
  refine t_isN X0 u d17_21 (l' := #[.val (.int i0), .val v_16, .val (.ref x2), .unset, .unset, .val v_16, .val v_0]) rfl ?_
  show Go _ _ _ _ _ _ _ _ s₁ (mkF m 22 #[.val (.int i0), .val v_16, .val (.ref x2), .unset, .unset, .val v_16, .val v_0] [])
  refine gc_t x0 0 15 14 hw GG X0 u hZ hown e0 O0 N0 (Keep.refl h0 [x2]) g_x2 V0 hi0 (by simp [Nat.div_div_eq_div_mul]) (p1 := (15 : Int32)) (p2 := (14 : Int32)) (by omega) (by decide) (Nat.le_of_ble_eq_true rfl) (Nat.le_of_ble_eq_true rfl) (fun _ _ => ⟨rfl, rfl⟩) ?_
  intro T1 h1 L1 i1 r1_ X1 e1 O1 N1 K1 V1 hi1
  refine gc_t x0 2 13 12 hw GG X1 u hZ hown e1 O1 N1 K1 g_x2 V1 hi1 (by simp [Nat.div_div_eq_div_mul]) (p1 := (13 : Int32)) (p2 := (12 : Int32)) (by omega) (by decide) (Nat.le_of_ble_eq_true rfl) (Nat.le_of_ble_eq_true rfl) (fun _ _ => ⟨rfl, rfl⟩) ?_
  intro T2 h2 L2 i2 r2_ X2 e2 O2 N2 K2 V2 hi2
  refine gc_t x0 4 11 10 hw GG X2 u hZ hown e2 O2 N2 K2 g_x2 V2 hi2 (by simp [Nat.div_div_eq_div_mul]) (p1 := (11 : Int32)) (p2 := (10 : Int32)) (by omega) (by decide) (Nat.le_of_ble_eq_true rfl) (Nat.le_of_ble_eq_true rfl) (fun _ _ => ⟨rfl, rfl⟩) ?_
  intro T3 h3 L3 i3 r3_ X3 e3 O3 N3 K3 V3 hi3
  refine gc_t x0 6 9 8 hw GG X3 u hZ hown e3 O3 N3 K3 g_x2 V3 hi3 (by simp [Nat.div_div_eq_div_mul]) (p1 := (9 : Int32)) (p2 := (8 : Int32)) (by omega) (by decide) (Nat.le_of_ble_eq_true rfl) (Nat.le_of_ble_eq_true rfl) (fun _ _ => ⟨rfl, rfl⟩) ?_
  intro T4 h4 L4 i4 r4_ X4 e4 O4 N4 K4 V4 hi4
  refine gc_1 x0 8 7 hw GG X4 u hZ hown e4 O4 N4 K4 g_x2 V4 hi4 (by simp [Nat.div_div_eq_div_mul]) (p1 := (7 : Int32)) (by omega) (by decide) (Nat.le_of_ble_eq_true rfl) ?_
  intro T5 h5 L5 X5 e5 O5 N5 K5 V5
  refine t_iL X5 u d17_104 rfl ?_
  refine t_ifY 106 118 X5 u rfl d17_106 ((if0 _ _).trans (teq (by decide : (0 : Int32) = (0 : Int32))).1) (by decide) ?_
  refine t_iL X5 u d17_118 rfl ?_
  exact Go.retI X5 hx hret hlk (hb hby d17_120) (by decide) (by decide) (by show Q_gc_0_9 ..; rw [e5]; exact ⟨rfl, N5, K5, V5⟩)
theorem rm_ss_0_10 (x0 : Int32) (h0 : Heap) (O0 : Ext Z.heap h0) (hD : Dg_0_10 x0) :
    MF hw GG l y_15 jdk_33_method_13_code 4 (some .int) ws ⟨0, 0, 0, 0⟩ h0 #[(.int x0)] (Qp (some v_10) Z h0) := by
  refine own_mF #[.val (.int x0), .unset, .unset, .unset] (plainFor_of_name pn_15) (fun _ => rfl) ?_
  intro p e s m below meth c s₁ u hlk hret hZ hown hnm X0 e0 N0
  obtain ⟨hx, hby, hml⟩ := id u
  obtain ⟨hs, hlo, hhi⟩ := id hD
  refine t_iC X0 u d15_0  ?_
  refine t_isN X0 u d15_1 (l' := #[.val (.int x0), .val v_1, .unset, .unset]) rfl ?_
  refine t_iN X0 u d15_2 rfl ?_
  refine t_ifN X0 u d15_3 ((if0 _ _).trans (flt hs).1) ?_
  refine t_iC X0 u d15_6  ?_
  refine t_isN X0 u d15_7 (l' := #[.val (.int x0), .val v_0, .unset, .unset]) rfl ?_
  refine t_iN X0 u d15_8 rfl ?_
  refine Go.step (fun _ kt_ => XS.ineg X0.here hx rfl (hb hby d15_9) rfl kt_) ?_
  show Go _ _ _ _ _ _ _ _ s₁ (mkF m 10 #[.val (.int x0), .val v_0, .unset, .unset] [(.int (-x0))])
  obtain ⟨i0, ei0, hi0⟩ := own_i0n hs
  rw [ei0]
  show Go _ _ _ _ _ _ _ _ s₁ (mkF m 10 #[.val (.int x0), .val v_0, .unset, .unset] [(.int i0)])
  refine t_isN X0 u d15_10 (l' := #[.val (.int i0), .val v_0, .unset, .unset]) rfl ?_
  refine t_bP X0 u d15_11  ?_
  refine t_isN X0 u d15_13 (l' := #[.val (.int i0), .val v_0, .val (.int (-10 : Int32)), .unset]) rfl ?_
  refine t_iC X0 u d15_14  ?_
  refine t_isN X0 u d15_15 (l' := #[.val (.int i0), .val v_0, .val (.int (-10 : Int32)), .val v_1]) rfl ?_
  show Go _ _ _ _ _ _ _ _ s₁ (mkF m 16 #[.val (.int i0), .val v_0, .val (.int (-10 : Int32)), .val v_1] [])
  refine ss_t (P' := (-100 : Int32)) (i' := (2 : Int32)) (own_p0 hi0 (k := 10) rfl (by omega)) X0 u (by decide) ?_
  refine ss_t (P' := (-1000 : Int32)) (i' := (3 : Int32)) (own_p0 hi0 (k := 100) rfl (by omega)) X0 u (by decide) ?_
  refine ss_t (P' := (-10000 : Int32)) (i' := (4 : Int32)) (own_p0 hi0 (k := 1000) rfl (by omega)) X0 u (by decide) ?_
  refine ss_t (P' := (-100000 : Int32)) (i' := (5 : Int32)) (own_p0 hi0 (k := 10000) rfl (by omega)) X0 u (by decide) ?_
  refine ss_t (P' := (-1000000 : Int32)) (i' := (6 : Int32)) (own_p0 hi0 (k := 100000) rfl (by omega)) X0 u (by decide) ?_
  refine ss_t (P' := (-10000000 : Int32)) (i' := (7 : Int32)) (own_p0 hi0 (k := 1000000) rfl (by omega)) X0 u (by decide) ?_
  refine ss_t (P' := (-100000000 : Int32)) (i' := (8 : Int32)) (own_p0 hi0 (k := 10000000) rfl (by omega)) X0 u (by decide) ?_
  refine ss_t (P' := (-1000000000 : Int32)) (i' := (9 : Int32)) (own_p0 hi0 (k := 100000000) rfl (by omega)) X0 u (by decide) ?_
  refine ss_t (P' := (-1410065408 : Int32)) (i' := (10 : Int32)) (own_p0 hi0 (k := 1000000000) rfl (by omega)) X0 u (by decide) ?_
  refine t_iN X0 u d15_16 rfl ?_
  refine t_bP X0 u d15_17  ?_
  refine t_icY 19 42 X0 u rfl d15_19 (flt (by decide : ¬ ((10 : Int32) < (10 : Int32)))).2.1 (by decide) ?_
  refine t_bP X0 u d15_42  ?_
  refine t_iN X0 u d15_44 rfl ?_
  refine t_iadd X0 u d15_45  ?_
  exact t_rI X0 u hret hlk d15_46 e0 N0 (by decide)
def Q_gc_0_10 (Z : State) (x0 : Int32) (x2 : Addr) (kk : ClassId) (h0 : Heap) (v : Option Value) (h : Heap) (L : List Loc) : Prop := v = some v_7 ∧ Fr Z.heap.size L ∧ Keep h0 h [x2] ∧ Arv Z h x2 kk .byte (34 : Int32) [v_115, v_116, v_97, v_116, v_117, v_115, v_32, (.int (bq x0 9)), (.int (bq x0 8)), (.int (bq x0 7)), (.int (bq x0 6)), (.int (bq x0 5)), (.int (bq x0 4)), (.int (bq x0 3)), (.int (bq x0 2)), (.int (bq x0 1)), (.int (bq x0 0))] v_0
theorem rm_gc_0_10 (x0 : Int32) (x2 : Addr) (kk : ClassId) (h0 : Heap) (O0 : Ext Z.heap h0) (hD : Dg_0_10 x0) (g_x2 : Z.heap.size ≤ x2) (V0 : Arv Z h0 x2 kk .byte (34 : Int32) [v_115, v_116, v_97, v_116, v_117, v_115, v_32, v_0, v_0, v_0, v_0, v_0, v_0, v_0, v_0, v_0, v_0] v_0) :
    MF hw GG l y_17 jdk_33_method_12_code 7 (some .int) ws ⟨0, 0, 0, 0⟩ h0 #[(.int x0), v_17, (.ref x2)] (Q_gc_0_10 Z x0 x2 kk h0) := by
  refine own_mF #[.val (.int x0), .val v_17, .val (.ref x2), .unset, .unset, .unset, .unset] (plainFor_of_name pn_17) (fun _ => rfl) ?_
  intro p e s m below meth c s₁ u hlk hret hZ hown hnm X0 e0 N0
  obtain ⟨hx, hby, hml⟩ := id u
  obtain ⟨hs, hlo, hhi⟩ := id hD
  refine t_iN X0 u d17_0 rfl ?_
  refine t_isL X0 u d17_1 (l' := #[.val (.int x0), .val v_17, .val (.ref x2), .unset, .unset, .val v_17, .unset]) rfl ?_
  refine t_iN X0 u d17_3 rfl ?_
  refine t_ifY 4 11 X0 u rfl d17_4 ((if0 _ _).trans (flt hs).2.1) (by decide) ?_
  refine t_iC X0 u d17_11  ?_
  refine t_isL X0 u d17_12 (l' := #[.val (.int x0), .val v_17, .val (.ref x2), .unset, .unset, .val v_17, .val v_0]) rfl ?_
  refine t_iL X0 u d17_14 rfl ?_
  refine t_ifN X0 u d17_16 ((if0 _ _).trans (teq (by decide : (0 : Int32) = (0 : Int32))).2) ?_
  refine t_iN X0 u d17_19 rfl ?_
  show Go _ _ _ _ _ _ _ _ s₁ (mkF m 20 #[.val (.int x0), .val v_17, .val (.ref x2), .unset, .unset, .val v_17, .val v_0] [(.int x0)])
  refine t_ng0 X0 u hs d17_20 ?_
  intro i0 hi0
  refine t_isN X0 u d17_21 (l' := #[.val (.int i0), .val v_17, .val (.ref x2), .unset, .unset, .val v_17, .val v_0]) rfl ?_
  show Go _ _ _ _ _ _ _ _ s₁ (mkF m 22 #[.val (.int i0), .val v_17, .val (.ref x2), .unset, .unset, .val v_17, .val v_0] [])
  refine gc_t x0 0 16 15 hw GG X0 u hZ hown e0 O0 N0 (Keep.refl h0 [x2]) g_x2 V0 hi0 (by simp [Nat.div_div_eq_div_mul]) (p1 := (16 : Int32)) (p2 := (15 : Int32)) (by omega) (by decide) (Nat.le_of_ble_eq_true rfl) (Nat.le_of_ble_eq_true rfl) (fun _ _ => ⟨rfl, rfl⟩) ?_
  intro T1 h1 L1 i1 r1_ X1 e1 O1 N1 K1 V1 hi1
  refine gc_t x0 2 14 13 hw GG X1 u hZ hown e1 O1 N1 K1 g_x2 V1 hi1 (by simp [Nat.div_div_eq_div_mul]) (p1 := (14 : Int32)) (p2 := (13 : Int32)) (by omega) (by decide) (Nat.le_of_ble_eq_true rfl) (Nat.le_of_ble_eq_true rfl) (fun _ _ => ⟨rfl, rfl⟩) ?_
  intro T2 h2 L2 i2 r2_ X2 e2 O2 N2 K2 V2 hi2
  refine gc_t x0 4 12 11 hw GG X2 u hZ hown e2 O2 N2 K2 g_x2 V2 hi2 (by simp [Nat.div_div_eq_div_mul]) (p1 := (12 : Int32)) (p2 := (11 : Int32)) (by omega) (by decide) (Nat.le_of_ble_eq_true rfl) (Nat.le_of_ble_eq_true rfl) (fun _ _ => ⟨rfl, rfl⟩) ?_
  intro T3 h3 L3 i3 r3_ X3 e3 O3 N3 K3 V3 hi3
  refine gc_t x0 6 10 9 hw GG X3 u hZ hown e3 O3 N3 K3 g_x2 V3 hi3 (by simp [Nat.div_div_eq_div_mul]) (p1 := (10 : Int32)) (p2 := (9 : Int32)) (by omega) (by decide) (Nat.le_of_ble_eq_true rfl) (Nat.le_of_ble_eq_true rfl) (fun _ _ => ⟨rfl, rfl⟩) ?_
  intro T4 h4 L4 i4 r4_ X4 e4 O4 N4 K4 V4 hi4
  refine gc_2 x0 8 8 7 hw GG X4 u hZ hown e4 O4 N4 K4 g_x2 V4 hi4 (by simp [Nat.div_div_eq_div_mul]) (p1 := (8 : Int32)) (p2 := (7 : Int32)) ⟨by omega, by omega⟩ (by decide) (by decide) (Nat.le_of_ble_eq_true rfl) (Nat.le_of_ble_eq_true rfl) ?_
  intro T5 h5 L5 X5 e5 O5 N5 K5 V5
  refine t_iL X5 u d17_104 rfl ?_
  refine t_ifY 106 118 X5 u rfl d17_106 ((if0 _ _).trans (teq (by decide : (0 : Int32) = (0 : Int32))).1) (by decide) ?_
  refine t_iL X5 u d17_118 rfl ?_
  exact Go.retI X5 hx hret hlk (hb hby d17_120) (by decide) (by decide) (by show Q_gc_0_10 ..; rw [e5]; exact ⟨rfl, N5, K5, V5⟩)
theorem rm_ss_1_1 (x0 : Int32) (h0 : Heap) (O0 : Ext Z.heap h0) (hD : Dg_1_1 x0) :
    MF hw GG l y_15 jdk_33_method_13_code 4 (some .int) ws ⟨0, 0, 0, 0⟩ h0 #[(.int x0)] (Qp (some (.int (2 : Int32))) Z h0) := by
  refine own_mF #[.val (.int x0), .unset, .unset, .unset] (plainFor_of_name pn_15) (fun _ => rfl) ?_
  intro p e s m below meth c s₁ u hlk hret hZ hown hnm X0 e0 N0
  obtain ⟨hs, hlo, hhi⟩ := id hD
  have hi0 := own_i0 hs
  refine t_iC X0 u d15_0  ?_
  refine t_isN X0 u d15_1 (l' := #[.val (.int x0), .val v_1, .unset, .unset]) rfl ?_
  refine t_iN X0 u d15_2 rfl ?_
  refine t_ifY 3 11 X0 u rfl d15_3 ((if0 _ _).trans (tlt hs).1) (by decide) ?_
  refine t_bP X0 u d15_11  ?_
  refine t_isN X0 u d15_13 (l' := #[.val (.int x0), .val v_1, .val (.int (-10 : Int32)), .unset]) rfl ?_
  refine t_iC X0 u d15_14  ?_
  refine t_isN X0 u d15_15 (l' := #[.val (.int x0), .val v_1, .val (.int (-10 : Int32)), .val v_1]) rfl ?_
  show Go _ _ _ _ _ _ _ _ s₁ (mkF m 16 #[.val (.int x0), .val v_1, .val (.int (-10 : Int32)), .val v_1] [])
  exact ss_x (own_p1 hi0 (k := 10) rfl (by omega)) X0 u hret hlk e0 N0 (by decide) (by decide) rfl
def Q_gc_1_1 (Z : State) (x0 : Int32) (x2 : Addr) (kk : ClassId) (h0 : Heap) (v : Option Value) (h : Heap) (L : List Loc) : Prop := v = some v_7 ∧ Fr Z.heap.size L ∧ Keep h0 h [x2] ∧ Arv Z h x2 kk .byte (16 : Int32) [v_115, v_116, v_97, v_116, v_117, v_115, v_32, v_45, (.int (bq x0 0))] v_0
theorem rm_gc_1_1 (x0 : Int32) (x2 : Addr) (kk : ClassId) (h0 : Heap) (O0 : Ext Z.heap h0) (hD : Dg_1_1 x0) (g_x2 : Z.heap.size ≤ x2) (V0 : Arv Z h0 x2 kk .byte (16 : Int32) [v_115, v_116, v_97, v_116, v_117, v_115, v_32, v_0, v_0] v_0) :
    MF hw GG l y_17 jdk_33_method_12_code 7 (some .int) ws ⟨0, 0, 0, 0⟩ h0 #[(.int x0), v_9, (.ref x2)] (Q_gc_1_1 Z x0 x2 kk h0) := by
  refine own_mF #[.val (.int x0), .val v_9, .val (.ref x2), .unset, .unset, .unset, .unset] (plainFor_of_name pn_17) (fun _ => rfl) ?_
  intro p e s m below meth c s₁ u hlk hret hZ hown hnm X0 e0 N0
  obtain ⟨hx, hby, hml⟩ := id u
  obtain ⟨hs, hlo, hhi⟩ := id hD
  have hi0 := own_i0 hs
  refine t_iN X0 u d17_0 rfl ?_
  refine t_isL X0 u d17_1 (l' := #[.val (.int x0), .val v_9, .val (.ref x2), .unset, .unset, .val v_9, .unset]) rfl ?_
  refine t_iN X0 u d17_3 rfl ?_
  refine t_ifN X0 u d17_4 ((if0 _ _).trans (tlt hs).2.1) ?_
  refine t_iC X0 u d17_7  ?_
  refine t_go 8 12 X0 u rfl d17_8 (by decide) ?_
  refine t_isL X0 u d17_12 (l' := #[.val (.int x0), .val v_9, .val (.ref x2), .unset, .unset, .val v_9, .val v_1]) rfl ?_
  refine t_iL X0 u d17_14 rfl ?_
  refine t_ifY 16 22 X0 u rfl d17_16 ((if0 _ _).trans (feq (by decide : ¬ ((1 : Int32) = (0 : Int32)))).2) (by decide) ?_
  show Go _ _ _ _ _ _ _ _ s₁ (mkF m 22 #[.val (.int x0), .val v_9, .val (.ref x2), .unset, .unset, .val v_9, .val v_1] [])
  refine gc_1 x0 0 8 hw GG X0 u hZ hown e0 O0 N0 (Keep.refl h0 [x2]) g_x2 V0 hi0 (by simp [Nat.div_div_eq_div_mul]) (p1 := (8 : Int32)) (by omega) (by decide) (Nat.le_of_ble_eq_true rfl) ?_
  intro T1 h1 L1 X1 e1 O1 N1 K1 V1
  refine t_iL X1 u d17_104 rfl ?_
  refine t_ifN X1 u d17_106 ((if0 _ _).trans (feq (by decide : ¬ ((1 : Int32) = (0 : Int32)))).1) ?_
  refine t_aN X1 u d17_109 rfl rfl ?_
  refine t_inc X1 u d17_110 rfl (l' := #[.val (.int x0), .val v_9, .val (.ref x2), .unset, .unset, .val v_7, .val v_1]) rfl ?_
  refine t_iL X1 u d17_113 rfl ?_
  refine t_bP X1 u d17_115  ?_
  refine t_bs 7 X1 u hZ e1 V1 (by decide) (Nat.le_of_ble_eq_true rfl) d17_117 ?_
  intro T2 h2 X2 e2 W2 V2
  have N2_ := Fr.snoc X2 N1 g_x2
  have O2_ := extWr O1 W2 g_x2
  have K2 := Keep.wr K1 W2 k0
  refine t_iL X2 u d17_118 rfl ?_
  exact Go.retI X2 hx hret hlk (hb hby d17_120) (by decide) (by decide) (by show Q_gc_1_1 ..; rw [e2]; exact ⟨rfl, N2_, K2, V2⟩)
theorem rm_ss_1_2 (x0 : Int32) (h0 : Heap) (O0 : Ext Z.heap h0) (hD : Dg_1_2 x0) :
    MF hw GG l y_15 jdk_33_method_13_code 4 (some .int) ws ⟨0, 0, 0, 0⟩ h0 #[(.int x0)] (Qp (some (.int (3 : Int32))) Z h0) := by
  refine own_mF #[.val (.int x0), .unset, .unset, .unset] (plainFor_of_name pn_15) (fun _ => rfl) ?_
  intro p e s m below meth c s₁ u hlk hret hZ hown hnm X0 e0 N0
  obtain ⟨hs, hlo, hhi⟩ := id hD
  have hi0 := own_i0 hs
  refine t_iC X0 u d15_0  ?_
  refine t_isN X0 u d15_1 (l' := #[.val (.int x0), .val v_1, .unset, .unset]) rfl ?_
  refine t_iN X0 u d15_2 rfl ?_
  refine t_ifY 3 11 X0 u rfl d15_3 ((if0 _ _).trans (tlt hs).1) (by decide) ?_
  refine t_bP X0 u d15_11  ?_
  refine t_isN X0 u d15_13 (l' := #[.val (.int x0), .val v_1, .val (.int (-10 : Int32)), .unset]) rfl ?_
  refine t_iC X0 u d15_14  ?_
  refine t_isN X0 u d15_15 (l' := #[.val (.int x0), .val v_1, .val (.int (-10 : Int32)), .val v_1]) rfl ?_
  show Go _ _ _ _ _ _ _ _ s₁ (mkF m 16 #[.val (.int x0), .val v_1, .val (.int (-10 : Int32)), .val v_1] [])
  refine ss_t (P' := (-100 : Int32)) (i' := (2 : Int32)) (own_p0 hi0 (k := 10) rfl (by omega)) X0 u (by decide) ?_
  exact ss_x (own_p1 hi0 (k := 100) rfl (by omega)) X0 u hret hlk e0 N0 (by decide) (by decide) rfl
def Q_gc_1_2 (Z : State) (x0 : Int32) (x2 : Addr) (kk : ClassId) (h0 : Heap) (v : Option Value) (h : Heap) (L : List Loc) : Prop := v = some v_7 ∧ Fr Z.heap.size L ∧ Keep h0 h [x2] ∧ Arv Z h x2 kk .byte (16 : Int32) [v_115, v_116, v_97, v_116, v_117, v_115, v_32, v_45, (.int (bq x0 1)), (.int (bq x0 0))] v_0
theorem rm_gc_1_2 (x0 : Int32) (x2 : Addr) (kk : ClassId) (h0 : Heap) (O0 : Ext Z.heap h0) (hD : Dg_1_2 x0) (g_x2 : Z.heap.size ≤ x2) (V0 : Arv Z h0 x2 kk .byte (16 : Int32) [v_115, v_116, v_97, v_116, v_117, v_115, v_32, v_0, v_0, v_0] v_0) :
    MF hw GG l y_17 jdk_33_method_12_code 7 (some .int) ws ⟨0, 0, 0, 0⟩ h0 #[(.int x0), v_10, (.ref x2)] (Q_gc_1_2 Z x0 x2 kk h0) := by
  refine own_mF #[.val (.int x0), .val v_10, .val (.ref x2), .unset, .unset, .unset, .unset] (plainFor_of_name pn_17) (fun _ => rfl) ?_
  intro p e s m below meth c s₁ u hlk hret hZ hown hnm X0 e0 N0
  obtain ⟨hx, hby, hml⟩ := id u
  obtain ⟨hs, hlo, hhi⟩ := id hD
  have hi0 := own_i0 hs
  refine t_iN X0 u d17_0 rfl ?_
  refine t_isL X0 u d17_1 (l' := #[.val (.int x0), .val v_10, .val (.ref x2), .unset, .unset, .val v_10, .unset]) rfl ?_
  refine t_iN X0 u d17_3 rfl ?_
  refine t_ifN X0 u d17_4 ((if0 _ _).trans (tlt hs).2.1) ?_
  refine t_iC X0 u d17_7  ?_
  refine t_go 8 12 X0 u rfl d17_8 (by decide) ?_
  refine t_isL X0 u d17_12 (l' := #[.val (.int x0), .val v_10, .val (.ref x2), .unset, .unset, .val v_10, .val v_1]) rfl ?_
  refine t_iL X0 u d17_14 rfl ?_
  refine t_ifY 16 22 X0 u rfl d17_16 ((if0 _ _).trans (feq (by decide : ¬ ((1 : Int32) = (0 : Int32)))).2) (by decide) ?_
  show Go _ _ _ _ _ _ _ _ s₁ (mkF m 22 #[.val (.int x0), .val v_10, .val (.ref x2), .unset, .unset, .val v_10, .val v_1] [])
  refine gc_2 x0 0 9 8 hw GG X0 u hZ hown e0 O0 N0 (Keep.refl h0 [x2]) g_x2 V0 hi0 (by simp [Nat.div_div_eq_div_mul]) (p1 := (9 : Int32)) (p2 := (8 : Int32)) ⟨by omega, by omega⟩ (by decide) (by decide) (Nat.le_of_ble_eq_true rfl) (Nat.le_of_ble_eq_true rfl) ?_
  intro T1 h1 L1 X1 e1 O1 N1 K1 V1
  refine t_iL X1 u d17_104 rfl ?_
  refine t_ifN X1 u d17_106 ((if0 _ _).trans (feq (by decide : ¬ ((1 : Int32) = (0 : Int32)))).1) ?_
  refine t_aN X1 u d17_109 rfl rfl ?_
  refine t_inc X1 u d17_110 rfl (l' := #[.val (.int x0), .val v_10, .val (.ref x2), .unset, .unset, .val v_7, .val v_1]) rfl ?_
  refine t_iL X1 u d17_113 rfl ?_
  refine t_bP X1 u d17_115  ?_
  refine t_bs 7 X1 u hZ e1 V1 (by decide) (Nat.le_of_ble_eq_true rfl) d17_117 ?_
  intro T2 h2 X2 e2 W2 V2
  have N2_ := Fr.snoc X2 N1 g_x2
  have O2_ := extWr O1 W2 g_x2
  have K2 := Keep.wr K1 W2 k0
  refine t_iL X2 u d17_118 rfl ?_
  exact Go.retI X2 hx hret hlk (hb hby d17_120) (by decide) (by decide) (by show Q_gc_1_2 ..; rw [e2]; exact ⟨rfl, N2_, K2, V2⟩)
theorem rm_ss_1_3 (x0 : Int32) (h0 : Heap) (O0 : Ext Z.heap h0) (hD : Dg_1_3 x0) :
    MF hw GG l y_15 jdk_33_method_13_code 4 (some .int) ws ⟨0, 0, 0, 0⟩ h0 #[(.int x0)] (Qp (some (.int (4 : Int32))) Z h0) := by
  refine own_mF #[.val (.int x0), .unset, .unset, .unset] (plainFor_of_name pn_15) (fun _ => rfl) ?_
  intro p e s m below meth c s₁ u hlk hret hZ hown hnm X0 e0 N0
  obtain ⟨hs, hlo, hhi⟩ := id hD
  have hi0 := own_i0 hs
  refine t_iC X0 u d15_0  ?_
  refine t_isN X0 u d15_1 (l' := #[.val (.int x0), .val v_1, .unset, .unset]) rfl ?_
  refine t_iN X0 u d15_2 rfl ?_
  refine t_ifY 3 11 X0 u rfl d15_3 ((if0 _ _).trans (tlt hs).1) (by decide) ?_
  refine t_bP X0 u d15_11  ?_
  refine t_isN X0 u d15_13 (l' := #[.val (.int x0), .val v_1, .val (.int (-10 : Int32)), .unset]) rfl ?_
  refine t_iC X0 u d15_14  ?_
  refine t_isN X0 u d15_15 (l' := #[.val (.int x0), .val v_1, .val (.int (-10 : Int32)), .val v_1]) rfl ?_
  show Go _ _ _ _ _ _ _ _ s₁ (mkF m 16 #[.val (.int x0), .val v_1, .val (.int (-10 : Int32)), .val v_1] [])
  refine ss_t (P' := (-100 : Int32)) (i' := (2 : Int32)) (own_p0 hi0 (k := 10) rfl (by omega)) X0 u (by decide) ?_
  refine ss_t (P' := (-1000 : Int32)) (i' := (3 : Int32)) (own_p0 hi0 (k := 100) rfl (by omega)) X0 u (by decide) ?_
  exact ss_x (own_p1 hi0 (k := 1000) rfl (by omega)) X0 u hret hlk e0 N0 (by decide) (by decide) rfl
def Q_gc_1_3 (Z : State) (x0 : Int32) (x2 : Addr) (kk : ClassId) (h0 : Heap) (v : Option Value) (h : Heap) (L : List Loc) : Prop := v = some v_7 ∧ Fr Z.heap.size L ∧ Keep h0 h [x2] ∧ Arv Z h x2 kk .byte (16 : Int32) [v_115, v_116, v_97, v_116, v_117, v_115, v_32, v_45, (.int (bq x0 2)), (.int (bq x0 1)), (.int (bq x0 0))] v_0
theorem rm_gc_1_3 (x0 : Int32) (x2 : Addr) (kk : ClassId) (h0 : Heap) (O0 : Ext Z.heap h0) (hD : Dg_1_3 x0) (g_x2 : Z.heap.size ≤ x2) (V0 : Arv Z h0 x2 kk .byte (16 : Int32) [v_115, v_116, v_97, v_116, v_117, v_115, v_32, v_0, v_0, v_0, v_0] v_0) :
    MF hw GG l y_17 jdk_33_method_12_code 7 (some .int) ws ⟨0, 0, 0, 0⟩ h0 #[(.int x0), v_11, (.ref x2)] (Q_gc_1_3 Z x0 x2 kk h0) := by
  refine own_mF #[.val (.int x0), .val v_11, .val (.ref x2), .unset, .unset, .unset, .unset] (plainFor_of_name pn_17) (fun _ => rfl) ?_
  intro p e s m below meth c s₁ u hlk hret hZ hown hnm X0 e0 N0
  obtain ⟨hx, hby, hml⟩ := id u
  obtain ⟨hs, hlo, hhi⟩ := id hD
  have hi0 := own_i0 hs
  refine t_iN X0 u d17_0 rfl ?_
  refine t_isL X0 u d17_1 (l' := #[.val (.int x0), .val v_11, .val (.ref x2), .unset, .unset, .val v_11, .unset]) rfl ?_
  refine t_iN X0 u d17_3 rfl ?_
  refine t_ifN X0 u d17_4 ((if0 _ _).trans (tlt hs).2.1) ?_
  refine t_iC X0 u d17_7  ?_
  refine t_go 8 12 X0 u rfl d17_8 (by decide) ?_
  refine t_isL X0 u d17_12 (l' := #[.val (.int x0), .val v_11, .val (.ref x2), .unset, .unset, .val v_11, .val v_1]) rfl ?_
  refine t_iL X0 u d17_14 rfl ?_
  refine t_ifY 16 22 X0 u rfl d17_16 ((if0 _ _).trans (feq (by decide : ¬ ((1 : Int32) = (0 : Int32)))).2) (by decide) ?_
  show Go _ _ _ _ _ _ _ _ s₁ (mkF m 22 #[.val (.int x0), .val v_11, .val (.ref x2), .unset, .unset, .val v_11, .val v_1] [])
  refine gc_t x0 0 10 9 hw GG X0 u hZ hown e0 O0 N0 (Keep.refl h0 [x2]) g_x2 V0 hi0 (by simp [Nat.div_div_eq_div_mul]) (p1 := (10 : Int32)) (p2 := (9 : Int32)) (by omega) (by decide) (Nat.le_of_ble_eq_true rfl) (Nat.le_of_ble_eq_true rfl) (fun _ _ => ⟨rfl, rfl⟩) ?_
  intro T1 h1 L1 i1 r1_ X1 e1 O1 N1 K1 V1 hi1
  refine gc_1 x0 2 8 hw GG X1 u hZ hown e1 O1 N1 K1 g_x2 V1 hi1 (by simp [Nat.div_div_eq_div_mul]) (p1 := (8 : Int32)) (by omega) (by decide) (Nat.le_of_ble_eq_true rfl) ?_
  intro T2 h2 L2 X2 e2 O2 N2 K2 V2
  refine t_iL X2 u d17_104 rfl ?_
  refine t_ifN X2 u d17_106 ((if0 _ _).trans (feq (by decide : ¬ ((1 : Int32) = (0 : Int32)))).1) ?_
  refine t_aN X2 u d17_109 rfl rfl ?_
  refine t_inc X2 u d17_110 rfl (l' := #[.val (.int i1), .val v_11, .val (.ref x2), .val (.int i1), .val (.int r1_), .val v_7, .val v_1]) rfl ?_
  refine t_iL X2 u d17_113 rfl ?_
  refine t_bP X2 u d17_115  ?_
  refine t_bs 7 X2 u hZ e2 V2 (by decide) (Nat.le_of_ble_eq_true rfl) d17_117 ?_
  intro T3 h3 X3 e3 W3 V3
  have N3_ := Fr.snoc X3 N2 g_x2
  have O3_ := extWr O2 W3 g_x2
  have K3 := Keep.wr K2 W3 k0
  refine t_iL X3 u d17_118 rfl ?_
  exact Go.retI X3 hx hret hlk (hb hby d17_120) (by decide) (by decide) (by show Q_gc_1_3 ..; rw [e3]; exact ⟨rfl, N3_, K3, V3⟩)
theorem rm_ss_1_4 (x0 : Int32) (h0 : Heap) (O0 : Ext Z.heap h0) (hD : Dg_1_4 x0) :
    MF hw GG l y_15 jdk_33_method_13_code 4 (some .int) ws ⟨0, 0, 0, 0⟩ h0 #[(.int x0)] (Qp (some (.int (5 : Int32))) Z h0) := by
  refine own_mF #[.val (.int x0), .unset, .unset, .unset] (plainFor_of_name pn_15) (fun _ => rfl) ?_
  intro p e s m below meth c s₁ u hlk hret hZ hown hnm X0 e0 N0
  obtain ⟨hs, hlo, hhi⟩ := id hD
  have hi0 := own_i0 hs
  refine t_iC X0 u d15_0  ?_
  refine t_isN X0 u d15_1 (l' := #[.val (.int x0), .val v_1, .unset, .unset]) rfl ?_
  refine t_iN X0 u d15_2 rfl ?_
  refine t_ifY 3 11 X0 u rfl d15_3 ((if0 _ _).trans (tlt hs).1) (by decide) ?_
  refine t_bP X0 u d15_11  ?_
  refine t_isN X0 u d15_13 (l' := #[.val (.int x0), .val v_1, .val (.int (-10 : Int32)), .unset]) rfl ?_
  refine t_iC X0 u d15_14  ?_
  refine t_isN X0 u d15_15 (l' := #[.val (.int x0), .val v_1, .val (.int (-10 : Int32)), .val v_1]) rfl ?_
  show Go _ _ _ _ _ _ _ _ s₁ (mkF m 16 #[.val (.int x0), .val v_1, .val (.int (-10 : Int32)), .val v_1] [])
  refine ss_t (P' := (-100 : Int32)) (i' := (2 : Int32)) (own_p0 hi0 (k := 10) rfl (by omega)) X0 u (by decide) ?_
  refine ss_t (P' := (-1000 : Int32)) (i' := (3 : Int32)) (own_p0 hi0 (k := 100) rfl (by omega)) X0 u (by decide) ?_
  refine ss_t (P' := (-10000 : Int32)) (i' := (4 : Int32)) (own_p0 hi0 (k := 1000) rfl (by omega)) X0 u (by decide) ?_
  exact ss_x (own_p1 hi0 (k := 10000) rfl (by omega)) X0 u hret hlk e0 N0 (by decide) (by decide) rfl
def Q_gc_1_4 (Z : State) (x0 : Int32) (x2 : Addr) (kk : ClassId) (h0 : Heap) (v : Option Value) (h : Heap) (L : List Loc) : Prop := v = some v_7 ∧ Fr Z.heap.size L ∧ Keep h0 h [x2] ∧ Arv Z h x2 kk .byte (16 : Int32) [v_115, v_116, v_97, v_116, v_117, v_115, v_32, v_45, (.int (bq x0 3)), (.int (bq x0 2)), (.int (bq x0 1)), (.int (bq x0 0))] v_0
theorem rm_gc_1_4 (x0 : Int32) (x2 : Addr) (kk : ClassId) (h0 : Heap) (O0 : Ext Z.heap h0) (hD : Dg_1_4 x0) (g_x2 : Z.heap.size ≤ x2) (V0 : Arv Z h0 x2 kk .byte (16 : Int32) [v_115, v_116, v_97, v_116, v_117, v_115, v_32, v_0, v_0, v_0, v_0, v_0] v_0) :
    MF hw GG l y_17 jdk_33_method_12_code 7 (some .int) ws ⟨0, 0, 0, 0⟩ h0 #[(.int x0), v_12, (.ref x2)] (Q_gc_1_4 Z x0 x2 kk h0) := by
  refine own_mF #[.val (.int x0), .val v_12, .val (.ref x2), .unset, .unset, .unset, .unset] (plainFor_of_name pn_17) (fun _ => rfl) ?_
  intro p e s m below meth c s₁ u hlk hret hZ hown hnm X0 e0 N0
  obtain ⟨hx, hby, hml⟩ := id u
  obtain ⟨hs, hlo, hhi⟩ := id hD
  have hi0 := own_i0 hs
  refine t_iN X0 u d17_0 rfl ?_
  refine t_isL X0 u d17_1 (l' := #[.val (.int x0), .val v_12, .val (.ref x2), .unset, .unset, .val v_12, .unset]) rfl ?_
  refine t_iN X0 u d17_3 rfl ?_
  refine t_ifN X0 u d17_4 ((if0 _ _).trans (tlt hs).2.1) ?_
  refine t_iC X0 u d17_7  ?_
  refine t_go 8 12 X0 u rfl d17_8 (by decide) ?_
  refine t_isL X0 u d17_12 (l' := #[.val (.int x0), .val v_12, .val (.ref x2), .unset, .unset, .val v_12, .val v_1]) rfl ?_
  refine t_iL X0 u d17_14 rfl ?_
  refine t_ifY 16 22 X0 u rfl d17_16 ((if0 _ _).trans (feq (by decide : ¬ ((1 : Int32) = (0 : Int32)))).2) (by decide) ?_
  show Go _ _ _ _ _ _ _ _ s₁ (mkF m 22 #[.val (.int x0), .val v_12, .val (.ref x2), .unset, .unset, .val v_12, .val v_1] [])
  refine gc_t x0 0 11 10 hw GG X0 u hZ hown e0 O0 N0 (Keep.refl h0 [x2]) g_x2 V0 hi0 (by simp [Nat.div_div_eq_div_mul]) (p1 := (11 : Int32)) (p2 := (10 : Int32)) (by omega) (by decide) (Nat.le_of_ble_eq_true rfl) (Nat.le_of_ble_eq_true rfl) (fun _ _ => ⟨rfl, rfl⟩) ?_
  intro T1 h1 L1 i1 r1_ X1 e1 O1 N1 K1 V1 hi1
  refine gc_2 x0 2 9 8 hw GG X1 u hZ hown e1 O1 N1 K1 g_x2 V1 hi1 (by simp [Nat.div_div_eq_div_mul]) (p1 := (9 : Int32)) (p2 := (8 : Int32)) ⟨by omega, by omega⟩ (by decide) (by decide) (Nat.le_of_ble_eq_true rfl) (Nat.le_of_ble_eq_true rfl) ?_
  intro T2 h2 L2 X2 e2 O2 N2 K2 V2
  refine t_iL X2 u d17_104 rfl ?_
  refine t_ifN X2 u d17_106 ((if0 _ _).trans (feq (by decide : ¬ ((1 : Int32) = (0 : Int32)))).1) ?_
  refine t_aN X2 u d17_109 rfl rfl ?_
  refine t_inc X2 u d17_110 rfl (l' := #[.val (.int i1), .val v_12, .val (.ref x2), .val (.int i1), .val (.int r1_), .val v_7, .val v_1]) rfl ?_
  refine t_iL X2 u d17_113 rfl ?_
  refine t_bP X2 u d17_115  ?_
  refine t_bs 7 X2 u hZ e2 V2 (by decide) (Nat.le_of_ble_eq_true rfl) d17_117 ?_
  intro T3 h3 X3 e3 W3 V3
  have N3_ := Fr.snoc X3 N2 g_x2
  have O3_ := extWr O2 W3 g_x2
  have K3 := Keep.wr K2 W3 k0
  refine t_iL X3 u d17_118 rfl ?_
  exact Go.retI X3 hx hret hlk (hb hby d17_120) (by decide) (by decide) (by show Q_gc_1_4 ..; rw [e3]; exact ⟨rfl, N3_, K3, V3⟩)
theorem rm_ss_1_5 (x0 : Int32) (h0 : Heap) (O0 : Ext Z.heap h0) (hD : Dg_1_5 x0) :
    MF hw GG l y_15 jdk_33_method_13_code 4 (some .int) ws ⟨0, 0, 0, 0⟩ h0 #[(.int x0)] (Qp (some (.int (6 : Int32))) Z h0) := by
  refine own_mF #[.val (.int x0), .unset, .unset, .unset] (plainFor_of_name pn_15) (fun _ => rfl) ?_
  intro p e s m below meth c s₁ u hlk hret hZ hown hnm X0 e0 N0
  obtain ⟨hs, hlo, hhi⟩ := id hD
  have hi0 := own_i0 hs
  refine t_iC X0 u d15_0  ?_
  refine t_isN X0 u d15_1 (l' := #[.val (.int x0), .val v_1, .unset, .unset]) rfl ?_
  refine t_iN X0 u d15_2 rfl ?_
  refine t_ifY 3 11 X0 u rfl d15_3 ((if0 _ _).trans (tlt hs).1) (by decide) ?_
  refine t_bP X0 u d15_11  ?_
  refine t_isN X0 u d15_13 (l' := #[.val (.int x0), .val v_1, .val (.int (-10 : Int32)), .unset]) rfl ?_
  refine t_iC X0 u d15_14  ?_
  refine t_isN X0 u d15_15 (l' := #[.val (.int x0), .val v_1, .val (.int (-10 : Int32)), .val v_1]) rfl ?_
  show Go _ _ _ _ _ _ _ _ s₁ (mkF m 16 #[.val (.int x0), .val v_1, .val (.int (-10 : Int32)), .val v_1] [])
  refine ss_t (P' := (-100 : Int32)) (i' := (2 : Int32)) (own_p0 hi0 (k := 10) rfl (by omega)) X0 u (by decide) ?_
  refine ss_t (P' := (-1000 : Int32)) (i' := (3 : Int32)) (own_p0 hi0 (k := 100) rfl (by omega)) X0 u (by decide) ?_
  refine ss_t (P' := (-10000 : Int32)) (i' := (4 : Int32)) (own_p0 hi0 (k := 1000) rfl (by omega)) X0 u (by decide) ?_
  refine ss_t (P' := (-100000 : Int32)) (i' := (5 : Int32)) (own_p0 hi0 (k := 10000) rfl (by omega)) X0 u (by decide) ?_
  exact ss_x (own_p1 hi0 (k := 100000) rfl (by omega)) X0 u hret hlk e0 N0 (by decide) (by decide) rfl
def Q_gc_1_5 (Z : State) (x0 : Int32) (x2 : Addr) (kk : ClassId) (h0 : Heap) (v : Option Value) (h : Heap) (L : List Loc) : Prop := v = some v_7 ∧ Fr Z.heap.size L ∧ Keep h0 h [x2] ∧ Arv Z h x2 kk .byte (16 : Int32) [v_115, v_116, v_97, v_116, v_117, v_115, v_32, v_45, (.int (bq x0 4)), (.int (bq x0 3)), (.int (bq x0 2)), (.int (bq x0 1)), (.int (bq x0 0))] v_0
theorem rm_gc_1_5 (x0 : Int32) (x2 : Addr) (kk : ClassId) (h0 : Heap) (O0 : Ext Z.heap h0) (hD : Dg_1_5 x0) (g_x2 : Z.heap.size ≤ x2) (V0 : Arv Z h0 x2 kk .byte (16 : Int32) [v_115, v_116, v_97, v_116, v_117, v_115, v_32, v_0, v_0, v_0, v_0, v_0, v_0] v_0) :
    MF hw GG l y_17 jdk_33_method_12_code 7 (some .int) ws ⟨0, 0, 0, 0⟩ h0 #[(.int x0), v_13, (.ref x2)] (Q_gc_1_5 Z x0 x2 kk h0) := by
  refine own_mF #[.val (.int x0), .val v_13, .val (.ref x2), .unset, .unset, .unset, .unset] (plainFor_of_name pn_17) (fun _ => rfl) ?_
  intro p e s m below meth c s₁ u hlk hret hZ hown hnm X0 e0 N0
  obtain ⟨hx, hby, hml⟩ := id u
  obtain ⟨hs, hlo, hhi⟩ := id hD
  have hi0 := own_i0 hs
  refine t_iN X0 u d17_0 rfl ?_
  refine t_isL X0 u d17_1 (l' := #[.val (.int x0), .val v_13, .val (.ref x2), .unset, .unset, .val v_13, .unset]) rfl ?_
  refine t_iN X0 u d17_3 rfl ?_
  refine t_ifN X0 u d17_4 ((if0 _ _).trans (tlt hs).2.1) ?_
  refine t_iC X0 u d17_7  ?_
  refine t_go 8 12 X0 u rfl d17_8 (by decide) ?_
  refine t_isL X0 u d17_12 (l' := #[.val (.int x0), .val v_13, .val (.ref x2), .unset, .unset, .val v_13, .val v_1]) rfl ?_
  refine t_iL X0 u d17_14 rfl ?_
  refine t_ifY 16 22 X0 u rfl d17_16 ((if0 _ _).trans (feq (by decide : ¬ ((1 : Int32) = (0 : Int32)))).2) (by decide) ?_
  show Go _ _ _ _ _ _ _ _ s₁ (mkF m 22 #[.val (.int x0), .val v_13, .val (.ref x2), .unset, .unset, .val v_13, .val v_1] [])
  refine gc_t x0 0 12 11 hw GG X0 u hZ hown e0 O0 N0 (Keep.refl h0 [x2]) g_x2 V0 hi0 (by simp [Nat.div_div_eq_div_mul]) (p1 := (12 : Int32)) (p2 := (11 : Int32)) (by omega) (by decide) (Nat.le_of_ble_eq_true rfl) (Nat.le_of_ble_eq_true rfl) (fun _ _ => ⟨rfl, rfl⟩) ?_
  intro T1 h1 L1 i1 r1_ X1 e1 O1 N1 K1 V1 hi1
  refine gc_t x0 2 10 9 hw GG X1 u hZ hown e1 O1 N1 K1 g_x2 V1 hi1 (by simp [Nat.div_div_eq_div_mul]) (p1 := (10 : Int32)) (p2 := (9 : Int32)) (by omega) (by decide) (Nat.le_of_ble_eq_true rfl) (Nat.le_of_ble_eq_true rfl) (fun _ _ => ⟨rfl, rfl⟩) ?_
  intro T2 h2 L2 i2 r2_ X2 e2 O2 N2 K2 V2 hi2
  refine gc_1 x0 4 8 hw GG X2 u hZ hown e2 O2 N2 K2 g_x2 V2 hi2 (by simp [Nat.div_div_eq_div_mul]) (p1 := (8 : Int32)) (by omega) (by decide) (Nat.le_of_ble_eq_true rfl) ?_
  intro T3 h3 L3 X3 e3 O3 N3 K3 V3
  refine t_iL X3 u d17_104 rfl ?_
  refine t_ifN X3 u d17_106 ((if0 _ _).trans (feq (by decide : ¬ ((1 : Int32) = (0 : Int32)))).1) ?_
  refine t_aN X3 u d17_109 rfl rfl ?_
  refine t_inc X3 u d17_110 rfl (l' := #[.val (.int i2), .val v_13, .val (.ref x2), .val (.int i2), .val (.int r2_), .val v_7, .val v_1]) rfl ?_
  refine t_iL X3 u d17_113 rfl ?_
  refine t_bP X3 u d17_115  ?_
  refine t_bs 7 X3 u hZ e3 V3 (by decide) (Nat.le_of_ble_eq_true rfl) d17_117 ?_
  intro T4 h4 X4 e4 W4 V4
  have N4_ := Fr.snoc X4 N3 g_x2
  have O4_ := extWr O3 W4 g_x2
  have K4 := Keep.wr K3 W4 k0
  refine t_iL X4 u d17_118 rfl ?_
  exact Go.retI X4 hx hret hlk (hb hby d17_120) (by decide) (by decide) (by show Q_gc_1_5 ..; rw [e4]; exact ⟨rfl, N4_, K4, V4⟩)
theorem rm_ss_1_6 (x0 : Int32) (h0 : Heap) (O0 : Ext Z.heap h0) (hD : Dg_1_6 x0) :
    MF hw GG l y_15 jdk_33_method_13_code 4 (some .int) ws ⟨0, 0, 0, 0⟩ h0 #[(.int x0)] (Qp (some v_7) Z h0) := by
  refine own_mF #[.val (.int x0), .unset, .unset, .unset] (plainFor_of_name pn_15) (fun _ => rfl) ?_
  intro p e s m below meth c s₁ u hlk hret hZ hown hnm X0 e0 N0
  obtain ⟨hs, hlo, hhi⟩ := id hD
  have hi0 := own_i0 hs
  refine t_iC X0 u d15_0  ?_
  refine t_isN X0 u d15_1 (l' := #[.val (.int x0), .val v_1, .unset, .unset]) rfl ?_
  refine t_iN X0 u d15_2 rfl ?_
  refine t_ifY 3 11 X0 u rfl d15_3 ((if0 _ _).trans (tlt hs).1) (by decide) ?_
  refine t_bP X0 u d15_11  ?_
  refine t_isN X0 u d15_13 (l' := #[.val (.int x0), .val v_1, .val (.int (-10 : Int32)), .unset]) rfl ?_
  refine t_iC X0 u d15_14  ?_
  refine t_isN X0 u d15_15 (l' := #[.val (.int x0), .val v_1, .val (.int (-10 : Int32)), .val v_1]) rfl ?_
  show Go _ _ _ _ _ _ _ _ s₁ (mkF m 16 #[.val (.int x0), .val v_1, .val (.int (-10 : Int32)), .val v_1] [])
  refine ss_t (P' := (-100 : Int32)) (i' := (2 : Int32)) (own_p0 hi0 (k := 10) rfl (by omega)) X0 u (by decide) ?_
  refine ss_t (P' := (-1000 : Int32)) (i' := (3 : Int32)) (own_p0 hi0 (k := 100) rfl (by omega)) X0 u (by decide) ?_
  refine ss_t (P' := (-10000 : Int32)) (i' := (4 : Int32)) (own_p0 hi0 (k := 1000) rfl (by omega)) X0 u (by decide) ?_
  refine ss_t (P' := (-100000 : Int32)) (i' := (5 : Int32)) (own_p0 hi0 (k := 10000) rfl (by omega)) X0 u (by decide) ?_
  refine ss_t (P' := (-1000000 : Int32)) (i' := (6 : Int32)) (own_p0 hi0 (k := 100000) rfl (by omega)) X0 u (by decide) ?_
  exact ss_x (own_p1 hi0 (k := 1000000) rfl (by omega)) X0 u hret hlk e0 N0 (by decide) (by decide) rfl
def Q_gc_1_6 (Z : State) (x0 : Int32) (x2 : Addr) (kk : ClassId) (h0 : Heap) (v : Option Value) (h : Heap) (L : List Loc) : Prop := v = some v_7 ∧ Fr Z.heap.size L ∧ Keep h0 h [x2] ∧ Arv Z h x2 kk .byte (16 : Int32) [v_115, v_116, v_97, v_116, v_117, v_115, v_32, v_45, (.int (bq x0 5)), (.int (bq x0 4)), (.int (bq x0 3)), (.int (bq x0 2)), (.int (bq x0 1)), (.int (bq x0 0))] v_0
theorem rm_gc_1_6 (x0 : Int32) (x2 : Addr) (kk : ClassId) (h0 : Heap) (O0 : Ext Z.heap h0) (hD : Dg_1_6 x0) (g_x2 : Z.heap.size ≤ x2) (V0 : Arv Z h0 x2 kk .byte (16 : Int32) [v_115, v_116, v_97, v_116, v_117, v_115, v_32, v_0, v_0, v_0, v_0, v_0, v_0, v_0] v_0) :
    MF hw GG l y_17 jdk_33_method_12_code 7 (some .int) ws ⟨0, 0, 0, 0⟩ h0 #[(.int x0), v_14, (.ref x2)] (Q_gc_1_6 Z x0 x2 kk h0) := by
  refine own_mF #[.val (.int x0), .val v_14, .val (.ref x2), .unset, .unset, .unset, .unset] (plainFor_of_name pn_17) (fun _ => rfl) ?_
  intro p e s m below meth c s₁ u hlk hret hZ hown hnm X0 e0 N0
  obtain ⟨hx, hby, hml⟩ := id u
  obtain ⟨hs, hlo, hhi⟩ := id hD
  have hi0 := own_i0 hs
  refine t_iN X0 u d17_0 rfl ?_
  refine t_isL X0 u d17_1 (l' := #[.val (.int x0), .val v_14, .val (.ref x2), .unset, .unset, .val v_14, .unset]) rfl ?_
  refine t_iN X0 u d17_3 rfl ?_
  refine t_ifN X0 u d17_4 ((if0 _ _).trans (tlt hs).2.1) ?_
  refine t_iC X0 u d17_7  ?_
  refine t_go 8 12 X0 u rfl d17_8 (by decide) ?_
  refine t_isL X0 u d17_12 (l' := #[.val (.int x0), .val v_14, .val (.ref x2), .unset, .unset, .val v_14, .val v_1]) rfl ?_
  refine t_iL X0 u d17_14 rfl ?_
  refine t_ifY 16 22 X0 u rfl d17_16 ((if0 _ _).trans (feq (by decide : ¬ ((1 : Int32) = (0 : Int32)))).2) (by decide) ?_
  show Go _ _ _ _ _ _ _ _ s₁ (mkF m 22 #[.val (.int x0), .val v_14, .val (.ref x2), .unset, .unset, .val v_14, .val v_1] [])
  refine gc_t x0 0 13 12 hw GG X0 u hZ hown e0 O0 N0 (Keep.refl h0 [x2]) g_x2 V0 hi0 (by simp [Nat.div_div_eq_div_mul]) (p1 := (13 : Int32)) (p2 := (12 : Int32)) (by omega) (by decide) (Nat.le_of_ble_eq_true rfl) (Nat.le_of_ble_eq_true rfl) (fun _ _ => ⟨rfl, rfl⟩) ?_
  intro T1 h1 L1 i1 r1_ X1 e1 O1 N1 K1 V1 hi1
  refine gc_t x0 2 11 10 hw GG X1 u hZ hown e1 O1 N1 K1 g_x2 V1 hi1 (by simp [Nat.div_div_eq_div_mul]) (p1 := (11 : Int32)) (p2 := (10 : Int32)) (by omega) (by decide) (Nat.le_of_ble_eq_true rfl) (Nat.le_of_ble_eq_true rfl) (fun _ _ => ⟨rfl, rfl⟩) ?_
  intro T2 h2 L2 i2 r2_ X2 e2 O2 N2 K2 V2 hi2
  refine gc_2 x0 4 9 8 hw GG X2 u hZ hown e2 O2 N2 K2 g_x2 V2 hi2 (by simp [Nat.div_div_eq_div_mul]) (p1 := (9 : Int32)) (p2 := (8 : Int32)) ⟨by omega, by omega⟩ (by decide) (by decide) (Nat.le_of_ble_eq_true rfl) (Nat.le_of_ble_eq_true rfl) ?_
  intro T3 h3 L3 X3 e3 O3 N3 K3 V3
  refine t_iL X3 u d17_104 rfl ?_
  refine t_ifN X3 u d17_106 ((if0 _ _).trans (feq (by decide : ¬ ((1 : Int32) = (0 : Int32)))).1) ?_
  refine t_aN X3 u d17_109 rfl rfl ?_
  refine t_inc X3 u d17_110 rfl (l' := #[.val (.int i2), .val v_14, .val (.ref x2), .val (.int i2), .val (.int r2_), .val v_7, .val v_1]) rfl ?_
  refine t_iL X3 u d17_113 rfl ?_
  refine t_bP X3 u d17_115  ?_
  refine t_bs 7 X3 u hZ e3 V3 (by decide) (Nat.le_of_ble_eq_true rfl) d17_117 ?_
  intro T4 h4 X4 e4 W4 V4
  have N4_ := Fr.snoc X4 N3 g_x2
  have O4_ := extWr O3 W4 g_x2
  have K4 := Keep.wr K3 W4 k0
  refine t_iL X4 u d17_118 rfl ?_
  exact Go.retI X4 hx hret hlk (hb hby d17_120) (by decide) (by decide) (by show Q_gc_1_6 ..; rw [e4]; exact ⟨rfl, N4_, K4, V4⟩)
theorem rm_ss_1_7 (x0 : Int32) (h0 : Heap) (O0 : Ext Z.heap h0) (hD : Dg_1_7 x0) :
    MF hw GG l y_15 jdk_33_method_13_code 4 (some .int) ws ⟨0, 0, 0, 0⟩ h0 #[(.int x0)] (Qp (some v_8) Z h0) := by
  refine own_mF #[.val (.int x0), .unset, .unset, .unset] (plainFor_of_name pn_15) (fun _ => rfl) ?_
  intro p e s m below meth c s₁ u hlk hret hZ hown hnm X0 e0 N0
  obtain ⟨hs, hlo, hhi⟩ := id hD
  have hi0 := own_i0 hs
  refine t_iC X0 u d15_0  ?_
  refine t_isN X0 u d15_1 (l' := #[.val (.int x0), .val v_1, .unset, .unset]) rfl ?_
  refine t_iN X0 u d15_2 rfl ?_
  refine t_ifY 3 11 X0 u rfl d15_3 ((if0 _ _).trans (tlt hs).1) (by decide) ?_
  refine t_bP X0 u d15_11  ?_
  refine t_isN X0 u d15_13 (l' := #[.val (.int x0), .val v_1, .val (.int (-10 : Int32)), .unset]) rfl ?_
  refine t_iC X0 u d15_14  ?_
  refine t_isN X0 u d15_15 (l' := #[.val (.int x0), .val v_1, .val (.int (-10 : Int32)), .val v_1]) rfl ?_
  show Go _ _ _ _ _ _ _ _ s₁ (mkF m 16 #[.val (.int x0), .val v_1, .val (.int (-10 : Int32)), .val v_1] [])
  refine ss_t (P' := (-100 : Int32)) (i' := (2 : Int32)) (own_p0 hi0 (k := 10) rfl (by omega)) X0 u (by decide) ?_
  refine ss_t (P' := (-1000 : Int32)) (i' := (3 : Int32)) (own_p0 hi0 (k := 100) rfl (by omega)) X0 u (by decide) ?_
  refine ss_t (P' := (-10000 : Int32)) (i' := (4 : Int32)) (own_p0 hi0 (k := 1000) rfl (by omega)) X0 u (by decide) ?_
  refine ss_t (P' := (-100000 : Int32)) (i' := (5 : Int32)) (own_p0 hi0 (k := 10000) rfl (by omega)) X0 u (by decide) ?_
  refine ss_t (P' := (-1000000 : Int32)) (i' := (6 : Int32)) (own_p0 hi0 (k := 100000) rfl (by omega)) X0 u (by decide) ?_
  refine ss_t (P' := (-10000000 : Int32)) (i' := (7 : Int32)) (own_p0 hi0 (k := 1000000) rfl (by omega)) X0 u (by decide) ?_
  exact ss_x (own_p1 hi0 (k := 10000000) rfl (by omega)) X0 u hret hlk e0 N0 (by decide) (by decide) rfl
def Q_gc_1_7 (Z : State) (x0 : Int32) (x2 : Addr) (kk : ClassId) (h0 : Heap) (v : Option Value) (h : Heap) (L : List Loc) : Prop := v = some v_7 ∧ Fr Z.heap.size L ∧ Keep h0 h [x2] ∧ Arv Z h x2 kk .byte (16 : Int32) [v_115, v_116, v_97, v_116, v_117, v_115, v_32, v_45, (.int (bq x0 6)), (.int (bq x0 5)), (.int (bq x0 4)), (.int (bq x0 3)), (.int (bq x0 2)), (.int (bq x0 1)), (.int (bq x0 0))] v_0
theorem rm_gc_1_7 (x0 : Int32) (x2 : Addr) (kk : ClassId) (h0 : Heap) (O0 : Ext Z.heap h0) (hD : Dg_1_7 x0) (g_x2 : Z.heap.size ≤ x2) (V0 : Arv Z h0 x2 kk .byte (16 : Int32) [v_115, v_116, v_97, v_116, v_117, v_115, v_32, v_0, v_0, v_0, v_0, v_0, v_0, v_0, v_0] v_0) :
    MF hw GG l y_17 jdk_33_method_12_code 7 (some .int) ws ⟨0, 0, 0, 0⟩ h0 #[(.int x0), v_15, (.ref x2)] (Q_gc_1_7 Z x0 x2 kk h0) := by
  refine own_mF #[.val (.int x0), .val v_15, .val (.ref x2), .unset, .unset, .unset, .unset] (plainFor_of_name pn_17) (fun _ => rfl) ?_
  intro p e s m below meth c s₁ u hlk hret hZ hown hnm X0 e0 N0
  obtain ⟨hx, hby, hml⟩ := id u
  obtain ⟨hs, hlo, hhi⟩ := id hD
  have hi0 := own_i0 hs
  refine t_iN X0 u d17_0 rfl ?_
  refine t_isL X0 u d17_1 (l' := #[.val (.int x0), .val v_15, .val (.ref x2), .unset, .unset, .val v_15, .unset]) rfl ?_
  refine t_iN X0 u d17_3 rfl ?_
  refine t_ifN X0 u d17_4 ((if0 _ _).trans (tlt hs).2.1) ?_
  refine t_iC X0 u d17_7  ?_
  refine t_go 8 12 X0 u rfl d17_8 (by decide) ?_
  refine t_isL X0 u d17_12 (l' := #[.val (.int x0), .val v_15, .val (.ref x2), .unset, .unset, .val v_15, .val v_1]) rfl ?_
  refine t_iL X0 u d17_14 rfl ?_
  refine t_ifY 16 22 X0 u rfl d17_16 ((if0 _ _).trans (feq (by decide : ¬ ((1 : Int32) = (0 : Int32)))).2) (by decide) ?_
  show Go _ _ _ _ _ _ _ _ s₁ (mkF m 22 #[.val (.int x0), .val v_15, .val (.ref x2), .unset, .unset, .val v_15, .val v_1] [])
  refine gc_t x0 0 14 13 hw GG X0 u hZ hown e0 O0 N0 (Keep.refl h0 [x2]) g_x2 V0 hi0 (by simp [Nat.div_div_eq_div_mul]) (p1 := (14 : Int32)) (p2 := (13 : Int32)) (by omega) (by decide) (Nat.le_of_ble_eq_true rfl) (Nat.le_of_ble_eq_true rfl) (fun _ _ => ⟨rfl, rfl⟩) ?_
  intro T1 h1 L1 i1 r1_ X1 e1 O1 N1 K1 V1 hi1
  refine gc_t x0 2 12 11 hw GG X1 u hZ hown e1 O1 N1 K1 g_x2 V1 hi1 (by simp [Nat.div_div_eq_div_mul]) (p1 := (12 : Int32)) (p2 := (11 : Int32)) (by omega) (by decide) (Nat.le_of_ble_eq_true rfl) (Nat.le_of_ble_eq_true rfl) (fun _ _ => ⟨rfl, rfl⟩) ?_
  intro T2 h2 L2 i2 r2_ X2 e2 O2 N2 K2 V2 hi2
  refine gc_t x0 4 10 9 hw GG X2 u hZ hown e2 O2 N2 K2 g_x2 V2 hi2 (by simp [Nat.div_div_eq_div_mul]) (p1 := (10 : Int32)) (p2 := (9 : Int32)) (by omega) (by decide) (Nat.le_of_ble_eq_true rfl) (Nat.le_of_ble_eq_true rfl) (fun _ _ => ⟨rfl, rfl⟩) ?_
  intro T3 h3 L3 i3 r3_ X3 e3 O3 N3 K3 V3 hi3
  refine gc_1 x0 6 8 hw GG X3 u hZ hown e3 O3 N3 K3 g_x2 V3 hi3 (by simp [Nat.div_div_eq_div_mul]) (p1 := (8 : Int32)) (by omega) (by decide) (Nat.le_of_ble_eq_true rfl) ?_
  intro T4 h4 L4 X4 e4 O4 N4 K4 V4
  refine t_iL X4 u d17_104 rfl ?_
  refine t_ifN X4 u d17_106 ((if0 _ _).trans (feq (by decide : ¬ ((1 : Int32) = (0 : Int32)))).1) ?_
  refine t_aN X4 u d17_109 rfl rfl ?_
  refine t_inc X4 u d17_110 rfl (l' := #[.val (.int i3), .val v_15, .val (.ref x2), .val (.int i3), .val (.int r3_), .val v_7, .val v_1]) rfl ?_
  refine t_iL X4 u d17_113 rfl ?_
  refine t_bP X4 u d17_115  ?_
  refine t_bs 7 X4 u hZ e4 V4 (by decide) (Nat.le_of_ble_eq_true rfl) d17_117 ?_
  intro T5 h5 X5 e5 W5 V5
  have N5_ := Fr.snoc X5 N4 g_x2
  have O5_ := extWr O4 W5 g_x2
  have K5 := Keep.wr K4 W5 k0
  refine t_iL X5 u d17_118 rfl ?_
  exact Go.retI X5 hx hret hlk (hb hby d17_120) (by decide) (by decide) (by show Q_gc_1_7 ..; rw [e5]; exact ⟨rfl, N5_, K5, V5⟩)
theorem rm_ss_1_8 (x0 : Int32) (h0 : Heap) (O0 : Ext Z.heap h0) (hD : Dg_1_8 x0) :
    MF hw GG l y_15 jdk_33_method_13_code 4 (some .int) ws ⟨0, 0, 0, 0⟩ h0 #[(.int x0)] (Qp (some v_9) Z h0) := by
  refine own_mF #[.val (.int x0), .unset, .unset, .unset] (plainFor_of_name pn_15) (fun _ => rfl) ?_
  intro p e s m below meth c s₁ u hlk hret hZ hown hnm X0 e0 N0
  obtain ⟨hs, hlo, hhi⟩ := id hD
  have hi0 := own_i0 hs
  refine t_iC X0 u d15_0  ?_
  refine t_isN X0 u d15_1 (l' := #[.val (.int x0), .val v_1, .unset, .unset]) rfl ?_
  refine t_iN X0 u d15_2 rfl ?_
  refine t_ifY 3 11 X0 u rfl d15_3 ((if0 _ _).trans (tlt hs).1) (by decide) ?_
  refine t_bP X0 u d15_11  ?_
  refine t_isN X0 u d15_13 (l' := #[.val (.int x0), .val v_1, .val (.int (-10 : Int32)), .unset]) rfl ?_
  refine t_iC X0 u d15_14  ?_
  refine t_isN X0 u d15_15 (l' := #[.val (.int x0), .val v_1, .val (.int (-10 : Int32)), .val v_1]) rfl ?_
  show Go _ _ _ _ _ _ _ _ s₁ (mkF m 16 #[.val (.int x0), .val v_1, .val (.int (-10 : Int32)), .val v_1] [])
  refine ss_t (P' := (-100 : Int32)) (i' := (2 : Int32)) (own_p0 hi0 (k := 10) rfl (by omega)) X0 u (by decide) ?_
  refine ss_t (P' := (-1000 : Int32)) (i' := (3 : Int32)) (own_p0 hi0 (k := 100) rfl (by omega)) X0 u (by decide) ?_
  refine ss_t (P' := (-10000 : Int32)) (i' := (4 : Int32)) (own_p0 hi0 (k := 1000) rfl (by omega)) X0 u (by decide) ?_
  refine ss_t (P' := (-100000 : Int32)) (i' := (5 : Int32)) (own_p0 hi0 (k := 10000) rfl (by omega)) X0 u (by decide) ?_
  refine ss_t (P' := (-1000000 : Int32)) (i' := (6 : Int32)) (own_p0 hi0 (k := 100000) rfl (by omega)) X0 u (by decide) ?_
  refine ss_t (P' := (-10000000 : Int32)) (i' := (7 : Int32)) (own_p0 hi0 (k := 1000000) rfl (by omega)) X0 u (by decide) ?_
  refine ss_t (P' := (-100000000 : Int32)) (i' := (8 : Int32)) (own_p0 hi0 (k := 10000000) rfl (by omega)) X0 u (by decide) ?_
  exact ss_x (own_p1 hi0 (k := 100000000) rfl (by omega)) X0 u hret hlk e0 N0 (by decide) (by decide) rfl
def Q_gc_1_8 (Z : State) (x0 : Int32) (x2 : Addr) (kk : ClassId) (h0 : Heap) (v : Option Value) (h : Heap) (L : List Loc) : Prop := v = some v_7 ∧ Fr Z.heap.size L ∧ Keep h0 h [x2] ∧ Arv Z h x2 kk .byte (16 : Int32) [v_115, v_116, v_97, v_116, v_117, v_115, v_32, v_45, (.int (bq x0 7)), (.int (bq x0 6)), (.int (bq x0 5)), (.int (bq x0 4)), (.int (bq x0 3)), (.int (bq x0 2)), (.int (bq x0 1)), (.int (bq x0 0))] v_0
theorem rm_gc_1_8 (x0 : Int32) (x2 : Addr) (kk : ClassId) (h0 : Heap) (O0 : Ext Z.heap h0) (hD : Dg_1_8 x0) (g_x2 : Z.heap.size ≤ x2) (V0 : Arv Z h0 x2 kk .byte (16 : Int32) [v_115, v_116, v_97, v_116, v_117, v_115, v_32, v_0, v_0, v_0, v_0, v_0, v_0, v_0, v_0, v_0] v_0) :
    MF hw GG l y_17 jdk_33_method_12_code 7 (some .int) ws ⟨0, 0, 0, 0⟩ h0 #[(.int x0), v_16, (.ref x2)] (Q_gc_1_8 Z x0 x2 kk h0) := by
  refine own_mF #[.val (.int x0), .val v_16, .val (.ref x2), .unset, .unset, .unset, .unset] (plainFor_of_name pn_17) (fun _ => rfl) ?_
  intro p e s m below meth c s₁ u hlk hret hZ hown hnm X0 e0 N0
  obtain ⟨hx, hby, hml⟩ := id u
  obtain ⟨hs, hlo, hhi⟩ := id hD
  have hi0 := own_i0 hs
  refine t_iN X0 u d17_0 rfl ?_
  refine t_isL X0 u d17_1 (l' := #[.val (.int x0), .val v_16, .val (.ref x2), .unset, .unset, .val v_16, .unset]) rfl ?_
  refine t_iN X0 u d17_3 rfl ?_
  refine t_ifN X0 u d17_4 ((if0 _ _).trans (tlt hs).2.1) ?_
  refine t_iC X0 u d17_7  ?_
  refine t_go 8 12 X0 u rfl d17_8 (by decide) ?_
  refine t_isL X0 u d17_12 (l' := #[.val (.int x0), .val v_16, .val (.ref x2), .unset, .unset, .val v_16, .val v_1]) rfl ?_
  refine t_iL X0 u d17_14 rfl ?_
  refine t_ifY 16 22 X0 u rfl d17_16 ((if0 _ _).trans (feq (by decide : ¬ ((1 : Int32) = (0 : Int32)))).2) (by decide) ?_
  show Go _ _ _ _ _ _ _ _ s₁ (mkF m 22 #[.val (.int x0), .val v_16, .val (.ref x2), .unset, .unset, .val v_16, .val v_1] [])
  refine gc_t x0 0 15 14 hw GG X0 u hZ hown e0 O0 N0 (Keep.refl h0 [x2]) g_x2 V0 hi0 (by simp [Nat.div_div_eq_div_mul]) (p1 := (15 : Int32)) (p2 := (14 : Int32)) (by omega) (by decide) (Nat.le_of_ble_eq_true rfl) (Nat.le_of_ble_eq_true rfl) (fun _ _ => ⟨rfl, rfl⟩) ?_
  intro T1 h1 L1 i1 r1_ X1 e1 O1 N1 K1 V1 hi1
  refine gc_t x0 2 13 12 hw GG X1 u hZ hown e1 O1 N1 K1 g_x2 V1 hi1 (by simp [Nat.div_div_eq_div_mul]) (p1 := (13 : Int32)) (p2 := (12 : Int32)) (by omega) (by decide) (Nat.le_of_ble_eq_true rfl) (Nat.le_of_ble_eq_true rfl) (fun _ _ => ⟨rfl, rfl⟩) ?_
  intro T2 h2 L2 i2 r2_ X2 e2 O2 N2 K2 V2 hi2
  refine gc_t x0 4 11 10 hw GG X2 u hZ hown e2 O2 N2 K2 g_x2 V2 hi2 (by simp [Nat.div_div_eq_div_mul]) (p1 := (11 : Int32)) (p2 := (10 : Int32)) (by omega) (by decide) (Nat.le_of_ble_eq_true rfl) (Nat.le_of_ble_eq_true rfl) (fun _ _ => ⟨rfl, rfl⟩) ?_
  intro T3 h3 L3 i3 r3_ X3 e3 O3 N3 K3 V3 hi3
  refine gc_2 x0 6 9 8 hw GG X3 u hZ hown e3 O3 N3 K3 g_x2 V3 hi3 (by simp [Nat.div_div_eq_div_mul]) (p1 := (9 : Int32)) (p2 := (8 : Int32)) ⟨by omega, by omega⟩ (by decide) (by decide) (Nat.le_of_ble_eq_true rfl) (Nat.le_of_ble_eq_true rfl) ?_
  intro T4 h4 L4 X4 e4 O4 N4 K4 V4
  refine t_iL X4 u d17_104 rfl ?_
  refine t_ifN X4 u d17_106 ((if0 _ _).trans (feq (by decide : ¬ ((1 : Int32) = (0 : Int32)))).1) ?_
  refine t_aN X4 u d17_109 rfl rfl ?_
  refine t_inc X4 u d17_110 rfl (l' := #[.val (.int i3), .val v_16, .val (.ref x2), .val (.int i3), .val (.int r3_), .val v_7, .val v_1]) rfl ?_
  refine t_iL X4 u d17_113 rfl ?_
  refine t_bP X4 u d17_115  ?_
  refine t_bs 7 X4 u hZ e4 V4 (by decide) (Nat.le_of_ble_eq_true rfl) d17_117 ?_
  intro T5 h5 X5 e5 W5 V5
  have N5_ := Fr.snoc X5 N4 g_x2
  have O5_ := extWr O4 W5 g_x2
  have K5 := Keep.wr K4 W5 k0
  refine t_iL X5 u d17_118 rfl ?_
  exact Go.retI X5 hx hret hlk (hb hby d17_120) (by decide) (by decide) (by show Q_gc_1_8 ..; rw [e5]; exact ⟨rfl, N5_, K5, V5⟩)
theorem rm_ss_1_9 (x0 : Int32) (h0 : Heap) (O0 : Ext Z.heap h0) (hD : Dg_1_9 x0) :
    MF hw GG l y_15 jdk_33_method_13_code 4 (some .int) ws ⟨0, 0, 0, 0⟩ h0 #[(.int x0)] (Qp (some v_10) Z h0) := by
  refine own_mF #[.val (.int x0), .unset, .unset, .unset] (plainFor_of_name pn_15) (fun _ => rfl) ?_
  intro p e s m below meth c s₁ u hlk hret hZ hown hnm X0 e0 N0
  obtain ⟨hs, hlo, hhi⟩ := id hD
  have hi0 := own_i0 hs
  refine t_iC X0 u d15_0  ?_
  refine t_isN X0 u d15_1 (l' := #[.val (.int x0), .val v_1, .unset, .unset]) rfl ?_
  refine t_iN X0 u d15_2 rfl ?_
  refine t_ifY 3 11 X0 u rfl d15_3 ((if0 _ _).trans (tlt hs).1) (by decide) ?_
  refine t_bP X0 u d15_11  ?_
  refine t_isN X0 u d15_13 (l' := #[.val (.int x0), .val v_1, .val (.int (-10 : Int32)), .unset]) rfl ?_
  refine t_iC X0 u d15_14  ?_
  refine t_isN X0 u d15_15 (l' := #[.val (.int x0), .val v_1, .val (.int (-10 : Int32)), .val v_1]) rfl ?_
  show Go _ _ _ _ _ _ _ _ s₁ (mkF m 16 #[.val (.int x0), .val v_1, .val (.int (-10 : Int32)), .val v_1] [])
  refine ss_t (P' := (-100 : Int32)) (i' := (2 : Int32)) (own_p0 hi0 (k := 10) rfl (by omega)) X0 u (by decide) ?_
  refine ss_t (P' := (-1000 : Int32)) (i' := (3 : Int32)) (own_p0 hi0 (k := 100) rfl (by omega)) X0 u (by decide) ?_
  refine ss_t (P' := (-10000 : Int32)) (i' := (4 : Int32)) (own_p0 hi0 (k := 1000) rfl (by omega)) X0 u (by decide) ?_
  refine ss_t (P' := (-100000 : Int32)) (i' := (5 : Int32)) (own_p0 hi0 (k := 10000) rfl (by omega)) X0 u (by decide) ?_
  refine ss_t (P' := (-1000000 : Int32)) (i' := (6 : Int32)) (own_p0 hi0 (k := 100000) rfl (by omega)) X0 u (by decide) ?_
  refine ss_t (P' := (-10000000 : Int32)) (i' := (7 : Int32)) (own_p0 hi0 (k := 1000000) rfl (by omega)) X0 u (by decide) ?_
  refine ss_t (P' := (-100000000 : Int32)) (i' := (8 : Int32)) (own_p0 hi0 (k := 10000000) rfl (by omega)) X0 u (by decide) ?_
  refine ss_t (P' := (-1000000000 : Int32)) (i' := (9 : Int32)) (own_p0 hi0 (k := 100000000) rfl (by omega)) X0 u (by decide) ?_
  exact ss_x (own_p1 hi0 (k := 1000000000) rfl (by omega)) X0 u hret hlk e0 N0 (by decide) (by decide) rfl
def Q_gc_1_9 (Z : State) (x0 : Int32) (x2 : Addr) (kk : ClassId) (h0 : Heap) (v : Option Value) (h : Heap) (L : List Loc) : Prop := v = some v_7 ∧ Fr Z.heap.size L ∧ Keep h0 h [x2] ∧ Arv Z h x2 kk .byte (34 : Int32) [v_115, v_116, v_97, v_116, v_117, v_115, v_32, v_45, (.int (bq x0 8)), (.int (bq x0 7)), (.int (bq x0 6)), (.int (bq x0 5)), (.int (bq x0 4)), (.int (bq x0 3)), (.int (bq x0 2)), (.int (bq x0 1)), (.int (bq x0 0))] v_0
theorem rm_gc_1_9 (x0 : Int32) (x2 : Addr) (kk : ClassId) (h0 : Heap) (O0 : Ext Z.heap h0) (hD : Dg_1_9 x0) (g_x2 : Z.heap.size ≤ x2) (V0 : Arv Z h0 x2 kk .byte (34 : Int32) [v_115, v_116, v_97, v_116, v_117, v_115, v_32, v_0, v_0, v_0, v_0, v_0, v_0, v_0, v_0, v_0, v_0] v_0) :
    MF hw GG l y_17 jdk_33_method_12_code 7 (some .int) ws ⟨0, 0, 0, 0⟩ h0 #[(.int x0), v_17, (.ref x2)] (Q_gc_1_9 Z x0 x2 kk h0) := by
  refine own_mF #[.val (.int x0), .val v_17, .val (.ref x2), .unset, .unset, .unset, .unset] (plainFor_of_name pn_17) (fun _ => rfl) ?_
  intro p e s m below meth c s₁ u hlk hret hZ hown hnm X0 e0 N0
  obtain ⟨hx, hby, hml⟩ := id u
  obtain ⟨hs, hlo, hhi⟩ := id hD
  have hi0 := own_i0 hs
  refine t_iN X0 u d17_0 rfl ?_
  refine t_isL X0 u d17_1 (l' := #[.val (.int x0), .val v_17, .val (.ref x2), .unset, .unset, .val v_17, .unset]) rfl ?_
  refine t_iN X0 u d17_3 rfl ?_
  refine t_ifN X0 u d17_4 ((if0 _ _).trans (tlt hs).2.1) ?_
  refine t_iC X0 u d17_7  ?_
  refine t_go 8 12 X0 u rfl d17_8 (by decide) ?_
  refine t_isL X0 u d17_12 (l' := #[.val (.int x0), .val v_17, .val (.ref x2), .unset, .unset, .val v_17, .val v_1]) rfl ?_
  refine t_iL X0 u d17_14 rfl ?_
  refine t_ifY 16 22 X0 u rfl d17_16 ((if0 _ _).trans (feq (by decide : ¬ ((1 : Int32) = (0 : Int32)))).2) (by decide) ?_
  show Go _ _ _ _ _ _ _ _ s₁ (mkF m 22 #[.val (.int x0), .val v_17, .val (.ref x2), .unset, .unset, .val v_17, .val v_1] [])
  refine gc_t x0 0 16 15 hw GG X0 u hZ hown e0 O0 N0 (Keep.refl h0 [x2]) g_x2 V0 hi0 (by simp [Nat.div_div_eq_div_mul]) (p1 := (16 : Int32)) (p2 := (15 : Int32)) (by omega) (by decide) (Nat.le_of_ble_eq_true rfl) (Nat.le_of_ble_eq_true rfl) (fun _ _ => ⟨rfl, rfl⟩) ?_
  intro T1 h1 L1 i1 r1_ X1 e1 O1 N1 K1 V1 hi1
  refine gc_t x0 2 14 13 hw GG X1 u hZ hown e1 O1 N1 K1 g_x2 V1 hi1 (by simp [Nat.div_div_eq_div_mul]) (p1 := (14 : Int32)) (p2 := (13 : Int32)) (by omega) (by decide) (Nat.le_of_ble_eq_true rfl) (Nat.le_of_ble_eq_true rfl) (fun _ _ => ⟨rfl, rfl⟩) ?_
  intro T2 h2 L2 i2 r2_ X2 e2 O2 N2 K2 V2 hi2
  refine gc_t x0 4 12 11 hw GG X2 u hZ hown e2 O2 N2 K2 g_x2 V2 hi2 (by simp [Nat.div_div_eq_div_mul]) (p1 := (12 : Int32)) (p2 := (11 : Int32)) (by omega) (by decide) (Nat.le_of_ble_eq_true rfl) (Nat.le_of_ble_eq_true rfl) (fun _ _ => ⟨rfl, rfl⟩) ?_
  intro T3 h3 L3 i3 r3_ X3 e3 O3 N3 K3 V3 hi3
  refine gc_t x0 6 10 9 hw GG X3 u hZ hown e3 O3 N3 K3 g_x2 V3 hi3 (by simp [Nat.div_div_eq_div_mul]) (p1 := (10 : Int32)) (p2 := (9 : Int32)) (by omega) (by decide) (Nat.le_of_ble_eq_true rfl) (Nat.le_of_ble_eq_true rfl) (fun _ _ => ⟨rfl, rfl⟩) ?_
  intro T4 h4 L4 i4 r4_ X4 e4 O4 N4 K4 V4 hi4
  refine gc_1 x0 8 8 hw GG X4 u hZ hown e4 O4 N4 K4 g_x2 V4 hi4 (by simp [Nat.div_div_eq_div_mul]) (p1 := (8 : Int32)) (by omega) (by decide) (Nat.le_of_ble_eq_true rfl) ?_
  intro T5 h5 L5 X5 e5 O5 N5 K5 V5
  refine t_iL X5 u d17_104 rfl ?_
  refine t_ifN X5 u d17_106 ((if0 _ _).trans (feq (by decide : ¬ ((1 : Int32) = (0 : Int32)))).1) ?_
  refine t_aN X5 u d17_109 rfl rfl ?_
  refine t_inc X5 u d17_110 rfl (l' := #[.val (.int i4), .val v_17, .val (.ref x2), .val (.int i4), .val (.int r4_), .val v_7, .val v_1]) rfl ?_
  refine t_iL X5 u d17_113 rfl ?_
  refine t_bP X5 u d17_115  ?_
  refine t_bs 7 X5 u hZ e5 V5 (by decide) (Nat.le_of_ble_eq_true rfl) d17_117 ?_
  intro T6 h6 X6 e6 W6 V6
  have N6_ := Fr.snoc X6 N5 g_x2
  have O6_ := extWr O5 W6 g_x2
  have K6 := Keep.wr K5 W6 k0
  refine t_iL X6 u d17_118 rfl ?_
  exact Go.retI X6 hx hret hlk (hb hby d17_120) (by decide) (by decide) (by show Q_gc_1_9 ..; rw [e6]; exact ⟨rfl, N6_, K6, V6⟩)
theorem rm_ss_1_10 (x0 : Int32) (h0 : Heap) (O0 : Ext Z.heap h0) (hD : Dg_1_10 x0) :
    MF hw GG l y_15 jdk_33_method_13_code 4 (some .int) ws ⟨0, 0, 0, 0⟩ h0 #[(.int x0)] (Qp (some v_11) Z h0) := by
  refine own_mF #[.val (.int x0), .unset, .unset, .unset] (plainFor_of_name pn_15) (fun _ => rfl) ?_
  intro p e s m below meth c s₁ u hlk hret hZ hown hnm X0 e0 N0
  obtain ⟨hs, hlo, hhi⟩ := id hD
  have hi0 := own_i0 hs
  refine t_iC X0 u d15_0  ?_
  refine t_isN X0 u d15_1 (l' := #[.val (.int x0), .val v_1, .unset, .unset]) rfl ?_
  refine t_iN X0 u d15_2 rfl ?_
  refine t_ifY 3 11 X0 u rfl d15_3 ((if0 _ _).trans (tlt hs).1) (by decide) ?_
  refine t_bP X0 u d15_11  ?_
  refine t_isN X0 u d15_13 (l' := #[.val (.int x0), .val v_1, .val (.int (-10 : Int32)), .unset]) rfl ?_
  refine t_iC X0 u d15_14  ?_
  refine t_isN X0 u d15_15 (l' := #[.val (.int x0), .val v_1, .val (.int (-10 : Int32)), .val v_1]) rfl ?_
  show Go _ _ _ _ _ _ _ _ s₁ (mkF m 16 #[.val (.int x0), .val v_1, .val (.int (-10 : Int32)), .val v_1] [])
  refine ss_t (P' := (-100 : Int32)) (i' := (2 : Int32)) (own_p0 hi0 (k := 10) rfl (by omega)) X0 u (by decide) ?_
  refine ss_t (P' := (-1000 : Int32)) (i' := (3 : Int32)) (own_p0 hi0 (k := 100) rfl (by omega)) X0 u (by decide) ?_
  refine ss_t (P' := (-10000 : Int32)) (i' := (4 : Int32)) (own_p0 hi0 (k := 1000) rfl (by omega)) X0 u (by decide) ?_
  refine ss_t (P' := (-100000 : Int32)) (i' := (5 : Int32)) (own_p0 hi0 (k := 10000) rfl (by omega)) X0 u (by decide) ?_
  refine ss_t (P' := (-1000000 : Int32)) (i' := (6 : Int32)) (own_p0 hi0 (k := 100000) rfl (by omega)) X0 u (by decide) ?_
  refine ss_t (P' := (-10000000 : Int32)) (i' := (7 : Int32)) (own_p0 hi0 (k := 1000000) rfl (by omega)) X0 u (by decide) ?_
  refine ss_t (P' := (-100000000 : Int32)) (i' := (8 : Int32)) (own_p0 hi0 (k := 10000000) rfl (by omega)) X0 u (by decide) ?_
  refine ss_t (P' := (-1000000000 : Int32)) (i' := (9 : Int32)) (own_p0 hi0 (k := 100000000) rfl (by omega)) X0 u (by decide) ?_
  refine ss_t (P' := (-1410065408 : Int32)) (i' := (10 : Int32)) (own_p0 hi0 (k := 1000000000) rfl (by omega)) X0 u (by decide) ?_
  refine t_iN X0 u d15_16 rfl ?_
  refine t_bP X0 u d15_17  ?_
  refine t_icY 19 42 X0 u rfl d15_19 (flt (by decide : ¬ ((10 : Int32) < (10 : Int32)))).2.1 (by decide) ?_
  refine t_bP X0 u d15_42  ?_
  refine t_iN X0 u d15_44 rfl ?_
  refine t_iadd X0 u d15_45  ?_
  exact t_rI X0 u hret hlk d15_46 e0 N0 (by decide)
def Q_gc_1_10 (Z : State) (x0 : Int32) (x2 : Addr) (kk : ClassId) (h0 : Heap) (v : Option Value) (h : Heap) (L : List Loc) : Prop := v = some v_7 ∧ Fr Z.heap.size L ∧ Keep h0 h [x2] ∧ Arv Z h x2 kk .byte (34 : Int32) [v_115, v_116, v_97, v_116, v_117, v_115, v_32, v_45, (.int (bq x0 9)), (.int (bq x0 8)), (.int (bq x0 7)), (.int (bq x0 6)), (.int (bq x0 5)), (.int (bq x0 4)), (.int (bq x0 3)), (.int (bq x0 2)), (.int (bq x0 1)), (.int (bq x0 0))] v_0
theorem rm_gc_1_10 (x0 : Int32) (x2 : Addr) (kk : ClassId) (h0 : Heap) (O0 : Ext Z.heap h0) (hD : Dg_1_10 x0) (g_x2 : Z.heap.size ≤ x2) (V0 : Arv Z h0 x2 kk .byte (34 : Int32) [v_115, v_116, v_97, v_116, v_117, v_115, v_32, v_0, v_0, v_0, v_0, v_0, v_0, v_0, v_0, v_0, v_0, v_0] v_0) :
    MF hw GG l y_17 jdk_33_method_12_code 7 (some .int) ws ⟨0, 0, 0, 0⟩ h0 #[(.int x0), v_18, (.ref x2)] (Q_gc_1_10 Z x0 x2 kk h0) := by
  refine own_mF #[.val (.int x0), .val v_18, .val (.ref x2), .unset, .unset, .unset, .unset] (plainFor_of_name pn_17) (fun _ => rfl) ?_
  intro p e s m below meth c s₁ u hlk hret hZ hown hnm X0 e0 N0
  obtain ⟨hx, hby, hml⟩ := id u
  obtain ⟨hs, hlo, hhi⟩ := id hD
  have hi0 := own_i0 hs
  refine t_iN X0 u d17_0 rfl ?_
  refine t_isL X0 u d17_1 (l' := #[.val (.int x0), .val v_18, .val (.ref x2), .unset, .unset, .val v_18, .unset]) rfl ?_
  refine t_iN X0 u d17_3 rfl ?_
  refine t_ifN X0 u d17_4 ((if0 _ _).trans (tlt hs).2.1) ?_
  refine t_iC X0 u d17_7  ?_
  refine t_go 8 12 X0 u rfl d17_8 (by decide) ?_
  refine t_isL X0 u d17_12 (l' := #[.val (.int x0), .val v_18, .val (.ref x2), .unset, .unset, .val v_18, .val v_1]) rfl ?_
  refine t_iL X0 u d17_14 rfl ?_
  refine t_ifY 16 22 X0 u rfl d17_16 ((if0 _ _).trans (feq (by decide : ¬ ((1 : Int32) = (0 : Int32)))).2) (by decide) ?_
  show Go _ _ _ _ _ _ _ _ s₁ (mkF m 22 #[.val (.int x0), .val v_18, .val (.ref x2), .unset, .unset, .val v_18, .val v_1] [])
  refine gc_t x0 0 17 16 hw GG X0 u hZ hown e0 O0 N0 (Keep.refl h0 [x2]) g_x2 V0 hi0 (by simp [Nat.div_div_eq_div_mul]) (p1 := (17 : Int32)) (p2 := (16 : Int32)) (by omega) (by decide) (Nat.le_of_ble_eq_true rfl) (Nat.le_of_ble_eq_true rfl) (fun _ _ => ⟨rfl, rfl⟩) ?_
  intro T1 h1 L1 i1 r1_ X1 e1 O1 N1 K1 V1 hi1
  refine gc_t x0 2 15 14 hw GG X1 u hZ hown e1 O1 N1 K1 g_x2 V1 hi1 (by simp [Nat.div_div_eq_div_mul]) (p1 := (15 : Int32)) (p2 := (14 : Int32)) (by omega) (by decide) (Nat.le_of_ble_eq_true rfl) (Nat.le_of_ble_eq_true rfl) (fun _ _ => ⟨rfl, rfl⟩) ?_
  intro T2 h2 L2 i2 r2_ X2 e2 O2 N2 K2 V2 hi2
  refine gc_t x0 4 13 12 hw GG X2 u hZ hown e2 O2 N2 K2 g_x2 V2 hi2 (by simp [Nat.div_div_eq_div_mul]) (p1 := (13 : Int32)) (p2 := (12 : Int32)) (by omega) (by decide) (Nat.le_of_ble_eq_true rfl) (Nat.le_of_ble_eq_true rfl) (fun _ _ => ⟨rfl, rfl⟩) ?_
  intro T3 h3 L3 i3 r3_ X3 e3 O3 N3 K3 V3 hi3
  refine gc_t x0 6 11 10 hw GG X3 u hZ hown e3 O3 N3 K3 g_x2 V3 hi3 (by simp [Nat.div_div_eq_div_mul]) (p1 := (11 : Int32)) (p2 := (10 : Int32)) (by omega) (by decide) (Nat.le_of_ble_eq_true rfl) (Nat.le_of_ble_eq_true rfl) (fun _ _ => ⟨rfl, rfl⟩) ?_
  intro T4 h4 L4 i4 r4_ X4 e4 O4 N4 K4 V4 hi4
  refine gc_2 x0 8 9 8 hw GG X4 u hZ hown e4 O4 N4 K4 g_x2 V4 hi4 (by simp [Nat.div_div_eq_div_mul]) (p1 := (9 : Int32)) (p2 := (8 : Int32)) ⟨by omega, by omega⟩ (by decide) (by decide) (Nat.le_of_ble_eq_true rfl) (Nat.le_of_ble_eq_true rfl) ?_
  intro T5 h5 L5 X5 e5 O5 N5 K5 V5
  refine t_iL X5 u d17_104 rfl ?_
  refine t_ifN X5 u d17_106 ((if0 _ _).trans (feq (by decide : ¬ ((1 : Int32) = (0 : Int32)))).1) ?_
  refine t_aN X5 u d17_109 rfl rfl ?_
  refine t_inc X5 u d17_110 rfl (l' := #[.val (.int i4), .val v_18, .val (.ref x2), .val (.int i4), .val (.int r4_), .val v_7, .val v_1]) rfl ?_
  refine t_iL X5 u d17_113 rfl ?_
  refine t_bP X5 u d17_115  ?_
  refine t_bs 7 X5 u hZ e5 V5 (by decide) (Nat.le_of_ble_eq_true rfl) d17_117 ?_
  intro T6 h6 X6 e6 W6 V6
  have N6_ := Fr.snoc X6 N5 g_x2
  have O6_ := extWr O5 W6 g_x2
  have K6 := Keep.wr K5 W6 k0
  refine t_iL X6 u d17_118 rfl ?_
  exact Go.retI X6 hx hret hlk (hb hby d17_120) (by decide) (by decide) (by show Q_gc_1_10 ..; rw [e6]; exact ⟨rfl, N6_, K6, V6⟩)
theorem own_tr (L : List Value) (k : Nat) (d : Value) (i : Nat) : L.getD i d = (L ++ List.replicate k d).getD i d := by
  simp only [List.getD_eq_getElem?_getD, List.getElem?_append]
  split
  · rfl
  · rw [List.getElem?_eq_none (by omega), List.getElem?_replicate]; split <;> rfl
theorem own_wS {Z : State} {a0 : Array Value} (hw : ∀ d ∈ tables_1, d.before a0 Z = true) : ∀ a ∈ Bundle.stringAtoms, a.before a0 Z = true := by
  intro a ha
  simp only [Bundle.stringAtoms, List.mem_cons, List.not_mem_nil, or_false] at ha
  rcases ha with rfl | rfl | rfl | rfl | rfl | rfl | rfl
  · exact (wd hw 22 rfl)
  · exact (wd hw 29 rfl)
  · exact (wd hw 23 rfl)
  · exact (wd hw 30 rfl)
  · exact (wd hw 31 rfl)
  · exact (wd hw 32 rfl)
  · exact (wd hw 33 rfl)
theorem own_EW {Z : State} {a0 : Array Value} (hw : HW Z a0) : EW Z a0 consts_1 := (EW.cons (wd hw 28 rfl) (by decide) EW.nil)
theorem al0 {Z : State} {a0 : Array Value} : ∀ d ∈ ([] : List Jvm.Cond), d.before a0 Z = true := fun _ q => nomatch q
theorem alS {Z : State} {a0 : Array Value} {d : Jvm.Cond} {L : List Jvm.Cond} (n : d.before a0 Z = true) (r : ∀ d ∈ L, d.before a0 Z = true) : ∀ x ∈ d :: L, x.before a0 Z = true := fun x q => by
  rcases List.mem_cons.mp q with rfl | q
  · exact n
  · exact r x q
theorem own_frb {L : List Loc} {a : Addr} {k : Nat} (b : ∀ y ∈ L, y.base = a) (q : k ≤ a) : Fr k L := fun y hy => by rw [b y hy]; exact q
theorem own_tw {Z : State} {a0 : Array Value} (hw : HW Z a0) : ∀ d ∈ TW "com/example/layout_to_rows/layouttorows/harvest/FetchException", d.before a0 Z = true := (alS (wd hw 161 rfl) (alS (wd hw 179 rfl) (alS (wd hw 174 rfl) (alS (wd hw 180 rfl) (alS (wd hw 181 rfl) (alS (wd hw 182 rfl) (alS (wd hw 19 rfl) (alS (wd hw 20 rfl) (alS (wd hw 163 rfl) (alS (wd hw 172 rfl) (alS (wd hw 185 rfl) (alS (wd hw 164 rfl) (alS (wd hw 167 rfl) (alS (wd hw 170 rfl) (alS (wd hw 166 rfl) (alS (wd hw 192 rfl) (alS (wd hw 169 rfl) (alS (wd hw 193 rfl) (alS (wd hw 165 rfl) (alS (wd hw 168 rfl) (alS (wd hw 171 rfl) (alS (wd hw 195 rfl) (alS (wd hw 196 rfl) (alS (wd hw 197 rfl) (alS (wd hw 190 rfl) (alS (wd hw 176 rfl) (alS (wd hw 177 rfl) (alS (wd hw 178 rfl) (alS (wd hw 194 rfl) (alS (wd hw 175 rfl) (alS (wd hw 173 rfl) al0)))))))))))))))))))))))))))))))
theorem pn_30 : plainName "java/lang/Throwable" = true := by first | (simp [plainName, overriddenIn]; done) | decide +kernel
def Q_ti (Z : State) (x0 x1 : Addr) (h0 : Heap) (v : Option Value) (h : Heap) (L : List Loc) : Prop := v = none ∧ Fr Z.heap.size L ∧ Keep h0 h [x0] ∧ ex_1 Z h x0 ∧ Unt h x0 ∧ fl_0 Z h x0 (.ref x1) ∧ fl_1 Z h x0 .null
theorem rm_ti (l : Launch) (Z : State) (a0 : Array Value) (hw : HW Z a0) (ws : List Jvm.Cond) (G : GT) (GG : GP Z G) (x0 x1 : Addr) (h0 : Heap) (O0 : Ext Z.heap h0) (hl : l.stackTraces = true) (g_x0 : Z.heap.size ≤ x0) (A0 : ex_1 Z h0 x0) (U0 : Unt h0 x0) (B0 : fl_2 Z h0 x0 .null) :
    MetK l y_30 jdk_78_method_3_code 3 none ws ⟨3, 1, 2752, 42⟩ Z h0 #[(.ref x0), (.ref x1), .null] (Q_ti Z x0 x1 h0) := by
  refine own_metK "java/lang/Throwable" (plainFor_of_name pn_30) rfl #[.val (.ref x0), .val (.ref x1), .val .null] (fun _ => by first | (simp [entryFrame, mkF, argsToLocals, Value.category]; done) | rfl) ?_
  intro p e s m below meth c s₁ hx hby hlk hret hml hZ hown hnm X0 e0 hh hTK hBl
  have N0 := Fr.nil Z.heap.size
  have u : UB p c _ _ := ⟨hx, hby, hml⟩
  obtain ⟨v_cause, F_cause⟩ := fld_laid A0 U0.known (wd hw 5 rfl) (Or.inl (wd hw 165 rfl))
  obtain ⟨v_stackTrace, F_stackTrace⟩ := fld_laid A0 U0.known (wd hw 5 rfl) (Or.inl (wd hw 168 rfl))
  obtain ⟨v_suppressedExceptions, F_suppressedExceptions⟩ := fld_laid A0 U0.known (wd hw 5 rfl) (Or.inl (wd hw 171 rfl))
  obtain ⟨v_detailMessage, F_detailMessage⟩ := fld_laid A0 U0.known (wd hw 5 rfl) (Or.inl (wd hw 195 rfl))
  refine t_aN X0 u d30_0 rfl rfl ?_
  refine t_in 0 X0 u hZ hown (wd hw 163 rfl) (wd hw 19 rfl) (wd hw 20 rfl) e0 rfl d30_1 rfl (by decide) ?_
  intro T1 X1 e1
  refine t_aN X1 u d30_4 rfl rfl ?_
  refine t_aN X1 u d30_5 rfl rfl ?_
  refine t_pF X1 u hZ hown (wd hw 164 rfl) e1 F_cause A0 (Or.inl (wd hw 165 rfl)) (wd hw 5 rfl) pf_Ljava_lang_Throwable_ rfl rfl d30_6 ?_
  intro T2 h2 X2 e2 W2
  have N2_ := Fr.snoc X2 N0 g_x0
  have O2_ := extWr O0 W2 g_x0
  have K2 := Keep.wr (Keep.refl h0 [x0]) W2 k0
  have F2 := Fld.same W2 F_cause
  refine t_aN X2 u d30_9 rfl rfl ?_
  refine t_gS X2 u hZ hown (wd hw 166 rfl) e2 (Sta.ext O2_ GG.S_us) d30_10 ?_
  intro T3 X3 e3
  refine t_pF X3 u hZ hown (wd hw 167 rfl) e3 (fR W2 F_stackTrace (sn_0 hw)) (Exa.wr W2 A0) (Or.inl (wd hw 168 rfl)) (wd hw 5 rfl) pf_ALjava_lang_StackTraceElement_ rfl rfl d30_13 ?_
  intro T4 h4 X4 e4 W4
  have N4_ := Fr.snoc X4 N2_ g_x0
  have O4_ := extWr O2_ W4 g_x0
  have K4 := Keep.wr K2 W4 k0
  have F4 := Fld.same W4 (fR W2 F_stackTrace (sn_0 hw))
  refine t_aN X4 u d30_16 rfl rfl ?_
  refine t_gS X4 u hZ hown (wd hw 169 rfl) e4 (Sta.ext O4_ GG.S_ss) d30_17 ?_
  intro T5 X5 e5
  have f6 := (fR W4 (fR W2 F_suppressedExceptions (sn_1 hw)) (sn_2 hw))
  refine t_pF X5 u hZ hown (wd hw 170 rfl) e5 f6 (Exa.wr W4 (Exa.wr W2 A0)) (Or.inl (wd hw 171 rfl)) (wd hw 5 rfl) pf_Ljava_util_List_ rfl rfl d30_20 ?_
  intro T7 h7 X7 e7 W7
  have N7_ := Fr.snoc X7 N4_ g_x0
  have O7_ := extWr O4_ W7 g_x0
  have K7 := Keep.wr K4 W7 k0
  have F7 := Fld.same W7 f6
  refine t_aN X7 u d30_23 rfl rfl ?_
  have f9 := (fR W7 (fR W4 (fR W2 B0 (sn_3 hw)) (sn_4 hw)) (sn_5 hw))
  obtain ⟨T8, h8, L8, X8, e8, bL8, Kq8, U8, st8⟩ := own_fill X7 hx hl hZ (by rw [hh]; exact ThS.ext O0 ThS.start) (own_tw hw) (wd hw 5 rfl) hown hTK hBl e7 (Exa.wr W7 (Exa.wr W4 (Exa.wr W2 A0))) (Unt.wr W7 (Unt.wr W4 (Unt.wr W2 U0))) f9 (fS W7 F4 (sn_2 hw)) (Sta.ext O7_ GG.S_us) (g := (mkF m 24 #[.val (.ref x0), .val (.ref x1), .val .null] [(.ref x0)])) rfl (by rw [hml]; rfl) (rest := []) rfl (hb hby d30_24) (by decide) (W0 := 0) (by show 2 * 0 + _ ≤ _; exact Nat.le_of_eq rfl) (by decide) (by decide) (by decide)
  have O8_ := extKeep O7_ Kq8 (allS g_x0 all0)
  have K8 := Keep.trans K7 Kq8 (allS k0 all0)
  have N8_ := Fr.app N7_ (own_frb bL8 g_x0)
  have A8 := ((Exa.wr W7 (Exa.wr W4 (Exa.wr W2 A0)))).keep Kq8
  obtain ⟨w_detailMessage, G_detailMessage⟩ := fld_laid A8 U8.known (wd hw 5 rfl) (Or.inl (wd hw 195 rfl))
  obtain ⟨w_cause, G_cause⟩ := fld_laid A8 U8.known (wd hw 5 rfl) (Or.inl (wd hw 165 rfl))
  refine Go.trans st8 ?_
  refine t_pop X8 u d30_27 rfl ?_
  refine t_aN X8 u d30_28 rfl rfl ?_
  refine t_aN X8 u d30_29 rfl rfl ?_
  refine t_pF X8 u hZ hown (wd hw 199 rfl) e8 G_detailMessage A8 (Or.inl (wd hw 195 rfl)) (wd hw 5 rfl) pf_Ljava_lang_String_ rfl rfl d30_30 ?_
  intro T10 h10 X10 e10 W10
  have N10_ := Fr.snoc X10 N8_ g_x0
  have O10_ := extWr O8_ W10 g_x0
  have K10 := Keep.wr K8 W10 k0
  have F10 := Fld.same W10 G_detailMessage
  refine t_aN X10 u d30_33 rfl rfl ?_
  refine t_aN X10 u d30_34 rfl rfl ?_
  refine t_pF X10 u hZ hown (wd hw 164 rfl) e10 (fR W10 G_cause (sn_6 hw)) (Exa.wr W10 A8) (Or.inl (wd hw 165 rfl)) (wd hw 5 rfl) pf_Ljava_lang_Throwable_ rfl rfl d30_35 ?_
  intro T11 h11 X11 e11 W11
  have N11_ := Fr.snoc X11 N10_ g_x0
  have O11_ := extWr O10_ W11 g_x0
  have K11 := Keep.wr K10 W11 k0
  have F11 := Fld.same W11 (fR W10 G_cause (sn_6 hw))
  exact Go.retV X11 hx hret hlk (hb hby d30_38) (by decide) (by decide) (by show _ ∧ _ ∧ _; rw [e11]; exact ⟨rfl, N11_, K11, (Exa.wr W11 (Exa.wr W10 A8)), (Unt.wr W11 (Unt.wr W10 U8)), (fS W11 F10 (sn_6 hw)), F11⟩)
theorem pn_29 : plainName "java/lang/Exception" = true := by first | (simp [plainName, overriddenIn]; done) | decide +kernel
def Q_ei (Z : State) (x0 x1 : Addr) (h0 : Heap) (v : Option Value) (h : Heap) (L : List Loc) : Prop := v = none ∧ Fr Z.heap.size L ∧ Keep h0 h [x0] ∧ ex_1 Z h x0 ∧ Unt h x0 ∧ fl_0 Z h x0 (.ref x1) ∧ fl_1 Z h x0 .null
theorem rm_ei (l : Launch) (Z : State) (a0 : Array Value) (hw : HW Z a0) (ws : List Jvm.Cond) (G : GT) (GG : GP Z G) (x0 x1 : Addr) (h0 : Heap) (O0 : Ext Z.heap h0) (hl : l.stackTraces = true) (g_x0 : Z.heap.size ≤ x0) (A0 : ex_1 Z h0 x0) (U0 : Unt h0 x0) (B0 : fl_2 Z h0 x0 .null) :
    MetK l y_29 jdk_59_method_3_code 3 none ws ⟨4, 1, 2752, 56⟩ Z h0 #[(.ref x0), (.ref x1), .null] (Q_ei Z x0 x1 h0) := by
  refine own_metK "java/lang/Exception" (plainFor_of_name pn_29) rfl #[.val (.ref x0), .val (.ref x1), .val .null] (fun _ => by first | (simp [entryFrame, mkF, argsToLocals, Value.category]; done) | rfl) ?_
  intro p e s m below meth c s₁ hx hby hlk hret hml hZ hown hnm X0 e0 hh hTK hBl
  have N0 := Fr.nil Z.heap.size
  have u : UB p c _ _ := ⟨hx, hby, hml⟩
  refine t_aN X0 u d29_0 rfl rfl ?_
  refine t_aN X0 u d29_1 rfl rfl ?_
  refine t_aN X0 u d29_2 rfl rfl ?_
  obtain ⟨_, _, ⟨T1, L1, k1, n1⟩, -, X1, ⟨Lc1, hQ1, l1, y1, z1⟩, st1⟩ := X0.specialBack hx (y := (⟨"java/lang/Throwable", "<init>", "(Ljava/lang/String;Ljava/lang/Throwable;)V"⟩ : MethodName)) rfl hown (mvT hZ (wd hw 157 rfl)) (mvT hZ (wd hw 158 rfl)) (mvT hZ (wd hw 162 rfl)) (by decide) (backOfKL (W := 0) (rm_ti l Z a0 hw [] G GG x0 x1 h0 O0 hl g_x0 A0 U0 B0) hZ (wd hw 162 rfl) (wd hw 161 rfl) (by decide) (by decide) hTK hBl) (g := (mkF m 3 #[.val (.ref x0), .val (.ref x1), .val .null] [.null, (.ref x1), (.ref x0)])) rfl (by rw [hml]; rfl) (Steps.refl _) (a := x0) (argsL := [(.ref x1), .null]) (rest := []) (lenOf pd_LLjava_lang_String_Ljava_lang_Throwable_RV rfl) rfl (by show 2 * 0 + _ ≤ _; exact Nat.le_of_eq rfl) (hb hby d29_3) (fun _ _ => ⟨rfl, e0, (by decide : 0 + 1 ≤ _), (by decide : 0 + 2752 ≤ _)⟩)
  dsimp only [Pt.U, Pt.locs, Pt.cells, Pt.slots] at X1 l1 y1 z1 st1 hQ1
  subst y1 z1
  obtain ⟨rfl, Nq1, Kq1, pE1, pU1, pM1, pC1⟩ := hQ1
  have O1_ := extKeep O0 Kq1 (allS g_x0 all0)
  have K1 := Keep.trans (Keep.refl h0 [x0]) Kq1 (allS k0 all0)
  have N1_ := frA l1 N0 Nq1
  refine Go.trans st1 ?_
  exact Go.retV X1 hx hret hlk (hb hby d29_6) (by decide) (by decide) ⟨rfl, N1_, K1, pE1, pU1, pM1, pC1⟩
theorem pn_28 : plainName "com/example/layout_to_rows/layouttorows/harvest/FetchException" = true := by first | (simp [plainName, overriddenIn]; done) | decide +kernel
def Q_fi (Z : State) (x0 x1 : Addr) (h0 : Heap) (v : Option Value) (h : Heap) (L : List Loc) : Prop := v = none ∧ Fr Z.heap.size L ∧ Keep h0 h [x0] ∧ ex_1 Z h x0 ∧ Unt h x0 ∧ fl_0 Z h x0 (.ref x1) ∧ fl_1 Z h x0 .null ∧ fl_3 Z h x0 v_1
theorem rm_fi (l : Launch) (Z : State) (a0 : Array Value) (hw : HW Z a0) (ws : List Jvm.Cond) (G : GT) (GG : GP Z G) (x0 x1 : Addr) (h0 : Heap) (O0 : Ext Z.heap h0) (hl : l.stackTraces = true) (g_x0 : Z.heap.size ≤ x0) (A0 : ex_1 Z h0 x0) (U0 : Unt h0 x0) (B0 : fl_2 Z h0 x0 .null) :
    MetK l y_28 prog_9_method_1_code 4 none ws ⟨5, 1, 2752, 70⟩ Z h0 #[(.ref x0), (.ref x1), v_1, .null] (Q_fi Z x0 x1 h0) := by
  refine own_metK "com/example/layout_to_rows/layouttorows/harvest/FetchException" (plainFor_of_name pn_28) rfl #[.val (.ref x0), .val (.ref x1), .val v_1, .val .null] (fun _ => by first | (simp [entryFrame, mkF, argsToLocals, Value.category]; done) | rfl) ?_
  intro p e s m below meth c s₁ hx hby hlk hret hml hZ hown hnm X0 e0 hh hTK hBl
  have N0 := Fr.nil Z.heap.size
  have u : UB p c _ _ := ⟨hx, hby, hml⟩
  refine t_aN X0 u d28_0 rfl rfl ?_
  refine t_aN X0 u d28_1 rfl rfl ?_
  refine t_aN X0 u d28_2 rfl rfl ?_
  obtain ⟨_, _, ⟨T1, L1, k1, n1⟩, -, X1, ⟨Lc1, hQ1, l1, y1, z1⟩, st1⟩ := X0.specialBack hx (y := (⟨"java/lang/Exception", "<init>", "(Ljava/lang/String;Ljava/lang/Throwable;)V"⟩ : MethodName)) rfl hown (mvT hZ (wd hw 152 rfl)) (mvT hZ (wd hw 153 rfl)) (mvT hZ (wd hw 156 rfl)) (by decide) (backOfKL (W := 0) (rm_ei l Z a0 hw [] G GG x0 x1 h0 O0 hl g_x0 A0 U0 B0) hZ (wd hw 156 rfl) (wd hw 155 rfl) (by decide) (by decide) hTK hBl) (g := (mkF m 3 #[.val (.ref x0), .val (.ref x1), .val v_1, .val .null] [.null, (.ref x1), (.ref x0)])) rfl (by rw [hml]; rfl) (Steps.refl _) (a := x0) (argsL := [(.ref x1), .null]) (rest := []) (lenOf pd_LLjava_lang_String_Ljava_lang_Throwable_RV rfl) rfl (by show 2 * 0 + _ ≤ _; exact Nat.le_of_eq rfl) (hb hby d28_3) (fun _ _ => ⟨rfl, e0, (by decide : 0 + 1 ≤ _), (by decide : 0 + 2752 ≤ _)⟩)
  dsimp only [Pt.U, Pt.locs, Pt.cells, Pt.slots] at X1 l1 y1 z1 st1 hQ1
  subst y1 z1
  obtain ⟨rfl, Nq1, Kq1, pE1, pU1, pM1, pC1⟩ := hQ1
  have O1_ := extKeep O0 Kq1 (allS g_x0 all0)
  have K1 := Keep.trans (Keep.refl h0 [x0]) Kq1 (allS k0 all0)
  have N1_ := frA l1 N0 Nq1
  obtain ⟨va, FA⟩ := fld_laid pE1 pU1.known (wd hw 5 rfl) (Or.inr (wd hw 201 rfl))
  refine Go.trans st1 ?_
  refine t_aN X1 u d28_6 rfl rfl ?_
  refine t_iN X1 u d28_7 rfl ?_
  refine t_pN X1 u hZ hown (wd hw 200 rfl) rfl FA pE1 (Or.inr ⟨(wd hw 201 rfl), rfl, hnm⟩) (wd hw 5 rfl) v_1 pf_Z rfl rfl d28_8 ?_
  intro T2 h2 X2 e2 W2
  have N2_ := Fr.snoc X2 N1_ g_x0
  have O2_ := extWr O1_ W2 g_x0
  have K2 := Keep.wr K1 W2 k0
  have F2 := Fld.same W2 FA
  exact Go.retV X2 hx hret hlk (hb hby d28_11) (by decide) (by decide) (by show _ ∧ _ ∧ _; rw [e2]; exact ⟨rfl, N2_, K2, (Exa.wr W2 pE1), (Unt.wr W2 pU1), (fR W2 pM1 (sn_7 hw)), (fR W2 pC1 (sn_8 hw)), F2⟩)
abbrev StQ (Z : State) (h : Heap) (r sm sb : Addr) (sk : ClassId) (n : Int32) (vs : List Value) : Prop := ex_1 Z h r ∧ Unt h r ∧ fl_3 Z h r v_1 ∧ fl_1 Z h r .null ∧ fl_0 Z h r (.ref sm) ∧ ex_2 Z h sm ∧ fl_4 Z h sm v_0 ∧ fl_5 Z h sm (.ref sb) ∧ Arv Z h sb sk .byte n vs v_0
def aL (x : Int32) : Int64 := if (lcmpW x.toInt64 (0 : Int64)) < (0 : Int32) then -x.toInt64 else x.toInt64
def digF (a : Int64) : Int32 := if (lcmpW a (10 : Int64)) < (0 : Int32) then (1 : Int32) else if (lcmpW a (100 : Int64)) < (0 : Int32) then (2 : Int32) else if (lcmpW a (1000 : Int64)) < (0 : Int32) then (3 : Int32) else if (lcmpW a (10000 : Int64)) < (0 : Int32) then (4 : Int32) else if (lcmpW a (100000 : Int64)) < (0 : Int32) then (5 : Int32) else if (lcmpW a (1000000 : Int64)) < (0 : Int32) then (6 : Int32) else if (lcmpW a (10000000 : Int64)) < (0 : Int32) then (7 : Int32) else if (lcmpW a (100000000 : Int64)) < (0 : Int32) then (8 : Int32) else if (lcmpW a (1000000000 : Int64)) < (0 : Int32) then (9 : Int32) else (10 : Int32)
def p10 (x : Int32) : Int64 := Int64.ofNat (10 ^ x.toNatClampNeg)
def DOK (vs : List Value) (n x1 : Int32) (x2 : Int64) (x3 x4 : Int32) : Prop := x4 < x3 → ∃ w : Int32, (¬ (((x3 - (1 : Int32)) - x4) < (0 : Int32)) ∧ ¬ ((9 : Int32) < ((x3 - (1 : Int32)) - x4))) ∧ ¬ ((x1 + x4) < (0 : Int32)) ∧ (x1 + x4) < n ∧ vs.getD (x1 + x4).toNatClampNeg v_0 = (.int w) ∧ (((w &&& (255 : Int32)).toUInt32.toUInt16.toUInt32.toInt32).toUInt32.toUInt16.toUInt32.toInt32) = (((48 : Int32) + (((x2 / (p10 ((x3 - (1 : Int32)) - x4))) - (x2 / (p10 ((x3 - (1 : Int32)) - x4))) / (10 : Int64) * (10 : Int64)).toInt32)).toUInt32.toUInt16.toUInt32.toInt32)
def hd7 : List Value := [v_115, v_116, v_97, v_116, v_117, v_115, v_32]
def dgs (x : Int32) (k : Nat) : List Value := (List.range k).map fun i => Value.int (bq x (k - 1 - i))
def Tx (x n : Int32) (vs : List Value) : Prop := ∃ k : Nat, 1 ≤ k ∧ k ≤ 10 ∧ x.toInt.natAbs < 10 ^ k ∧ (k = 1 ∨ 10 ^ (k - 1) ≤ x.toInt.natAbs) ∧ ((¬ (x < (0 : Int32)) ∧ n = Int32.ofNat (7 + k) ∧ vs = hd7 ++ dgs x k) ∨ (x < (0 : Int32) ∧ n = Int32.ofNat (8 + k) ∧ vs = (hd7 ++ [v_45]) ++ dgs x k))
theorem aL_int (x : Int32) : (aL x).toInt = (x.toInt.natAbs : Int) := by
  have r := rng32 x
  have e : x.toInt64.toInt = x.toInt := Int32.toInt_toInt64 x
  have e0 : (0 : Int64).toInt = 0 := rfl
  have c := c_lneg x.toInt64
  have q := rng64 (-x.toInt64)
  unfold aL
  split
  · rename_i h
    rw [lw_lt, Int64.lt_iff_toInt_lt] at h
    omega
  · rename_i h
    rw [lw_lt, Int64.lt_iff_toInt_lt] at h
    omega
theorem own_dig {x : Int32} {k : Nat} (h1 : 1 ≤ k) (h2 : k ≤ 10) (h3 : x.toInt.natAbs < 10 ^ k) (h4 : k = 1 ∨ 10 ^ (k - 1) ≤ x.toInt.natAbs) : Int32.ofNat k = digF (aL x) := by
  have e := aL_int x
  have L : ∀ b : Int64, ((lcmpW (aL x) b) < (0 : Int32)) ↔ (x.toInt.natAbs : Int) < b.toInt := fun b => by rw [lw_lt, Int64.lt_iff_toInt_lt, e]
  have t1 : (10 : Int64).toInt = 10 := rfl
  have t2 : (100 : Int64).toInt = 100 := rfl
  have t3 : (1000 : Int64).toInt = 1000 := rfl
  have t4 : (10000 : Int64).toInt = 10000 := rfl
  have t5 : (100000 : Int64).toInt = 100000 := rfl
  have t6 : (1000000 : Int64).toInt = 1000000 := rfl
  have t7 : (10000000 : Int64).toInt = 10000000 := rfl
  have t8 : (100000000 : Int64).toInt = 100000000 := rfl
  have t9 : (1000000000 : Int64).toInt = 1000000000 := rfl
  simp only [digF, L, t1, t2, t3, t4, t5, t6, t7, t8, t9]
  rcases (by omega : k = 1 ∨ k = 2 ∨ k = 3 ∨ k = 4 ∨ k = 5 ∨ k = 6 ∨ k = 7 ∨ k = 8 ∨ k = 9 ∨ k = 10) with rfl | rfl | rfl | rfl | rfl | rfl | rfl | rfl | rfl | rfl
  · have h3' : x.toInt.natAbs < 10 := h3
    rw [if_pos (by omega)]; rfl
  · have h3' : x.toInt.natAbs < 100 := h3
    have h4' : 10 ≤ x.toInt.natAbs := h4.resolve_left (by decide)
    rw [if_neg (by omega), if_pos (by omega)]; rfl
  · have h3' : x.toInt.natAbs < 1000 := h3
    have h4' : 100 ≤ x.toInt.natAbs := h4.resolve_left (by decide)
    rw [if_neg (by omega), if_neg (by omega), if_pos (by omega)]; rfl
  · have h3' : x.toInt.natAbs < 10000 := h3
    have h4' : 1000 ≤ x.toInt.natAbs := h4.resolve_left (by decide)
    rw [if_neg (by omega), if_neg (by omega), if_neg (by omega), if_pos (by omega)]; rfl
  · have h3' : x.toInt.natAbs < 100000 := h3
    have h4' : 10000 ≤ x.toInt.natAbs := h4.resolve_left (by decide)
    rw [if_neg (by omega), if_neg (by omega), if_neg (by omega), if_neg (by omega), if_pos (by omega)]; rfl
  · have h3' : x.toInt.natAbs < 1000000 := h3
    have h4' : 100000 ≤ x.toInt.natAbs := h4.resolve_left (by decide)
    rw [if_neg (by omega), if_neg (by omega), if_neg (by omega), if_neg (by omega), if_neg (by omega), if_pos (by omega)]; rfl
  · have h3' : x.toInt.natAbs < 10000000 := h3
    have h4' : 1000000 ≤ x.toInt.natAbs := h4.resolve_left (by decide)
    rw [if_neg (by omega), if_neg (by omega), if_neg (by omega), if_neg (by omega), if_neg (by omega), if_neg (by omega), if_pos (by omega)]; rfl
  · have h3' : x.toInt.natAbs < 100000000 := h3
    have h4' : 10000000 ≤ x.toInt.natAbs := h4.resolve_left (by decide)
    rw [if_neg (by omega), if_neg (by omega), if_neg (by omega), if_neg (by omega), if_neg (by omega), if_neg (by omega), if_neg (by omega), if_pos (by omega)]; rfl
  · have h3' : x.toInt.natAbs < 1000000000 := h3
    have h4' : 100000000 ≤ x.toInt.natAbs := h4.resolve_left (by decide)
    rw [if_neg (by omega), if_neg (by omega), if_neg (by omega), if_neg (by omega), if_neg (by omega), if_neg (by omega), if_neg (by omega), if_neg (by omega), if_pos (by omega)]; rfl
  · have h3' : x.toInt.natAbs < 10000000000 := h3
    have h4' : 1000000000 ≤ x.toInt.natAbs := h4.resolve_left (by decide)
    rw [if_neg (by omega), if_neg (by omega), if_neg (by omega), if_neg (by omega), if_neg (by omega), if_neg (by omega), if_neg (by omega), if_neg (by omega), if_neg (by omega)]; rfl
theorem own_p10 {x : Int32} (h1 : ¬ (x < (0 : Int32))) (h2 : ¬ ((9 : Int32) < x)) : ([(.long (1 : Int64)), (.long (10 : Int64)), (.long (100 : Int64)), (.long (1000 : Int64)), (.long (10000 : Int64)), (.long (100000 : Int64)), (.long (1000000 : Int64)), (.long (10000000 : Int64)), (.long (100000000 : Int64)), (.long (1000000000 : Int64))] : List Value).getD x.toNatClampNeg (.long (0 : Int64)) = (.long (p10 x)) := by
  rw [Int32.lt_iff_toInt_lt] at h1 h2
  have e0 : (0 : Int32).toInt = 0 := rfl
  have e9 : (9 : Int32).toInt = 9 := rfl
  rcases (by omega : x.toInt = 0 ∨ x.toInt = 1 ∨ x.toInt = 2 ∨ x.toInt = 3 ∨ x.toInt = 4 ∨ x.toInt = 5 ∨ x.toInt = 6 ∨ x.toInt = 7 ∨ x.toInt = 8 ∨ x.toInt = 9) with q | q | q | q | q | q | q | q | q | q
  · obtain rfl : x = (0 : Int32) := Int32.toInt_inj.mp q
    rfl
  · obtain rfl : x = (1 : Int32) := Int32.toInt_inj.mp q
    rfl
  · obtain rfl : x = (2 : Int32) := Int32.toInt_inj.mp q
    rfl
  · obtain rfl : x = (3 : Int32) := Int32.toInt_inj.mp q
    rfl
  · obtain rfl : x = (4 : Int32) := Int32.toInt_inj.mp q
    rfl
  · obtain rfl : x = (5 : Int32) := Int32.toInt_inj.mp q
    rfl
  · obtain rfl : x = (6 : Int32) := Int32.toInt_inj.mp q
    rfl
  · obtain rfl : x = (7 : Int32) := Int32.toInt_inj.mp q
    rfl
  · obtain rfl : x = (8 : Int32) := Int32.toInt_inj.mp q
    rfl
  · obtain rfl : x = (9 : Int32) := Int32.toInt_inj.mp q
    rfl
theorem own_p10b {x : Int32} (h1 : ¬ (x < (0 : Int32))) (h2 : ¬ ((9 : Int32) < x)) : ¬ x < 0 ∧ x < (10 : Int32) := by
  refine ⟨h1, ?_⟩
  rw [Int32.lt_iff_toInt_lt] at h2 ⊢
  have e0 : (10 : Int32).toInt = 10 := rfl
  have e9 : (9 : Int32).toInt = 9 := rfl
  omega
theorem p10_int {x : Int32} {k : Nat} (h : x.toInt = (k : Int)) (hk : k ≤ 9) : (p10 x).toInt = (10 ^ k : Nat) := by
  have e : x.toNatClampNeg = k := by show x.toInt.toNat = k; rw [h]; rfl
  have b : (10 : Nat) ^ k ≤ 10 ^ 9 := Nat.pow_le_pow_right (by decide) hk
  rw [p10, e, Int64.toInt_ofNat_of_lt (by omega)]
theorem own_p10z {x : Int32} (h1 : ¬ (x < (0 : Int32))) (h2 : ¬ ((9 : Int32) < x)) : p10 x ≠ 0 := fun q => by
  rw [Int32.lt_iff_toInt_lt] at h1 h2
  have e0 : (0 : Int32).toInt = 0 := rfl
  have e9 : (9 : Int32).toInt = 9 := rfl
  have c := p10_int (x := x) (k := x.toInt.toNat) (by omega) (by omega)
  have b : 0 < 10 ^ x.toInt.toNat := Nat.pos_of_ne_zero (by simp)
  rw [q] at c
  have e1 : (0 : Int64).toInt = 0 := rfl
  omega
theorem own_ch10 : ∀ d : Fin 10, (((((Int32.ofNat (48 + d.val)).toInt8.toInt32) &&& (255 : Int32)).toUInt32.toUInt16.toUInt32.toInt32).toUInt32.toUInt16.toUInt32.toInt32) = ((48 : Int32) + Int32.ofNat d.val).toUInt32.toUInt16.toUInt32.toInt32 := by decide +kernel
theorem own_ncnc (z : Int32) : (z.toUInt32.toUInt16.toUInt32.toInt32).toUInt32.toUInt16.toUInt32.toInt32 = z.toUInt32.toUInt16.toUInt32.toInt32 := by
  have h : ∀ u : UInt32, u.toUInt16.toUInt32.toInt32.toUInt32.toUInt16 = u.toUInt16 := fun u => by rw [← UInt16.toNat_inj]; simp
  rw [h]
theorem own_dok {x n off : Int32} {vs H : List Value} {k q : Nat} (h1 : 1 ≤ k) (h2 : k ≤ 10) (hq : q ≤ 8) (hH : H.length = q) (ho : off.toInt = q) (hn : n = Int32.ofNat (q + k)) (hv : vs = H ++ dgs x k) (i : Int32) (hi : 0 ≤ i.toInt) : DOK vs n off (aL x) (Int32.ofNat k) i := fun lt => by
  have ek : (Int32.ofNat k).toInt = k := Int32.toInt_ofNat_of_lt (by omega)
  rw [Int32.lt_iff_toInt_lt, ek] at lt
  obtain ⟨j, hj⟩ : ∃ j : Nat, i.toInt = j := ⟨i.toInt.toNat, by omega⟩
  have en : n.toInt = q + k := by rw [hn, Int32.toInt_ofNat_of_lt (by omega)]; omega
  have c1 := c_isub (Int32.ofNat k) 1
  have c2 := c_isub (Int32.ofNat k - 1) i
  have c3 := c_iadd off i
  have r1 := rng32 (Int32.ofNat k - 1)
  have r2 := rng32 (Int32.ofNat k - 1 - i)
  have r3 := rng32 (off + i)
  have e1 : (1 : Int32).toInt = 1 := rfl
  have e0 : (0 : Int32).toInt = 0 := rfl
  have e9 : (9 : Int32).toInt = 9 := rfl
  have ee : (Int32.ofNat k - 1 - i).toInt = ((k - 1 - j : Nat) : Int) := by omega
  have eo : (off + i).toInt = ((q + j : Nat) : Int) := by omega
  have eN : (off + i).toNatClampNeg = q + j := by show (off + i).toInt.toNat = _; rw [eo]; rfl
  have hd : x.toInt.natAbs / 10 ^ (k - 1 - j) % 10 < 10 := Nat.mod_lt _ (by decide)
  refine ⟨bq x (k - 1 - j), ⟨?_, ?_⟩, ?_, ?_, ?_, ?_⟩
  · rw [Int32.lt_iff_toInt_lt]; omega
  · rw [Int32.lt_iff_toInt_lt]; omega
  · rw [Int32.lt_iff_toInt_lt]; omega
  · rw [Int32.lt_iff_toInt_lt]; omega
  · rw [eN, hv, List.getD_eq_getElem?_getD, List.getElem?_append_right (by omega)]
    rw [show q + j - H.length = j by omega, dgs, List.getElem?_map, List.getElem?_range (by omega)]
    rfl
  · have p := p10_int ee (by omega)
    have hp0 : (0 : Int) ≤ ((10 ^ (k - 1 - j) : Nat) : Int) := Int.natCast_nonneg _
    have a := aL_int x
    have pp : p10 (Int32.ofNat k - 1 - i) ≠ -1 := fun z => by rw [z] at p; have e2 : (-1 : Int64).toInt = -1 := rfl; omega
    have v := (c_ldiv (aL x) (p10 (Int32.ofNat k - 1 - i)) _ p pp).1 (by omega)
    have y := (c_lrem (aL x / p10 (Int32.ofNat k - 1 - i)) 10 10 rfl).1 (by rw [v, a]; exact Int.ediv_nonneg (by omega) (by omega))
    have d : (aL x / p10 (Int32.ofNat k - 1 - i) - aL x / p10 (Int32.ofNat k - 1 - i) / 10 * 10).toInt32 = Int32.ofNat (x.toInt.natAbs / 10 ^ (k - 1 - j) % 10) := by
      rw [← Int32.toInt_inj, Int64.toInt_toInt32, y, v, a, Int32.toInt_ofNat_of_lt (by omega)]
      rw [show ((x.toInt.natAbs : Int) / ((10 ^ (k - 1 - j) : Nat) : Int)) % 10 = ((x.toInt.natAbs / 10 ^ (k - 1 - j) % 10 : Nat) : Int) by rw [Int.natCast_emod, Int.natCast_ediv]; rfl]
      exact Int.bmod_eq_of_le (by omega) (by omega)
    rw [d]
    exact own_ch10 ⟨_, hd⟩
theorem own_sh0 (n : Int32) : n >>> ((0 : Int32) &&& 31) = n := by
  rw [← Int32.toInt_inj, c_ishr n 0 0 (by decide)]; simp
theorem own_len {q k : Nat} {o n : Int32} (hq : q ≤ 8) (hk : k ≤ 10) (ho : o.toInt = q) (en : n = Int32.ofNat (q + k)) : n = o + Int32.ofNat k := by
  have c := c_iadd o (Int32.ofNat k)
  have r := rng32 (o + Int32.ofNat k)
  rw [Int32.toInt_ofNat_of_lt (by omega)] at c
  rw [en, ← Int32.toInt_inj, Int32.toInt_ofNat_of_lt (by omega)]
  omega
theorem own_b7n {q k : Nat} {n : Int32} (hq : 7 ≤ q ∧ q ≤ 8) (hk : 1 ≤ k ∧ k ≤ 10) (en : n = Int32.ofNat (q + k)) : (7 : Int32) < n := by
  have e7 : (7 : Int32).toInt = 7 := rfl
  rw [en, Int32.lt_iff_toInt_lt, Int32.toInt_ofNat_of_lt (by omega)]
  omega
theorem own_hv {H D vs : List Value} (ev : vs = H ++ D) (i : Nat) (hi : i < H.length) : vs.getD i v_0 = H.getD i v_0 := by
  rw [ev, List.getD_eq_getElem?_getD, List.getD_eq_getElem?_getD, List.getElem?_append_left hi]
theorem own_b7 {j n : Int32} (h : (7 : Int32) < n) (q : ¬ ((7 : Int32) < j)) : j < n := by
  rw [Int32.lt_iff_toInt_lt] at h q ⊢
  omega
abbrev Dall (x : Int32) : Prop := Dg_0_1 x ∨ Dg_0_2 x ∨ Dg_0_3 x ∨ Dg_0_4 x ∨ Dg_0_5 x ∨ Dg_0_6 x ∨ Dg_0_7 x ∨ Dg_0_8 x ∨ Dg_0_9 x ∨ Dg_0_10 x ∨ Dg_1_1 x ∨ Dg_1_2 x ∨ Dg_1_3 x ∨ Dg_1_4 x ∨ Dg_1_5 x ∨ Dg_1_6 x ∨ Dg_1_7 x ∨ Dg_1_8 x ∨ Dg_1_9 x ∨ Dg_1_10 x
theorem own_dall (x : Int32) : Dall x := by
  have r := rng32 x
  have key : ∀ (P : Prop) (m : Nat), m < 10000000000 → (P → 1 ≤ m) → (¬ P ∧ 0 ≤ m ∧ m < 10) ∨ (¬ P ∧ 10 ≤ m ∧ m < 100) ∨ (¬ P ∧ 100 ≤ m ∧ m < 1000) ∨ (¬ P ∧ 1000 ≤ m ∧ m < 10000) ∨ (¬ P ∧ 10000 ≤ m ∧ m < 100000) ∨ (¬ P ∧ 100000 ≤ m ∧ m < 1000000) ∨ (¬ P ∧ 1000000 ≤ m ∧ m < 10000000) ∨ (¬ P ∧ 10000000 ≤ m ∧ m < 100000000) ∨ (¬ P ∧ 100000000 ≤ m ∧ m < 1000000000) ∨ (¬ P ∧ 1000000000 ≤ m ∧ m < 10000000000) ∨ (P ∧ 1 ≤ m ∧ m < 10) ∨ (P ∧ 10 ≤ m ∧ m < 100) ∨ (P ∧ 100 ≤ m ∧ m < 1000) ∨ (P ∧ 1000 ≤ m ∧ m < 10000) ∨ (P ∧ 10000 ≤ m ∧ m < 100000) ∨ (P ∧ 100000 ≤ m ∧ m < 1000000) ∨ (P ∧ 1000000 ≤ m ∧ m < 10000000) ∨ (P ∧ 10000000 ≤ m ∧ m < 100000000) ∨ (P ∧ 100000000 ≤ m ∧ m < 1000000000) ∨ (P ∧ 1000000000 ≤ m ∧ m < 10000000000) := by
    intro P m h1 h2
    by_cases hP : P
    · have h3 := h2 hP
      simp only [hP, not_true_eq_false, false_and, true_and, false_or]
      omega
    · simp only [hP, not_false_eq_true, true_and, false_and, or_false]
      omega
  refine key (x < (0 : Int32)) x.toInt.natAbs (by omega) fun h => ?_
  rw [Int32.lt_iff_toInt_lt] at h
  have e : (0 : Int32).toInt = 0 := rfl
  omega
theorem pn_3 : plainName "java/lang/AbstractStringBuilder" = true := by first | (simp [plainName, overriddenIn]; done) | decide +kernel
def Q_a3_0 (Z : State) (x0 : Addr) (w2 : Int32) (h0 : Heap) (v : Option Value) (h : Heap) (L : List Loc) : Prop := ∃ (b3 : Addr) (k3 : ClassId), v = none ∧ Fr Z.heap.size L ∧ Keep h0 h [x0] ∧ fl_6 Z h x0 (.ref b3) ∧ fl_7 Z h x0 v_0 ∧ fl_8 Z h x0 (.int w2) ∧ h0.size ≤ b3 ∧ ex_0 Z h b3 ∧ Arv Z h b3 k3 .byte (16 : Int32) [v_0, v_0, v_0, v_0, v_0, v_0, v_0, v_0, v_0, v_0, v_0, v_0, v_0, v_0, v_0, v_0] v_0
theorem rm_a3_0 (x0 : Addr) (w1 w2 : Int32) (h0 : Heap) (O0 : Ext Z.heap h0) (r0 : ex_3 Z h0 x0) (r1 : fl_6 Z h0 x0 .null) (r2 : Z.heap.size ≤ x0) (r3 : fl_7 Z h0 x0 (.int w1)) (r4 : fl_8 Z h0 x0 (.int w2)) :
    MF hw GG l y_3 jdk_68_method_2_code 2 none ws ⟨1, 1, 16, 12⟩ h0 #[(.ref x0), v_16] (Q_a3_0 Z x0 w2 h0) := by
  refine own_mF #[.val (.ref x0), .val v_16] (plainFor_of_name pn_3) (fun _ => rfl) ?_
  intro p e s m below meth c s₁ u hlk hret hZ hown hnm X0 e0 N0
  obtain ⟨hx, hby, hml⟩ := id u
  refine t_aN X0 u d3_0 rfl rfl ?_
  refine t_in 0 X0 u hZ hown (wd hw 18 rfl) (wd hw 19 rfl) (wd hw 20 rfl) e0 rfl d3_1 rfl (by decide) ?_
  intro T1 X1 e1
  refine t_gS X1 u hZ hown (wd hw 21 rfl) e1 (Sta.ext O0 GG.S_cs) d3_4 ?_
  intro T2 X2 e2
  refine t_ifN X2 u d3_7 ((if0 _ _).trans (feq GG.H_cs).1) ?_
  refine t_aN X2 u d3_10 rfl rfl ?_
  refine t_iN X2 u d3_11 rfl ?_
  refine t_nB 16 X2 u hZ (wd hw 23 rfl) e2 d3_12 (by decide) ?_
  intro T3 h3 b3 k3 X3 e3 E3 hb3 V3 B3
  have g_b3 := leE O0.1 hb3
  have O3_ := extTr O0 E3
  have sz_b3 := leE (Keep.refl h0 [x0]).1 hb3
  have K3 := Keep.ext (Keep.refl h0 [x0]) E3
  refine t_pF X3 u hZ hown (wd hw 24 rfl) e3 (Fld.ext E3 r1) (Exa.ext E3 r0) (Or.inl (wd hw 25 rfl)) (wd hw 7 rfl) pf_AB rfl rfl d3_14 ?_
  intro T4 h4 X4 e4 W4
  have N4_ := Fr.snoc X4 N0 r2
  have O4_ := extWr O3_ W4 r2
  have K4 := Keep.wr K3 W4 k0
  have F4 := Fld.same W4 (Fld.ext E3 r1)
  refine t_aN X4 u d3_17 rfl rfl ?_
  refine t_iC X4 u d3_18  ?_
  refine t_pN X4 u hZ hown (wd hw 26 rfl) e4 (fR W4 (Fld.ext E3 r3) (sn_9 hw)) (Exa.wr W4 (Exa.ext E3 r0)) (Or.inl (wd hw 27 rfl)) (wd hw 7 rfl) v_0 pf_B rfl rfl d3_19 ?_
  intro T5 h5 X5 e5 W5
  have N5_ := Fr.snoc X5 N4_ r2
  have O5_ := extWr O4_ W5 r2
  have K5 := Keep.wr K4 W5 k0
  have F5 := Fld.same W5 (fR W4 (Fld.ext E3 r3) (sn_9 hw))
  refine t_go 22 38 X5 u rfl d3_22 (by decide) ?_
  have f6 := (fR W5 (fR W4 (Fld.ext E3 r4) (sn_10 hw)) (sn_11 hw))
  have f7 := ((V3.other W4 (Ne.symm (neE r0.lt hb3))).other W5 (Ne.symm (neE r0.lt hb3)))
  exact Go.retV X5 hx hret hlk (hb hby d3_38) (by decide) (by decide) (by show Q_a3_0 ..; rw [e5]; exact ⟨b3, k3, rfl, N5_, K5, (fS W5 F4 (sn_9 hw)), F5, f6, sz_b3, (Exa.wr W5 (Exa.wr W4 B3)), f7⟩)
theorem pn_2 : plainName "java/lang/StringBuilder" = true := by first | (simp [plainName, overriddenIn]; done) | decide +kernel
def Q_a2_0 (Z : State) (x0 : Addr) (w2 : Int32) (h0 : Heap) (v : Option Value) (h : Heap) (L : List Loc) : Prop := ∃ (b3q1 : Addr) (k3q1 : ClassId), v = none ∧ Fr Z.heap.size L ∧ Keep h0 h [x0] ∧ fl_6 Z h x0 (.ref b3q1) ∧ fl_7 Z h x0 v_0 ∧ fl_8 Z h x0 (.int w2) ∧ h0.size ≤ b3q1 ∧ ex_0 Z h b3q1 ∧ Arv Z h b3q1 k3q1 .byte (16 : Int32) [v_0, v_0, v_0, v_0, v_0, v_0, v_0, v_0, v_0, v_0, v_0, v_0, v_0, v_0, v_0, v_0] v_0
theorem rm_a2_0 (x0 : Addr) (w1 w2 : Int32) (h0 : Heap) (O0 : Ext Z.heap h0) (r0 : ex_3 Z h0 x0) (r1 : fl_6 Z h0 x0 .null) (r2 : Z.heap.size ≤ x0) (r3 : fl_7 Z h0 x0 (.int w1)) (r4 : fl_8 Z h0 x0 (.int w2)) :
    MF hw GG l y_2 jdk_67_method_1_code 1 none ws ⟨2, 1, 16, 25⟩ h0 #[(.ref x0)] (Q_a2_0 Z x0 w2 h0) := by
  refine own_mF #[.val (.ref x0)] (plainFor_of_name pn_2) (fun _ => rfl) ?_
  intro p e s m below meth c s₁ u hlk hret hZ hown hnm X0 e0 N0
  obtain ⟨hx, hby, hml⟩ := id u
  refine t_aN X0 u d2_0 rfl rfl ?_
  refine t_bP X0 u d2_1  ?_
  refine t_cN [v_16] [] 0 X0 u hZ hown rfl (wd hw 12 rfl) (m_0 hw) e0 (rm_a3_0 l Z a0 hw [] G GG x0 w1 w2 h0 O0 r0 r1 r2 r3 r4) rfl d2_3 rfl rfl (by decide) ?_
  intro v1 T1 L1 Lc1 X1 hQ1 l1
  obtain ⟨b3q1, k3q1, rfl, Nq1, Kq1, p1_0, p1_1, p1_2, p1_3, p1_4, p1_5⟩ := hQ1
  have O1_ := extKeep O0 Kq1 (allS r2 all0)
  have K1 := Keep.trans (Keep.refl h0 [x0]) Kq1 (allS k0 all0)
  have N1_ := frA l1 N0 Nq1
  have g_b3q1 := Nat.le_trans O0.1 p1_3
  have sz_b3q1 := Nat.le_trans (Keep.refl h0 [x0]).1 p1_3
  exact Go.retV X1 hx hret hlk (hb hby d2_6) (by decide) (by decide) ⟨b3q1, k3q1, rfl, N1_, K1, p1_0, p1_1, p1_2, sz_b3q1, p1_4, p1_5⟩
theorem pn_8 : plainName "java/lang/String" = true := by first | (simp [plainName, overriddenIn]; done) | decide +kernel
theorem rm_a8_0 (x0 : Addr) (w1 : Int32) (h0 : Heap) (O0 : Ext Z.heap h0) (r0 : fl_4 Z h0 x0 (.int w1)) :
    MF hw GG l y_8 jdk_42_method_152_code 1 (some .byte) ws ⟨0, 0, 0, 0⟩ h0 #[(.ref x0)] (Qp (some (.int (w1.toInt8.toInt32))) Z h0) := by
  refine own_mF #[.val (.ref x0)] (plainFor_of_name pn_8) (fun _ => rfl) ?_
  intro p e s m below meth c s₁ u hlk hret hZ hown hnm X0 e0 N0
  refine t_gS X0 u hZ hown (wd hw 55 rfl) e0 (Sta.ext O0 GG.S_cs) d8_0 ?_
  intro T1 X1 e1
  refine t_ifN X1 u d8_3 ((if0 _ _).trans (feq GG.H_cs).1) ?_
  refine t_aN X1 u d8_6 rfl rfl ?_
  refine t_gF X1 u hZ hown (wd hw 56 rfl) e1 r0 d8_7 ?_
  intro T2 X2 e2
  refine t_go 10 14 X2 u rfl d8_10 (by decide) ?_
  exact t_rN X2 u hret hlk (by simp) rfl d8_14 e2 N0 (by decide)
theorem pn_7 : plainName "java/lang/String" = true := by first | (simp [plainName, overriddenIn]; done) | decide +kernel
theorem rm_a7_0 (x0 w1 : Addr) (kk2 : ClassId) (w3 w4 w5 w6 w7 w8 w9 w10 : Int32) (h0 : Heap) (O0 : Ext Z.heap h0) (r0 : fl_5 Z h0 x0 (.ref w1)) (r1 : Arv Z h0 w1 kk2 .byte (7 : Int32) [(.int w3), (.int w4), (.int w5), (.int w6), (.int w7), (.int w8), (.int w9)] (.int 0)) (r2 : ex_2 Z h0 x0) (r3 : fl_4 Z h0 x0 (.int w10)) :
    MF hw GG l y_7 jdk_42_method_54_code 1 (some .int) ws ⟨1, 0, 0, 13⟩ h0 #[(.ref x0)] (Qp (some (.int ((7 : Int32) >>> ((w10.toInt8.toInt32) &&& 31)))) Z h0) := by
  refine own_mF #[.val (.ref x0)] (plainFor_of_name pn_7) (fun _ => rfl) ?_
  intro p e s m below meth c s₁ u hlk hret hZ hown hnm X0 e0 N0
  obtain ⟨hx, hby, hml⟩ := id u
  refine t_aN X0 u d7_0 rfl rfl ?_
  refine t_gF X0 u hZ hown (wd hw 49 rfl) e0 r0 d7_1 ?_
  intro T1 X1 e1
  obtain ⟨cl2, Ar2, -, S2, N2, -, -⟩ := id r1
  refine Go.step (X1.arraylength hx (by rw [e1]; exact Ar2.1) (State.isArrayOf_alike hZ.alike Ar2.2.1) (g := (mkF m 4 #[.val (.ref x0)] [(.ref w1)])) rfl rfl (hb hby d7_4)) ?_
  rw [len_of S2 N2]
  show Go _ _ _ _ _ _ _ _ T1 (mkF m 5 #[.val (.ref x0)] [v_7])
  refine t_aN X1 u d7_5 rfl rfl ?_
  refine pt_cV [] [v_7] 1 X1 u hZ hown (wd hw 50 rfl) (m_2 hw) e1 r2 (rm_a8_0 l Z a0 hw [] G GG x0 w10 h0 O0 r3) rfl d7_6 rfl rfl (by decide) N0 ?_
  intro T3 L3 X3 e3 N3_
  refine Go.step (fun _ kt_ => XS.ishr X3.here hx rfl (hb hby d7_9) rfl kt_) ?_
  show Go _ _ _ _ _ _ _ _ T3 (mkF m 10 #[.val (.ref x0)] [(.int ((7 : Int32) >>> ((w10.toInt8.toInt32) &&& 31)))])
  exact t_rI X3 u hret hlk d7_10 e3 N3_ (by decide)
theorem pn_9 : plainName "java/lang/AbstractStringBuilder" = true := by first | (simp [plainName, overriddenIn]; done) | decide +kernel
theorem rm_a9_0 (x0 : Addr) (x1 : Int32) (w1 : Addr) (kk2 : ClassId) (w3 w4 w5 w6 w7 w8 w9 w10 w11 w12 w13 w14 w15 w16 w17 w18 w19 : Int32) (h0 : Heap) (O0 : Ext Z.heap h0) (r0 : fl_6 Z h0 x0 (.ref w1)) (r1 : Arv Z h0 w1 kk2 .byte (16 : Int32) [(.int w3), (.int w4), (.int w5), (.int w6), (.int w7), (.int w8), (.int w9), (.int w10), (.int w11), (.int w12), (.int w13), (.int w14), (.int w15), (.int w16), (.int w17), (.int w18)] v_0) (r2 : fl_7 Z h0 x0 (.int w19)) (r3 : ¬ ((0 : Int32) < (x1 - ((16 : Int32) >>> (w19 &&& 31))))) :
    MF hw GG l y_9 jdk_68_method_9_code 3 none ws ⟨0, 0, 0, 0⟩ h0 #[(.ref x0), (.int x1)] (Qp (none) Z h0) := by
  refine own_mF #[.val (.ref x0), .val (.int x1), .unset] (plainFor_of_name pn_9) (fun _ => rfl) ?_
  intro p e s m below meth c s₁ u hlk hret hZ hown hnm X0 e0 N0
  obtain ⟨hx, hby, hml⟩ := id u
  refine t_aN X0 u d9_0 rfl rfl ?_
  refine t_gF X0 u hZ hown (wd hw 24 rfl) e0 r0 d9_1 ?_
  intro T1 X1 e1
  obtain ⟨cl2, Ar2, -, S2, N2, -, -⟩ := id r1
  refine Go.step (X1.arraylength hx (by rw [e1]; exact Ar2.1) (State.isArrayOf_alike hZ.alike Ar2.2.1) (g := (mkF m 4 #[.val (.ref x0), .val (.int x1), .unset] [(.ref w1)])) rfl rfl (hb hby d9_4)) ?_
  rw [len_of S2 N2]
  show Go _ _ _ _ _ _ _ _ T1 (mkF m 5 #[.val (.ref x0), .val (.int x1), .unset] [v_16])
  refine t_aN X1 u d9_5 rfl rfl ?_
  refine t_gF X1 u hZ hown (wd hw 26 rfl) e1 r2 d9_6 ?_
  intro T3 X3 e3
  refine Go.step (fun _ kt_ => XS.ishr X3.here hx rfl (hb hby d9_9) rfl kt_) ?_
  show Go _ _ _ _ _ _ _ _ T3 (mkF m 10 #[.val (.ref x0), .val (.int x1), .unset] [(.int ((16 : Int32) >>> (w19 &&& 31)))])
  refine t_isN X3 u d9_10 (l' := #[.val (.ref x0), .val (.int x1), .val (.int ((16 : Int32) >>> (w19 &&& 31)))]) rfl ?_
  refine t_iN X3 u d9_11 rfl ?_
  refine t_iN X3 u d9_12 rfl ?_
  refine t_isub X3 u d9_13  ?_
  refine t_ifY 14 38 X3 u rfl d9_14 ((if0 _ _).trans (flt r3).2.2.2) (by decide) ?_
  exact t_rV X3 u hret hlk d9_38 e3 N0 (by decide)
theorem pn_11 : plainName "java/lang/AbstractStringBuilder" = true := by first | (simp [plainName, overriddenIn]; done) | decide +kernel
theorem rm_a11_0 (x0 x1 : Addr) (w1 w2 : Int32) (h0 : Heap) (O0 : Ext Z.heap h0) (r0 : fl_7 Z h0 x0 (.int w1)) (r1 : ex_2 Z h0 x1) (r2 : fl_4 Z h0 x1 (.int w2)) (r3 : w1 = (w2.toInt8.toInt32)) :
    MF hw GG l y_11 jdk_68_method_71_code 2 none ws ⟨1, 0, 0, 13⟩ h0 #[(.ref x0), (.ref x1)] (Qp (none) Z h0) := by
  refine own_mF #[.val (.ref x0), .val (.ref x1)] (plainFor_of_name pn_11) (fun _ => rfl) ?_
  intro p e s m below meth c s₁ u hlk hret hZ hown hnm X0 e0 N0
  refine t_gS X0 u hZ hown (wd hw 21 rfl) e0 (Sta.ext O0 GG.S_cs) d11_0 ?_
  intro T1 X1 e1
  refine t_ifN X1 u d11_3 ((if0 _ _).trans (feq GG.H_cs).1) ?_
  refine t_aN X1 u d11_6 rfl rfl ?_
  refine t_gF X1 u hZ hown (wd hw 26 rfl) e1 r0 d11_7 ?_
  intro T2 X2 e2
  refine t_aN X2 u d11_10 rfl rfl ?_
  refine pt_cV [] [(.int w1)] 1 X2 u hZ hown (wd hw 74 rfl) (m_2 hw) e2 r1 (rm_a8_0 l Z a0 hw [] G GG x1 w2 h0 O0 r2) rfl d11_11 rfl rfl (by decide) N0 ?_
  intro T3 L3 X3 e3 N3_
  refine t_icY 14 21 X3 u rfl d11_14 (teq r3).1 (by decide) ?_
  exact t_rV X3 u hret hlk d11_21 e3 N3_ (by decide)
theorem pn_12 : plainName "java/lang/String" = true := by first | (simp [plainName, overriddenIn]; done) | decide +kernel
def Q_a12_0 (Z : State) (x1 : Addr) (kk3 : ClassId) (h0 : Heap) (v : Option Value) (h : Heap) (L : List Loc) : Prop := v = none ∧ Fr Z.heap.size L ∧ Keep h0 h [x1] ∧ Arv Z h x1 kk3 .byte (16 : Int32) [v_115, v_116, v_97, v_116, v_117, v_115, v_32, v_0, v_0, v_0, v_0, v_0, v_0, v_0, v_0, v_0] v_0
theorem rm_a12_0 (x0 x1 w1 : Addr) (kk2 kk3 : ClassId) (h0 : Heap) (O0 : Ext Z.heap h0) (r0 : ex_2 Z h0 x0) (r1 : fl_4 Z h0 x0 v_0) (r2 : fl_5 Z h0 x0 (.ref w1)) (r3 : Arv Z h0 w1 kk2 .byte (7 : Int32) [v_115, v_116, v_97, v_116, v_117, v_115, v_32] (.int 0)) (r4 : Arv Z h0 x1 kk3 .byte (16 : Int32) [v_0, v_0, v_0, v_0, v_0, v_0, v_0, v_0, v_0, v_0, v_0, v_0, v_0, v_0, v_0, v_0] v_0) (r5 : Z.heap.size ≤ x1) :
    MF hw GG l y_12 jdk_42_method_147_code 4 none ws ⟨1, 0, 0, 18⟩ h0 #[(.ref x0), (.ref x1), v_0, v_0] (Q_a12_0 Z x1 kk3 h0) := by
  refine own_mF #[.val (.ref x0), .val (.ref x1), .val v_0, .val v_0] (plainFor_of_name pn_12) (fun _ => rfl) ?_
  intro p e s m below meth c s₁ u hlk hret hZ hown hnm X0 e0 N0
  obtain ⟨hx, hby, hml⟩ := id u
  refine t_aN X0 u d12_0 rfl rfl ?_
  refine pt_cV [] [] 0 X0 u hZ hown (wd hw 50 rfl) (m_2 hw) e0 r0 (rm_a8_0 l Z a0 hw [] G GG x0 (0 : Int32) h0 O0 r1) rfl d12_1 rfl rfl (by decide) N0 ?_
  intro T1 L1 X1 e1 N1_
  refine t_iN X1 u d12_4 rfl ?_
  refine t_icN X1 u d12_5 (teq (by decide : (0 : Int32) = (0 : Int32))).2 ?_
  refine t_aN X1 u d12_8 rfl rfl ?_
  refine t_gF X1 u hZ hown (wd hw 49 rfl) e1 r2 d12_9 ?_
  intro T2 X2 e2
  refine t_iC X2 u d12_12  ?_
  refine t_aN X2 u d12_13 rfl rfl ?_
  refine t_iN X2 u d12_14 rfl ?_
  refine t_iN X2 u d12_15 rfl ?_
  refine Go.step (fun _ kt_ => XS.ishl X2.here hx rfl (hb hby d12_16) rfl kt_) ?_
  show Go _ _ _ _ _ _ _ _ T2 (mkF m 17 #[.val (.ref x0), .val (.ref x1), .val v_0, .val v_0] [v_0, (.ref x1), v_0, (.ref w1)])
  refine t_aN X2 u d12_17 rfl rfl ?_
  refine t_gF X2 u hZ hown (wd hw 49 rfl) e2 r2 d12_18 ?_
  intro T3 X3 e3
  obtain ⟨cl4, Ar4, -, S4, N4, -, -⟩ := id r3
  refine Go.step (X3.arraylength hx (by rw [e3]; exact Ar4.1) (State.isArrayOf_alike hZ.alike Ar4.2.1) (g := (mkF m 21 #[.val (.ref x0), .val (.ref x1), .val v_0, .val v_0] [(.ref w1), v_0, (.ref x1), v_0, (.ref w1)])) rfl rfl (hb hby d12_21)) ?_
  rw [len_of S4 N4]
  show Go _ _ _ _ _ _ _ _ T3 (mkF m 22 #[.val (.ref x0), .val (.ref x1), .val v_0, .val v_0] [v_7, v_0, (.ref x1), v_0, (.ref w1)])
  obtain ⟨T5, h5, L5, X5, e5, N5_, K5_, V5_, st5⟩ := cpA X3 hx hZ hown (wd hw 80 rfl) (wd hw 83 rfl) (wd hw 81 rfl) (wd hw 82 rfl) e3 (us := [v_115, v_116, v_97, v_116, v_117, v_115, v_32]) r3 r4 (Or.inl ⟨rfl, rfl⟩) (by decide) (by decide) (by decide) (by decide) (by decide) rfl (by decide) N1_ r5 (g := (mkF m 22 #[.val (.ref x0), .val (.ref x1), .val v_0, .val v_0] [v_7, v_0, (.ref x1), v_0, (.ref w1)])) rfl (by rw [hml]; rfl) rfl (hb hby d12_22) (by decide) (W := 0) (by show 2 * 0 + _ ≤ _; exact Nat.le_of_eq rfl) (by decide)
  refine Go.step st5 ?_
  have V5 : Arv Z h5 x1 kk3 .byte (16 : Int32) [v_115, v_116, v_97, v_116, v_117, v_115, v_32, v_0, v_0, v_0, v_0, v_0, v_0, v_0, v_0, v_0] v_0 := V5_
  have O5_ : Ext Z.heap h5 := extKeep O0 K5_ (allS r5 all0)
  have K5 := Keep.trans (Keep.refl h0 [x1]) K5_ (allS k0 all0)
  refine t_go 25 43 X5 u rfl d12_25 (by decide) ?_
  exact Go.retV X5 hx hret hlk (hb hby d12_43) (by decide) (by decide) (by show Q_a12_0 ..; rw [e5]; exact ⟨rfl, N5_, K5, V5⟩)
theorem pn_10 : plainName "java/lang/AbstractStringBuilder" = true := by first | (simp [plainName, overriddenIn]; done) | decide +kernel
def Q_a10_0 (Z : State) (w1 : Addr) (kk4 : ClassId) (h0 : Heap) (v : Option Value) (h : Heap) (L : List Loc) : Prop := v = none ∧ Fr Z.heap.size L ∧ Keep h0 h [w1] ∧ Arv Z h w1 kk4 .byte (16 : Int32) [v_115, v_116, v_97, v_116, v_117, v_115, v_32, v_0, v_0, v_0, v_0, v_0, v_0, v_0, v_0, v_0] v_0
theorem rm_a10_0 (x0 x2 w1 w2 : Addr) (kk3 kk4 : ClassId) (h0 : Heap) (O0 : Ext Z.heap h0) (r0 : fl_7 Z h0 x0 v_0) (r1 : ex_2 Z h0 x2) (r2 : fl_4 Z h0 x2 v_0) (r3 : ex_3 Z h0 x0) (r4 : fl_6 Z h0 x0 (.ref w1)) (r5 : fl_5 Z h0 x2 (.ref w2)) (r6 : Arv Z h0 w2 kk3 .byte (7 : Int32) [v_115, v_116, v_97, v_116, v_117, v_115, v_32] (.int 0)) (r7 : Arv Z h0 w1 kk4 .byte (16 : Int32) [v_0, v_0, v_0, v_0, v_0, v_0, v_0, v_0, v_0, v_0, v_0, v_0, v_0, v_0, v_0, v_0] v_0) (r8 : Z.heap.size ≤ w1) :
    MF hw GG l y_10 jdk_68_method_73_code 3 none ws ⟨2, 0, 0, 33⟩ h0 #[(.ref x0), v_0, (.ref x2)] (Q_a10_0 Z w1 kk4 h0) := by
  refine own_mF #[.val (.ref x0), .val v_0, .val (.ref x2)] (plainFor_of_name pn_10) (fun _ => rfl) ?_
  intro p e s m below meth c s₁ u hlk hret hZ hown hnm X0 e0 N0
  obtain ⟨hx, hby, hml⟩ := id u
  refine t_aN X0 u d10_0 rfl rfl ?_
  refine t_aN X0 u d10_1 rfl rfl ?_
  refine pt_cP [(.ref x2)] [] 0 X0 u hZ hown r3 (wd hw 69 rfl) (m_5 hw) e0 (rm_a11_0 l Z a0 hw [] G GG x0 x2 (0 : Int32) (0 : Int32) h0 O0 r0 r1 r2 (by decide)) rfl d10_2 rfl rfl (by decide) N0 ?_
  intro T1 L1 X1 e1 N1_
  refine t_aN X1 u d10_5 rfl rfl ?_
  refine t_aN X1 u d10_6 rfl rfl ?_
  refine t_gF X1 u hZ hown (wd hw 24 rfl) e1 r4 d10_7 ?_
  intro T2 X2 e2
  refine t_iN X2 u d10_10 rfl ?_
  refine t_aN X2 u d10_11 rfl rfl ?_
  refine t_gF X2 u hZ hown (wd hw 26 rfl) e2 r0 d10_12 ?_
  intro T3 X3 e3
  refine t_cV [(.ref w1), v_0, v_0] [] 0 X3 u hZ hown (wd hw 75 rfl) (m_6 hw) e3 r1 (rm_a12_0 l Z a0 hw [] G GG x2 w1 w2 kk3 kk4 h0 O0 r1 r2 r5 r6 r7 r8) rfl d10_15 rfl rfl (by decide) ?_
  intro v4 T4 L4 Lc4 X4 hQ4 l4
  obtain ⟨rfl, Nq4, Kq4, p4_0⟩ := hQ4
  have O4_ := extKeep O0 Kq4 (allS r8 all0)
  have K4 := Keep.trans (Keep.refl h0 [w1]) Kq4 (allS k0 all0)
  have N4_ := frA l4 N1_ Nq4
  exact Go.retV X4 hx hret hlk (hb hby d10_18) (by decide) (by decide) ⟨rfl, N4_, K4, p4_0⟩
theorem pn_6 : plainName "java/lang/AbstractStringBuilder" = true := by first | (simp [plainName, overriddenIn]; done) | decide +kernel
def Q_a6_0 (Z : State) (x0 w3 : Addr) (kk4 : ClassId) (h0 : Heap) (v : Option Value) (h : Heap) (L : List Loc) : Prop := v = some (.ref x0) ∧ Fr Z.heap.size L ∧ Keep h0 h [w3, x0] ∧ Arv Z h w3 kk4 .byte (16 : Int32) [v_115, v_116, v_97, v_116, v_117, v_115, v_32, v_0, v_0, v_0, v_0, v_0, v_0, v_0, v_0, v_0] v_0 ∧ fl_8 Z h x0 v_7 ∧ fl_6 Z h x0 (.ref w3) ∧ fl_7 Z h x0 v_0
theorem rm_a6_0 (x0 x1 w1 : Addr) (kk2 : ClassId) (w3 : Addr) (kk4 : ClassId) (h0 : Heap) (O0 : Ext Z.heap h0) (r0 : ex_2 Z h0 x1) (r1 : fl_5 Z h0 x1 (.ref w1)) (r2 : Arv Z h0 w1 kk2 .byte (7 : Int32) [v_115, v_116, v_97, v_116, v_117, v_115, v_32] (.int 0)) (r3 : fl_4 Z h0 x1 v_0) (r4 : fl_8 Z h0 x0 v_0) (r5 : fl_6 Z h0 x0 (.ref w3)) (r6 : Arv Z h0 w3 kk4 .byte (16 : Int32) [v_0, v_0, v_0, v_0, v_0, v_0, v_0, v_0, v_0, v_0, v_0, v_0, v_0, v_0, v_0, v_0] v_0) (r7 : fl_7 Z h0 x0 v_0) (r8 : ex_3 Z h0 x0) (r9 : Z.heap.size ≤ w3) (r10 : x0 ≠ w3) (r11 : Z.heap.size ≤ x0) :
    MF hw GG l y_6 jdk_68_method_22_code 3 (some (.object "java/lang/AbstractStringBuilder")) ws ⟨3, 0, 0, 47⟩ h0 #[(.ref x0), (.ref x1)] (Q_a6_0 Z x0 w3 kk4 h0) := by
  refine own_mF #[.val (.ref x0), .val (.ref x1), .unset] (plainFor_of_name pn_6) (fun _ => rfl) ?_
  intro p e s m below meth c s₁ u hlk hret hZ hown hnm X0 e0 N0
  obtain ⟨hx, hby, hml⟩ := id u
  refine t_aN X0 u d6_0 rfl rfl ?_
  refine Go.step (fun _ kt_ => XS.ifnonnullYes X0.here hx rfl (pc0 := 1) (pc' := 9) rfl (hb hby d6_1) rfl (by decide) (by decide) kt_) ?_
  refine t_aN X0 u d6_9 rfl rfl ?_
  refine pt_cV [] [] 0 X0 u hZ hown (wd hw 44 rfl) (m_3 hw) e0 r0 (rm_a7_0 l Z a0 hw [] G GG x1 w1 kk2 (115 : Int32) (116 : Int32) (97 : Int32) (116 : Int32) (117 : Int32) (115 : Int32) (32 : Int32) (0 : Int32) h0 O0 r1 r2 r0 r3) rfl d6_10 rfl rfl (by decide) N0 ?_
  intro T1 L1 X1 e1 N1_
  refine t_isN X1 u d6_13 (l' := #[.val (.ref x0), .val (.ref x1), .val v_7]) rfl ?_
  refine t_aN X1 u d6_14 rfl rfl ?_
  refine t_aN X1 u d6_15 rfl rfl ?_
  refine t_gF X1 u hZ hown (wd hw 57 rfl) e1 r4 d6_16 ?_
  intro T2 X2 e2
  refine t_iN X2 u d6_19 rfl ?_
  refine t_iadd X2 u d6_20  ?_
  refine pt_cP [v_7] [] 0 X2 u hZ hown r8 (wd hw 59 rfl) (m_4 hw) e2 (rm_a9_0 l Z a0 hw [] G GG x0 (7 : Int32) w3 kk4 (0 : Int32) (0 : Int32) (0 : Int32) (0 : Int32) (0 : Int32) (0 : Int32) (0 : Int32) (0 : Int32) (0 : Int32) (0 : Int32) (0 : Int32) (0 : Int32) (0 : Int32) (0 : Int32) (0 : Int32) (0 : Int32) (0 : Int32) h0 O0 r5 r6 r7 (by decide)) rfl d6_21 rfl rfl (by decide) N1_ ?_
  intro T3 L3 X3 e3 N3_
  refine t_aN X3 u d6_24 rfl rfl ?_
  refine t_aN X3 u d6_25 rfl rfl ?_
  refine t_gF X3 u hZ hown (wd hw 57 rfl) e3 r4 d6_26 ?_
  intro T4 X4 e4
  refine t_aN X4 u d6_29 rfl rfl ?_
  refine t_cP [v_0, (.ref x1)] [] 0 X4 u hZ hown r8 (wd hw 64 rfl) (m_7 hw) e4 (rm_a10_0 l Z a0 hw [] G GG x0 x1 w3 w1 kk2 kk4 h0 O0 r7 r0 r3 r8 r5 r1 r2 r6 r9) rfl d6_30 rfl rfl (by decide) ?_
  intro v5 T5 L5 Lc5 X5 hQ5 l5
  obtain ⟨rfl, Nq5, Kq5, p5_0⟩ := hQ5
  have O5_ := extKeep O0 Kq5 (allS r9 all0)
  have K5 := Keep.trans (Keep.refl h0 [w3, x0]) Kq5 (allS k0 all0)
  have N5_ := frA l5 N3_ Nq5
  refine t_aN X5 u d6_33 rfl rfl ?_
  refine t_dup X5 u d6_34 rfl ?_
  refine t_gF X5 u hZ hown (wd hw 57 rfl) rfl (r4.keep Kq5 (ninS r10 nin0)) d6_35 ?_
  intro T6 X6 e6
  refine t_iN X6 u d6_38 rfl ?_
  refine t_iadd X6 u d6_39  ?_
  refine t_pF X6 u hZ hown (wd hw 57 rfl) e6 (r4.keep Kq5 (ninS r10 nin0)) (r8.keep Kq5) (Or.inl (wd hw 58 rfl)) (wd hw 7 rfl) pf_I rfl rfl d6_40 ?_
  intro T7 h7 X7 e7 W7
  have N7_ := Fr.snoc X7 N5_ r11
  have O7_ := extWr O5_ W7 r11
  have K7 := Keep.wr K5 W7 k1
  have F7 := Fld.same W7 (r4.keep Kq5 (ninS r10 nin0))
  refine t_aN X7 u d6_43 rfl rfl ?_
  have f8 := (fS W7 (r5.keep Kq5 (ninS r10 nin0)) (sn_10 hw))
  have f9 := (fS W7 (r7.keep Kq5 (ninS r10 nin0)) (sn_11 hw))
  exact Go.retA X7 hx hret rfl rfl hlk (hb hby d6_44) (by decide) (by decide) (by show Q_a6_0 ..; rw [e7]; exact ⟨rfl, N7_, K7, (p5_0.other W7 (Ne.symm r10)), F7, f8, f9⟩)
theorem pn_5 : plainName "java/lang/StringBuilder" = true := by first | (simp [plainName, overriddenIn]; done) | decide +kernel
def Q_a5_0 (Z : State) (x0 w3 : Addr) (kk4 : ClassId) (h0 : Heap) (v : Option Value) (h : Heap) (L : List Loc) : Prop := v = some (.ref x0) ∧ Fr Z.heap.size L ∧ Keep h0 h [x0, w3] ∧ Arv Z h w3 kk4 .byte (16 : Int32) [v_115, v_116, v_97, v_116, v_117, v_115, v_32, v_0, v_0, v_0, v_0, v_0, v_0, v_0, v_0, v_0] v_0 ∧ fl_8 Z h x0 v_7 ∧ fl_6 Z h x0 (.ref w3) ∧ fl_7 Z h x0 v_0
theorem rm_a5_0 (x0 x1 w1 : Addr) (kk2 : ClassId) (w3 : Addr) (kk4 : ClassId) (h0 : Heap) (O0 : Ext Z.heap h0) (r0 : ex_2 Z h0 x1) (r1 : fl_5 Z h0 x1 (.ref w1)) (r2 : Arv Z h0 w1 kk2 .byte (7 : Int32) [v_115, v_116, v_97, v_116, v_117, v_115, v_32] (.int 0)) (r3 : fl_4 Z h0 x1 v_0) (r4 : fl_8 Z h0 x0 v_0) (r5 : fl_6 Z h0 x0 (.ref w3)) (r6 : Arv Z h0 w3 kk4 .byte (16 : Int32) [v_0, v_0, v_0, v_0, v_0, v_0, v_0, v_0, v_0, v_0, v_0, v_0, v_0, v_0, v_0, v_0] v_0) (r7 : fl_7 Z h0 x0 v_0) (r8 : ex_3 Z h0 x0) (r9 : Z.heap.size ≤ w3) (r10 : x0 ≠ w3) (r11 : Z.heap.size ≤ x0) :
    MF hw GG l y_5 jdk_67_method_7_code 2 (some (.object "java/lang/StringBuilder")) ws ⟨4, 0, 0, 61⟩ h0 #[(.ref x0), (.ref x1)] (Q_a5_0 Z x0 w3 kk4 h0) := by
  refine own_mF #[.val (.ref x0), .val (.ref x1)] (plainFor_of_name pn_5) (fun _ => rfl) ?_
  intro p e s m below meth c s₁ u hlk hret hZ hown hnm X0 e0 N0
  obtain ⟨hx, hby, hml⟩ := id u
  refine t_aN X0 u d5_0 rfl rfl ?_
  refine t_aN X0 u d5_1 rfl rfl ?_
  refine t_cX [(.ref x1)] [] 0 X0 u hZ hown (by decide) r8 (wd hw 39 rfl) (m_8 hw) e0 (rm_a6_0 l Z a0 hw [] G GG x0 x1 w1 kk2 w3 kk4 h0 O0 r0 r1 r2 r3 r4 r5 r6 r7 r8 r9 r10 r11) rfl d5_2 rfl rfl (by decide) ?_
  intro v1 T1 L1 Lc1 X1 hQ1 l1
  obtain ⟨rfl, Nq1, Kq1, p1_0, p1_1, p1_2, p1_3⟩ := hQ1
  have O1_ := extKeep O0 Kq1 (allS r9 (allS r11 all0))
  have K1 := Keep.trans (Keep.refl h0 [x0, w3]) Kq1 (allS k1 (allS k0 all0))
  have N1_ := frA l1 N0 Nq1
  refine t_pop X1 u d5_5 rfl ?_
  refine t_aN X1 u d5_6 rfl rfl ?_
  exact Go.retA X1 hx hret rfl rfl hlk (hb hby d5_7) (by decide) (by decide) ⟨rfl, N1_, K1, p1_0, p1_1, p1_2, p1_3⟩
theorem pn_16 : plainName "java/lang/AbstractStringBuilder" = true := by first | (simp [plainName, overriddenIn]; done) | decide +kernel
theorem rm_a16_0 (x0 : Addr) (w1 : Int32) (h0 : Heap) (O0 : Ext Z.heap h0) (r0 : fl_7 Z h0 x0 (.int w1)) (r1 : w1 = (0 : Int32)) :
    MF hw GG l y_16 jdk_68_method_68_code 1 (some .boolean) ws ⟨0, 0, 0, 0⟩ h0 #[(.ref x0)] (Qp (some v_1) Z h0) := by
  refine own_mF #[.val (.ref x0)] (plainFor_of_name pn_16) (fun _ => rfl) ?_
  intro p e s m below meth c s₁ u hlk hret hZ hown hnm X0 e0 N0
  refine t_gS X0 u hZ hown (wd hw 21 rfl) e0 (Sta.ext O0 GG.S_cs) d16_0 ?_
  intro T1 X1 e1
  refine t_ifN X1 u d16_3 ((if0 _ _).trans (feq GG.H_cs).1) ?_
  refine t_aN X1 u d16_6 rfl rfl ?_
  refine t_gF X1 u hZ hown (wd hw 26 rfl) e1 r0 d16_7 ?_
  intro T2 X2 e2
  refine t_ifN X2 u d16_10 ((if0 _ _).trans (teq r1).2) ?_
  refine t_iC X2 u d16_13  ?_
  refine t_go 14 18 X2 u rfl d16_14 (by decide) ?_
  exact t_rN X2 u hret hlk (by simp) rfl d16_18 e2 N0 (by decide)
theorem pn_14 : plainName "java/lang/AbstractStringBuilder" = true := by first | (simp [plainName, overriddenIn]; done) | decide +kernel
def Q_a14_0 (Z : State) (x0 : Addr) (x1 : Int32) (w1 : Addr) (kk2 : ClassId) (h0 : Heap) (v : Option Value) (h : Heap) (L : List Loc) : Prop := v = some (.ref x0) ∧ Fr Z.heap.size L ∧ Keep h0 h [w1, x0] ∧ Arv Z h w1 kk2 .byte (16 : Int32) [v_115, v_116, v_97, v_116, v_117, v_115, v_32, (.int (bq x1 0))] v_0 ∧ fl_8 Z h x0 v_8 ∧ fl_6 Z h x0 (.ref w1) ∧ fl_7 Z h x0 v_0
theorem rm_a14_0 (x0 : Addr) (x1 : Int32) (w1 : Addr) (kk2 : ClassId) (h0 : Heap) (O0 : Ext Z.heap h0) (r0 : fl_8 Z h0 x0 v_7) (r1 : Dg_0_1 x1) (r2 : fl_6 Z h0 x0 (.ref w1)) (r3 : Arv Z h0 w1 kk2 .byte (16 : Int32) [v_115, v_116, v_97, v_116, v_117, v_115, v_32, v_0, v_0, v_0, v_0, v_0, v_0, v_0, v_0, v_0] v_0) (r4 : fl_7 Z h0 x0 v_0) (r5 : ex_3 Z h0 x0) (r6 : Z.heap.size ≤ w1) (r7 : x0 ≠ w1) (r8 : Z.heap.size ≤ x0) :
    MF hw GG l y_14 jdk_68_method_32_code 4 (some (.object "java/lang/AbstractStringBuilder")) ws ⟨1, 0, 0, 18⟩ h0 #[(.ref x0), (.int x1)] (Q_a14_0 Z x0 x1 w1 kk2 h0) := by
  refine own_mF #[.val (.ref x0), .val (.int x1), .unset, .unset] (plainFor_of_name pn_14) (fun _ => rfl) ?_
  intro p e s m below meth c s₁ u hlk hret hZ hown hnm X0 e0 N0
  obtain ⟨hx, hby, hml⟩ := id u
  refine t_aN X0 u d14_0 rfl rfl ?_
  refine t_gF X0 u hZ hown (wd hw 57 rfl) e0 r0 d14_1 ?_
  intro T1 X1 e1
  refine t_isN X1 u d14_4 (l' := #[.val (.ref x0), .val (.int x1), .val v_7, .unset]) rfl ?_
  refine t_iN X1 u d14_5 rfl ?_
  refine t_iN X1 u d14_6 rfl ?_
  refine pt_cS [(.int x1)] [v_7] 1 X1 u hZ hown (wd hw 93 rfl) (m_10 hw) e1 (rm_ss_0_1 l Z a0 hw [] G GG x1 h0 O0 r1) rfl d14_7 rfl rfl (by decide) N0 ?_
  intro T2 L2 X2 e2 N2_
  refine t_iadd X2 u d14_10  ?_
  refine t_isN X2 u d14_11 (l' := #[.val (.ref x0), .val (.int x1), .val v_7, .val v_8]) rfl ?_
  refine t_aN X2 u d14_12 rfl rfl ?_
  refine t_iN X2 u d14_13 rfl ?_
  refine pt_cP [v_8] [] 0 X2 u hZ hown r5 (wd hw 59 rfl) (m_4 hw) e2 (rm_a9_0 l Z a0 hw [] G GG x0 (8 : Int32) w1 kk2 (115 : Int32) (116 : Int32) (97 : Int32) (116 : Int32) (117 : Int32) (115 : Int32) (32 : Int32) (0 : Int32) (0 : Int32) (0 : Int32) (0 : Int32) (0 : Int32) (0 : Int32) (0 : Int32) (0 : Int32) (0 : Int32) (0 : Int32) h0 O0 r2 r3 r4 (by decide)) rfl d14_14 rfl rfl (by decide) N2_ ?_
  intro T3 L3 X3 e3 N3_
  refine t_aN X3 u d14_17 rfl rfl ?_
  refine pt_cV [] [] 0 X3 u hZ hown (wd hw 97 rfl) (m_11 hw) e3 r5 (rm_a16_0 l Z a0 hw [] G GG x0 (0 : Int32) h0 O0 r4 (by decide)) rfl d14_18 rfl rfl (by decide) N3_ ?_
  intro T4 L4 X4 e4 N4_
  refine t_ifN X4 u d14_21 ((if0 _ _).trans (feq (by decide : ¬ ((1 : Int32) = (0 : Int32)))).1) ?_
  refine t_iN X4 u d14_24 rfl ?_
  refine t_iN X4 u d14_25 rfl ?_
  refine t_aN X4 u d14_26 rfl rfl ?_
  refine t_gF X4 u hZ hown (wd hw 24 rfl) e4 r2 d14_27 ?_
  intro T5 X5 e5
  refine t_cS [(.int x1), v_8, (.ref w1)] [] 0 X5 u hZ hown (wd hw 102 rfl) (m_12 hw) e5 (rm_gc_0_1 l Z a0 hw [] G GG x1 w1 kk2 h0 O0 r1 r6 (Arv.pad r3 (own_tr [v_115, v_116, v_97, v_116, v_117, v_115, v_32, v_0] 8 _))) rfl d14_30 rfl rfl (by decide) ?_
  intro v6 T6 L6 Lc6 X6 hQ6 l6
  obtain ⟨rfl, Nq6, Kq6, pV6⟩ := hQ6
  have O6_ := extKeep O0 Kq6 (allS r6 all0)
  have K6 := Keep.trans (Keep.refl h0 [w1, x0]) Kq6 (allS k0 all0)
  have N6_ := frA l6 N4_ Nq6
  refine t_pop X6 u d14_33 rfl ?_
  refine t_go 34 48 X6 u rfl d14_34 (by decide) ?_
  refine t_aN X6 u d14_48 rfl rfl ?_
  refine t_iN X6 u d14_49 rfl ?_
  refine t_pF X6 u hZ hown (wd hw 57 rfl) rfl (r0.keep Kq6 (ninS r7 nin0)) (r5.keep Kq6) (Or.inl (wd hw 58 rfl)) (wd hw 7 rfl) pf_I rfl rfl d14_50 ?_
  intro T7 h7 X7 e7 W7
  have N7_ := Fr.snoc X7 N6_ r8
  have O7_ := extWr O6_ W7 r8
  have K7 := Keep.wr K6 W7 k1
  have F7 := Fld.same W7 (r0.keep Kq6 (ninS r7 nin0))
  refine t_aN X7 u d14_53 rfl rfl ?_
  have f8 := (fS W7 (r2.keep Kq6 (ninS r7 nin0)) (sn_10 hw))
  have f9 := (fS W7 (r4.keep Kq6 (ninS r7 nin0)) (sn_11 hw))
  exact Go.retA X7 hx hret rfl rfl hlk (hb hby d14_54) (by decide) (by decide) (by show Q_a14_0 ..; rw [e7]; exact ⟨rfl, N7_, K7, (pV6.other W7 (Ne.symm r7)), F7, f8, f9⟩)
theorem pn_13 : plainName "java/lang/StringBuilder" = true := by first | (simp [plainName, overriddenIn]; done) | decide +kernel
def Q_a13_0 (Z : State) (x0 : Addr) (x1 : Int32) (w1 : Addr) (kk2 : ClassId) (h0 : Heap) (v : Option Value) (h : Heap) (L : List Loc) : Prop := v = some (.ref x0) ∧ Fr Z.heap.size L ∧ Keep h0 h [x0, w1] ∧ Arv Z h w1 kk2 .byte (16 : Int32) [v_115, v_116, v_97, v_116, v_117, v_115, v_32, (.int (bq x1 0))] v_0 ∧ fl_8 Z h x0 v_8 ∧ fl_6 Z h x0 (.ref w1) ∧ fl_7 Z h x0 v_0
theorem rm_a13_0 (x0 : Addr) (x1 : Int32) (w1 : Addr) (kk2 : ClassId) (h0 : Heap) (O0 : Ext Z.heap h0) (r0 : fl_8 Z h0 x0 v_7) (r1 : Dg_0_1 x1) (r2 : fl_6 Z h0 x0 (.ref w1)) (r3 : Arv Z h0 w1 kk2 .byte (16 : Int32) [v_115, v_116, v_97, v_116, v_117, v_115, v_32, v_0, v_0, v_0, v_0, v_0, v_0, v_0, v_0, v_0] v_0) (r4 : fl_7 Z h0 x0 v_0) (r5 : ex_3 Z h0 x0) (r6 : Z.heap.size ≤ w1) (r7 : x0 ≠ w1) (r8 : Z.heap.size ≤ x0) :
    MF hw GG l y_13 jdk_67_method_15_code 2 (some (.object "java/lang/StringBuilder")) ws ⟨2, 0, 0, 33⟩ h0 #[(.ref x0), (.int x1)] (Q_a13_0 Z x0 x1 w1 kk2 h0) := by
  refine own_mF #[.val (.ref x0), .val (.int x1)] (plainFor_of_name pn_13) (fun _ => rfl) ?_
  intro p e s m below meth c s₁ u hlk hret hZ hown hnm X0 e0 N0
  obtain ⟨hx, hby, hml⟩ := id u
  refine t_aN X0 u d13_0 rfl rfl ?_
  refine t_iN X0 u d13_1 rfl ?_
  refine t_cX [(.int x1)] [] 0 X0 u hZ hown (by decide) r5 (wd hw 89 rfl) (m_13 hw) e0 (rm_a14_0 l Z a0 hw [] G GG x0 x1 w1 kk2 h0 O0 r0 r1 r2 r3 r4 r5 r6 r7 r8) rfl d13_2 rfl rfl (by decide) ?_
  intro v1 T1 L1 Lc1 X1 hQ1 l1
  obtain ⟨rfl, Nq1, Kq1, p1_0, p1_1, p1_2, p1_3⟩ := hQ1
  have O1_ := extKeep O0 Kq1 (allS r6 (allS r8 all0))
  have K1 := Keep.trans (Keep.refl h0 [x0, w1]) Kq1 (allS k1 (allS k0 all0))
  have N1_ := frA l1 N0 Nq1
  refine t_pop X1 u d13_5 rfl ?_
  refine t_aN X1 u d13_6 rfl rfl ?_
  exact Go.retA X1 hx hret rfl rfl hlk (hb hby d13_7) (by decide) (by decide) ⟨rfl, N1_, K1, p1_0, p1_1, p1_2, p1_3⟩
theorem pn_21 : plainName "java/lang/AbstractStringBuilder" = true := by first | (simp [plainName, overriddenIn]; done) | decide +kernel
theorem rm_a21_0 (x0 w1 : Addr) (h0 : Heap) (O0 : Ext Z.heap h0) (r0 : fl_6 Z h0 x0 (.ref w1)) :
    MF hw GG l y_21 jdk_68_method_64_code 1 (some (.array .byte)) ws ⟨0, 0, 0, 0⟩ h0 #[(.ref x0)] (Qp (some (.ref w1)) Z h0) := by
  refine own_mF #[.val (.ref x0)] (plainFor_of_name pn_21) (fun _ => rfl) ?_
  intro p e s m below meth c s₁ u hlk hret hZ hown hnm X0 e0 N0
  refine t_aN X0 u d21_0 rfl rfl ?_
  refine t_gF X0 u hZ hown (wd hw 24 rfl) e0 r0 d21_1 ?_
  intro T1 X1 e1
  exact t_rA X1 u hret hlk rfl rfl d21_4 e1 N0 (by decide)
theorem pn_23 : plainName "java/lang/AbstractStringBuilder" = true := by first | (simp [plainName, overriddenIn]; done) | decide +kernel
theorem rm_a23_0 (x0 : Addr) (w1 : Int32) (h0 : Heap) (O0 : Ext Z.heap h0) (r0 : fl_8 Z h0 x0 (.int w1)) :
    MF hw GG l y_23 jdk_68_method_6_code 1 (some .int) ws ⟨0, 0, 0, 0⟩ h0 #[(.ref x0)] (Qp (some (.int w1)) Z h0) := by
  refine own_mF #[.val (.ref x0)] (plainFor_of_name pn_23) (fun _ => rfl) ?_
  intro p e s m below meth c s₁ u hlk hret hZ hown hnm X0 e0 N0
  refine t_aN X0 u d23_0 rfl rfl ?_
  refine t_gF X0 u hZ hown (wd hw 57 rfl) e0 r0 d23_1 ?_
  intro T1 X1 e1
  exact t_rI X1 u hret hlk d23_4 e1 N0 (by decide)
theorem pn_22 : plainName "java/lang/StringBuilder" = true := by first | (simp [plainName, overriddenIn]; done) | decide +kernel
theorem rm_a22_0 (x0 : Addr) (w1 : Int32) (h0 : Heap) (O0 : Ext Z.heap h0) (r0 : fl_8 Z h0 x0 (.int w1)) (r1 : ex_3 Z h0 x0) :
    MF hw GG l y_22 jdk_67_method_93_code 1 (some .int) ws ⟨1, 0, 0, 12⟩ h0 #[(.ref x0)] (Qp (some (.int w1)) Z h0) := by
  refine own_mF #[.val (.ref x0)] (plainFor_of_name pn_22) (fun _ => rfl) ?_
  intro p e s m below meth c s₁ u hlk hret hZ hown hnm X0 e0 N0
  refine t_aN X0 u d22_0 rfl rfl ?_
  refine pt_cX [] [] 0 X0 u hZ hown (by decide) r1 (wd hw 131 rfl) (m_16 hw) e0 (rm_a23_0 l Z a0 hw [] G GG x0 w1 h0 O0 r0) rfl d22_1 rfl rfl (by decide) N0 ?_
  intro T1 L1 X1 e1 N1_
  exact t_rI X1 u hret hlk d22_4 e1 N1_ (by decide)
theorem pn_26 : plainName "java/util/Arrays" = true := by first | (simp [plainName, overriddenIn]; done) | decide +kernel
theorem rm_a26_0 (x0 x1 : Int32) (h0 : Heap) (O0 : Ext Z.heap h0) (r0 : ¬ (x1 < x0)) :
    MF hw GG l y_26 jdk_65_method_131_code 2 none ws ⟨0, 0, 0, 0⟩ h0 #[(.int x0), (.int x1)] (Qp (none) Z h0) := by
  refine own_mF #[.val (.int x0), .val (.int x1)] (plainFor_of_name pn_26) (fun _ => rfl) ?_
  intro p e s m below meth c s₁ u hlk hret hZ hown hnm X0 e0 N0
  refine t_iN X0 u d26_0 rfl ?_
  refine t_iN X0 u d26_1 rfl ?_
  refine t_icY 2 37 X0 u rfl d26_2 (flt r0).2.1 (by decide) ?_
  exact t_rV X0 u hret hlk d26_37 e0 N0 (by decide)
theorem rm_a27_0 (x0 x1 : Int32) (h0 : Heap) (O0 : Ext Z.heap h0) (r0 : x1 < x0) :
    MF hw GG l y_27 jdk_29_method_69_code 2 (some .int) ws ⟨0, 0, 0, 0⟩ h0 #[(.int x0), (.int x1)] (Qp (some (.int x1)) Z h0) := by
  refine own_mF #[.val (.int x0), .val (.int x1)] (Jvm.Free.JP.mathPlain rfl (by decide +kernel)) (fun _ => rfl) ?_
  intro p e s m below meth c s₁ u hlk hret hZ hown hnm X0 e0 N0
  refine t_iN X0 u d27_0 rfl ?_
  refine t_iN X0 u d27_1 rfl ?_
  refine t_icY 2 9 X0 u rfl d27_2 (tlt r0).2.2.1 (by decide) ?_
  refine t_iN X0 u d27_9 rfl ?_
  exact t_rI X0 u hret hlk d27_10 e0 N0 (by decide)
theorem pn_25 : plainName "java/util/Arrays" = true := by first | (simp [plainName, overriddenIn]; done) | decide +kernel
def Q_a25_0 (Z : State) (w2 : Int32) (h0 : Heap) (v : Option Value) (h : Heap) (L : List Loc) : Prop := ∃ (b2 : Addr) (k2 : ClassId), v = some (.ref b2) ∧ Fr Z.heap.size L ∧ Keep h0 h [] ∧ h0.size ≤ b2 ∧ ex_0 Z h b2 ∧ Arv Z h b2 k2 .byte (8 : Int32) [v_115, v_116, v_97, v_116, v_117, v_115, v_32, (.int w2)] v_0
theorem rm_a25_0 (x0 : Addr) (kk1 : ClassId) (w2 : Int32) (h0 : Heap) (O0 : Ext Z.heap h0) (r0 : Arv Z h0 x0 kk1 .byte (16 : Int32) [v_115, v_116, v_97, v_116, v_117, v_115, v_32, (.int w2)] v_0) :
    MF hw GG l y_25 jdk_65_method_133_code 5 (some (.array .byte)) ws ⟨1, 1, 8, 18⟩ h0 #[(.ref x0), v_0, v_8] (Q_a25_0 Z w2 h0) := by
  refine own_mF #[.val (.ref x0), .val v_0, .val v_8, .unset, .unset] (plainFor_of_name pn_25) (fun _ => rfl) ?_
  intro p e s m below meth c s₁ u hlk hret hZ hown hnm X0 e0 N0
  obtain ⟨hx, hby, hml⟩ := id u
  refine t_iN X0 u d25_0 rfl ?_
  refine t_iN X0 u d25_1 rfl ?_
  refine pt_cS [v_0, v_8] [] 0 X0 u hZ hown (wd hw 141 rfl) (m_17 hw) e0 (rm_a26_0 l Z a0 hw [] G GG (0 : Int32) (8 : Int32) h0 O0 (by decide)) rfl d25_2 rfl rfl (by decide) N0 ?_
  intro T1 L1 X1 e1 N1_
  refine t_iN X1 u d25_5 rfl ?_
  refine t_iN X1 u d25_6 rfl ?_
  refine t_isub X1 u d25_7  ?_
  refine t_isN X1 u d25_8 (l' := #[.val (.ref x0), .val v_0, .val v_8, .val v_8, .unset]) rfl ?_
  refine t_iN X1 u d25_9 rfl ?_
  refine t_nB 8 X1 u hZ (wd hw 23 rfl) e1 d25_10 (by decide) ?_
  intro T2 h2 b2 k2 X2 e2 E2 hb2 V2 B2
  have g_b2 := leE O0.1 hb2
  have O2_ := extTr O0 E2
  have sz_b2 := leE (Keep.refl h0 []).1 hb2
  have K2 := Keep.ext (Keep.refl h0 []) E2
  refine t_asL X2 u d25_12 rfl (l' := #[.val (.ref x0), .val v_0, .val v_8, .val v_8, .val (.ref b2)]) rfl ?_
  refine t_aN X2 u d25_14 rfl rfl ?_
  refine t_iN X2 u d25_15 rfl ?_
  refine t_aL X2 u d25_16 rfl rfl ?_
  refine t_iC X2 u d25_18  ?_
  refine t_aN X2 u d25_19 rfl rfl ?_
  obtain ⟨cl3, Ar3, -, S3, N3, -, -⟩ := id (r0.ext E2)
  refine Go.step (X2.arraylength hx (by rw [e2]; exact Ar3.1) (State.isArrayOf_alike hZ.alike Ar3.2.1) (g := (mkF m 20 #[.val (.ref x0), .val v_0, .val v_8, .val v_8, .val (.ref b2)] [(.ref x0), v_0, (.ref b2), v_0, (.ref x0)])) rfl rfl (hb hby d25_20)) ?_
  rw [len_of S3 N3]
  show Go _ _ _ _ _ _ _ _ T2 (mkF m 21 #[.val (.ref x0), .val v_0, .val v_8, .val v_8, .val (.ref b2)] [v_16, v_0, (.ref b2), v_0, (.ref x0)])
  refine t_iN X2 u d25_21 rfl ?_
  refine t_isub X2 u d25_22  ?_
  refine t_iN X2 u d25_23 rfl ?_
  refine pt_cS [v_16, v_8] [v_0, (.ref b2), v_0, (.ref x0)] 4 X2 u hZ hown (wd hw 144 rfl) (m_18 hw) e2 (rm_a27_0 l Z a0 hw [] G GG (16 : Int32) (8 : Int32) h2 O2_ (by decide)) rfl d25_24 rfl rfl (by decide) N1_ ?_
  intro T4 L4 X4 e4 N4_
  obtain ⟨T5, h5, L5, X5, e5, N5_, K5_, V5_, st5⟩ := cpA X4 hx hZ hown (wd hw 148 rfl) (wd hw 83 rfl) (wd hw 81 rfl) (wd hw 82 rfl) e4 (us := [v_115, v_116, v_97, v_116, v_117, v_115, v_32, (.int w2)]) (r0.ext E2) V2 (Or.inl ⟨rfl, rfl⟩) (by decide) (by decide) (by decide) (by decide) (by decide) rfl (by decide) N4_ g_b2 (g := (mkF m 27 #[.val (.ref x0), .val v_0, .val v_8, .val v_8, .val (.ref b2)] [v_8, v_0, (.ref b2), v_0, (.ref x0)])) rfl (by rw [hml]; rfl) rfl (hb hby d25_27) (by decide) (W := 0) (by show 2 * 0 + _ ≤ _; exact Nat.le_of_eq rfl) (by decide)
  refine Go.step st5 ?_
  have V5 : Arv Z h5 b2 k2 .byte (8 : Int32) [v_115, v_116, v_97, v_116, v_117, v_115, v_32, (.int w2)] v_0 := V5_
  have O5_ : Ext Z.heap h5 := extKeep O2_ K5_ (allS g_b2 all0)
  have K5 := Keep.trans K2 K5_ (allS (Or.inr sz_b2) all0)
  refine t_aL X5 u d25_30 rfl rfl ?_
  exact Go.retA X5 hx hret rfl rfl hlk (hb hby d25_32) (by decide) (by decide) (by show Q_a25_0 ..; rw [e5]; exact ⟨b2, k2, rfl, N5_, K5, sz_b2, (B2.keep K5_), V5⟩)
theorem pn_24 : plainName "java/util/Arrays" = true := by first | (simp [plainName, overriddenIn]; done) | decide +kernel
def Q_a24_0 (Z : State) (w2 : Int32) (h0 : Heap) (v : Option Value) (h : Heap) (L : List Loc) : Prop := ∃ (b2q2 : Addr) (k2q2 : ClassId), v = some (.ref b2q2) ∧ Fr Z.heap.size L ∧ Keep h0 h [] ∧ h0.size ≤ b2q2 ∧ ex_0 Z h b2q2 ∧ Arv Z h b2q2 k2q2 .byte (8 : Int32) [v_115, v_116, v_97, v_116, v_117, v_115, v_32, (.int w2)] v_0
theorem rm_a24_0 (x0 : Addr) (kk1 : ClassId) (w2 : Int32) (h0 : Heap) (O0 : Ext Z.heap h0) (r0 : Arv Z h0 x0 kk1 .byte (16 : Int32) [v_115, v_116, v_97, v_116, v_117, v_115, v_32, (.int w2)] v_0) :
    MF hw GG l y_24 jdk_65_method_132_code 3 (some (.array .byte)) ws ⟨2, 1, 8, 34⟩ h0 #[(.ref x0), v_0, v_8] (Q_a24_0 Z w2 h0) := by
  refine own_mF #[.val (.ref x0), .val v_0, .val v_8] (plainFor_of_name pn_24) (fun _ => rfl) ?_
  intro p e s m below meth c s₁ u hlk hret hZ hown hnm X0 e0 N0
  obtain ⟨hx, hby, hml⟩ := id u
  refine t_iN X0 u d24_0 rfl ?_
  refine t_ifN X0 u d24_1 ((if0 _ _).trans (teq (by decide : (0 : Int32) = (0 : Int32))).2) ?_
  refine t_iN X0 u d24_4 rfl ?_
  refine t_aN X0 u d24_5 rfl rfl ?_
  obtain ⟨cl1, Ar1, -, S1, N1, -, -⟩ := id r0
  refine Go.step (X0.arraylength hx (by rw [e0]; exact Ar1.1) (State.isArrayOf_alike hZ.alike Ar1.2.1) (g := (mkF m 6 #[.val (.ref x0), .val v_0, .val v_8] [(.ref x0), v_8])) rfl rfl (hb hby d24_6)) ?_
  rw [len_of S1 N1]
  show Go _ _ _ _ _ _ _ _ s₁ (mkF m 7 #[.val (.ref x0), .val v_0, .val v_8] [v_16, v_8])
  refine t_icN X0 u d24_7 (feq (by decide : ¬ ((8 : Int32) = (16 : Int32)))).1 ?_
  refine t_aN X0 u d24_10 rfl rfl ?_
  refine t_iN X0 u d24_11 rfl ?_
  refine t_iN X0 u d24_12 rfl ?_
  refine t_cS [(.ref x0), v_0, v_8] [] 0 X0 u hZ hown (wd hw 138 rfl) (m_19 hw) e0 (rm_a25_0 l Z a0 hw [] G GG x0 kk1 w2 h0 O0 r0) rfl d24_13 rfl rfl (by decide) ?_
  intro v2 T2 L2 Lc2 X2 hQ2 l2
  obtain ⟨b2q2, k2q2, rfl, Nq2, Kq2, p2_0, p2_1, p2_2⟩ := hQ2
  have O2_ := extKeep O0 Kq2 all0
  have K2 := Keep.trans (Keep.refl h0 []) Kq2 all0
  have N2_ := frA l2 N0 Nq2
  have g_b2q2 := Nat.le_trans O0.1 p2_0
  have sz_b2q2 := Nat.le_trans (Keep.refl h0 []).1 p2_0
  exact Go.retA X2 hx hret rfl rfl hlk (hb hby d24_16) (by decide) (by decide) ⟨b2q2, k2q2, rfl, N2_, K2, sz_b2q2, p2_1, p2_2⟩
theorem pn_20 : plainName "java/lang/String" = true := by first | (simp [plainName, overriddenIn]; done) | decide +kernel
def Q_a20_0 (Z : State) (x0 : Addr) (w3 : Int32) (h0 : Heap) (v : Option Value) (h : Heap) (L : List Loc) : Prop := ∃ (b2q2q6 : Addr) (k2q2q6 : ClassId), v = none ∧ Fr Z.heap.size L ∧ Keep h0 h [x0] ∧ fl_4 Z h x0 v_0 ∧ fl_5 Z h x0 (.ref b2q2q6) ∧ h0.size ≤ b2q2q6 ∧ ex_0 Z h b2q2q6 ∧ Arv Z h b2q2q6 k2q2q6 .byte (8 : Int32) [v_115, v_116, v_97, v_116, v_117, v_115, v_32, (.int w3)] v_0
theorem rm_a20_0 (x0 x1 w1 : Addr) (kk2 : ClassId) (w3 : Int32) (h0 : Heap) (O0 : Ext Z.heap h0) (r0 : ex_3 Z h0 x1) (r1 : fl_6 Z h0 x1 (.ref w1)) (r2 : fl_8 Z h0 x1 v_8) (r3 : fl_7 Z h0 x1 v_0) (r4 : ex_2 Z h0 x0) (r5 : fl_4 Z h0 x0 v_0) (r6 : Z.heap.size ≤ x0) (r7 : Arv Z h0 w1 kk2 .byte (16 : Int32) [v_115, v_116, v_97, v_116, v_117, v_115, v_32, (.int w3)] v_0) (r8 : w1 ≠ x0) (r9 : fl_5 Z h0 x0 .null) :
    MF hw GG l y_20 jdk_42_method_150_code 5 none ws ⟨3, 1, 8, 49⟩ h0 #[(.ref x0), (.ref x1), .null] (Q_a20_0 Z x0 w3 h0) := by
  refine own_mF #[.val (.ref x0), .val (.ref x1), .val .null, .unset, .unset] (plainFor_of_name pn_20) (fun _ => rfl) ?_
  intro p e s m below meth c s₁ u hlk hret hZ hown hnm X0 e0 N0
  obtain ⟨hx, hby, hml⟩ := id u
  refine t_aN X0 u d20_0 rfl rfl ?_
  refine t_in 0 X0 u hZ hown (wd hw 119 rfl) (wd hw 19 rfl) (wd hw 20 rfl) e0 rfl d20_1 rfl (by decide) ?_
  intro T1 X1 e1
  refine t_aN X1 u d20_4 rfl rfl ?_
  refine pt_cV [] [] 0 X1 u hZ hown (wd hw 120 rfl) (m_15 hw) e1 r0 (rm_a21_0 l Z a0 hw [] G GG x1 w1 h0 O0 r1) rfl d20_5 rfl rfl (by decide) N0 ?_
  intro T2 L2 X2 e2 N2_
  refine t_asN X2 u d20_8 rfl (l' := #[.val (.ref x0), .val (.ref x1), .val .null, .val (.ref w1), .unset]) rfl ?_
  refine t_aN X2 u d20_9 rfl rfl ?_
  obtain ⟨cq3, kq3, q3a, q3b, q3c⟩ := isOf hZ e2 r0
  obtain ⟨_, _, ⟨T3, L3, k3, n3⟩, -, X3, ⟨Lc3, hQ3, l3, y3, z3⟩, st3⟩ := X2.virtualBack hx (y := (⟨"java/lang/AbstractStringBuilder", "length", "()I"⟩ : MethodName)) (z := (⟨"java/lang/StringBuilder", "length", "()I"⟩ : MethodName)) hown (mvT hZ (wd hw 125 rfl)) (mvT hZ (wd hw 126 rfl)) (own_nf (mvT hZ (wd hw 62 rfl)) rfl) (mvT hZ (wd hw 128 rfl)) (mvT hZ (wd hw 129 rfl)) (by decide) (backOf (W := 0) (rm_a22_0 l Z a0 hw [] G GG x1 (8 : Int32) h0 O0 r2 r0) hZ (wd hw 130 rfl) (wd hw 8 rfl) (by decide) (by decide)) q3a q3c (g := (mkF m 10 #[.val (.ref x0), .val (.ref x1), .val .null, .val (.ref w1), .unset] [(.ref x1)])) rfl (by rw [hml]; rfl) (Steps.refl _) (argsL := []) (rest := []) (lenOf pd_LRI rfl) rfl (by show 2 * 0 + _ ≤ _; exact Nat.le_of_eq rfl) (hb hby d20_10) (fun _ _ => ⟨rfl, e2, (by decide : 0 + 0 ≤ _), (by decide : 0 + 0 ≤ _)⟩)
  dsimp only [Pt.U, Pt.locs, Pt.cells, Pt.slots] at X3 l3 y3 z3 st3 hQ3
  subst y3 z3
  obtain ⟨rfl, Nq3, e3⟩ := hQ3
  have N3_ := frA l3 N2_ Nq3
  refine Go.trans st3 ?_
  refine t_isL X3 u d20_13 (l' := #[.val (.ref x0), .val (.ref x1), .val .null, .val (.ref w1), .val v_8]) rfl ?_
  refine t_aN X3 u d20_15 rfl rfl ?_
  refine pt_cV [] [] 0 X3 u hZ hown (wd hw 133 rfl) (m_11 hw) e3 r0 (rm_a16_0 l Z a0 hw [] G GG x1 (0 : Int32) h0 O0 r3 (by decide)) rfl d20_16 rfl rfl (by decide) N3_ ?_
  intro T4 L4 X4 e4 N4_
  refine t_ifN X4 u d20_19 ((if0 _ _).trans (feq (by decide : ¬ ((1 : Int32) = (0 : Int32)))).1) ?_
  refine t_aN X4 u d20_22 rfl rfl ?_
  refine t_iC X4 u d20_23  ?_
  refine t_pN X4 u hZ hown (wd hw 56 rfl) e4 r5 r4 (Or.inr ⟨(wd hw 31 rfl), rfl, hnm⟩) (wd hw 29 rfl) v_0 pf_B rfl rfl d20_24 ?_
  intro T5 h5 X5 e5 W5
  have N5_ := Fr.snoc X5 N4_ r6
  have O5_ := extWr O0 W5 r6
  have K5 := Keep.wr (Keep.refl h0 [x0]) W5 k0
  have F5 := Fld.same W5 r5
  refine t_aN X5 u d20_27 rfl rfl ?_
  refine t_aN X5 u d20_28 rfl rfl ?_
  refine t_iC X5 u d20_29  ?_
  refine t_iL X5 u d20_30 rfl ?_
  refine t_cS [(.ref w1), v_0, v_8] [(.ref x0)] 1 X5 u hZ hown (wd hw 134 rfl) (m_20 hw) e5 (rm_a24_0 l Z a0 hw [] G GG w1 kk2 w3 h5 O5_ (r7.other W5 r8)) rfl d20_32 rfl rfl (by decide) ?_
  intro v6 T6 L6 Lc6 X6 hQ6 l6
  obtain ⟨b2q2q6, k2q2q6, rfl, Nq6, Kq6, p6_0, p6_1, p6_2⟩ := hQ6
  have O6_ := extKeep O5_ Kq6 all0
  have K6 := Keep.trans K5 Kq6 all0
  have N6_ := frA l6 N5_ Nq6
  have g_b2q2q6 := Nat.le_trans O5_.1 p6_0
  have sz_b2q2q6 := Nat.le_trans K5.1 p6_0
  refine t_pF X6 u hZ hown (wd hw 49 rfl) rfl ((fR W5 r9 (sn_12 hw)).keep Kq6 nin0) ((Exa.wr W5 r4).keep Kq6) (Or.inr ⟨(wd hw 30 rfl), rfl, hnm⟩) (wd hw 29 rfl) pf_AB rfl rfl d20_35 ?_
  intro T7 h7 X7 e7 W7
  have N7_ := Fr.snoc X7 N6_ r6
  have O7_ := extWr O6_ W7 r6
  have K7 := Keep.wr K6 W7 k0
  have F7 := Fld.same W7 ((fR W5 r9 (sn_12 hw)).keep Kq6 nin0)
  refine t_go 38 97 X7 u rfl d20_38 (by decide) ?_
  have f8 := (p6_2.other W7 (Ne.symm (neL (Exa.wr W5 r4).lt p6_0)))
  exact Go.retV X7 hx hret hlk (hb hby d20_97) (by decide) (by decide) (by show Q_a20_0 ..; rw [e7]; exact ⟨b2q2q6, k2q2q6, rfl, N7_, K7, (fS W7 (F5.keep Kq6 nin0) (sn_12 hw)), F7, sz_b2q2q6, (Exa.wr W7 p6_1), f8⟩)
theorem pn_19 : plainName "java/lang/String" = true := by first | (simp [plainName, overriddenIn]; done) | decide +kernel
def Q_a19_0 (Z : State) (x0 : Addr) (w3 : Int32) (h0 : Heap) (v : Option Value) (h : Heap) (L : List Loc) : Prop := ∃ (b2q2q6q1 : Addr) (k2q2q6q1 : ClassId), v = none ∧ Fr Z.heap.size L ∧ Keep h0 h [x0] ∧ fl_4 Z h x0 v_0 ∧ fl_5 Z h x0 (.ref b2q2q6q1) ∧ h0.size ≤ b2q2q6q1 ∧ ex_0 Z h b2q2q6q1 ∧ Arv Z h b2q2q6q1 k2q2q6q1 .byte (8 : Int32) [v_115, v_116, v_97, v_116, v_117, v_115, v_32, (.int w3)] v_0
theorem rm_a19_0 (x0 x1 w1 : Addr) (kk2 : ClassId) (w3 : Int32) (h0 : Heap) (O0 : Ext Z.heap h0) (r0 : ex_3 Z h0 x1) (r1 : fl_6 Z h0 x1 (.ref w1)) (r2 : fl_8 Z h0 x1 v_8) (r3 : fl_7 Z h0 x1 v_0) (r4 : ex_2 Z h0 x0) (r5 : fl_4 Z h0 x0 v_0) (r6 : Z.heap.size ≤ x0) (r7 : Arv Z h0 w1 kk2 .byte (16 : Int32) [v_115, v_116, v_97, v_116, v_117, v_115, v_32, (.int w3)] v_0) (r8 : w1 ≠ x0) (r9 : fl_5 Z h0 x0 .null) :
    MF hw GG l y_19 jdk_42_method_53_code 2 none ws ⟨4, 1, 8, 65⟩ h0 #[(.ref x0), (.ref x1)] (Q_a19_0 Z x0 w3 h0) := by
  refine own_mF #[.val (.ref x0), .val (.ref x1)] (plainFor_of_name pn_19) (fun _ => rfl) ?_
  intro p e s m below meth c s₁ u hlk hret hZ hown hnm X0 e0 N0
  obtain ⟨hx, hby, hml⟩ := id u
  refine t_aN X0 u d19_0 rfl rfl ?_
  refine t_aN X0 u d19_1 rfl rfl ?_
  refine t_nl X0 u d19_2  ?_
  refine t_cN [(.ref x1), .null] [] 0 X0 u hZ hown rfl (wd hw 116 rfl) (m_21 hw) e0 (rm_a20_0 l Z a0 hw [] G GG x0 x1 w1 kk2 w3 h0 O0 r0 r1 r2 r3 r4 r5 r6 r7 r8 r9) rfl d19_3 rfl rfl (by decide) ?_
  intro v1 T1 L1 Lc1 X1 hQ1 l1
  obtain ⟨b2q2q6q1, k2q2q6q1, rfl, Nq1, Kq1, p1_0, p1_1, p1_2, p1_3, p1_4⟩ := hQ1
  have O1_ := extKeep O0 Kq1 (allS r6 all0)
  have K1 := Keep.trans (Keep.refl h0 [x0]) Kq1 (allS k0 all0)
  have N1_ := frA l1 N0 Nq1
  have g_b2q2q6q1 := Nat.le_trans O0.1 p1_2
  have sz_b2q2q6q1 := Nat.le_trans (Keep.refl h0 [x0]).1 p1_2
  exact Go.retV X1 hx hret hlk (hb hby d19_6) (by decide) (by decide) ⟨b2q2q6q1, k2q2q6q1, rfl, N1_, K1, p1_0, p1_1, sz_b2q2q6q1, p1_3, p1_4⟩
theorem pn_18 : plainName "java/lang/StringBuilder" = true := by first | (simp [plainName, overriddenIn]; done) | decide +kernel
def Q_a18_0 (Z : State) (w3 : Int32) (h0 : Heap) (v : Option Value) (h : Heap) (L : List Loc) : Prop := ∃ (b1 : Addr) (b2q2q6q1q2 : Addr) (k2q2q6q1q2 : ClassId), v = some (.ref b1) ∧ Fr Z.heap.size L ∧ Keep h0 h [] ∧ h0.size ≤ b1 ∧ ex_2 Z h b1 ∧ fl_4 Z h b1 v_0 ∧ fl_5 Z h b1 (.ref b2q2q6q1q2) ∧ h0.size ≤ b2q2q6q1q2 ∧ ex_0 Z h b2q2q6q1q2 ∧ Arv Z h b2q2q6q1q2 k2q2q6q1q2 .byte (8 : Int32) [v_115, v_116, v_97, v_116, v_117, v_115, v_32, (.int w3)] v_0 ∧ b1 ≠ b2q2q6q1q2
theorem rm_a18_0 (x0 w1 : Addr) (kk2 : ClassId) (w3 : Int32) (h0 : Heap) (O0 : Ext Z.heap h0) (r0 : ex_3 Z h0 x0) (r1 : fl_6 Z h0 x0 (.ref w1)) (r2 : fl_8 Z h0 x0 v_8) (r3 : fl_7 Z h0 x0 v_0) (r4 : Arv Z h0 w1 kk2 .byte (16 : Int32) [v_115, v_116, v_97, v_116, v_117, v_115, v_32, (.int w3)] v_0) :
    MF hw GG l y_18 jdk_67_method_42_code 1 (some (.object "java/lang/String")) ws ⟨5, 2, 12, 79⟩ h0 #[(.ref x0)] (Q_a18_0 Z w3 h0) := by
  refine own_mF #[.val (.ref x0)] (plainFor_of_name pn_18) (fun _ => rfl) ?_
  intro p e s m below meth c s₁ u hlk hret hZ hown hnm X0 e0 N0
  obtain ⟨hx, hby, hml⟩ := id u
  refine t_new X0 u hZ hown (wd hw 111 rfl) (wd hw 29 rfl) (wd hw 22 rfl) e0 d18_0 (by decide) ?_
  intro T1 h1 b1 X1 e1 E1 hb1 A1 D1
  have g_b1 := leE O0.1 hb1
  have O1_ := extTr O0 E1
  have sz_b1 := leE (Keep.refl h0 []).1 hb1
  have K1 := Keep.ext (Keep.refl h0 []) E1
  have F1_value : fl_5 Z h1 b1 .null := D1 (Or.inr (wd hw 30 rfl)) (ty := (.array .byte)) pf_AB
  have F1_coder : fl_4 Z h1 b1 v_0 := D1 (Or.inr (wd hw 31 rfl)) (ty := .byte) pf_B
  refine t_dup X1 u d18_3 rfl ?_
  refine t_aN X1 u d18_4 rfl rfl ?_
  refine t_cN [(.ref x0)] [(.ref b1)] 1 X1 u hZ hown rfl (wd hw 112 rfl) (m_22 hw) e1 (rm_a19_0 l Z a0 hw [] G GG b1 x0 w1 kk2 w3 h1 O1_ (Exa.ext E1 r0) (Fld.ext E1 r1) (Fld.ext E1 r2) (Fld.ext E1 r3) A1 F1_coder g_b1 (r4.ext E1) (neE r4.lt hb1) F1_value) rfl d18_5 rfl rfl (by decide) ?_
  intro v2 T2 L2 Lc2 X2 hQ2 l2
  obtain ⟨b2q2q6q1q2, k2q2q6q1q2, rfl, Nq2, Kq2, p2_0, p2_1, p2_2, p2_3, p2_4⟩ := hQ2
  have O2_ := extKeep O1_ Kq2 (allS g_b1 all0)
  have K2 := Keep.trans K1 Kq2 (allS (Or.inr sz_b1) all0)
  have N2_ := frA l2 N0 Nq2
  have g_b2q2q6q1q2 := Nat.le_trans O1_.1 p2_2
  have sz_b2q2q6q1q2 := Nat.le_trans K1.1 p2_2
  exact Go.retA X2 hx hret rfl rfl hlk (hb hby d18_8) (by decide) (by decide) ⟨b1, b2q2q6q1q2, k2q2q6q1q2, rfl, N2_, K2, sz_b1, (A1.keep Kq2), p2_0, p2_1, sz_b2q2q6q1q2, p2_3, p2_4, (neL A1.lt p2_2)⟩
def Q_a14_1 (Z : State) (x0 : Addr) (x1 : Int32) (w1 : Addr) (kk2 : ClassId) (h0 : Heap) (v : Option Value) (h : Heap) (L : List Loc) : Prop := v = some (.ref x0) ∧ Fr Z.heap.size L ∧ Keep h0 h [w1, x0] ∧ Arv Z h w1 kk2 .byte (16 : Int32) [v_115, v_116, v_97, v_116, v_117, v_115, v_32, (.int (bq x1 1)), (.int (bq x1 0))] v_0 ∧ fl_8 Z h x0 v_9 ∧ fl_6 Z h x0 (.ref w1) ∧ fl_7 Z h x0 v_0
theorem rm_a14_1 (x0 : Addr) (x1 : Int32) (w1 : Addr) (kk2 : ClassId) (h0 : Heap) (O0 : Ext Z.heap h0) (r0 : fl_8 Z h0 x0 v_7) (r1 : Dg_0_2 x1) (r2 : fl_6 Z h0 x0 (.ref w1)) (r3 : Arv Z h0 w1 kk2 .byte (16 : Int32) [v_115, v_116, v_97, v_116, v_117, v_115, v_32, v_0, v_0, v_0, v_0, v_0, v_0, v_0, v_0, v_0] v_0) (r4 : fl_7 Z h0 x0 v_0) (r5 : ex_3 Z h0 x0) (r6 : Z.heap.size ≤ w1) (r7 : x0 ≠ w1) (r8 : Z.heap.size ≤ x0) :
    MF hw GG l y_14 jdk_68_method_32_code 4 (some (.object "java/lang/AbstractStringBuilder")) ws ⟨1, 0, 0, 18⟩ h0 #[(.ref x0), (.int x1)] (Q_a14_1 Z x0 x1 w1 kk2 h0) := by
  refine own_mF #[.val (.ref x0), .val (.int x1), .unset, .unset] (plainFor_of_name pn_14) (fun _ => rfl) ?_
  intro p e s m below meth c s₁ u hlk hret hZ hown hnm X0 e0 N0
  obtain ⟨hx, hby, hml⟩ := id u
  refine t_aN X0 u d14_0 rfl rfl ?_
  refine t_gF X0 u hZ hown (wd hw 57 rfl) e0 r0 d14_1 ?_
  intro T1 X1 e1
  refine t_isN X1 u d14_4 (l' := #[.val (.ref x0), .val (.int x1), .val v_7, .unset]) rfl ?_
  refine t_iN X1 u d14_5 rfl ?_
  refine t_iN X1 u d14_6 rfl ?_
  refine pt_cS [(.int x1)] [v_7] 1 X1 u hZ hown (wd hw 93 rfl) (m_10 hw) e1 (rm_ss_0_2 l Z a0 hw [] G GG x1 h0 O0 r1) rfl d14_7 rfl rfl (by decide) N0 ?_
  intro T2 L2 X2 e2 N2_
  refine t_iadd X2 u d14_10  ?_
  refine t_isN X2 u d14_11 (l' := #[.val (.ref x0), .val (.int x1), .val v_7, .val v_9]) rfl ?_
  refine t_aN X2 u d14_12 rfl rfl ?_
  refine t_iN X2 u d14_13 rfl ?_
  refine pt_cP [v_9] [] 0 X2 u hZ hown r5 (wd hw 59 rfl) (m_4 hw) e2 (rm_a9_0 l Z a0 hw [] G GG x0 (9 : Int32) w1 kk2 (115 : Int32) (116 : Int32) (97 : Int32) (116 : Int32) (117 : Int32) (115 : Int32) (32 : Int32) (0 : Int32) (0 : Int32) (0 : Int32) (0 : Int32) (0 : Int32) (0 : Int32) (0 : Int32) (0 : Int32) (0 : Int32) (0 : Int32) h0 O0 r2 r3 r4 (by decide)) rfl d14_14 rfl rfl (by decide) N2_ ?_
  intro T3 L3 X3 e3 N3_
  refine t_aN X3 u d14_17 rfl rfl ?_
  refine pt_cV [] [] 0 X3 u hZ hown (wd hw 97 rfl) (m_11 hw) e3 r5 (rm_a16_0 l Z a0 hw [] G GG x0 (0 : Int32) h0 O0 r4 (by decide)) rfl d14_18 rfl rfl (by decide) N3_ ?_
  intro T4 L4 X4 e4 N4_
  refine t_ifN X4 u d14_21 ((if0 _ _).trans (feq (by decide : ¬ ((1 : Int32) = (0 : Int32)))).1) ?_
  refine t_iN X4 u d14_24 rfl ?_
  refine t_iN X4 u d14_25 rfl ?_
  refine t_aN X4 u d14_26 rfl rfl ?_
  refine t_gF X4 u hZ hown (wd hw 24 rfl) e4 r2 d14_27 ?_
  intro T5 X5 e5
  refine t_cS [(.int x1), v_9, (.ref w1)] [] 0 X5 u hZ hown (wd hw 102 rfl) (m_12 hw) e5 (rm_gc_0_2 l Z a0 hw [] G GG x1 w1 kk2 h0 O0 r1 r6 (Arv.pad r3 (own_tr [v_115, v_116, v_97, v_116, v_117, v_115, v_32, v_0, v_0] 7 _))) rfl d14_30 rfl rfl (by decide) ?_
  intro v6 T6 L6 Lc6 X6 hQ6 l6
  obtain ⟨rfl, Nq6, Kq6, pV6⟩ := hQ6
  have O6_ := extKeep O0 Kq6 (allS r6 all0)
  have K6 := Keep.trans (Keep.refl h0 [w1, x0]) Kq6 (allS k0 all0)
  have N6_ := frA l6 N4_ Nq6
  refine t_pop X6 u d14_33 rfl ?_
  refine t_go 34 48 X6 u rfl d14_34 (by decide) ?_
  refine t_aN X6 u d14_48 rfl rfl ?_
  refine t_iN X6 u d14_49 rfl ?_
  refine t_pF X6 u hZ hown (wd hw 57 rfl) rfl (r0.keep Kq6 (ninS r7 nin0)) (r5.keep Kq6) (Or.inl (wd hw 58 rfl)) (wd hw 7 rfl) pf_I rfl rfl d14_50 ?_
  intro T7 h7 X7 e7 W7
  have N7_ := Fr.snoc X7 N6_ r8
  have O7_ := extWr O6_ W7 r8
  have K7 := Keep.wr K6 W7 k1
  have F7 := Fld.same W7 (r0.keep Kq6 (ninS r7 nin0))
  refine t_aN X7 u d14_53 rfl rfl ?_
  have f8 := (fS W7 (r2.keep Kq6 (ninS r7 nin0)) (sn_10 hw))
  have f9 := (fS W7 (r4.keep Kq6 (ninS r7 nin0)) (sn_11 hw))
  exact Go.retA X7 hx hret rfl rfl hlk (hb hby d14_54) (by decide) (by decide) (by show Q_a14_1 ..; rw [e7]; exact ⟨rfl, N7_, K7, (pV6.other W7 (Ne.symm r7)), F7, f8, f9⟩)
def Q_a13_1 (Z : State) (x0 : Addr) (x1 : Int32) (w1 : Addr) (kk2 : ClassId) (h0 : Heap) (v : Option Value) (h : Heap) (L : List Loc) : Prop := v = some (.ref x0) ∧ Fr Z.heap.size L ∧ Keep h0 h [x0, w1] ∧ Arv Z h w1 kk2 .byte (16 : Int32) [v_115, v_116, v_97, v_116, v_117, v_115, v_32, (.int (bq x1 1)), (.int (bq x1 0))] v_0 ∧ fl_8 Z h x0 v_9 ∧ fl_6 Z h x0 (.ref w1) ∧ fl_7 Z h x0 v_0
theorem rm_a13_1 (x0 : Addr) (x1 : Int32) (w1 : Addr) (kk2 : ClassId) (h0 : Heap) (O0 : Ext Z.heap h0) (r0 : fl_8 Z h0 x0 v_7) (r1 : Dg_0_2 x1) (r2 : fl_6 Z h0 x0 (.ref w1)) (r3 : Arv Z h0 w1 kk2 .byte (16 : Int32) [v_115, v_116, v_97, v_116, v_117, v_115, v_32, v_0, v_0, v_0, v_0, v_0, v_0, v_0, v_0, v_0] v_0) (r4 : fl_7 Z h0 x0 v_0) (r5 : ex_3 Z h0 x0) (r6 : Z.heap.size ≤ w1) (r7 : x0 ≠ w1) (r8 : Z.heap.size ≤ x0) :
    MF hw GG l y_13 jdk_67_method_15_code 2 (some (.object "java/lang/StringBuilder")) ws ⟨2, 0, 0, 33⟩ h0 #[(.ref x0), (.int x1)] (Q_a13_1 Z x0 x1 w1 kk2 h0) := by
  refine own_mF #[.val (.ref x0), .val (.int x1)] (plainFor_of_name pn_13) (fun _ => rfl) ?_
  intro p e s m below meth c s₁ u hlk hret hZ hown hnm X0 e0 N0
  obtain ⟨hx, hby, hml⟩ := id u
  refine t_aN X0 u d13_0 rfl rfl ?_
  refine t_iN X0 u d13_1 rfl ?_
  refine t_cX [(.int x1)] [] 0 X0 u hZ hown (by decide) r5 (wd hw 89 rfl) (m_13 hw) e0 (rm_a14_1 l Z a0 hw [] G GG x0 x1 w1 kk2 h0 O0 r0 r1 r2 r3 r4 r5 r6 r7 r8) rfl d13_2 rfl rfl (by decide) ?_
  intro v1 T1 L1 Lc1 X1 hQ1 l1
  obtain ⟨rfl, Nq1, Kq1, p1_0, p1_1, p1_2, p1_3⟩ := hQ1
  have O1_ := extKeep O0 Kq1 (allS r6 (allS r8 all0))
  have K1 := Keep.trans (Keep.refl h0 [x0, w1]) Kq1 (allS k1 (allS k0 all0))
  have N1_ := frA l1 N0 Nq1
  refine t_pop X1 u d13_5 rfl ?_
  refine t_aN X1 u d13_6 rfl rfl ?_
  exact Go.retA X1 hx hret rfl rfl hlk (hb hby d13_7) (by decide) (by decide) ⟨rfl, N1_, K1, p1_0, p1_1, p1_2, p1_3⟩
def Q_a25_1 (Z : State) (w2 w3 : Int32) (h0 : Heap) (v : Option Value) (h : Heap) (L : List Loc) : Prop := ∃ (b2 : Addr) (k2 : ClassId), v = some (.ref b2) ∧ Fr Z.heap.size L ∧ Keep h0 h [] ∧ h0.size ≤ b2 ∧ ex_0 Z h b2 ∧ Arv Z h b2 k2 .byte (9 : Int32) [v_115, v_116, v_97, v_116, v_117, v_115, v_32, (.int w2), (.int w3)] v_0
theorem rm_a25_1 (x0 : Addr) (kk1 : ClassId) (w2 w3 : Int32) (h0 : Heap) (O0 : Ext Z.heap h0) (r0 : Arv Z h0 x0 kk1 .byte (16 : Int32) [v_115, v_116, v_97, v_116, v_117, v_115, v_32, (.int w2), (.int w3)] v_0) :
    MF hw GG l y_25 jdk_65_method_133_code 5 (some (.array .byte)) ws ⟨1, 1, 9, 18⟩ h0 #[(.ref x0), v_0, v_9] (Q_a25_1 Z w2 w3 h0) := by
  refine own_mF #[.val (.ref x0), .val v_0, .val v_9, .unset, .unset] (plainFor_of_name pn_25) (fun _ => rfl) ?_
  intro p e s m below meth c s₁ u hlk hret hZ hown hnm X0 e0 N0
  obtain ⟨hx, hby, hml⟩ := id u
  refine t_iN X0 u d25_0 rfl ?_
  refine t_iN X0 u d25_1 rfl ?_
  refine pt_cS [v_0, v_9] [] 0 X0 u hZ hown (wd hw 141 rfl) (m_17 hw) e0 (rm_a26_0 l Z a0 hw [] G GG (0 : Int32) (9 : Int32) h0 O0 (by decide)) rfl d25_2 rfl rfl (by decide) N0 ?_
  intro T1 L1 X1 e1 N1_
  refine t_iN X1 u d25_5 rfl ?_
  refine t_iN X1 u d25_6 rfl ?_
  refine t_isub X1 u d25_7  ?_
  refine t_isN X1 u d25_8 (l' := #[.val (.ref x0), .val v_0, .val v_9, .val v_9, .unset]) rfl ?_
  refine t_iN X1 u d25_9 rfl ?_
  refine t_nB 9 X1 u hZ (wd hw 23 rfl) e1 d25_10 (by decide) ?_
  intro T2 h2 b2 k2 X2 e2 E2 hb2 V2 B2
  have g_b2 := leE O0.1 hb2
  have O2_ := extTr O0 E2
  have sz_b2 := leE (Keep.refl h0 []).1 hb2
  have K2 := Keep.ext (Keep.refl h0 []) E2
  refine t_asL X2 u d25_12 rfl (l' := #[.val (.ref x0), .val v_0, .val v_9, .val v_9, .val (.ref b2)]) rfl ?_
  refine t_aN X2 u d25_14 rfl rfl ?_
  refine t_iN X2 u d25_15 rfl ?_
  refine t_aL X2 u d25_16 rfl rfl ?_
  refine t_iC X2 u d25_18  ?_
  refine t_aN X2 u d25_19 rfl rfl ?_
  obtain ⟨cl3, Ar3, -, S3, N3, -, -⟩ := id (r0.ext E2)
  refine Go.step (X2.arraylength hx (by rw [e2]; exact Ar3.1) (State.isArrayOf_alike hZ.alike Ar3.2.1) (g := (mkF m 20 #[.val (.ref x0), .val v_0, .val v_9, .val v_9, .val (.ref b2)] [(.ref x0), v_0, (.ref b2), v_0, (.ref x0)])) rfl rfl (hb hby d25_20)) ?_
  rw [len_of S3 N3]
  show Go _ _ _ _ _ _ _ _ T2 (mkF m 21 #[.val (.ref x0), .val v_0, .val v_9, .val v_9, .val (.ref b2)] [v_16, v_0, (.ref b2), v_0, (.ref x0)])
  refine t_iN X2 u d25_21 rfl ?_
  refine t_isub X2 u d25_22  ?_
  refine t_iN X2 u d25_23 rfl ?_
  refine pt_cS [v_16, v_9] [v_0, (.ref b2), v_0, (.ref x0)] 4 X2 u hZ hown (wd hw 144 rfl) (m_18 hw) e2 (rm_a27_0 l Z a0 hw [] G GG (16 : Int32) (9 : Int32) h2 O2_ (by decide)) rfl d25_24 rfl rfl (by decide) N1_ ?_
  intro T4 L4 X4 e4 N4_
  obtain ⟨T5, h5, L5, X5, e5, N5_, K5_, V5_, st5⟩ := cpA X4 hx hZ hown (wd hw 148 rfl) (wd hw 83 rfl) (wd hw 81 rfl) (wd hw 82 rfl) e4 (us := [v_115, v_116, v_97, v_116, v_117, v_115, v_32, (.int w2), (.int w3)]) (r0.ext E2) V2 (Or.inl ⟨rfl, rfl⟩) (by decide) (by decide) (by decide) (by decide) (by decide) rfl (by decide) N4_ g_b2 (g := (mkF m 27 #[.val (.ref x0), .val v_0, .val v_9, .val v_9, .val (.ref b2)] [v_9, v_0, (.ref b2), v_0, (.ref x0)])) rfl (by rw [hml]; rfl) rfl (hb hby d25_27) (by decide) (W := 0) (by show 2 * 0 + _ ≤ _; exact Nat.le_of_eq rfl) (by decide)
  refine Go.step st5 ?_
  have V5 : Arv Z h5 b2 k2 .byte (9 : Int32) [v_115, v_116, v_97, v_116, v_117, v_115, v_32, (.int w2), (.int w3)] v_0 := V5_
  have O5_ : Ext Z.heap h5 := extKeep O2_ K5_ (allS g_b2 all0)
  have K5 := Keep.trans K2 K5_ (allS (Or.inr sz_b2) all0)
  refine t_aL X5 u d25_30 rfl rfl ?_
  exact Go.retA X5 hx hret rfl rfl hlk (hb hby d25_32) (by decide) (by decide) (by show Q_a25_1 ..; rw [e5]; exact ⟨b2, k2, rfl, N5_, K5, sz_b2, (B2.keep K5_), V5⟩)
def Q_a24_1 (Z : State) (w2 w3 : Int32) (h0 : Heap) (v : Option Value) (h : Heap) (L : List Loc) : Prop := ∃ (b2q2 : Addr) (k2q2 : ClassId), v = some (.ref b2q2) ∧ Fr Z.heap.size L ∧ Keep h0 h [] ∧ h0.size ≤ b2q2 ∧ ex_0 Z h b2q2 ∧ Arv Z h b2q2 k2q2 .byte (9 : Int32) [v_115, v_116, v_97, v_116, v_117, v_115, v_32, (.int w2), (.int w3)] v_0
theorem rm_a24_1 (x0 : Addr) (kk1 : ClassId) (w2 w3 : Int32) (h0 : Heap) (O0 : Ext Z.heap h0) (r0 : Arv Z h0 x0 kk1 .byte (16 : Int32) [v_115, v_116, v_97, v_116, v_117, v_115, v_32, (.int w2), (.int w3)] v_0) :
    MF hw GG l y_24 jdk_65_method_132_code 3 (some (.array .byte)) ws ⟨2, 1, 9, 34⟩ h0 #[(.ref x0), v_0, v_9] (Q_a24_1 Z w2 w3 h0) := by
  refine own_mF #[.val (.ref x0), .val v_0, .val v_9] (plainFor_of_name pn_24) (fun _ => rfl) ?_
  intro p e s m below meth c s₁ u hlk hret hZ hown hnm X0 e0 N0
  obtain ⟨hx, hby, hml⟩ := id u
  refine t_iN X0 u d24_0 rfl ?_
  refine t_ifN X0 u d24_1 ((if0 _ _).trans (teq (by decide : (0 : Int32) = (0 : Int32))).2) ?_
  refine t_iN X0 u d24_4 rfl ?_
  refine t_aN X0 u d24_5 rfl rfl ?_
  obtain ⟨cl1, Ar1, -, S1, N1, -, -⟩ := id r0
  refine Go.step (X0.arraylength hx (by rw [e0]; exact Ar1.1) (State.isArrayOf_alike hZ.alike Ar1.2.1) (g := (mkF m 6 #[.val (.ref x0), .val v_0, .val v_9] [(.ref x0), v_9])) rfl rfl (hb hby d24_6)) ?_
  rw [len_of S1 N1]
  show Go _ _ _ _ _ _ _ _ s₁ (mkF m 7 #[.val (.ref x0), .val v_0, .val v_9] [v_16, v_9])
  refine t_icN X0 u d24_7 (feq (by decide : ¬ ((9 : Int32) = (16 : Int32)))).1 ?_
  refine t_aN X0 u d24_10 rfl rfl ?_
  refine t_iN X0 u d24_11 rfl ?_
  refine t_iN X0 u d24_12 rfl ?_
  refine t_cS [(.ref x0), v_0, v_9] [] 0 X0 u hZ hown (wd hw 138 rfl) (m_19 hw) e0 (rm_a25_1 l Z a0 hw [] G GG x0 kk1 w2 w3 h0 O0 r0) rfl d24_13 rfl rfl (by decide) ?_
  intro v2 T2 L2 Lc2 X2 hQ2 l2
  obtain ⟨b2q2, k2q2, rfl, Nq2, Kq2, p2_0, p2_1, p2_2⟩ := hQ2
  have O2_ := extKeep O0 Kq2 all0
  have K2 := Keep.trans (Keep.refl h0 []) Kq2 all0
  have N2_ := frA l2 N0 Nq2
  have g_b2q2 := Nat.le_trans O0.1 p2_0
  have sz_b2q2 := Nat.le_trans (Keep.refl h0 []).1 p2_0
  exact Go.retA X2 hx hret rfl rfl hlk (hb hby d24_16) (by decide) (by decide) ⟨b2q2, k2q2, rfl, N2_, K2, sz_b2q2, p2_1, p2_2⟩
def Q_a20_1 (Z : State) (x0 : Addr) (w3 w4 : Int32) (h0 : Heap) (v : Option Value) (h : Heap) (L : List Loc) : Prop := ∃ (b2q2q6 : Addr) (k2q2q6 : ClassId), v = none ∧ Fr Z.heap.size L ∧ Keep h0 h [x0] ∧ fl_4 Z h x0 v_0 ∧ fl_5 Z h x0 (.ref b2q2q6) ∧ h0.size ≤ b2q2q6 ∧ ex_0 Z h b2q2q6 ∧ Arv Z h b2q2q6 k2q2q6 .byte (9 : Int32) [v_115, v_116, v_97, v_116, v_117, v_115, v_32, (.int w3), (.int w4)] v_0
theorem rm_a20_1 (x0 x1 w1 : Addr) (kk2 : ClassId) (w3 w4 : Int32) (h0 : Heap) (O0 : Ext Z.heap h0) (r0 : ex_3 Z h0 x1) (r1 : fl_6 Z h0 x1 (.ref w1)) (r2 : fl_8 Z h0 x1 v_9) (r3 : fl_7 Z h0 x1 v_0) (r4 : ex_2 Z h0 x0) (r5 : fl_4 Z h0 x0 v_0) (r6 : Z.heap.size ≤ x0) (r7 : Arv Z h0 w1 kk2 .byte (16 : Int32) [v_115, v_116, v_97, v_116, v_117, v_115, v_32, (.int w3), (.int w4)] v_0) (r8 : w1 ≠ x0) (r9 : fl_5 Z h0 x0 .null) :
    MF hw GG l y_20 jdk_42_method_150_code 5 none ws ⟨3, 1, 9, 49⟩ h0 #[(.ref x0), (.ref x1), .null] (Q_a20_1 Z x0 w3 w4 h0) := by
  refine own_mF #[.val (.ref x0), .val (.ref x1), .val .null, .unset, .unset] (plainFor_of_name pn_20) (fun _ => rfl) ?_
  intro p e s m below meth c s₁ u hlk hret hZ hown hnm X0 e0 N0
  obtain ⟨hx, hby, hml⟩ := id u
  refine t_aN X0 u d20_0 rfl rfl ?_
  refine t_in 0 X0 u hZ hown (wd hw 119 rfl) (wd hw 19 rfl) (wd hw 20 rfl) e0 rfl d20_1 rfl (by decide) ?_
  intro T1 X1 e1
  refine t_aN X1 u d20_4 rfl rfl ?_
  refine pt_cV [] [] 0 X1 u hZ hown (wd hw 120 rfl) (m_15 hw) e1 r0 (rm_a21_0 l Z a0 hw [] G GG x1 w1 h0 O0 r1) rfl d20_5 rfl rfl (by decide) N0 ?_
  intro T2 L2 X2 e2 N2_
  refine t_asN X2 u d20_8 rfl (l' := #[.val (.ref x0), .val (.ref x1), .val .null, .val (.ref w1), .unset]) rfl ?_
  refine t_aN X2 u d20_9 rfl rfl ?_
  obtain ⟨cq3, kq3, q3a, q3b, q3c⟩ := isOf hZ e2 r0
  obtain ⟨_, _, ⟨T3, L3, k3, n3⟩, -, X3, ⟨Lc3, hQ3, l3, y3, z3⟩, st3⟩ := X2.virtualBack hx (y := (⟨"java/lang/AbstractStringBuilder", "length", "()I"⟩ : MethodName)) (z := (⟨"java/lang/StringBuilder", "length", "()I"⟩ : MethodName)) hown (mvT hZ (wd hw 125 rfl)) (mvT hZ (wd hw 126 rfl)) (own_nf (mvT hZ (wd hw 62 rfl)) rfl) (mvT hZ (wd hw 128 rfl)) (mvT hZ (wd hw 129 rfl)) (by decide) (backOf (W := 0) (rm_a22_0 l Z a0 hw [] G GG x1 (9 : Int32) h0 O0 r2 r0) hZ (wd hw 130 rfl) (wd hw 8 rfl) (by decide) (by decide)) q3a q3c (g := (mkF m 10 #[.val (.ref x0), .val (.ref x1), .val .null, .val (.ref w1), .unset] [(.ref x1)])) rfl (by rw [hml]; rfl) (Steps.refl _) (argsL := []) (rest := []) (lenOf pd_LRI rfl) rfl (by show 2 * 0 + _ ≤ _; exact Nat.le_of_eq rfl) (hb hby d20_10) (fun _ _ => ⟨rfl, e2, (by decide : 0 + 0 ≤ _), (by decide : 0 + 0 ≤ _)⟩)
  dsimp only [Pt.U, Pt.locs, Pt.cells, Pt.slots] at X3 l3 y3 z3 st3 hQ3
  subst y3 z3
  obtain ⟨rfl, Nq3, e3⟩ := hQ3
  have N3_ := frA l3 N2_ Nq3
  refine Go.trans st3 ?_
  refine t_isL X3 u d20_13 (l' := #[.val (.ref x0), .val (.ref x1), .val .null, .val (.ref w1), .val v_9]) rfl ?_
  refine t_aN X3 u d20_15 rfl rfl ?_
  refine pt_cV [] [] 0 X3 u hZ hown (wd hw 133 rfl) (m_11 hw) e3 r0 (rm_a16_0 l Z a0 hw [] G GG x1 (0 : Int32) h0 O0 r3 (by decide)) rfl d20_16 rfl rfl (by decide) N3_ ?_
  intro T4 L4 X4 e4 N4_
  refine t_ifN X4 u d20_19 ((if0 _ _).trans (feq (by decide : ¬ ((1 : Int32) = (0 : Int32)))).1) ?_
  refine t_aN X4 u d20_22 rfl rfl ?_
  refine t_iC X4 u d20_23  ?_
  refine t_pN X4 u hZ hown (wd hw 56 rfl) e4 r5 r4 (Or.inr ⟨(wd hw 31 rfl), rfl, hnm⟩) (wd hw 29 rfl) v_0 pf_B rfl rfl d20_24 ?_
  intro T5 h5 X5 e5 W5
  have N5_ := Fr.snoc X5 N4_ r6
  have O5_ := extWr O0 W5 r6
  have K5 := Keep.wr (Keep.refl h0 [x0]) W5 k0
  have F5 := Fld.same W5 r5
  refine t_aN X5 u d20_27 rfl rfl ?_
  refine t_aN X5 u d20_28 rfl rfl ?_
  refine t_iC X5 u d20_29  ?_
  refine t_iL X5 u d20_30 rfl ?_
  refine t_cS [(.ref w1), v_0, v_9] [(.ref x0)] 1 X5 u hZ hown (wd hw 134 rfl) (m_20 hw) e5 (rm_a24_1 l Z a0 hw [] G GG w1 kk2 w3 w4 h5 O5_ (r7.other W5 r8)) rfl d20_32 rfl rfl (by decide) ?_
  intro v6 T6 L6 Lc6 X6 hQ6 l6
  obtain ⟨b2q2q6, k2q2q6, rfl, Nq6, Kq6, p6_0, p6_1, p6_2⟩ := hQ6
  have O6_ := extKeep O5_ Kq6 all0
  have K6 := Keep.trans K5 Kq6 all0
  have N6_ := frA l6 N5_ Nq6
  have g_b2q2q6 := Nat.le_trans O5_.1 p6_0
  have sz_b2q2q6 := Nat.le_trans K5.1 p6_0
  refine t_pF X6 u hZ hown (wd hw 49 rfl) rfl ((fR W5 r9 (sn_12 hw)).keep Kq6 nin0) ((Exa.wr W5 r4).keep Kq6) (Or.inr ⟨(wd hw 30 rfl), rfl, hnm⟩) (wd hw 29 rfl) pf_AB rfl rfl d20_35 ?_
  intro T7 h7 X7 e7 W7
  have N7_ := Fr.snoc X7 N6_ r6
  have O7_ := extWr O6_ W7 r6
  have K7 := Keep.wr K6 W7 k0
  have F7 := Fld.same W7 ((fR W5 r9 (sn_12 hw)).keep Kq6 nin0)
  refine t_go 38 97 X7 u rfl d20_38 (by decide) ?_
  have f8 := (p6_2.other W7 (Ne.symm (neL (Exa.wr W5 r4).lt p6_0)))
  exact Go.retV X7 hx hret hlk (hb hby d20_97) (by decide) (by decide) (by show Q_a20_1 ..; rw [e7]; exact ⟨b2q2q6, k2q2q6, rfl, N7_, K7, (fS W7 (F5.keep Kq6 nin0) (sn_12 hw)), F7, sz_b2q2q6, (Exa.wr W7 p6_1), f8⟩)
def Q_a19_1 (Z : State) (x0 : Addr) (w3 w4 : Int32) (h0 : Heap) (v : Option Value) (h : Heap) (L : List Loc) : Prop := ∃ (b2q2q6q1 : Addr) (k2q2q6q1 : ClassId), v = none ∧ Fr Z.heap.size L ∧ Keep h0 h [x0] ∧ fl_4 Z h x0 v_0 ∧ fl_5 Z h x0 (.ref b2q2q6q1) ∧ h0.size ≤ b2q2q6q1 ∧ ex_0 Z h b2q2q6q1 ∧ Arv Z h b2q2q6q1 k2q2q6q1 .byte (9 : Int32) [v_115, v_116, v_97, v_116, v_117, v_115, v_32, (.int w3), (.int w4)] v_0
theorem rm_a19_1 (x0 x1 w1 : Addr) (kk2 : ClassId) (w3 w4 : Int32) (h0 : Heap) (O0 : Ext Z.heap h0) (r0 : ex_3 Z h0 x1) (r1 : fl_6 Z h0 x1 (.ref w1)) (r2 : fl_8 Z h0 x1 v_9) (r3 : fl_7 Z h0 x1 v_0) (r4 : ex_2 Z h0 x0) (r5 : fl_4 Z h0 x0 v_0) (r6 : Z.heap.size ≤ x0) (r7 : Arv Z h0 w1 kk2 .byte (16 : Int32) [v_115, v_116, v_97, v_116, v_117, v_115, v_32, (.int w3), (.int w4)] v_0) (r8 : w1 ≠ x0) (r9 : fl_5 Z h0 x0 .null) :
    MF hw GG l y_19 jdk_42_method_53_code 2 none ws ⟨4, 1, 9, 65⟩ h0 #[(.ref x0), (.ref x1)] (Q_a19_1 Z x0 w3 w4 h0) := by
  refine own_mF #[.val (.ref x0), .val (.ref x1)] (plainFor_of_name pn_19) (fun _ => rfl) ?_
  intro p e s m below meth c s₁ u hlk hret hZ hown hnm X0 e0 N0
  obtain ⟨hx, hby, hml⟩ := id u
  refine t_aN X0 u d19_0 rfl rfl ?_
  refine t_aN X0 u d19_1 rfl rfl ?_
  refine t_nl X0 u d19_2  ?_
  refine t_cN [(.ref x1), .null] [] 0 X0 u hZ hown rfl (wd hw 116 rfl) (m_21 hw) e0 (rm_a20_1 l Z a0 hw [] G GG x0 x1 w1 kk2 w3 w4 h0 O0 r0 r1 r2 r3 r4 r5 r6 r7 r8 r9) rfl d19_3 rfl rfl (by decide) ?_
  intro v1 T1 L1 Lc1 X1 hQ1 l1
  obtain ⟨b2q2q6q1, k2q2q6q1, rfl, Nq1, Kq1, p1_0, p1_1, p1_2, p1_3, p1_4⟩ := hQ1
  have O1_ := extKeep O0 Kq1 (allS r6 all0)
  have K1 := Keep.trans (Keep.refl h0 [x0]) Kq1 (allS k0 all0)
  have N1_ := frA l1 N0 Nq1
  have g_b2q2q6q1 := Nat.le_trans O0.1 p1_2
  have sz_b2q2q6q1 := Nat.le_trans (Keep.refl h0 [x0]).1 p1_2
  exact Go.retV X1 hx hret hlk (hb hby d19_6) (by decide) (by decide) ⟨b2q2q6q1, k2q2q6q1, rfl, N1_, K1, p1_0, p1_1, sz_b2q2q6q1, p1_3, p1_4⟩
def Q_a18_1 (Z : State) (w3 w4 : Int32) (h0 : Heap) (v : Option Value) (h : Heap) (L : List Loc) : Prop := ∃ (b1 : Addr) (b2q2q6q1q2 : Addr) (k2q2q6q1q2 : ClassId), v = some (.ref b1) ∧ Fr Z.heap.size L ∧ Keep h0 h [] ∧ h0.size ≤ b1 ∧ ex_2 Z h b1 ∧ fl_4 Z h b1 v_0 ∧ fl_5 Z h b1 (.ref b2q2q6q1q2) ∧ h0.size ≤ b2q2q6q1q2 ∧ ex_0 Z h b2q2q6q1q2 ∧ Arv Z h b2q2q6q1q2 k2q2q6q1q2 .byte (9 : Int32) [v_115, v_116, v_97, v_116, v_117, v_115, v_32, (.int w3), (.int w4)] v_0 ∧ b1 ≠ b2q2q6q1q2
theorem rm_a18_1 (x0 w1 : Addr) (kk2 : ClassId) (w3 w4 : Int32) (h0 : Heap) (O0 : Ext Z.heap h0) (r0 : ex_3 Z h0 x0) (r1 : fl_6 Z h0 x0 (.ref w1)) (r2 : fl_8 Z h0 x0 v_9) (r3 : fl_7 Z h0 x0 v_0) (r4 : Arv Z h0 w1 kk2 .byte (16 : Int32) [v_115, v_116, v_97, v_116, v_117, v_115, v_32, (.int w3), (.int w4)] v_0) :
    MF hw GG l y_18 jdk_67_method_42_code 1 (some (.object "java/lang/String")) ws ⟨5, 2, 13, 79⟩ h0 #[(.ref x0)] (Q_a18_1 Z w3 w4 h0) := by
  refine own_mF #[.val (.ref x0)] (plainFor_of_name pn_18) (fun _ => rfl) ?_
  intro p e s m below meth c s₁ u hlk hret hZ hown hnm X0 e0 N0
  obtain ⟨hx, hby, hml⟩ := id u
  refine t_new X0 u hZ hown (wd hw 111 rfl) (wd hw 29 rfl) (wd hw 22 rfl) e0 d18_0 (by decide) ?_
  intro T1 h1 b1 X1 e1 E1 hb1 A1 D1
  have g_b1 := leE O0.1 hb1
  have O1_ := extTr O0 E1
  have sz_b1 := leE (Keep.refl h0 []).1 hb1
  have K1 := Keep.ext (Keep.refl h0 []) E1
  have F1_value : fl_5 Z h1 b1 .null := D1 (Or.inr (wd hw 30 rfl)) (ty := (.array .byte)) pf_AB
  have F1_coder : fl_4 Z h1 b1 v_0 := D1 (Or.inr (wd hw 31 rfl)) (ty := .byte) pf_B
  refine t_dup X1 u d18_3 rfl ?_
  refine t_aN X1 u d18_4 rfl rfl ?_
  refine t_cN [(.ref x0)] [(.ref b1)] 1 X1 u hZ hown rfl (wd hw 112 rfl) (m_22 hw) e1 (rm_a19_1 l Z a0 hw [] G GG b1 x0 w1 kk2 w3 w4 h1 O1_ (Exa.ext E1 r0) (Fld.ext E1 r1) (Fld.ext E1 r2) (Fld.ext E1 r3) A1 F1_coder g_b1 (r4.ext E1) (neE r4.lt hb1) F1_value) rfl d18_5 rfl rfl (by decide) ?_
  intro v2 T2 L2 Lc2 X2 hQ2 l2
  obtain ⟨b2q2q6q1q2, k2q2q6q1q2, rfl, Nq2, Kq2, p2_0, p2_1, p2_2, p2_3, p2_4⟩ := hQ2
  have O2_ := extKeep O1_ Kq2 (allS g_b1 all0)
  have K2 := Keep.trans K1 Kq2 (allS (Or.inr sz_b1) all0)
  have N2_ := frA l2 N0 Nq2
  have g_b2q2q6q1q2 := Nat.le_trans O1_.1 p2_2
  have sz_b2q2q6q1q2 := Nat.le_trans K1.1 p2_2
  exact Go.retA X2 hx hret rfl rfl hlk (hb hby d18_8) (by decide) (by decide) ⟨b1, b2q2q6q1q2, k2q2q6q1q2, rfl, N2_, K2, sz_b1, (A1.keep Kq2), p2_0, p2_1, sz_b2q2q6q1q2, p2_3, p2_4, (neL A1.lt p2_2)⟩
def Q_a14_2 (Z : State) (x0 : Addr) (x1 : Int32) (w1 : Addr) (kk2 : ClassId) (h0 : Heap) (v : Option Value) (h : Heap) (L : List Loc) : Prop := v = some (.ref x0) ∧ Fr Z.heap.size L ∧ Keep h0 h [w1, x0] ∧ Arv Z h w1 kk2 .byte (16 : Int32) [v_115, v_116, v_97, v_116, v_117, v_115, v_32, (.int (bq x1 2)), (.int (bq x1 1)), (.int (bq x1 0))] v_0 ∧ fl_8 Z h x0 v_10 ∧ fl_6 Z h x0 (.ref w1) ∧ fl_7 Z h x0 v_0
theorem rm_a14_2 (x0 : Addr) (x1 : Int32) (w1 : Addr) (kk2 : ClassId) (h0 : Heap) (O0 : Ext Z.heap h0) (r0 : fl_8 Z h0 x0 v_7) (r1 : Dg_0_3 x1) (r2 : fl_6 Z h0 x0 (.ref w1)) (r3 : Arv Z h0 w1 kk2 .byte (16 : Int32) [v_115, v_116, v_97, v_116, v_117, v_115, v_32, v_0, v_0, v_0, v_0, v_0, v_0, v_0, v_0, v_0] v_0) (r4 : fl_7 Z h0 x0 v_0) (r5 : ex_3 Z h0 x0) (r6 : Z.heap.size ≤ w1) (r7 : x0 ≠ w1) (r8 : Z.heap.size ≤ x0) :
    MF hw GG l y_14 jdk_68_method_32_code 4 (some (.object "java/lang/AbstractStringBuilder")) ws ⟨1, 0, 0, 18⟩ h0 #[(.ref x0), (.int x1)] (Q_a14_2 Z x0 x1 w1 kk2 h0) := by
  refine own_mF #[.val (.ref x0), .val (.int x1), .unset, .unset] (plainFor_of_name pn_14) (fun _ => rfl) ?_
  intro p e s m below meth c s₁ u hlk hret hZ hown hnm X0 e0 N0
  obtain ⟨hx, hby, hml⟩ := id u
  refine t_aN X0 u d14_0 rfl rfl ?_
  refine t_gF X0 u hZ hown (wd hw 57 rfl) e0 r0 d14_1 ?_
  intro T1 X1 e1
  refine t_isN X1 u d14_4 (l' := #[.val (.ref x0), .val (.int x1), .val v_7, .unset]) rfl ?_
  refine t_iN X1 u d14_5 rfl ?_
  refine t_iN X1 u d14_6 rfl ?_
  refine pt_cS [(.int x1)] [v_7] 1 X1 u hZ hown (wd hw 93 rfl) (m_10 hw) e1 (rm_ss_0_3 l Z a0 hw [] G GG x1 h0 O0 r1) rfl d14_7 rfl rfl (by decide) N0 ?_
  intro T2 L2 X2 e2 N2_
  refine t_iadd X2 u d14_10  ?_
  refine t_isN X2 u d14_11 (l' := #[.val (.ref x0), .val (.int x1), .val v_7, .val v_10]) rfl ?_
  refine t_aN X2 u d14_12 rfl rfl ?_
  refine t_iN X2 u d14_13 rfl ?_
  refine pt_cP [v_10] [] 0 X2 u hZ hown r5 (wd hw 59 rfl) (m_4 hw) e2 (rm_a9_0 l Z a0 hw [] G GG x0 (10 : Int32) w1 kk2 (115 : Int32) (116 : Int32) (97 : Int32) (116 : Int32) (117 : Int32) (115 : Int32) (32 : Int32) (0 : Int32) (0 : Int32) (0 : Int32) (0 : Int32) (0 : Int32) (0 : Int32) (0 : Int32) (0 : Int32) (0 : Int32) (0 : Int32) h0 O0 r2 r3 r4 (by decide)) rfl d14_14 rfl rfl (by decide) N2_ ?_
  intro T3 L3 X3 e3 N3_
  refine t_aN X3 u d14_17 rfl rfl ?_
  refine pt_cV [] [] 0 X3 u hZ hown (wd hw 97 rfl) (m_11 hw) e3 r5 (rm_a16_0 l Z a0 hw [] G GG x0 (0 : Int32) h0 O0 r4 (by decide)) rfl d14_18 rfl rfl (by decide) N3_ ?_
  intro T4 L4 X4 e4 N4_
  refine t_ifN X4 u d14_21 ((if0 _ _).trans (feq (by decide : ¬ ((1 : Int32) = (0 : Int32)))).1) ?_
  refine t_iN X4 u d14_24 rfl ?_
  refine t_iN X4 u d14_25 rfl ?_
  refine t_aN X4 u d14_26 rfl rfl ?_
  refine t_gF X4 u hZ hown (wd hw 24 rfl) e4 r2 d14_27 ?_
  intro T5 X5 e5
  refine t_cS [(.int x1), v_10, (.ref w1)] [] 0 X5 u hZ hown (wd hw 102 rfl) (m_12 hw) e5 (rm_gc_0_3 l Z a0 hw [] G GG x1 w1 kk2 h0 O0 r1 r6 (Arv.pad r3 (own_tr [v_115, v_116, v_97, v_116, v_117, v_115, v_32, v_0, v_0, v_0] 6 _))) rfl d14_30 rfl rfl (by decide) ?_
  intro v6 T6 L6 Lc6 X6 hQ6 l6
  obtain ⟨rfl, Nq6, Kq6, pV6⟩ := hQ6
  have O6_ := extKeep O0 Kq6 (allS r6 all0)
  have K6 := Keep.trans (Keep.refl h0 [w1, x0]) Kq6 (allS k0 all0)
  have N6_ := frA l6 N4_ Nq6
  refine t_pop X6 u d14_33 rfl ?_
  refine t_go 34 48 X6 u rfl d14_34 (by decide) ?_
  refine t_aN X6 u d14_48 rfl rfl ?_
  refine t_iN X6 u d14_49 rfl ?_
  refine t_pF X6 u hZ hown (wd hw 57 rfl) rfl (r0.keep Kq6 (ninS r7 nin0)) (r5.keep Kq6) (Or.inl (wd hw 58 rfl)) (wd hw 7 rfl) pf_I rfl rfl d14_50 ?_
  intro T7 h7 X7 e7 W7
  have N7_ := Fr.snoc X7 N6_ r8
  have O7_ := extWr O6_ W7 r8
  have K7 := Keep.wr K6 W7 k1
  have F7 := Fld.same W7 (r0.keep Kq6 (ninS r7 nin0))
  refine t_aN X7 u d14_53 rfl rfl ?_
  have f8 := (fS W7 (r2.keep Kq6 (ninS r7 nin0)) (sn_10 hw))
  have f9 := (fS W7 (r4.keep Kq6 (ninS r7 nin0)) (sn_11 hw))
  exact Go.retA X7 hx hret rfl rfl hlk (hb hby d14_54) (by decide) (by decide) (by show Q_a14_2 ..; rw [e7]; exact ⟨rfl, N7_, K7, (pV6.other W7 (Ne.symm r7)), F7, f8, f9⟩)
def Q_a13_2 (Z : State) (x0 : Addr) (x1 : Int32) (w1 : Addr) (kk2 : ClassId) (h0 : Heap) (v : Option Value) (h : Heap) (L : List Loc) : Prop := v = some (.ref x0) ∧ Fr Z.heap.size L ∧ Keep h0 h [x0, w1] ∧ Arv Z h w1 kk2 .byte (16 : Int32) [v_115, v_116, v_97, v_116, v_117, v_115, v_32, (.int (bq x1 2)), (.int (bq x1 1)), (.int (bq x1 0))] v_0 ∧ fl_8 Z h x0 v_10 ∧ fl_6 Z h x0 (.ref w1) ∧ fl_7 Z h x0 v_0
theorem rm_a13_2 (x0 : Addr) (x1 : Int32) (w1 : Addr) (kk2 : ClassId) (h0 : Heap) (O0 : Ext Z.heap h0) (r0 : fl_8 Z h0 x0 v_7) (r1 : Dg_0_3 x1) (r2 : fl_6 Z h0 x0 (.ref w1)) (r3 : Arv Z h0 w1 kk2 .byte (16 : Int32) [v_115, v_116, v_97, v_116, v_117, v_115, v_32, v_0, v_0, v_0, v_0, v_0, v_0, v_0, v_0, v_0] v_0) (r4 : fl_7 Z h0 x0 v_0) (r5 : ex_3 Z h0 x0) (r6 : Z.heap.size ≤ w1) (r7 : x0 ≠ w1) (r8 : Z.heap.size ≤ x0) :
    MF hw GG l y_13 jdk_67_method_15_code 2 (some (.object "java/lang/StringBuilder")) ws ⟨2, 0, 0, 33⟩ h0 #[(.ref x0), (.int x1)] (Q_a13_2 Z x0 x1 w1 kk2 h0) := by
  refine own_mF #[.val (.ref x0), .val (.int x1)] (plainFor_of_name pn_13) (fun _ => rfl) ?_
  intro p e s m below meth c s₁ u hlk hret hZ hown hnm X0 e0 N0
  obtain ⟨hx, hby, hml⟩ := id u
  refine t_aN X0 u d13_0 rfl rfl ?_
  refine t_iN X0 u d13_1 rfl ?_
  refine t_cX [(.int x1)] [] 0 X0 u hZ hown (by decide) r5 (wd hw 89 rfl) (m_13 hw) e0 (rm_a14_2 l Z a0 hw [] G GG x0 x1 w1 kk2 h0 O0 r0 r1 r2 r3 r4 r5 r6 r7 r8) rfl d13_2 rfl rfl (by decide) ?_
  intro v1 T1 L1 Lc1 X1 hQ1 l1
  obtain ⟨rfl, Nq1, Kq1, p1_0, p1_1, p1_2, p1_3⟩ := hQ1
  have O1_ := extKeep O0 Kq1 (allS r6 (allS r8 all0))
  have K1 := Keep.trans (Keep.refl h0 [x0, w1]) Kq1 (allS k1 (allS k0 all0))
  have N1_ := frA l1 N0 Nq1
  refine t_pop X1 u d13_5 rfl ?_
  refine t_aN X1 u d13_6 rfl rfl ?_
  exact Go.retA X1 hx hret rfl rfl hlk (hb hby d13_7) (by decide) (by decide) ⟨rfl, N1_, K1, p1_0, p1_1, p1_2, p1_3⟩
def Q_a25_2 (Z : State) (w2 w3 w4 : Int32) (h0 : Heap) (v : Option Value) (h : Heap) (L : List Loc) : Prop := ∃ (b2 : Addr) (k2 : ClassId), v = some (.ref b2) ∧ Fr Z.heap.size L ∧ Keep h0 h [] ∧ h0.size ≤ b2 ∧ ex_0 Z h b2 ∧ Arv Z h b2 k2 .byte (10 : Int32) [v_115, v_116, v_97, v_116, v_117, v_115, v_32, (.int w2), (.int w3), (.int w4)] v_0
theorem rm_a25_2 (x0 : Addr) (kk1 : ClassId) (w2 w3 w4 : Int32) (h0 : Heap) (O0 : Ext Z.heap h0) (r0 : Arv Z h0 x0 kk1 .byte (16 : Int32) [v_115, v_116, v_97, v_116, v_117, v_115, v_32, (.int w2), (.int w3), (.int w4)] v_0) :
    MF hw GG l y_25 jdk_65_method_133_code 5 (some (.array .byte)) ws ⟨1, 1, 10, 18⟩ h0 #[(.ref x0), v_0, v_10] (Q_a25_2 Z w2 w3 w4 h0) := by
  refine own_mF #[.val (.ref x0), .val v_0, .val v_10, .unset, .unset] (plainFor_of_name pn_25) (fun _ => rfl) ?_
  intro p e s m below meth c s₁ u hlk hret hZ hown hnm X0 e0 N0
  obtain ⟨hx, hby, hml⟩ := id u
  refine t_iN X0 u d25_0 rfl ?_
  refine t_iN X0 u d25_1 rfl ?_
  refine pt_cS [v_0, v_10] [] 0 X0 u hZ hown (wd hw 141 rfl) (m_17 hw) e0 (rm_a26_0 l Z a0 hw [] G GG (0 : Int32) (10 : Int32) h0 O0 (by decide)) rfl d25_2 rfl rfl (by decide) N0 ?_
  intro T1 L1 X1 e1 N1_
  refine t_iN X1 u d25_5 rfl ?_
  refine t_iN X1 u d25_6 rfl ?_
  refine t_isub X1 u d25_7  ?_
  refine t_isN X1 u d25_8 (l' := #[.val (.ref x0), .val v_0, .val v_10, .val v_10, .unset]) rfl ?_
  refine t_iN X1 u d25_9 rfl ?_
  refine t_nB 10 X1 u hZ (wd hw 23 rfl) e1 d25_10 (by decide) ?_
  intro T2 h2 b2 k2 X2 e2 E2 hb2 V2 B2
  have g_b2 := leE O0.1 hb2
  have O2_ := extTr O0 E2
  have sz_b2 := leE (Keep.refl h0 []).1 hb2
  have K2 := Keep.ext (Keep.refl h0 []) E2
  refine t_asL X2 u d25_12 rfl (l' := #[.val (.ref x0), .val v_0, .val v_10, .val v_10, .val (.ref b2)]) rfl ?_
  refine t_aN X2 u d25_14 rfl rfl ?_
  refine t_iN X2 u d25_15 rfl ?_
  refine t_aL X2 u d25_16 rfl rfl ?_
  refine t_iC X2 u d25_18  ?_
  refine t_aN X2 u d25_19 rfl rfl ?_
  obtain ⟨cl3, Ar3, -, S3, N3, -, -⟩ := id (r0.ext E2)
  refine Go.step (X2.arraylength hx (by rw [e2]; exact Ar3.1) (State.isArrayOf_alike hZ.alike Ar3.2.1) (g := (mkF m 20 #[.val (.ref x0), .val v_0, .val v_10, .val v_10, .val (.ref b2)] [(.ref x0), v_0, (.ref b2), v_0, (.ref x0)])) rfl rfl (hb hby d25_20)) ?_
  rw [len_of S3 N3]
  show Go _ _ _ _ _ _ _ _ T2 (mkF m 21 #[.val (.ref x0), .val v_0, .val v_10, .val v_10, .val (.ref b2)] [v_16, v_0, (.ref b2), v_0, (.ref x0)])
  refine t_iN X2 u d25_21 rfl ?_
  refine t_isub X2 u d25_22  ?_
  refine t_iN X2 u d25_23 rfl ?_
  refine pt_cS [v_16, v_10] [v_0, (.ref b2), v_0, (.ref x0)] 4 X2 u hZ hown (wd hw 144 rfl) (m_18 hw) e2 (rm_a27_0 l Z a0 hw [] G GG (16 : Int32) (10 : Int32) h2 O2_ (by decide)) rfl d25_24 rfl rfl (by decide) N1_ ?_
  intro T4 L4 X4 e4 N4_
  obtain ⟨T5, h5, L5, X5, e5, N5_, K5_, V5_, st5⟩ := cpA X4 hx hZ hown (wd hw 148 rfl) (wd hw 83 rfl) (wd hw 81 rfl) (wd hw 82 rfl) e4 (us := [v_115, v_116, v_97, v_116, v_117, v_115, v_32, (.int w2), (.int w3), (.int w4)]) (r0.ext E2) V2 (Or.inl ⟨rfl, rfl⟩) (by decide) (by decide) (by decide) (by decide) (by decide) rfl (by decide) N4_ g_b2 (g := (mkF m 27 #[.val (.ref x0), .val v_0, .val v_10, .val v_10, .val (.ref b2)] [v_10, v_0, (.ref b2), v_0, (.ref x0)])) rfl (by rw [hml]; rfl) rfl (hb hby d25_27) (by decide) (W := 0) (by show 2 * 0 + _ ≤ _; exact Nat.le_of_eq rfl) (by decide)
  refine Go.step st5 ?_
  have V5 : Arv Z h5 b2 k2 .byte (10 : Int32) [v_115, v_116, v_97, v_116, v_117, v_115, v_32, (.int w2), (.int w3), (.int w4)] v_0 := V5_
  have O5_ : Ext Z.heap h5 := extKeep O2_ K5_ (allS g_b2 all0)
  have K5 := Keep.trans K2 K5_ (allS (Or.inr sz_b2) all0)
  refine t_aL X5 u d25_30 rfl rfl ?_
  exact Go.retA X5 hx hret rfl rfl hlk (hb hby d25_32) (by decide) (by decide) (by show Q_a25_2 ..; rw [e5]; exact ⟨b2, k2, rfl, N5_, K5, sz_b2, (B2.keep K5_), V5⟩)
def Q_a24_2 (Z : State) (w2 w3 w4 : Int32) (h0 : Heap) (v : Option Value) (h : Heap) (L : List Loc) : Prop := ∃ (b2q2 : Addr) (k2q2 : ClassId), v = some (.ref b2q2) ∧ Fr Z.heap.size L ∧ Keep h0 h [] ∧ h0.size ≤ b2q2 ∧ ex_0 Z h b2q2 ∧ Arv Z h b2q2 k2q2 .byte (10 : Int32) [v_115, v_116, v_97, v_116, v_117, v_115, v_32, (.int w2), (.int w3), (.int w4)] v_0
theorem rm_a24_2 (x0 : Addr) (kk1 : ClassId) (w2 w3 w4 : Int32) (h0 : Heap) (O0 : Ext Z.heap h0) (r0 : Arv Z h0 x0 kk1 .byte (16 : Int32) [v_115, v_116, v_97, v_116, v_117, v_115, v_32, (.int w2), (.int w3), (.int w4)] v_0) :
    MF hw GG l y_24 jdk_65_method_132_code 3 (some (.array .byte)) ws ⟨2, 1, 10, 34⟩ h0 #[(.ref x0), v_0, v_10] (Q_a24_2 Z w2 w3 w4 h0) := by
  refine own_mF #[.val (.ref x0), .val v_0, .val v_10] (plainFor_of_name pn_24) (fun _ => rfl) ?_
  intro p e s m below meth c s₁ u hlk hret hZ hown hnm X0 e0 N0
  obtain ⟨hx, hby, hml⟩ := id u
  refine t_iN X0 u d24_0 rfl ?_
  refine t_ifN X0 u d24_1 ((if0 _ _).trans (teq (by decide : (0 : Int32) = (0 : Int32))).2) ?_
  refine t_iN X0 u d24_4 rfl ?_
  refine t_aN X0 u d24_5 rfl rfl ?_
  obtain ⟨cl1, Ar1, -, S1, N1, -, -⟩ := id r0
  refine Go.step (X0.arraylength hx (by rw [e0]; exact Ar1.1) (State.isArrayOf_alike hZ.alike Ar1.2.1) (g := (mkF m 6 #[.val (.ref x0), .val v_0, .val v_10] [(.ref x0), v_10])) rfl rfl (hb hby d24_6)) ?_
  rw [len_of S1 N1]
  show Go _ _ _ _ _ _ _ _ s₁ (mkF m 7 #[.val (.ref x0), .val v_0, .val v_10] [v_16, v_10])
  refine t_icN X0 u d24_7 (feq (by decide : ¬ ((10 : Int32) = (16 : Int32)))).1 ?_
  refine t_aN X0 u d24_10 rfl rfl ?_
  refine t_iN X0 u d24_11 rfl ?_
  refine t_iN X0 u d24_12 rfl ?_
  refine t_cS [(.ref x0), v_0, v_10] [] 0 X0 u hZ hown (wd hw 138 rfl) (m_19 hw) e0 (rm_a25_2 l Z a0 hw [] G GG x0 kk1 w2 w3 w4 h0 O0 r0) rfl d24_13 rfl rfl (by decide) ?_
  intro v2 T2 L2 Lc2 X2 hQ2 l2
  obtain ⟨b2q2, k2q2, rfl, Nq2, Kq2, p2_0, p2_1, p2_2⟩ := hQ2
  have O2_ := extKeep O0 Kq2 all0
  have K2 := Keep.trans (Keep.refl h0 []) Kq2 all0
  have N2_ := frA l2 N0 Nq2
  have g_b2q2 := Nat.le_trans O0.1 p2_0
  have sz_b2q2 := Nat.le_trans (Keep.refl h0 []).1 p2_0
  exact Go.retA X2 hx hret rfl rfl hlk (hb hby d24_16) (by decide) (by decide) ⟨b2q2, k2q2, rfl, N2_, K2, sz_b2q2, p2_1, p2_2⟩
def Q_a20_2 (Z : State) (x0 : Addr) (w3 w4 w5 : Int32) (h0 : Heap) (v : Option Value) (h : Heap) (L : List Loc) : Prop := ∃ (b2q2q6 : Addr) (k2q2q6 : ClassId), v = none ∧ Fr Z.heap.size L ∧ Keep h0 h [x0] ∧ fl_4 Z h x0 v_0 ∧ fl_5 Z h x0 (.ref b2q2q6) ∧ h0.size ≤ b2q2q6 ∧ ex_0 Z h b2q2q6 ∧ Arv Z h b2q2q6 k2q2q6 .byte (10 : Int32) [v_115, v_116, v_97, v_116, v_117, v_115, v_32, (.int w3), (.int w4), (.int w5)] v_0
theorem rm_a20_2 (x0 x1 w1 : Addr) (kk2 : ClassId) (w3 w4 w5 : Int32) (h0 : Heap) (O0 : Ext Z.heap h0) (r0 : ex_3 Z h0 x1) (r1 : fl_6 Z h0 x1 (.ref w1)) (r2 : fl_8 Z h0 x1 v_10) (r3 : fl_7 Z h0 x1 v_0) (r4 : ex_2 Z h0 x0) (r5 : fl_4 Z h0 x0 v_0) (r6 : Z.heap.size ≤ x0) (r7 : Arv Z h0 w1 kk2 .byte (16 : Int32) [v_115, v_116, v_97, v_116, v_117, v_115, v_32, (.int w3), (.int w4), (.int w5)] v_0) (r8 : w1 ≠ x0) (r9 : fl_5 Z h0 x0 .null) :
    MF hw GG l y_20 jdk_42_method_150_code 5 none ws ⟨3, 1, 10, 49⟩ h0 #[(.ref x0), (.ref x1), .null] (Q_a20_2 Z x0 w3 w4 w5 h0) := by
  refine own_mF #[.val (.ref x0), .val (.ref x1), .val .null, .unset, .unset] (plainFor_of_name pn_20) (fun _ => rfl) ?_
  intro p e s m below meth c s₁ u hlk hret hZ hown hnm X0 e0 N0
  obtain ⟨hx, hby, hml⟩ := id u
  refine t_aN X0 u d20_0 rfl rfl ?_
  refine t_in 0 X0 u hZ hown (wd hw 119 rfl) (wd hw 19 rfl) (wd hw 20 rfl) e0 rfl d20_1 rfl (by decide) ?_
  intro T1 X1 e1
  refine t_aN X1 u d20_4 rfl rfl ?_
  refine pt_cV [] [] 0 X1 u hZ hown (wd hw 120 rfl) (m_15 hw) e1 r0 (rm_a21_0 l Z a0 hw [] G GG x1 w1 h0 O0 r1) rfl d20_5 rfl rfl (by decide) N0 ?_
  intro T2 L2 X2 e2 N2_
  refine t_asN X2 u d20_8 rfl (l' := #[.val (.ref x0), .val (.ref x1), .val .null, .val (.ref w1), .unset]) rfl ?_
  refine t_aN X2 u d20_9 rfl rfl ?_
  obtain ⟨cq3, kq3, q3a, q3b, q3c⟩ := isOf hZ e2 r0
  obtain ⟨_, _, ⟨T3, L3, k3, n3⟩, -, X3, ⟨Lc3, hQ3, l3, y3, z3⟩, st3⟩ := X2.virtualBack hx (y := (⟨"java/lang/AbstractStringBuilder", "length", "()I"⟩ : MethodName)) (z := (⟨"java/lang/StringBuilder", "length", "()I"⟩ : MethodName)) hown (mvT hZ (wd hw 125 rfl)) (mvT hZ (wd hw 126 rfl)) (own_nf (mvT hZ (wd hw 62 rfl)) rfl) (mvT hZ (wd hw 128 rfl)) (mvT hZ (wd hw 129 rfl)) (by decide) (backOf (W := 0) (rm_a22_0 l Z a0 hw [] G GG x1 (10 : Int32) h0 O0 r2 r0) hZ (wd hw 130 rfl) (wd hw 8 rfl) (by decide) (by decide)) q3a q3c (g := (mkF m 10 #[.val (.ref x0), .val (.ref x1), .val .null, .val (.ref w1), .unset] [(.ref x1)])) rfl (by rw [hml]; rfl) (Steps.refl _) (argsL := []) (rest := []) (lenOf pd_LRI rfl) rfl (by show 2 * 0 + _ ≤ _; exact Nat.le_of_eq rfl) (hb hby d20_10) (fun _ _ => ⟨rfl, e2, (by decide : 0 + 0 ≤ _), (by decide : 0 + 0 ≤ _)⟩)
  dsimp only [Pt.U, Pt.locs, Pt.cells, Pt.slots] at X3 l3 y3 z3 st3 hQ3
  subst y3 z3
  obtain ⟨rfl, Nq3, e3⟩ := hQ3
  have N3_ := frA l3 N2_ Nq3
  refine Go.trans st3 ?_
  refine t_isL X3 u d20_13 (l' := #[.val (.ref x0), .val (.ref x1), .val .null, .val (.ref w1), .val v_10]) rfl ?_
  refine t_aN X3 u d20_15 rfl rfl ?_
  refine pt_cV [] [] 0 X3 u hZ hown (wd hw 133 rfl) (m_11 hw) e3 r0 (rm_a16_0 l Z a0 hw [] G GG x1 (0 : Int32) h0 O0 r3 (by decide)) rfl d20_16 rfl rfl (by decide) N3_ ?_
  intro T4 L4 X4 e4 N4_
  refine t_ifN X4 u d20_19 ((if0 _ _).trans (feq (by decide : ¬ ((1 : Int32) = (0 : Int32)))).1) ?_
  refine t_aN X4 u d20_22 rfl rfl ?_
  refine t_iC X4 u d20_23  ?_
  refine t_pN X4 u hZ hown (wd hw 56 rfl) e4 r5 r4 (Or.inr ⟨(wd hw 31 rfl), rfl, hnm⟩) (wd hw 29 rfl) v_0 pf_B rfl rfl d20_24 ?_
  intro T5 h5 X5 e5 W5
  have N5_ := Fr.snoc X5 N4_ r6
  have O5_ := extWr O0 W5 r6
  have K5 := Keep.wr (Keep.refl h0 [x0]) W5 k0
  have F5 := Fld.same W5 r5
  refine t_aN X5 u d20_27 rfl rfl ?_
  refine t_aN X5 u d20_28 rfl rfl ?_
  refine t_iC X5 u d20_29  ?_
  refine t_iL X5 u d20_30 rfl ?_
  refine t_cS [(.ref w1), v_0, v_10] [(.ref x0)] 1 X5 u hZ hown (wd hw 134 rfl) (m_20 hw) e5 (rm_a24_2 l Z a0 hw [] G GG w1 kk2 w3 w4 w5 h5 O5_ (r7.other W5 r8)) rfl d20_32 rfl rfl (by decide) ?_
  intro v6 T6 L6 Lc6 X6 hQ6 l6
  obtain ⟨b2q2q6, k2q2q6, rfl, Nq6, Kq6, p6_0, p6_1, p6_2⟩ := hQ6
  have O6_ := extKeep O5_ Kq6 all0
  have K6 := Keep.trans K5 Kq6 all0
  have N6_ := frA l6 N5_ Nq6
  have g_b2q2q6 := Nat.le_trans O5_.1 p6_0
  have sz_b2q2q6 := Nat.le_trans K5.1 p6_0
  refine t_pF X6 u hZ hown (wd hw 49 rfl) rfl ((fR W5 r9 (sn_12 hw)).keep Kq6 nin0) ((Exa.wr W5 r4).keep Kq6) (Or.inr ⟨(wd hw 30 rfl), rfl, hnm⟩) (wd hw 29 rfl) pf_AB rfl rfl d20_35 ?_
  intro T7 h7 X7 e7 W7
  have N7_ := Fr.snoc X7 N6_ r6
  have O7_ := extWr O6_ W7 r6
  have K7 := Keep.wr K6 W7 k0
  have F7 := Fld.same W7 ((fR W5 r9 (sn_12 hw)).keep Kq6 nin0)
  refine t_go 38 97 X7 u rfl d20_38 (by decide) ?_
  have f8 := (p6_2.other W7 (Ne.symm (neL (Exa.wr W5 r4).lt p6_0)))
  exact Go.retV X7 hx hret hlk (hb hby d20_97) (by decide) (by decide) (by show Q_a20_2 ..; rw [e7]; exact ⟨b2q2q6, k2q2q6, rfl, N7_, K7, (fS W7 (F5.keep Kq6 nin0) (sn_12 hw)), F7, sz_b2q2q6, (Exa.wr W7 p6_1), f8⟩)
def Q_a19_2 (Z : State) (x0 : Addr) (w3 w4 w5 : Int32) (h0 : Heap) (v : Option Value) (h : Heap) (L : List Loc) : Prop := ∃ (b2q2q6q1 : Addr) (k2q2q6q1 : ClassId), v = none ∧ Fr Z.heap.size L ∧ Keep h0 h [x0] ∧ fl_4 Z h x0 v_0 ∧ fl_5 Z h x0 (.ref b2q2q6q1) ∧ h0.size ≤ b2q2q6q1 ∧ ex_0 Z h b2q2q6q1 ∧ Arv Z h b2q2q6q1 k2q2q6q1 .byte (10 : Int32) [v_115, v_116, v_97, v_116, v_117, v_115, v_32, (.int w3), (.int w4), (.int w5)] v_0
theorem rm_a19_2 (x0 x1 w1 : Addr) (kk2 : ClassId) (w3 w4 w5 : Int32) (h0 : Heap) (O0 : Ext Z.heap h0) (r0 : ex_3 Z h0 x1) (r1 : fl_6 Z h0 x1 (.ref w1)) (r2 : fl_8 Z h0 x1 v_10) (r3 : fl_7 Z h0 x1 v_0) (r4 : ex_2 Z h0 x0) (r5 : fl_4 Z h0 x0 v_0) (r6 : Z.heap.size ≤ x0) (r7 : Arv Z h0 w1 kk2 .byte (16 : Int32) [v_115, v_116, v_97, v_116, v_117, v_115, v_32, (.int w3), (.int w4), (.int w5)] v_0) (r8 : w1 ≠ x0) (r9 : fl_5 Z h0 x0 .null) :
    MF hw GG l y_19 jdk_42_method_53_code 2 none ws ⟨4, 1, 10, 65⟩ h0 #[(.ref x0), (.ref x1)] (Q_a19_2 Z x0 w3 w4 w5 h0) := by
  refine own_mF #[.val (.ref x0), .val (.ref x1)] (plainFor_of_name pn_19) (fun _ => rfl) ?_
  intro p e s m below meth c s₁ u hlk hret hZ hown hnm X0 e0 N0
  obtain ⟨hx, hby, hml⟩ := id u
  refine t_aN X0 u d19_0 rfl rfl ?_
  refine t_aN X0 u d19_1 rfl rfl ?_
  refine t_nl X0 u d19_2  ?_
  refine t_cN [(.ref x1), .null] [] 0 X0 u hZ hown rfl (wd hw 116 rfl) (m_21 hw) e0 (rm_a20_2 l Z a0 hw [] G GG x0 x1 w1 kk2 w3 w4 w5 h0 O0 r0 r1 r2 r3 r4 r5 r6 r7 r8 r9) rfl d19_3 rfl rfl (by decide) ?_
  intro v1 T1 L1 Lc1 X1 hQ1 l1
  obtain ⟨b2q2q6q1, k2q2q6q1, rfl, Nq1, Kq1, p1_0, p1_1, p1_2, p1_3, p1_4⟩ := hQ1
  have O1_ := extKeep O0 Kq1 (allS r6 all0)
  have K1 := Keep.trans (Keep.refl h0 [x0]) Kq1 (allS k0 all0)
  have N1_ := frA l1 N0 Nq1
  have g_b2q2q6q1 := Nat.le_trans O0.1 p1_2
  have sz_b2q2q6q1 := Nat.le_trans (Keep.refl h0 [x0]).1 p1_2
  exact Go.retV X1 hx hret hlk (hb hby d19_6) (by decide) (by decide) ⟨b2q2q6q1, k2q2q6q1, rfl, N1_, K1, p1_0, p1_1, sz_b2q2q6q1, p1_3, p1_4⟩
def Q_a18_2 (Z : State) (w3 w4 w5 : Int32) (h0 : Heap) (v : Option Value) (h : Heap) (L : List Loc) : Prop := ∃ (b1 : Addr) (b2q2q6q1q2 : Addr) (k2q2q6q1q2 : ClassId), v = some (.ref b1) ∧ Fr Z.heap.size L ∧ Keep h0 h [] ∧ h0.size ≤ b1 ∧ ex_2 Z h b1 ∧ fl_4 Z h b1 v_0 ∧ fl_5 Z h b1 (.ref b2q2q6q1q2) ∧ h0.size ≤ b2q2q6q1q2 ∧ ex_0 Z h b2q2q6q1q2 ∧ Arv Z h b2q2q6q1q2 k2q2q6q1q2 .byte (10 : Int32) [v_115, v_116, v_97, v_116, v_117, v_115, v_32, (.int w3), (.int w4), (.int w5)] v_0 ∧ b1 ≠ b2q2q6q1q2
theorem rm_a18_2 (x0 w1 : Addr) (kk2 : ClassId) (w3 w4 w5 : Int32) (h0 : Heap) (O0 : Ext Z.heap h0) (r0 : ex_3 Z h0 x0) (r1 : fl_6 Z h0 x0 (.ref w1)) (r2 : fl_8 Z h0 x0 v_10) (r3 : fl_7 Z h0 x0 v_0) (r4 : Arv Z h0 w1 kk2 .byte (16 : Int32) [v_115, v_116, v_97, v_116, v_117, v_115, v_32, (.int w3), (.int w4), (.int w5)] v_0) :
    MF hw GG l y_18 jdk_67_method_42_code 1 (some (.object "java/lang/String")) ws ⟨5, 2, 14, 79⟩ h0 #[(.ref x0)] (Q_a18_2 Z w3 w4 w5 h0) := by
  refine own_mF #[.val (.ref x0)] (plainFor_of_name pn_18) (fun _ => rfl) ?_
  intro p e s m below meth c s₁ u hlk hret hZ hown hnm X0 e0 N0
  obtain ⟨hx, hby, hml⟩ := id u
  refine t_new X0 u hZ hown (wd hw 111 rfl) (wd hw 29 rfl) (wd hw 22 rfl) e0 d18_0 (by decide) ?_
  intro T1 h1 b1 X1 e1 E1 hb1 A1 D1
  have g_b1 := leE O0.1 hb1
  have O1_ := extTr O0 E1
  have sz_b1 := leE (Keep.refl h0 []).1 hb1
  have K1 := Keep.ext (Keep.refl h0 []) E1
  have F1_value : fl_5 Z h1 b1 .null := D1 (Or.inr (wd hw 30 rfl)) (ty := (.array .byte)) pf_AB
  have F1_coder : fl_4 Z h1 b1 v_0 := D1 (Or.inr (wd hw 31 rfl)) (ty := .byte) pf_B
  refine t_dup X1 u d18_3 rfl ?_
  refine t_aN X1 u d18_4 rfl rfl ?_
  refine t_cN [(.ref x0)] [(.ref b1)] 1 X1 u hZ hown rfl (wd hw 112 rfl) (m_22 hw) e1 (rm_a19_2 l Z a0 hw [] G GG b1 x0 w1 kk2 w3 w4 w5 h1 O1_ (Exa.ext E1 r0) (Fld.ext E1 r1) (Fld.ext E1 r2) (Fld.ext E1 r3) A1 F1_coder g_b1 (r4.ext E1) (neE r4.lt hb1) F1_value) rfl d18_5 rfl rfl (by decide) ?_
  intro v2 T2 L2 Lc2 X2 hQ2 l2
  obtain ⟨b2q2q6q1q2, k2q2q6q1q2, rfl, Nq2, Kq2, p2_0, p2_1, p2_2, p2_3, p2_4⟩ := hQ2
  have O2_ := extKeep O1_ Kq2 (allS g_b1 all0)
  have K2 := Keep.trans K1 Kq2 (allS (Or.inr sz_b1) all0)
  have N2_ := frA l2 N0 Nq2
  have g_b2q2q6q1q2 := Nat.le_trans O1_.1 p2_2
  have sz_b2q2q6q1q2 := Nat.le_trans K1.1 p2_2
  exact Go.retA X2 hx hret rfl rfl hlk (hb hby d18_8) (by decide) (by decide) ⟨b1, b2q2q6q1q2, k2q2q6q1q2, rfl, N2_, K2, sz_b1, (A1.keep Kq2), p2_0, p2_1, sz_b2q2q6q1q2, p2_3, p2_4, (neL A1.lt p2_2)⟩
def Q_a14_3 (Z : State) (x0 : Addr) (x1 : Int32) (w1 : Addr) (kk2 : ClassId) (h0 : Heap) (v : Option Value) (h : Heap) (L : List Loc) : Prop := v = some (.ref x0) ∧ Fr Z.heap.size L ∧ Keep h0 h [w1, x0] ∧ Arv Z h w1 kk2 .byte (16 : Int32) [v_115, v_116, v_97, v_116, v_117, v_115, v_32, (.int (bq x1 3)), (.int (bq x1 2)), (.int (bq x1 1)), (.int (bq x1 0))] v_0 ∧ fl_8 Z h x0 v_11 ∧ fl_6 Z h x0 (.ref w1) ∧ fl_7 Z h x0 v_0
theorem rm_a14_3 (x0 : Addr) (x1 : Int32) (w1 : Addr) (kk2 : ClassId) (h0 : Heap) (O0 : Ext Z.heap h0) (r0 : fl_8 Z h0 x0 v_7) (r1 : Dg_0_4 x1) (r2 : fl_6 Z h0 x0 (.ref w1)) (r3 : Arv Z h0 w1 kk2 .byte (16 : Int32) [v_115, v_116, v_97, v_116, v_117, v_115, v_32, v_0, v_0, v_0, v_0, v_0, v_0, v_0, v_0, v_0] v_0) (r4 : fl_7 Z h0 x0 v_0) (r5 : ex_3 Z h0 x0) (r6 : Z.heap.size ≤ w1) (r7 : x0 ≠ w1) (r8 : Z.heap.size ≤ x0) :
    MF hw GG l y_14 jdk_68_method_32_code 4 (some (.object "java/lang/AbstractStringBuilder")) ws ⟨1, 0, 0, 18⟩ h0 #[(.ref x0), (.int x1)] (Q_a14_3 Z x0 x1 w1 kk2 h0) := by
  refine own_mF #[.val (.ref x0), .val (.int x1), .unset, .unset] (plainFor_of_name pn_14) (fun _ => rfl) ?_
  intro p e s m below meth c s₁ u hlk hret hZ hown hnm X0 e0 N0
  obtain ⟨hx, hby, hml⟩ := id u
  refine t_aN X0 u d14_0 rfl rfl ?_
  refine t_gF X0 u hZ hown (wd hw 57 rfl) e0 r0 d14_1 ?_
  intro T1 X1 e1
  refine t_isN X1 u d14_4 (l' := #[.val (.ref x0), .val (.int x1), .val v_7, .unset]) rfl ?_
  refine t_iN X1 u d14_5 rfl ?_
  refine t_iN X1 u d14_6 rfl ?_
  refine pt_cS [(.int x1)] [v_7] 1 X1 u hZ hown (wd hw 93 rfl) (m_10 hw) e1 (rm_ss_0_4 l Z a0 hw [] G GG x1 h0 O0 r1) rfl d14_7 rfl rfl (by decide) N0 ?_
  intro T2 L2 X2 e2 N2_
  refine t_iadd X2 u d14_10  ?_
  refine t_isN X2 u d14_11 (l' := #[.val (.ref x0), .val (.int x1), .val v_7, .val v_11]) rfl ?_
  refine t_aN X2 u d14_12 rfl rfl ?_
  refine t_iN X2 u d14_13 rfl ?_
  refine pt_cP [v_11] [] 0 X2 u hZ hown r5 (wd hw 59 rfl) (m_4 hw) e2 (rm_a9_0 l Z a0 hw [] G GG x0 (11 : Int32) w1 kk2 (115 : Int32) (116 : Int32) (97 : Int32) (116 : Int32) (117 : Int32) (115 : Int32) (32 : Int32) (0 : Int32) (0 : Int32) (0 : Int32) (0 : Int32) (0 : Int32) (0 : Int32) (0 : Int32) (0 : Int32) (0 : Int32) (0 : Int32) h0 O0 r2 r3 r4 (by decide)) rfl d14_14 rfl rfl (by decide) N2_ ?_
  intro T3 L3 X3 e3 N3_
  refine t_aN X3 u d14_17 rfl rfl ?_
  refine pt_cV [] [] 0 X3 u hZ hown (wd hw 97 rfl) (m_11 hw) e3 r5 (rm_a16_0 l Z a0 hw [] G GG x0 (0 : Int32) h0 O0 r4 (by decide)) rfl d14_18 rfl rfl (by decide) N3_ ?_
  intro T4 L4 X4 e4 N4_
  refine t_ifN X4 u d14_21 ((if0 _ _).trans (feq (by decide : ¬ ((1 : Int32) = (0 : Int32)))).1) ?_
  refine t_iN X4 u d14_24 rfl ?_
  refine t_iN X4 u d14_25 rfl ?_
  refine t_aN X4 u d14_26 rfl rfl ?_
  refine t_gF X4 u hZ hown (wd hw 24 rfl) e4 r2 d14_27 ?_
  intro T5 X5 e5
  refine t_cS [(.int x1), v_11, (.ref w1)] [] 0 X5 u hZ hown (wd hw 102 rfl) (m_12 hw) e5 (rm_gc_0_4 l Z a0 hw [] G GG x1 w1 kk2 h0 O0 r1 r6 (Arv.pad r3 (own_tr [v_115, v_116, v_97, v_116, v_117, v_115, v_32, v_0, v_0, v_0, v_0] 5 _))) rfl d14_30 rfl rfl (by decide) ?_
  intro v6 T6 L6 Lc6 X6 hQ6 l6
  obtain ⟨rfl, Nq6, Kq6, pV6⟩ := hQ6
  have O6_ := extKeep O0 Kq6 (allS r6 all0)
  have K6 := Keep.trans (Keep.refl h0 [w1, x0]) Kq6 (allS k0 all0)
  have N6_ := frA l6 N4_ Nq6
  refine t_pop X6 u d14_33 rfl ?_
  refine t_go 34 48 X6 u rfl d14_34 (by decide) ?_
  refine t_aN X6 u d14_48 rfl rfl ?_
  refine t_iN X6 u d14_49 rfl ?_
  refine t_pF X6 u hZ hown (wd hw 57 rfl) rfl (r0.keep Kq6 (ninS r7 nin0)) (r5.keep Kq6) (Or.inl (wd hw 58 rfl)) (wd hw 7 rfl) pf_I rfl rfl d14_50 ?_
  intro T7 h7 X7 e7 W7
  have N7_ := Fr.snoc X7 N6_ r8
  have O7_ := extWr O6_ W7 r8
  have K7 := Keep.wr K6 W7 k1
  have F7 := Fld.same W7 (r0.keep Kq6 (ninS r7 nin0))
  refine t_aN X7 u d14_53 rfl rfl ?_
  have f8 := (fS W7 (r2.keep Kq6 (ninS r7 nin0)) (sn_10 hw))
  have f9 := (fS W7 (r4.keep Kq6 (ninS r7 nin0)) (sn_11 hw))
  exact Go.retA X7 hx hret rfl rfl hlk (hb hby d14_54) (by decide) (by decide) (by show Q_a14_3 ..; rw [e7]; exact ⟨rfl, N7_, K7, (pV6.other W7 (Ne.symm r7)), F7, f8, f9⟩)
def Q_a13_3 (Z : State) (x0 : Addr) (x1 : Int32) (w1 : Addr) (kk2 : ClassId) (h0 : Heap) (v : Option Value) (h : Heap) (L : List Loc) : Prop := v = some (.ref x0) ∧ Fr Z.heap.size L ∧ Keep h0 h [x0, w1] ∧ Arv Z h w1 kk2 .byte (16 : Int32) [v_115, v_116, v_97, v_116, v_117, v_115, v_32, (.int (bq x1 3)), (.int (bq x1 2)), (.int (bq x1 1)), (.int (bq x1 0))] v_0 ∧ fl_8 Z h x0 v_11 ∧ fl_6 Z h x0 (.ref w1) ∧ fl_7 Z h x0 v_0
theorem rm_a13_3 (x0 : Addr) (x1 : Int32) (w1 : Addr) (kk2 : ClassId) (h0 : Heap) (O0 : Ext Z.heap h0) (r0 : fl_8 Z h0 x0 v_7) (r1 : Dg_0_4 x1) (r2 : fl_6 Z h0 x0 (.ref w1)) (r3 : Arv Z h0 w1 kk2 .byte (16 : Int32) [v_115, v_116, v_97, v_116, v_117, v_115, v_32, v_0, v_0, v_0, v_0, v_0, v_0, v_0, v_0, v_0] v_0) (r4 : fl_7 Z h0 x0 v_0) (r5 : ex_3 Z h0 x0) (r6 : Z.heap.size ≤ w1) (r7 : x0 ≠ w1) (r8 : Z.heap.size ≤ x0) :
    MF hw GG l y_13 jdk_67_method_15_code 2 (some (.object "java/lang/StringBuilder")) ws ⟨2, 0, 0, 33⟩ h0 #[(.ref x0), (.int x1)] (Q_a13_3 Z x0 x1 w1 kk2 h0) := by
  refine own_mF #[.val (.ref x0), .val (.int x1)] (plainFor_of_name pn_13) (fun _ => rfl) ?_
  intro p e s m below meth c s₁ u hlk hret hZ hown hnm X0 e0 N0
  obtain ⟨hx, hby, hml⟩ := id u
  refine t_aN X0 u d13_0 rfl rfl ?_
  refine t_iN X0 u d13_1 rfl ?_
  refine t_cX [(.int x1)] [] 0 X0 u hZ hown (by decide) r5 (wd hw 89 rfl) (m_13 hw) e0 (rm_a14_3 l Z a0 hw [] G GG x0 x1 w1 kk2 h0 O0 r0 r1 r2 r3 r4 r5 r6 r7 r8) rfl d13_2 rfl rfl (by decide) ?_
  intro v1 T1 L1 Lc1 X1 hQ1 l1
  obtain ⟨rfl, Nq1, Kq1, p1_0, p1_1, p1_2, p1_3⟩ := hQ1
  have O1_ := extKeep O0 Kq1 (allS r6 (allS r8 all0))
  have K1 := Keep.trans (Keep.refl h0 [x0, w1]) Kq1 (allS k1 (allS k0 all0))
  have N1_ := frA l1 N0 Nq1
  refine t_pop X1 u d13_5 rfl ?_
  refine t_aN X1 u d13_6 rfl rfl ?_
  exact Go.retA X1 hx hret rfl rfl hlk (hb hby d13_7) (by decide) (by decide) ⟨rfl, N1_, K1, p1_0, p1_1, p1_2, p1_3⟩
def Q_a25_3 (Z : State) (w2 w3 w4 w5 : Int32) (h0 : Heap) (v : Option Value) (h : Heap) (L : List Loc) : Prop := ∃ (b2 : Addr) (k2 : ClassId), v = some (.ref b2) ∧ Fr Z.heap.size L ∧ Keep h0 h [] ∧ h0.size ≤ b2 ∧ ex_0 Z h b2 ∧ Arv Z h b2 k2 .byte (11 : Int32) [v_115, v_116, v_97, v_116, v_117, v_115, v_32, (.int w2), (.int w3), (.int w4), (.int w5)] v_0
theorem rm_a25_3 (x0 : Addr) (kk1 : ClassId) (w2 w3 w4 w5 : Int32) (h0 : Heap) (O0 : Ext Z.heap h0) (r0 : Arv Z h0 x0 kk1 .byte (16 : Int32) [v_115, v_116, v_97, v_116, v_117, v_115, v_32, (.int w2), (.int w3), (.int w4), (.int w5)] v_0) :
    MF hw GG l y_25 jdk_65_method_133_code 5 (some (.array .byte)) ws ⟨1, 1, 11, 18⟩ h0 #[(.ref x0), v_0, v_11] (Q_a25_3 Z w2 w3 w4 w5 h0) := by
  refine own_mF #[.val (.ref x0), .val v_0, .val v_11, .unset, .unset] (plainFor_of_name pn_25) (fun _ => rfl) ?_
  intro p e s m below meth c s₁ u hlk hret hZ hown hnm X0 e0 N0
  obtain ⟨hx, hby, hml⟩ := id u
  refine t_iN X0 u d25_0 rfl ?_
  refine t_iN X0 u d25_1 rfl ?_
  refine pt_cS [v_0, v_11] [] 0 X0 u hZ hown (wd hw 141 rfl) (m_17 hw) e0 (rm_a26_0 l Z a0 hw [] G GG (0 : Int32) (11 : Int32) h0 O0 (by decide)) rfl d25_2 rfl rfl (by decide) N0 ?_
  intro T1 L1 X1 e1 N1_
  refine t_iN X1 u d25_5 rfl ?_
  refine t_iN X1 u d25_6 rfl ?_
  refine t_isub X1 u d25_7  ?_
  refine t_isN X1 u d25_8 (l' := #[.val (.ref x0), .val v_0, .val v_11, .val v_11, .unset]) rfl ?_
  refine t_iN X1 u d25_9 rfl ?_
  refine t_nB 11 X1 u hZ (wd hw 23 rfl) e1 d25_10 (by decide) ?_
  intro T2 h2 b2 k2 X2 e2 E2 hb2 V2 B2
  have g_b2 := leE O0.1 hb2
  have O2_ := extTr O0 E2
  have sz_b2 := leE (Keep.refl h0 []).1 hb2
  have K2 := Keep.ext (Keep.refl h0 []) E2
  refine t_asL X2 u d25_12 rfl (l' := #[.val (.ref x0), .val v_0, .val v_11, .val v_11, .val (.ref b2)]) rfl ?_
  refine t_aN X2 u d25_14 rfl rfl ?_
  refine t_iN X2 u d25_15 rfl ?_
  refine t_aL X2 u d25_16 rfl rfl ?_
  refine t_iC X2 u d25_18  ?_
  refine t_aN X2 u d25_19 rfl rfl ?_
  obtain ⟨cl3, Ar3, -, S3, N3, -, -⟩ := id (r0.ext E2)
  refine Go.step (X2.arraylength hx (by rw [e2]; exact Ar3.1) (State.isArrayOf_alike hZ.alike Ar3.2.1) (g := (mkF m 20 #[.val (.ref x0), .val v_0, .val v_11, .val v_11, .val (.ref b2)] [(.ref x0), v_0, (.ref b2), v_0, (.ref x0)])) rfl rfl (hb hby d25_20)) ?_
  rw [len_of S3 N3]
  show Go _ _ _ _ _ _ _ _ T2 (mkF m 21 #[.val (.ref x0), .val v_0, .val v_11, .val v_11, .val (.ref b2)] [v_16, v_0, (.ref b2), v_0, (.ref x0)])
  refine t_iN X2 u d25_21 rfl ?_
  refine t_isub X2 u d25_22  ?_
  refine t_iN X2 u d25_23 rfl ?_
  refine pt_cS [v_16, v_11] [v_0, (.ref b2), v_0, (.ref x0)] 4 X2 u hZ hown (wd hw 144 rfl) (m_18 hw) e2 (rm_a27_0 l Z a0 hw [] G GG (16 : Int32) (11 : Int32) h2 O2_ (by decide)) rfl d25_24 rfl rfl (by decide) N1_ ?_
  intro T4 L4 X4 e4 N4_
  obtain ⟨T5, h5, L5, X5, e5, N5_, K5_, V5_, st5⟩ := cpA X4 hx hZ hown (wd hw 148 rfl) (wd hw 83 rfl) (wd hw 81 rfl) (wd hw 82 rfl) e4 (us := [v_115, v_116, v_97, v_116, v_117, v_115, v_32, (.int w2), (.int w3), (.int w4), (.int w5)]) (r0.ext E2) V2 (Or.inl ⟨rfl, rfl⟩) (by decide) (by decide) (by decide) (by decide) (by decide) rfl (by decide) N4_ g_b2 (g := (mkF m 27 #[.val (.ref x0), .val v_0, .val v_11, .val v_11, .val (.ref b2)] [v_11, v_0, (.ref b2), v_0, (.ref x0)])) rfl (by rw [hml]; rfl) rfl (hb hby d25_27) (by decide) (W := 0) (by show 2 * 0 + _ ≤ _; exact Nat.le_of_eq rfl) (by decide)
  refine Go.step st5 ?_
  have V5 : Arv Z h5 b2 k2 .byte (11 : Int32) [v_115, v_116, v_97, v_116, v_117, v_115, v_32, (.int w2), (.int w3), (.int w4), (.int w5)] v_0 := V5_
  have O5_ : Ext Z.heap h5 := extKeep O2_ K5_ (allS g_b2 all0)
  have K5 := Keep.trans K2 K5_ (allS (Or.inr sz_b2) all0)
  refine t_aL X5 u d25_30 rfl rfl ?_
  exact Go.retA X5 hx hret rfl rfl hlk (hb hby d25_32) (by decide) (by decide) (by show Q_a25_3 ..; rw [e5]; exact ⟨b2, k2, rfl, N5_, K5, sz_b2, (B2.keep K5_), V5⟩)
def Q_a24_3 (Z : State) (w2 w3 w4 w5 : Int32) (h0 : Heap) (v : Option Value) (h : Heap) (L : List Loc) : Prop := ∃ (b2q2 : Addr) (k2q2 : ClassId), v = some (.ref b2q2) ∧ Fr Z.heap.size L ∧ Keep h0 h [] ∧ h0.size ≤ b2q2 ∧ ex_0 Z h b2q2 ∧ Arv Z h b2q2 k2q2 .byte (11 : Int32) [v_115, v_116, v_97, v_116, v_117, v_115, v_32, (.int w2), (.int w3), (.int w4), (.int w5)] v_0
theorem rm_a24_3 (x0 : Addr) (kk1 : ClassId) (w2 w3 w4 w5 : Int32) (h0 : Heap) (O0 : Ext Z.heap h0) (r0 : Arv Z h0 x0 kk1 .byte (16 : Int32) [v_115, v_116, v_97, v_116, v_117, v_115, v_32, (.int w2), (.int w3), (.int w4), (.int w5)] v_0) :
    MF hw GG l y_24 jdk_65_method_132_code 3 (some (.array .byte)) ws ⟨2, 1, 11, 34⟩ h0 #[(.ref x0), v_0, v_11] (Q_a24_3 Z w2 w3 w4 w5 h0) := by
  refine own_mF #[.val (.ref x0), .val v_0, .val v_11] (plainFor_of_name pn_24) (fun _ => rfl) ?_
  intro p e s m below meth c s₁ u hlk hret hZ hown hnm X0 e0 N0
  obtain ⟨hx, hby, hml⟩ := id u
  refine t_iN X0 u d24_0 rfl ?_
  refine t_ifN X0 u d24_1 ((if0 _ _).trans (teq (by decide : (0 : Int32) = (0 : Int32))).2) ?_
  refine t_iN X0 u d24_4 rfl ?_
  refine t_aN X0 u d24_5 rfl rfl ?_
  obtain ⟨cl1, Ar1, -, S1, N1, -, -⟩ := id r0
  refine Go.step (X0.arraylength hx (by rw [e0]; exact Ar1.1) (State.isArrayOf_alike hZ.alike Ar1.2.1) (g := (mkF m 6 #[.val (.ref x0), .val v_0, .val v_11] [(.ref x0), v_11])) rfl rfl (hb hby d24_6)) ?_
  rw [len_of S1 N1]
  show Go _ _ _ _ _ _ _ _ s₁ (mkF m 7 #[.val (.ref x0), .val v_0, .val v_11] [v_16, v_11])
  refine t_icN X0 u d24_7 (feq (by decide : ¬ ((11 : Int32) = (16 : Int32)))).1 ?_
  refine t_aN X0 u d24_10 rfl rfl ?_
  refine t_iN X0 u d24_11 rfl ?_
  refine t_iN X0 u d24_12 rfl ?_
  refine t_cS [(.ref x0), v_0, v_11] [] 0 X0 u hZ hown (wd hw 138 rfl) (m_19 hw) e0 (rm_a25_3 l Z a0 hw [] G GG x0 kk1 w2 w3 w4 w5 h0 O0 r0) rfl d24_13 rfl rfl (by decide) ?_
  intro v2 T2 L2 Lc2 X2 hQ2 l2
  obtain ⟨b2q2, k2q2, rfl, Nq2, Kq2, p2_0, p2_1, p2_2⟩ := hQ2
  have O2_ := extKeep O0 Kq2 all0
  have K2 := Keep.trans (Keep.refl h0 []) Kq2 all0
  have N2_ := frA l2 N0 Nq2
  have g_b2q2 := Nat.le_trans O0.1 p2_0
  have sz_b2q2 := Nat.le_trans (Keep.refl h0 []).1 p2_0
  exact Go.retA X2 hx hret rfl rfl hlk (hb hby d24_16) (by decide) (by decide) ⟨b2q2, k2q2, rfl, N2_, K2, sz_b2q2, p2_1, p2_2⟩
def Q_a20_3 (Z : State) (x0 : Addr) (w3 w4 w5 w6 : Int32) (h0 : Heap) (v : Option Value) (h : Heap) (L : List Loc) : Prop := ∃ (b2q2q6 : Addr) (k2q2q6 : ClassId), v = none ∧ Fr Z.heap.size L ∧ Keep h0 h [x0] ∧ fl_4 Z h x0 v_0 ∧ fl_5 Z h x0 (.ref b2q2q6) ∧ h0.size ≤ b2q2q6 ∧ ex_0 Z h b2q2q6 ∧ Arv Z h b2q2q6 k2q2q6 .byte (11 : Int32) [v_115, v_116, v_97, v_116, v_117, v_115, v_32, (.int w3), (.int w4), (.int w5), (.int w6)] v_0
theorem rm_a20_3 (x0 x1 w1 : Addr) (kk2 : ClassId) (w3 w4 w5 w6 : Int32) (h0 : Heap) (O0 : Ext Z.heap h0) (r0 : ex_3 Z h0 x1) (r1 : fl_6 Z h0 x1 (.ref w1)) (r2 : fl_8 Z h0 x1 v_11) (r3 : fl_7 Z h0 x1 v_0) (r4 : ex_2 Z h0 x0) (r5 : fl_4 Z h0 x0 v_0) (r6 : Z.heap.size ≤ x0) (r7 : Arv Z h0 w1 kk2 .byte (16 : Int32) [v_115, v_116, v_97, v_116, v_117, v_115, v_32, (.int w3), (.int w4), (.int w5), (.int w6)] v_0) (r8 : w1 ≠ x0) (r9 : fl_5 Z h0 x0 .null) :
    MF hw GG l y_20 jdk_42_method_150_code 5 none ws ⟨3, 1, 11, 49⟩ h0 #[(.ref x0), (.ref x1), .null] (Q_a20_3 Z x0 w3 w4 w5 w6 h0) := by
  refine own_mF #[.val (.ref x0), .val (.ref x1), .val .null, .unset, .unset] (plainFor_of_name pn_20) (fun _ => rfl) ?_
  intro p e s m below meth c s₁ u hlk hret hZ hown hnm X0 e0 N0
  obtain ⟨hx, hby, hml⟩ := id u
  refine t_aN X0 u d20_0 rfl rfl ?_
  refine t_in 0 X0 u hZ hown (wd hw 119 rfl) (wd hw 19 rfl) (wd hw 20 rfl) e0 rfl d20_1 rfl (by decide) ?_
  intro T1 X1 e1
  refine t_aN X1 u d20_4 rfl rfl ?_
  refine pt_cV [] [] 0 X1 u hZ hown (wd hw 120 rfl) (m_15 hw) e1 r0 (rm_a21_0 l Z a0 hw [] G GG x1 w1 h0 O0 r1) rfl d20_5 rfl rfl (by decide) N0 ?_
  intro T2 L2 X2 e2 N2_
  refine t_asN X2 u d20_8 rfl (l' := #[.val (.ref x0), .val (.ref x1), .val .null, .val (.ref w1), .unset]) rfl ?_
  refine t_aN X2 u d20_9 rfl rfl ?_
  obtain ⟨cq3, kq3, q3a, q3b, q3c⟩ := isOf hZ e2 r0
  obtain ⟨_, _, ⟨T3, L3, k3, n3⟩, -, X3, ⟨Lc3, hQ3, l3, y3, z3⟩, st3⟩ := X2.virtualBack hx (y := (⟨"java/lang/AbstractStringBuilder", "length", "()I"⟩ : MethodName)) (z := (⟨"java/lang/StringBuilder", "length", "()I"⟩ : MethodName)) hown (mvT hZ (wd hw 125 rfl)) (mvT hZ (wd hw 126 rfl)) (own_nf (mvT hZ (wd hw 62 rfl)) rfl) (mvT hZ (wd hw 128 rfl)) (mvT hZ (wd hw 129 rfl)) (by decide) (backOf (W := 0) (rm_a22_0 l Z a0 hw [] G GG x1 (11 : Int32) h0 O0 r2 r0) hZ (wd hw 130 rfl) (wd hw 8 rfl) (by decide) (by decide)) q3a q3c (g := (mkF m 10 #[.val (.ref x0), .val (.ref x1), .val .null, .val (.ref w1), .unset] [(.ref x1)])) rfl (by rw [hml]; rfl) (Steps.refl _) (argsL := []) (rest := []) (lenOf pd_LRI rfl) rfl (by show 2 * 0 + _ ≤ _; exact Nat.le_of_eq rfl) (hb hby d20_10) (fun _ _ => ⟨rfl, e2, (by decide : 0 + 0 ≤ _), (by decide : 0 + 0 ≤ _)⟩)
  dsimp only [Pt.U, Pt.locs, Pt.cells, Pt.slots] at X3 l3 y3 z3 st3 hQ3
  subst y3 z3
  obtain ⟨rfl, Nq3, e3⟩ := hQ3
  have N3_ := frA l3 N2_ Nq3
  refine Go.trans st3 ?_
  refine t_isL X3 u d20_13 (l' := #[.val (.ref x0), .val (.ref x1), .val .null, .val (.ref w1), .val v_11]) rfl ?_
  refine t_aN X3 u d20_15 rfl rfl ?_
  refine pt_cV [] [] 0 X3 u hZ hown (wd hw 133 rfl) (m_11 hw) e3 r0 (rm_a16_0 l Z a0 hw [] G GG x1 (0 : Int32) h0 O0 r3 (by decide)) rfl d20_16 rfl rfl (by decide) N3_ ?_
  intro T4 L4 X4 e4 N4_
  refine t_ifN X4 u d20_19 ((if0 _ _).trans (feq (by decide : ¬ ((1 : Int32) = (0 : Int32)))).1) ?_
  refine t_aN X4 u d20_22 rfl rfl ?_
  refine t_iC X4 u d20_23  ?_
  refine t_pN X4 u hZ hown (wd hw 56 rfl) e4 r5 r4 (Or.inr ⟨(wd hw 31 rfl), rfl, hnm⟩) (wd hw 29 rfl) v_0 pf_B rfl rfl d20_24 ?_
  intro T5 h5 X5 e5 W5
  have N5_ := Fr.snoc X5 N4_ r6
  have O5_ := extWr O0 W5 r6
  have K5 := Keep.wr (Keep.refl h0 [x0]) W5 k0
  have F5 := Fld.same W5 r5
  refine t_aN X5 u d20_27 rfl rfl ?_
  refine t_aN X5 u d20_28 rfl rfl ?_
  refine t_iC X5 u d20_29  ?_
  refine t_iL X5 u d20_30 rfl ?_
  refine t_cS [(.ref w1), v_0, v_11] [(.ref x0)] 1 X5 u hZ hown (wd hw 134 rfl) (m_20 hw) e5 (rm_a24_3 l Z a0 hw [] G GG w1 kk2 w3 w4 w5 w6 h5 O5_ (r7.other W5 r8)) rfl d20_32 rfl rfl (by decide) ?_
  intro v6 T6 L6 Lc6 X6 hQ6 l6
  obtain ⟨b2q2q6, k2q2q6, rfl, Nq6, Kq6, p6_0, p6_1, p6_2⟩ := hQ6
  have O6_ := extKeep O5_ Kq6 all0
  have K6 := Keep.trans K5 Kq6 all0
  have N6_ := frA l6 N5_ Nq6
  have g_b2q2q6 := Nat.le_trans O5_.1 p6_0
  have sz_b2q2q6 := Nat.le_trans K5.1 p6_0
  refine t_pF X6 u hZ hown (wd hw 49 rfl) rfl ((fR W5 r9 (sn_12 hw)).keep Kq6 nin0) ((Exa.wr W5 r4).keep Kq6) (Or.inr ⟨(wd hw 30 rfl), rfl, hnm⟩) (wd hw 29 rfl) pf_AB rfl rfl d20_35 ?_
  intro T7 h7 X7 e7 W7
  have N7_ := Fr.snoc X7 N6_ r6
  have O7_ := extWr O6_ W7 r6
  have K7 := Keep.wr K6 W7 k0
  have F7 := Fld.same W7 ((fR W5 r9 (sn_12 hw)).keep Kq6 nin0)
  refine t_go 38 97 X7 u rfl d20_38 (by decide) ?_
  have f8 := (p6_2.other W7 (Ne.symm (neL (Exa.wr W5 r4).lt p6_0)))
  exact Go.retV X7 hx hret hlk (hb hby d20_97) (by decide) (by decide) (by show Q_a20_3 ..; rw [e7]; exact ⟨b2q2q6, k2q2q6, rfl, N7_, K7, (fS W7 (F5.keep Kq6 nin0) (sn_12 hw)), F7, sz_b2q2q6, (Exa.wr W7 p6_1), f8⟩)
def Q_a19_3 (Z : State) (x0 : Addr) (w3 w4 w5 w6 : Int32) (h0 : Heap) (v : Option Value) (h : Heap) (L : List Loc) : Prop := ∃ (b2q2q6q1 : Addr) (k2q2q6q1 : ClassId), v = none ∧ Fr Z.heap.size L ∧ Keep h0 h [x0] ∧ fl_4 Z h x0 v_0 ∧ fl_5 Z h x0 (.ref b2q2q6q1) ∧ h0.size ≤ b2q2q6q1 ∧ ex_0 Z h b2q2q6q1 ∧ Arv Z h b2q2q6q1 k2q2q6q1 .byte (11 : Int32) [v_115, v_116, v_97, v_116, v_117, v_115, v_32, (.int w3), (.int w4), (.int w5), (.int w6)] v_0
theorem rm_a19_3 (x0 x1 w1 : Addr) (kk2 : ClassId) (w3 w4 w5 w6 : Int32) (h0 : Heap) (O0 : Ext Z.heap h0) (r0 : ex_3 Z h0 x1) (r1 : fl_6 Z h0 x1 (.ref w1)) (r2 : fl_8 Z h0 x1 v_11) (r3 : fl_7 Z h0 x1 v_0) (r4 : ex_2 Z h0 x0) (r5 : fl_4 Z h0 x0 v_0) (r6 : Z.heap.size ≤ x0) (r7 : Arv Z h0 w1 kk2 .byte (16 : Int32) [v_115, v_116, v_97, v_116, v_117, v_115, v_32, (.int w3), (.int w4), (.int w5), (.int w6)] v_0) (r8 : w1 ≠ x0) (r9 : fl_5 Z h0 x0 .null) :
    MF hw GG l y_19 jdk_42_method_53_code 2 none ws ⟨4, 1, 11, 65⟩ h0 #[(.ref x0), (.ref x1)] (Q_a19_3 Z x0 w3 w4 w5 w6 h0) := by
  refine own_mF #[.val (.ref x0), .val (.ref x1)] (plainFor_of_name pn_19) (fun _ => rfl) ?_
  intro p e s m below meth c s₁ u hlk hret hZ hown hnm X0 e0 N0
  obtain ⟨hx, hby, hml⟩ := id u
  refine t_aN X0 u d19_0 rfl rfl ?_
  refine t_aN X0 u d19_1 rfl rfl ?_
  refine t_nl X0 u d19_2  ?_
  refine t_cN [(.ref x1), .null] [] 0 X0 u hZ hown rfl (wd hw 116 rfl) (m_21 hw) e0 (rm_a20_3 l Z a0 hw [] G GG x0 x1 w1 kk2 w3 w4 w5 w6 h0 O0 r0 r1 r2 r3 r4 r5 r6 r7 r8 r9) rfl d19_3 rfl rfl (by decide) ?_
  intro v1 T1 L1 Lc1 X1 hQ1 l1
  obtain ⟨b2q2q6q1, k2q2q6q1, rfl, Nq1, Kq1, p1_0, p1_1, p1_2, p1_3, p1_4⟩ := hQ1
  have O1_ := extKeep O0 Kq1 (allS r6 all0)
  have K1 := Keep.trans (Keep.refl h0 [x0]) Kq1 (allS k0 all0)
  have N1_ := frA l1 N0 Nq1
  have g_b2q2q6q1 := Nat.le_trans O0.1 p1_2
  have sz_b2q2q6q1 := Nat.le_trans (Keep.refl h0 [x0]).1 p1_2
  exact Go.retV X1 hx hret hlk (hb hby d19_6) (by decide) (by decide) ⟨b2q2q6q1, k2q2q6q1, rfl, N1_, K1, p1_0, p1_1, sz_b2q2q6q1, p1_3, p1_4⟩
def Q_a18_3 (Z : State) (w3 w4 w5 w6 : Int32) (h0 : Heap) (v : Option Value) (h : Heap) (L : List Loc) : Prop := ∃ (b1 : Addr) (b2q2q6q1q2 : Addr) (k2q2q6q1q2 : ClassId), v = some (.ref b1) ∧ Fr Z.heap.size L ∧ Keep h0 h [] ∧ h0.size ≤ b1 ∧ ex_2 Z h b1 ∧ fl_4 Z h b1 v_0 ∧ fl_5 Z h b1 (.ref b2q2q6q1q2) ∧ h0.size ≤ b2q2q6q1q2 ∧ ex_0 Z h b2q2q6q1q2 ∧ Arv Z h b2q2q6q1q2 k2q2q6q1q2 .byte (11 : Int32) [v_115, v_116, v_97, v_116, v_117, v_115, v_32, (.int w3), (.int w4), (.int w5), (.int w6)] v_0 ∧ b1 ≠ b2q2q6q1q2
theorem rm_a18_3 (x0 w1 : Addr) (kk2 : ClassId) (w3 w4 w5 w6 : Int32) (h0 : Heap) (O0 : Ext Z.heap h0) (r0 : ex_3 Z h0 x0) (r1 : fl_6 Z h0 x0 (.ref w1)) (r2 : fl_8 Z h0 x0 v_11) (r3 : fl_7 Z h0 x0 v_0) (r4 : Arv Z h0 w1 kk2 .byte (16 : Int32) [v_115, v_116, v_97, v_116, v_117, v_115, v_32, (.int w3), (.int w4), (.int w5), (.int w6)] v_0) :
    MF hw GG l y_18 jdk_67_method_42_code 1 (some (.object "java/lang/String")) ws ⟨5, 2, 15, 79⟩ h0 #[(.ref x0)] (Q_a18_3 Z w3 w4 w5 w6 h0) := by
  refine own_mF #[.val (.ref x0)] (plainFor_of_name pn_18) (fun _ => rfl) ?_
  intro p e s m below meth c s₁ u hlk hret hZ hown hnm X0 e0 N0
  obtain ⟨hx, hby, hml⟩ := id u
  refine t_new X0 u hZ hown (wd hw 111 rfl) (wd hw 29 rfl) (wd hw 22 rfl) e0 d18_0 (by decide) ?_
  intro T1 h1 b1 X1 e1 E1 hb1 A1 D1
  have g_b1 := leE O0.1 hb1
  have O1_ := extTr O0 E1
  have sz_b1 := leE (Keep.refl h0 []).1 hb1
  have K1 := Keep.ext (Keep.refl h0 []) E1
  have F1_value : fl_5 Z h1 b1 .null := D1 (Or.inr (wd hw 30 rfl)) (ty := (.array .byte)) pf_AB
  have F1_coder : fl_4 Z h1 b1 v_0 := D1 (Or.inr (wd hw 31 rfl)) (ty := .byte) pf_B
  refine t_dup X1 u d18_3 rfl ?_
  refine t_aN X1 u d18_4 rfl rfl ?_
  refine t_cN [(.ref x0)] [(.ref b1)] 1 X1 u hZ hown rfl (wd hw 112 rfl) (m_22 hw) e1 (rm_a19_3 l Z a0 hw [] G GG b1 x0 w1 kk2 w3 w4 w5 w6 h1 O1_ (Exa.ext E1 r0) (Fld.ext E1 r1) (Fld.ext E1 r2) (Fld.ext E1 r3) A1 F1_coder g_b1 (r4.ext E1) (neE r4.lt hb1) F1_value) rfl d18_5 rfl rfl (by decide) ?_
  intro v2 T2 L2 Lc2 X2 hQ2 l2
  obtain ⟨b2q2q6q1q2, k2q2q6q1q2, rfl, Nq2, Kq2, p2_0, p2_1, p2_2, p2_3, p2_4⟩ := hQ2
  have O2_ := extKeep O1_ Kq2 (allS g_b1 all0)
  have K2 := Keep.trans K1 Kq2 (allS (Or.inr sz_b1) all0)
  have N2_ := frA l2 N0 Nq2
  have g_b2q2q6q1q2 := Nat.le_trans O1_.1 p2_2
  have sz_b2q2q6q1q2 := Nat.le_trans K1.1 p2_2
  exact Go.retA X2 hx hret rfl rfl hlk (hb hby d18_8) (by decide) (by decide) ⟨b1, b2q2q6q1q2, k2q2q6q1q2, rfl, N2_, K2, sz_b1, (A1.keep Kq2), p2_0, p2_1, sz_b2q2q6q1q2, p2_3, p2_4, (neL A1.lt p2_2)⟩
def Q_a14_4 (Z : State) (x0 : Addr) (x1 : Int32) (w1 : Addr) (kk2 : ClassId) (h0 : Heap) (v : Option Value) (h : Heap) (L : List Loc) : Prop := v = some (.ref x0) ∧ Fr Z.heap.size L ∧ Keep h0 h [w1, x0] ∧ Arv Z h w1 kk2 .byte (16 : Int32) [v_115, v_116, v_97, v_116, v_117, v_115, v_32, (.int (bq x1 4)), (.int (bq x1 3)), (.int (bq x1 2)), (.int (bq x1 1)), (.int (bq x1 0))] v_0 ∧ fl_8 Z h x0 v_12 ∧ fl_6 Z h x0 (.ref w1) ∧ fl_7 Z h x0 v_0
theorem rm_a14_4 (x0 : Addr) (x1 : Int32) (w1 : Addr) (kk2 : ClassId) (h0 : Heap) (O0 : Ext Z.heap h0) (r0 : fl_8 Z h0 x0 v_7) (r1 : Dg_0_5 x1) (r2 : fl_6 Z h0 x0 (.ref w1)) (r3 : Arv Z h0 w1 kk2 .byte (16 : Int32) [v_115, v_116, v_97, v_116, v_117, v_115, v_32, v_0, v_0, v_0, v_0, v_0, v_0, v_0, v_0, v_0] v_0) (r4 : fl_7 Z h0 x0 v_0) (r5 : ex_3 Z h0 x0) (r6 : Z.heap.size ≤ w1) (r7 : x0 ≠ w1) (r8 : Z.heap.size ≤ x0) :
    MF hw GG l y_14 jdk_68_method_32_code 4 (some (.object "java/lang/AbstractStringBuilder")) ws ⟨1, 0, 0, 18⟩ h0 #[(.ref x0), (.int x1)] (Q_a14_4 Z x0 x1 w1 kk2 h0) := by
  refine own_mF #[.val (.ref x0), .val (.int x1), .unset, .unset] (plainFor_of_name pn_14) (fun _ => rfl) ?_
  intro p e s m below meth c s₁ u hlk hret hZ hown hnm X0 e0 N0
  obtain ⟨hx, hby, hml⟩ := id u
  refine t_aN X0 u d14_0 rfl rfl ?_
  refine t_gF X0 u hZ hown (wd hw 57 rfl) e0 r0 d14_1 ?_
  intro T1 X1 e1
  refine t_isN X1 u d14_4 (l' := #[.val (.ref x0), .val (.int x1), .val v_7, .unset]) rfl ?_
  refine t_iN X1 u d14_5 rfl ?_
  refine t_iN X1 u d14_6 rfl ?_
  refine pt_cS [(.int x1)] [v_7] 1 X1 u hZ hown (wd hw 93 rfl) (m_10 hw) e1 (rm_ss_0_5 l Z a0 hw [] G GG x1 h0 O0 r1) rfl d14_7 rfl rfl (by decide) N0 ?_
  intro T2 L2 X2 e2 N2_
  refine t_iadd X2 u d14_10  ?_
  refine t_isN X2 u d14_11 (l' := #[.val (.ref x0), .val (.int x1), .val v_7, .val v_12]) rfl ?_
  refine t_aN X2 u d14_12 rfl rfl ?_
  refine t_iN X2 u d14_13 rfl ?_
  refine pt_cP [v_12] [] 0 X2 u hZ hown r5 (wd hw 59 rfl) (m_4 hw) e2 (rm_a9_0 l Z a0 hw [] G GG x0 (12 : Int32) w1 kk2 (115 : Int32) (116 : Int32) (97 : Int32) (116 : Int32) (117 : Int32) (115 : Int32) (32 : Int32) (0 : Int32) (0 : Int32) (0 : Int32) (0 : Int32) (0 : Int32) (0 : Int32) (0 : Int32) (0 : Int32) (0 : Int32) (0 : Int32) h0 O0 r2 r3 r4 (by decide)) rfl d14_14 rfl rfl (by decide) N2_ ?_
  intro T3 L3 X3 e3 N3_
  refine t_aN X3 u d14_17 rfl rfl ?_
  refine pt_cV [] [] 0 X3 u hZ hown (wd hw 97 rfl) (m_11 hw) e3 r5 (rm_a16_0 l Z a0 hw [] G GG x0 (0 : Int32) h0 O0 r4 (by decide)) rfl d14_18 rfl rfl (by decide) N3_ ?_
  intro T4 L4 X4 e4 N4_
  refine t_ifN X4 u d14_21 ((if0 _ _).trans (feq (by decide : ¬ ((1 : Int32) = (0 : Int32)))).1) ?_
  refine t_iN X4 u d14_24 rfl ?_
  refine t_iN X4 u d14_25 rfl ?_
  refine t_aN X4 u d14_26 rfl rfl ?_
  refine t_gF X4 u hZ hown (wd hw 24 rfl) e4 r2 d14_27 ?_
  intro T5 X5 e5
  refine t_cS [(.int x1), v_12, (.ref w1)] [] 0 X5 u hZ hown (wd hw 102 rfl) (m_12 hw) e5 (rm_gc_0_5 l Z a0 hw [] G GG x1 w1 kk2 h0 O0 r1 r6 (Arv.pad r3 (own_tr [v_115, v_116, v_97, v_116, v_117, v_115, v_32, v_0, v_0, v_0, v_0, v_0] 4 _))) rfl d14_30 rfl rfl (by decide) ?_
  intro v6 T6 L6 Lc6 X6 hQ6 l6
  obtain ⟨rfl, Nq6, Kq6, pV6⟩ := hQ6
  have O6_ := extKeep O0 Kq6 (allS r6 all0)
  have K6 := Keep.trans (Keep.refl h0 [w1, x0]) Kq6 (allS k0 all0)
  have N6_ := frA l6 N4_ Nq6
  refine t_pop X6 u d14_33 rfl ?_
  refine t_go 34 48 X6 u rfl d14_34 (by decide) ?_
  refine t_aN X6 u d14_48 rfl rfl ?_
  refine t_iN X6 u d14_49 rfl ?_
  refine t_pF X6 u hZ hown (wd hw 57 rfl) rfl (r0.keep Kq6 (ninS r7 nin0)) (r5.keep Kq6) (Or.inl (wd hw 58 rfl)) (wd hw 7 rfl) pf_I rfl rfl d14_50 ?_
  intro T7 h7 X7 e7 W7
  have N7_ := Fr.snoc X7 N6_ r8
  have O7_ := extWr O6_ W7 r8
  have K7 := Keep.wr K6 W7 k1
  have F7 := Fld.same W7 (r0.keep Kq6 (ninS r7 nin0))
  refine t_aN X7 u d14_53 rfl rfl ?_
  have f8 := (fS W7 (r2.keep Kq6 (ninS r7 nin0)) (sn_10 hw))
  have f9 := (fS W7 (r4.keep Kq6 (ninS r7 nin0)) (sn_11 hw))
  exact Go.retA X7 hx hret rfl rfl hlk (hb hby d14_54) (by decide) (by decide) (by show Q_a14_4 ..; rw [e7]; exact ⟨rfl, N7_, K7, (pV6.other W7 (Ne.symm r7)), F7, f8, f9⟩)
def Q_a13_4 (Z : State) (x0 : Addr) (x1 : Int32) (w1 : Addr) (kk2 : ClassId) (h0 : Heap) (v : Option Value) (h : Heap) (L : List Loc) : Prop := v = some (.ref x0) ∧ Fr Z.heap.size L ∧ Keep h0 h [x0, w1] ∧ Arv Z h w1 kk2 .byte (16 : Int32) [v_115, v_116, v_97, v_116, v_117, v_115, v_32, (.int (bq x1 4)), (.int (bq x1 3)), (.int (bq x1 2)), (.int (bq x1 1)), (.int (bq x1 0))] v_0 ∧ fl_8 Z h x0 v_12 ∧ fl_6 Z h x0 (.ref w1) ∧ fl_7 Z h x0 v_0
theorem rm_a13_4 (x0 : Addr) (x1 : Int32) (w1 : Addr) (kk2 : ClassId) (h0 : Heap) (O0 : Ext Z.heap h0) (r0 : fl_8 Z h0 x0 v_7) (r1 : Dg_0_5 x1) (r2 : fl_6 Z h0 x0 (.ref w1)) (r3 : Arv Z h0 w1 kk2 .byte (16 : Int32) [v_115, v_116, v_97, v_116, v_117, v_115, v_32, v_0, v_0, v_0, v_0, v_0, v_0, v_0, v_0, v_0] v_0) (r4 : fl_7 Z h0 x0 v_0) (r5 : ex_3 Z h0 x0) (r6 : Z.heap.size ≤ w1) (r7 : x0 ≠ w1) (r8 : Z.heap.size ≤ x0) :
    MF hw GG l y_13 jdk_67_method_15_code 2 (some (.object "java/lang/StringBuilder")) ws ⟨2, 0, 0, 33⟩ h0 #[(.ref x0), (.int x1)] (Q_a13_4 Z x0 x1 w1 kk2 h0) := by
  refine own_mF #[.val (.ref x0), .val (.int x1)] (plainFor_of_name pn_13) (fun _ => rfl) ?_
  intro p e s m below meth c s₁ u hlk hret hZ hown hnm X0 e0 N0
  obtain ⟨hx, hby, hml⟩ := id u
  refine t_aN X0 u d13_0 rfl rfl ?_
  refine t_iN X0 u d13_1 rfl ?_
  refine t_cX [(.int x1)] [] 0 X0 u hZ hown (by decide) r5 (wd hw 89 rfl) (m_13 hw) e0 (rm_a14_4 l Z a0 hw [] G GG x0 x1 w1 kk2 h0 O0 r0 r1 r2 r3 r4 r5 r6 r7 r8) rfl d13_2 rfl rfl (by decide) ?_
  intro v1 T1 L1 Lc1 X1 hQ1 l1
  obtain ⟨rfl, Nq1, Kq1, p1_0, p1_1, p1_2, p1_3⟩ := hQ1
  have O1_ := extKeep O0 Kq1 (allS r6 (allS r8 all0))
  have K1 := Keep.trans (Keep.refl h0 [x0, w1]) Kq1 (allS k1 (allS k0 all0))
  have N1_ := frA l1 N0 Nq1
  refine t_pop X1 u d13_5 rfl ?_
  refine t_aN X1 u d13_6 rfl rfl ?_
  exact Go.retA X1 hx hret rfl rfl hlk (hb hby d13_7) (by decide) (by decide) ⟨rfl, N1_, K1, p1_0, p1_1, p1_2, p1_3⟩
def Q_a25_4 (Z : State) (w2 w3 w4 w5 w6 : Int32) (h0 : Heap) (v : Option Value) (h : Heap) (L : List Loc) : Prop := ∃ (b2 : Addr) (k2 : ClassId), v = some (.ref b2) ∧ Fr Z.heap.size L ∧ Keep h0 h [] ∧ h0.size ≤ b2 ∧ ex_0 Z h b2 ∧ Arv Z h b2 k2 .byte (12 : Int32) [v_115, v_116, v_97, v_116, v_117, v_115, v_32, (.int w2), (.int w3), (.int w4), (.int w5), (.int w6)] v_0
theorem rm_a25_4 (x0 : Addr) (kk1 : ClassId) (w2 w3 w4 w5 w6 : Int32) (h0 : Heap) (O0 : Ext Z.heap h0) (r0 : Arv Z h0 x0 kk1 .byte (16 : Int32) [v_115, v_116, v_97, v_116, v_117, v_115, v_32, (.int w2), (.int w3), (.int w4), (.int w5), (.int w6)] v_0) :
    MF hw GG l y_25 jdk_65_method_133_code 5 (some (.array .byte)) ws ⟨1, 1, 12, 18⟩ h0 #[(.ref x0), v_0, v_12] (Q_a25_4 Z w2 w3 w4 w5 w6 h0) := by
  refine own_mF #[.val (.ref x0), .val v_0, .val v_12, .unset, .unset] (plainFor_of_name pn_25) (fun _ => rfl) ?_
  intro p e s m below meth c s₁ u hlk hret hZ hown hnm X0 e0 N0
  obtain ⟨hx, hby, hml⟩ := id u
  refine t_iN X0 u d25_0 rfl ?_
  refine t_iN X0 u d25_1 rfl ?_
  refine pt_cS [v_0, v_12] [] 0 X0 u hZ hown (wd hw 141 rfl) (m_17 hw) e0 (rm_a26_0 l Z a0 hw [] G GG (0 : Int32) (12 : Int32) h0 O0 (by decide)) rfl d25_2 rfl rfl (by decide) N0 ?_
  intro T1 L1 X1 e1 N1_
  refine t_iN X1 u d25_5 rfl ?_
  refine t_iN X1 u d25_6 rfl ?_
  refine t_isub X1 u d25_7  ?_
  refine t_isN X1 u d25_8 (l' := #[.val (.ref x0), .val v_0, .val v_12, .val v_12, .unset]) rfl ?_
  refine t_iN X1 u d25_9 rfl ?_
  refine t_nB 12 X1 u hZ (wd hw 23 rfl) e1 d25_10 (by decide) ?_
  intro T2 h2 b2 k2 X2 e2 E2 hb2 V2 B2
  have g_b2 := leE O0.1 hb2
  have O2_ := extTr O0 E2
  have sz_b2 := leE (Keep.refl h0 []).1 hb2
  have K2 := Keep.ext (Keep.refl h0 []) E2
  refine t_asL X2 u d25_12 rfl (l' := #[.val (.ref x0), .val v_0, .val v_12, .val v_12, .val (.ref b2)]) rfl ?_
  refine t_aN X2 u d25_14 rfl rfl ?_
  refine t_iN X2 u d25_15 rfl ?_
  refine t_aL X2 u d25_16 rfl rfl ?_
  refine t_iC X2 u d25_18  ?_
  refine t_aN X2 u d25_19 rfl rfl ?_
  obtain ⟨cl3, Ar3, -, S3, N3, -, -⟩ := id (r0.ext E2)
  refine Go.step (X2.arraylength hx (by rw [e2]; exact Ar3.1) (State.isArrayOf_alike hZ.alike Ar3.2.1) (g := (mkF m 20 #[.val (.ref x0), .val v_0, .val v_12, .val v_12, .val (.ref b2)] [(.ref x0), v_0, (.ref b2), v_0, (.ref x0)])) rfl rfl (hb hby d25_20)) ?_
  rw [len_of S3 N3]
  show Go _ _ _ _ _ _ _ _ T2 (mkF m 21 #[.val (.ref x0), .val v_0, .val v_12, .val v_12, .val (.ref b2)] [v_16, v_0, (.ref b2), v_0, (.ref x0)])
  refine t_iN X2 u d25_21 rfl ?_
  refine t_isub X2 u d25_22  ?_
  refine t_iN X2 u d25_23 rfl ?_
  refine pt_cS [v_16, v_12] [v_0, (.ref b2), v_0, (.ref x0)] 4 X2 u hZ hown (wd hw 144 rfl) (m_18 hw) e2 (rm_a27_0 l Z a0 hw [] G GG (16 : Int32) (12 : Int32) h2 O2_ (by decide)) rfl d25_24 rfl rfl (by decide) N1_ ?_
  intro T4 L4 X4 e4 N4_
  obtain ⟨T5, h5, L5, X5, e5, N5_, K5_, V5_, st5⟩ := cpA X4 hx hZ hown (wd hw 148 rfl) (wd hw 83 rfl) (wd hw 81 rfl) (wd hw 82 rfl) e4 (us := [v_115, v_116, v_97, v_116, v_117, v_115, v_32, (.int w2), (.int w3), (.int w4), (.int w5), (.int w6)]) (r0.ext E2) V2 (Or.inl ⟨rfl, rfl⟩) (by decide) (by decide) (by decide) (by decide) (by decide) rfl (by decide) N4_ g_b2 (g := (mkF m 27 #[.val (.ref x0), .val v_0, .val v_12, .val v_12, .val (.ref b2)] [v_12, v_0, (.ref b2), v_0, (.ref x0)])) rfl (by rw [hml]; rfl) rfl (hb hby d25_27) (by decide) (W := 0) (by show 2 * 0 + _ ≤ _; exact Nat.le_of_eq rfl) (by decide)
  refine Go.step st5 ?_
  have V5 : Arv Z h5 b2 k2 .byte (12 : Int32) [v_115, v_116, v_97, v_116, v_117, v_115, v_32, (.int w2), (.int w3), (.int w4), (.int w5), (.int w6)] v_0 := V5_
  have O5_ : Ext Z.heap h5 := extKeep O2_ K5_ (allS g_b2 all0)
  have K5 := Keep.trans K2 K5_ (allS (Or.inr sz_b2) all0)
  refine t_aL X5 u d25_30 rfl rfl ?_
  exact Go.retA X5 hx hret rfl rfl hlk (hb hby d25_32) (by decide) (by decide) (by show Q_a25_4 ..; rw [e5]; exact ⟨b2, k2, rfl, N5_, K5, sz_b2, (B2.keep K5_), V5⟩)
def Q_a24_4 (Z : State) (w2 w3 w4 w5 w6 : Int32) (h0 : Heap) (v : Option Value) (h : Heap) (L : List Loc) : Prop := ∃ (b2q2 : Addr) (k2q2 : ClassId), v = some (.ref b2q2) ∧ Fr Z.heap.size L ∧ Keep h0 h [] ∧ h0.size ≤ b2q2 ∧ ex_0 Z h b2q2 ∧ Arv Z h b2q2 k2q2 .byte (12 : Int32) [v_115, v_116, v_97, v_116, v_117, v_115, v_32, (.int w2), (.int w3), (.int w4), (.int w5), (.int w6)] v_0
theorem rm_a24_4 (x0 : Addr) (kk1 : ClassId) (w2 w3 w4 w5 w6 : Int32) (h0 : Heap) (O0 : Ext Z.heap h0) (r0 : Arv Z h0 x0 kk1 .byte (16 : Int32) [v_115, v_116, v_97, v_116, v_117, v_115, v_32, (.int w2), (.int w3), (.int w4), (.int w5), (.int w6)] v_0) :
    MF hw GG l y_24 jdk_65_method_132_code 3 (some (.array .byte)) ws ⟨2, 1, 12, 34⟩ h0 #[(.ref x0), v_0, v_12] (Q_a24_4 Z w2 w3 w4 w5 w6 h0) := by
  refine own_mF #[.val (.ref x0), .val v_0, .val v_12] (plainFor_of_name pn_24) (fun _ => rfl) ?_
  intro p e s m below meth c s₁ u hlk hret hZ hown hnm X0 e0 N0
  obtain ⟨hx, hby, hml⟩ := id u
  refine t_iN X0 u d24_0 rfl ?_
  refine t_ifN X0 u d24_1 ((if0 _ _).trans (teq (by decide : (0 : Int32) = (0 : Int32))).2) ?_
  refine t_iN X0 u d24_4 rfl ?_
  refine t_aN X0 u d24_5 rfl rfl ?_
  obtain ⟨cl1, Ar1, -, S1, N1, -, -⟩ := id r0
  refine Go.step (X0.arraylength hx (by rw [e0]; exact Ar1.1) (State.isArrayOf_alike hZ.alike Ar1.2.1) (g := (mkF m 6 #[.val (.ref x0), .val v_0, .val v_12] [(.ref x0), v_12])) rfl rfl (hb hby d24_6)) ?_
  rw [len_of S1 N1]
  show Go _ _ _ _ _ _ _ _ s₁ (mkF m 7 #[.val (.ref x0), .val v_0, .val v_12] [v_16, v_12])
  refine t_icN X0 u d24_7 (feq (by decide : ¬ ((12 : Int32) = (16 : Int32)))).1 ?_
  refine t_aN X0 u d24_10 rfl rfl ?_
  refine t_iN X0 u d24_11 rfl ?_
  refine t_iN X0 u d24_12 rfl ?_
  refine t_cS [(.ref x0), v_0, v_12] [] 0 X0 u hZ hown (wd hw 138 rfl) (m_19 hw) e0 (rm_a25_4 l Z a0 hw [] G GG x0 kk1 w2 w3 w4 w5 w6 h0 O0 r0) rfl d24_13 rfl rfl (by decide) ?_
  intro v2 T2 L2 Lc2 X2 hQ2 l2
  obtain ⟨b2q2, k2q2, rfl, Nq2, Kq2, p2_0, p2_1, p2_2⟩ := hQ2
  have O2_ := extKeep O0 Kq2 all0
  have K2 := Keep.trans (Keep.refl h0 []) Kq2 all0
  have N2_ := frA l2 N0 Nq2
  have g_b2q2 := Nat.le_trans O0.1 p2_0
  have sz_b2q2 := Nat.le_trans (Keep.refl h0 []).1 p2_0
  exact Go.retA X2 hx hret rfl rfl hlk (hb hby d24_16) (by decide) (by decide) ⟨b2q2, k2q2, rfl, N2_, K2, sz_b2q2, p2_1, p2_2⟩
def Q_a20_4 (Z : State) (x0 : Addr) (w3 w4 w5 w6 w7 : Int32) (h0 : Heap) (v : Option Value) (h : Heap) (L : List Loc) : Prop := ∃ (b2q2q6 : Addr) (k2q2q6 : ClassId), v = none ∧ Fr Z.heap.size L ∧ Keep h0 h [x0] ∧ fl_4 Z h x0 v_0 ∧ fl_5 Z h x0 (.ref b2q2q6) ∧ h0.size ≤ b2q2q6 ∧ ex_0 Z h b2q2q6 ∧ Arv Z h b2q2q6 k2q2q6 .byte (12 : Int32) [v_115, v_116, v_97, v_116, v_117, v_115, v_32, (.int w3), (.int w4), (.int w5), (.int w6), (.int w7)] v_0
theorem rm_a20_4 (x0 x1 w1 : Addr) (kk2 : ClassId) (w3 w4 w5 w6 w7 : Int32) (h0 : Heap) (O0 : Ext Z.heap h0) (r0 : ex_3 Z h0 x1) (r1 : fl_6 Z h0 x1 (.ref w1)) (r2 : fl_8 Z h0 x1 v_12) (r3 : fl_7 Z h0 x1 v_0) (r4 : ex_2 Z h0 x0) (r5 : fl_4 Z h0 x0 v_0) (r6 : Z.heap.size ≤ x0) (r7 : Arv Z h0 w1 kk2 .byte (16 : Int32) [v_115, v_116, v_97, v_116, v_117, v_115, v_32, (.int w3), (.int w4), (.int w5), (.int w6), (.int w7)] v_0) (r8 : w1 ≠ x0) (r9 : fl_5 Z h0 x0 .null) :
    MF hw GG l y_20 jdk_42_method_150_code 5 none ws ⟨3, 1, 12, 49⟩ h0 #[(.ref x0), (.ref x1), .null] (Q_a20_4 Z x0 w3 w4 w5 w6 w7 h0) := by
  refine own_mF #[.val (.ref x0), .val (.ref x1), .val .null, .unset, .unset] (plainFor_of_name pn_20) (fun _ => rfl) ?_
  intro p e s m below meth c s₁ u hlk hret hZ hown hnm X0 e0 N0
  obtain ⟨hx, hby, hml⟩ := id u
  refine t_aN X0 u d20_0 rfl rfl ?_
  refine t_in 0 X0 u hZ hown (wd hw 119 rfl) (wd hw 19 rfl) (wd hw 20 rfl) e0 rfl d20_1 rfl (by decide) ?_
  intro T1 X1 e1
  refine t_aN X1 u d20_4 rfl rfl ?_
  refine pt_cV [] [] 0 X1 u hZ hown (wd hw 120 rfl) (m_15 hw) e1 r0 (rm_a21_0 l Z a0 hw [] G GG x1 w1 h0 O0 r1) rfl d20_5 rfl rfl (by decide) N0 ?_
  intro T2 L2 X2 e2 N2_
  refine t_asN X2 u d20_8 rfl (l' := #[.val (.ref x0), .val (.ref x1), .val .null, .val (.ref w1), .unset]) rfl ?_
  refine t_aN X2 u d20_9 rfl rfl ?_
  obtain ⟨cq3, kq3, q3a, q3b, q3c⟩ := isOf hZ e2 r0
  obtain ⟨_, _, ⟨T3, L3, k3, n3⟩, -, X3, ⟨Lc3, hQ3, l3, y3, z3⟩, st3⟩ := X2.virtualBack hx (y := (⟨"java/lang/AbstractStringBuilder", "length", "()I"⟩ : MethodName)) (z := (⟨"java/lang/StringBuilder", "length", "()I"⟩ : MethodName)) hown (mvT hZ (wd hw 125 rfl)) (mvT hZ (wd hw 126 rfl)) (own_nf (mvT hZ (wd hw 62 rfl)) rfl) (mvT hZ (wd hw 128 rfl)) (mvT hZ (wd hw 129 rfl)) (by decide) (backOf (W := 0) (rm_a22_0 l Z a0 hw [] G GG x1 (12 : Int32) h0 O0 r2 r0) hZ (wd hw 130 rfl) (wd hw 8 rfl) (by decide) (by decide)) q3a q3c (g := (mkF m 10 #[.val (.ref x0), .val (.ref x1), .val .null, .val (.ref w1), .unset] [(.ref x1)])) rfl (by rw [hml]; rfl) (Steps.refl _) (argsL := []) (rest := []) (lenOf pd_LRI rfl) rfl (by show 2 * 0 + _ ≤ _; exact Nat.le_of_eq rfl) (hb hby d20_10) (fun _ _ => ⟨rfl, e2, (by decide : 0 + 0 ≤ _), (by decide : 0 + 0 ≤ _)⟩)
  dsimp only [Pt.U, Pt.locs, Pt.cells, Pt.slots] at X3 l3 y3 z3 st3 hQ3
  subst y3 z3
  obtain ⟨rfl, Nq3, e3⟩ := hQ3
  have N3_ := frA l3 N2_ Nq3
  refine Go.trans st3 ?_
  refine t_isL X3 u d20_13 (l' := #[.val (.ref x0), .val (.ref x1), .val .null, .val (.ref w1), .val v_12]) rfl ?_
  refine t_aN X3 u d20_15 rfl rfl ?_
  refine pt_cV [] [] 0 X3 u hZ hown (wd hw 133 rfl) (m_11 hw) e3 r0 (rm_a16_0 l Z a0 hw [] G GG x1 (0 : Int32) h0 O0 r3 (by decide)) rfl d20_16 rfl rfl (by decide) N3_ ?_
  intro T4 L4 X4 e4 N4_
  refine t_ifN X4 u d20_19 ((if0 _ _).trans (feq (by decide : ¬ ((1 : Int32) = (0 : Int32)))).1) ?_
  refine t_aN X4 u d20_22 rfl rfl ?_
  refine t_iC X4 u d20_23  ?_
  refine t_pN X4 u hZ hown (wd hw 56 rfl) e4 r5 r4 (Or.inr ⟨(wd hw 31 rfl), rfl, hnm⟩) (wd hw 29 rfl) v_0 pf_B rfl rfl d20_24 ?_
  intro T5 h5 X5 e5 W5
  have N5_ := Fr.snoc X5 N4_ r6
  have O5_ := extWr O0 W5 r6
  have K5 := Keep.wr (Keep.refl h0 [x0]) W5 k0
  have F5 := Fld.same W5 r5
  refine t_aN X5 u d20_27 rfl rfl ?_
  refine t_aN X5 u d20_28 rfl rfl ?_
  refine t_iC X5 u d20_29  ?_
  refine t_iL X5 u d20_30 rfl ?_
  refine t_cS [(.ref w1), v_0, v_12] [(.ref x0)] 1 X5 u hZ hown (wd hw 134 rfl) (m_20 hw) e5 (rm_a24_4 l Z a0 hw [] G GG w1 kk2 w3 w4 w5 w6 w7 h5 O5_ (r7.other W5 r8)) rfl d20_32 rfl rfl (by decide) ?_
  intro v6 T6 L6 Lc6 X6 hQ6 l6
  obtain ⟨b2q2q6, k2q2q6, rfl, Nq6, Kq6, p6_0, p6_1, p6_2⟩ := hQ6
  have O6_ := extKeep O5_ Kq6 all0
  have K6 := Keep.trans K5 Kq6 all0
  have N6_ := frA l6 N5_ Nq6
  have g_b2q2q6 := Nat.le_trans O5_.1 p6_0
  have sz_b2q2q6 := Nat.le_trans K5.1 p6_0
  refine t_pF X6 u hZ hown (wd hw 49 rfl) rfl ((fR W5 r9 (sn_12 hw)).keep Kq6 nin0) ((Exa.wr W5 r4).keep Kq6) (Or.inr ⟨(wd hw 30 rfl), rfl, hnm⟩) (wd hw 29 rfl) pf_AB rfl rfl d20_35 ?_
  intro T7 h7 X7 e7 W7
  have N7_ := Fr.snoc X7 N6_ r6
  have O7_ := extWr O6_ W7 r6
  have K7 := Keep.wr K6 W7 k0
  have F7 := Fld.same W7 ((fR W5 r9 (sn_12 hw)).keep Kq6 nin0)
  refine t_go 38 97 X7 u rfl d20_38 (by decide) ?_
  have f8 := (p6_2.other W7 (Ne.symm (neL (Exa.wr W5 r4).lt p6_0)))
  exact Go.retV X7 hx hret hlk (hb hby d20_97) (by decide) (by decide) (by show Q_a20_4 ..; rw [e7]; exact ⟨b2q2q6, k2q2q6, rfl, N7_, K7, (fS W7 (F5.keep Kq6 nin0) (sn_12 hw)), F7, sz_b2q2q6, (Exa.wr W7 p6_1), f8⟩)
def Q_a19_4 (Z : State) (x0 : Addr) (w3 w4 w5 w6 w7 : Int32) (h0 : Heap) (v : Option Value) (h : Heap) (L : List Loc) : Prop := ∃ (b2q2q6q1 : Addr) (k2q2q6q1 : ClassId), v = none ∧ Fr Z.heap.size L ∧ Keep h0 h [x0] ∧ fl_4 Z h x0 v_0 ∧ fl_5 Z h x0 (.ref b2q2q6q1) ∧ h0.size ≤ b2q2q6q1 ∧ ex_0 Z h b2q2q6q1 ∧ Arv Z h b2q2q6q1 k2q2q6q1 .byte (12 : Int32) [v_115, v_116, v_97, v_116, v_117, v_115, v_32, (.int w3), (.int w4), (.int w5), (.int w6), (.int w7)] v_0
theorem rm_a19_4 (x0 x1 w1 : Addr) (kk2 : ClassId) (w3 w4 w5 w6 w7 : Int32) (h0 : Heap) (O0 : Ext Z.heap h0) (r0 : ex_3 Z h0 x1) (r1 : fl_6 Z h0 x1 (.ref w1)) (r2 : fl_8 Z h0 x1 v_12) (r3 : fl_7 Z h0 x1 v_0) (r4 : ex_2 Z h0 x0) (r5 : fl_4 Z h0 x0 v_0) (r6 : Z.heap.size ≤ x0) (r7 : Arv Z h0 w1 kk2 .byte (16 : Int32) [v_115, v_116, v_97, v_116, v_117, v_115, v_32, (.int w3), (.int w4), (.int w5), (.int w6), (.int w7)] v_0) (r8 : w1 ≠ x0) (r9 : fl_5 Z h0 x0 .null) :
    MF hw GG l y_19 jdk_42_method_53_code 2 none ws ⟨4, 1, 12, 65⟩ h0 #[(.ref x0), (.ref x1)] (Q_a19_4 Z x0 w3 w4 w5 w6 w7 h0) := by
  refine own_mF #[.val (.ref x0), .val (.ref x1)] (plainFor_of_name pn_19) (fun _ => rfl) ?_
  intro p e s m below meth c s₁ u hlk hret hZ hown hnm X0 e0 N0
  obtain ⟨hx, hby, hml⟩ := id u
  refine t_aN X0 u d19_0 rfl rfl ?_
  refine t_aN X0 u d19_1 rfl rfl ?_
  refine t_nl X0 u d19_2  ?_
  refine t_cN [(.ref x1), .null] [] 0 X0 u hZ hown rfl (wd hw 116 rfl) (m_21 hw) e0 (rm_a20_4 l Z a0 hw [] G GG x0 x1 w1 kk2 w3 w4 w5 w6 w7 h0 O0 r0 r1 r2 r3 r4 r5 r6 r7 r8 r9) rfl d19_3 rfl rfl (by decide) ?_
  intro v1 T1 L1 Lc1 X1 hQ1 l1
  obtain ⟨b2q2q6q1, k2q2q6q1, rfl, Nq1, Kq1, p1_0, p1_1, p1_2, p1_3, p1_4⟩ := hQ1
  have O1_ := extKeep O0 Kq1 (allS r6 all0)
  have K1 := Keep.trans (Keep.refl h0 [x0]) Kq1 (allS k0 all0)
  have N1_ := frA l1 N0 Nq1
  have g_b2q2q6q1 := Nat.le_trans O0.1 p1_2
  have sz_b2q2q6q1 := Nat.le_trans (Keep.refl h0 [x0]).1 p1_2
  exact Go.retV X1 hx hret hlk (hb hby d19_6) (by decide) (by decide) ⟨b2q2q6q1, k2q2q6q1, rfl, N1_, K1, p1_0, p1_1, sz_b2q2q6q1, p1_3, p1_4⟩
def Q_a18_4 (Z : State) (w3 w4 w5 w6 w7 : Int32) (h0 : Heap) (v : Option Value) (h : Heap) (L : List Loc) : Prop := ∃ (b1 : Addr) (b2q2q6q1q2 : Addr) (k2q2q6q1q2 : ClassId), v = some (.ref b1) ∧ Fr Z.heap.size L ∧ Keep h0 h [] ∧ h0.size ≤ b1 ∧ ex_2 Z h b1 ∧ fl_4 Z h b1 v_0 ∧ fl_5 Z h b1 (.ref b2q2q6q1q2) ∧ h0.size ≤ b2q2q6q1q2 ∧ ex_0 Z h b2q2q6q1q2 ∧ Arv Z h b2q2q6q1q2 k2q2q6q1q2 .byte (12 : Int32) [v_115, v_116, v_97, v_116, v_117, v_115, v_32, (.int w3), (.int w4), (.int w5), (.int w6), (.int w7)] v_0 ∧ b1 ≠ b2q2q6q1q2
theorem rm_a18_4 (x0 w1 : Addr) (kk2 : ClassId) (w3 w4 w5 w6 w7 : Int32) (h0 : Heap) (O0 : Ext Z.heap h0) (r0 : ex_3 Z h0 x0) (r1 : fl_6 Z h0 x0 (.ref w1)) (r2 : fl_8 Z h0 x0 v_12) (r3 : fl_7 Z h0 x0 v_0) (r4 : Arv Z h0 w1 kk2 .byte (16 : Int32) [v_115, v_116, v_97, v_116, v_117, v_115, v_32, (.int w3), (.int w4), (.int w5), (.int w6), (.int w7)] v_0) :
    MF hw GG l y_18 jdk_67_method_42_code 1 (some (.object "java/lang/String")) ws ⟨5, 2, 16, 79⟩ h0 #[(.ref x0)] (Q_a18_4 Z w3 w4 w5 w6 w7 h0) := by
  refine own_mF #[.val (.ref x0)] (plainFor_of_name pn_18) (fun _ => rfl) ?_
  intro p e s m below meth c s₁ u hlk hret hZ hown hnm X0 e0 N0
  obtain ⟨hx, hby, hml⟩ := id u
  refine t_new X0 u hZ hown (wd hw 111 rfl) (wd hw 29 rfl) (wd hw 22 rfl) e0 d18_0 (by decide) ?_
  intro T1 h1 b1 X1 e1 E1 hb1 A1 D1
  have g_b1 := leE O0.1 hb1
  have O1_ := extTr O0 E1
  have sz_b1 := leE (Keep.refl h0 []).1 hb1
  have K1 := Keep.ext (Keep.refl h0 []) E1
  have F1_value : fl_5 Z h1 b1 .null := D1 (Or.inr (wd hw 30 rfl)) (ty := (.array .byte)) pf_AB
  have F1_coder : fl_4 Z h1 b1 v_0 := D1 (Or.inr (wd hw 31 rfl)) (ty := .byte) pf_B
  refine t_dup X1 u d18_3 rfl ?_
  refine t_aN X1 u d18_4 rfl rfl ?_
  refine t_cN [(.ref x0)] [(.ref b1)] 1 X1 u hZ hown rfl (wd hw 112 rfl) (m_22 hw) e1 (rm_a19_4 l Z a0 hw [] G GG b1 x0 w1 kk2 w3 w4 w5 w6 w7 h1 O1_ (Exa.ext E1 r0) (Fld.ext E1 r1) (Fld.ext E1 r2) (Fld.ext E1 r3) A1 F1_coder g_b1 (r4.ext E1) (neE r4.lt hb1) F1_value) rfl d18_5 rfl rfl (by decide) ?_
  intro v2 T2 L2 Lc2 X2 hQ2 l2
  obtain ⟨b2q2q6q1q2, k2q2q6q1q2, rfl, Nq2, Kq2, p2_0, p2_1, p2_2, p2_3, p2_4⟩ := hQ2
  have O2_ := extKeep O1_ Kq2 (allS g_b1 all0)
  have K2 := Keep.trans K1 Kq2 (allS (Or.inr sz_b1) all0)
  have N2_ := frA l2 N0 Nq2
  have g_b2q2q6q1q2 := Nat.le_trans O1_.1 p2_2
  have sz_b2q2q6q1q2 := Nat.le_trans K1.1 p2_2
  exact Go.retA X2 hx hret rfl rfl hlk (hb hby d18_8) (by decide) (by decide) ⟨b1, b2q2q6q1q2, k2q2q6q1q2, rfl, N2_, K2, sz_b1, (A1.keep Kq2), p2_0, p2_1, sz_b2q2q6q1q2, p2_3, p2_4, (neL A1.lt p2_2)⟩
def Q_a14_5 (Z : State) (x0 : Addr) (x1 : Int32) (w1 : Addr) (kk2 : ClassId) (h0 : Heap) (v : Option Value) (h : Heap) (L : List Loc) : Prop := v = some (.ref x0) ∧ Fr Z.heap.size L ∧ Keep h0 h [w1, x0] ∧ Arv Z h w1 kk2 .byte (16 : Int32) [v_115, v_116, v_97, v_116, v_117, v_115, v_32, (.int (bq x1 5)), (.int (bq x1 4)), (.int (bq x1 3)), (.int (bq x1 2)), (.int (bq x1 1)), (.int (bq x1 0))] v_0 ∧ fl_8 Z h x0 v_13 ∧ fl_6 Z h x0 (.ref w1) ∧ fl_7 Z h x0 v_0
theorem rm_a14_5 (x0 : Addr) (x1 : Int32) (w1 : Addr) (kk2 : ClassId) (h0 : Heap) (O0 : Ext Z.heap h0) (r0 : fl_8 Z h0 x0 v_7) (r1 : Dg_0_6 x1) (r2 : fl_6 Z h0 x0 (.ref w1)) (r3 : Arv Z h0 w1 kk2 .byte (16 : Int32) [v_115, v_116, v_97, v_116, v_117, v_115, v_32, v_0, v_0, v_0, v_0, v_0, v_0, v_0, v_0, v_0] v_0) (r4 : fl_7 Z h0 x0 v_0) (r5 : ex_3 Z h0 x0) (r6 : Z.heap.size ≤ w1) (r7 : x0 ≠ w1) (r8 : Z.heap.size ≤ x0) :
    MF hw GG l y_14 jdk_68_method_32_code 4 (some (.object "java/lang/AbstractStringBuilder")) ws ⟨1, 0, 0, 18⟩ h0 #[(.ref x0), (.int x1)] (Q_a14_5 Z x0 x1 w1 kk2 h0) := by
  refine own_mF #[.val (.ref x0), .val (.int x1), .unset, .unset] (plainFor_of_name pn_14) (fun _ => rfl) ?_
  intro p e s m below meth c s₁ u hlk hret hZ hown hnm X0 e0 N0
  obtain ⟨hx, hby, hml⟩ := id u
  refine t_aN X0 u d14_0 rfl rfl ?_
  refine t_gF X0 u hZ hown (wd hw 57 rfl) e0 r0 d14_1 ?_
  intro T1 X1 e1
  refine t_isN X1 u d14_4 (l' := #[.val (.ref x0), .val (.int x1), .val v_7, .unset]) rfl ?_
  refine t_iN X1 u d14_5 rfl ?_
  refine t_iN X1 u d14_6 rfl ?_
  refine pt_cS [(.int x1)] [v_7] 1 X1 u hZ hown (wd hw 93 rfl) (m_10 hw) e1 (rm_ss_0_6 l Z a0 hw [] G GG x1 h0 O0 r1) rfl d14_7 rfl rfl (by decide) N0 ?_
  intro T2 L2 X2 e2 N2_
  refine t_iadd X2 u d14_10  ?_
  refine t_isN X2 u d14_11 (l' := #[.val (.ref x0), .val (.int x1), .val v_7, .val v_13]) rfl ?_
  refine t_aN X2 u d14_12 rfl rfl ?_
  refine t_iN X2 u d14_13 rfl ?_
  refine pt_cP [v_13] [] 0 X2 u hZ hown r5 (wd hw 59 rfl) (m_4 hw) e2 (rm_a9_0 l Z a0 hw [] G GG x0 (13 : Int32) w1 kk2 (115 : Int32) (116 : Int32) (97 : Int32) (116 : Int32) (117 : Int32) (115 : Int32) (32 : Int32) (0 : Int32) (0 : Int32) (0 : Int32) (0 : Int32) (0 : Int32) (0 : Int32) (0 : Int32) (0 : Int32) (0 : Int32) (0 : Int32) h0 O0 r2 r3 r4 (by decide)) rfl d14_14 rfl rfl (by decide) N2_ ?_
  intro T3 L3 X3 e3 N3_
  refine t_aN X3 u d14_17 rfl rfl ?_
  refine pt_cV [] [] 0 X3 u hZ hown (wd hw 97 rfl) (m_11 hw) e3 r5 (rm_a16_0 l Z a0 hw [] G GG x0 (0 : Int32) h0 O0 r4 (by decide)) rfl d14_18 rfl rfl (by decide) N3_ ?_
  intro T4 L4 X4 e4 N4_
  refine t_ifN X4 u d14_21 ((if0 _ _).trans (feq (by decide : ¬ ((1 : Int32) = (0 : Int32)))).1) ?_
  refine t_iN X4 u d14_24 rfl ?_
  refine t_iN X4 u d14_25 rfl ?_
  refine t_aN X4 u d14_26 rfl rfl ?_
  refine t_gF X4 u hZ hown (wd hw 24 rfl) e4 r2 d14_27 ?_
  intro T5 X5 e5
  refine t_cS [(.int x1), v_13, (.ref w1)] [] 0 X5 u hZ hown (wd hw 102 rfl) (m_12 hw) e5 (rm_gc_0_6 l Z a0 hw [] G GG x1 w1 kk2 h0 O0 r1 r6 (Arv.pad r3 (own_tr [v_115, v_116, v_97, v_116, v_117, v_115, v_32, v_0, v_0, v_0, v_0, v_0, v_0] 3 _))) rfl d14_30 rfl rfl (by decide) ?_
  intro v6 T6 L6 Lc6 X6 hQ6 l6
  obtain ⟨rfl, Nq6, Kq6, pV6⟩ := hQ6
  have O6_ := extKeep O0 Kq6 (allS r6 all0)
  have K6 := Keep.trans (Keep.refl h0 [w1, x0]) Kq6 (allS k0 all0)
  have N6_ := frA l6 N4_ Nq6
  refine t_pop X6 u d14_33 rfl ?_
  refine t_go 34 48 X6 u rfl d14_34 (by decide) ?_
  refine t_aN X6 u d14_48 rfl rfl ?_
  refine t_iN X6 u d14_49 rfl ?_
  refine t_pF X6 u hZ hown (wd hw 57 rfl) rfl (r0.keep Kq6 (ninS r7 nin0)) (r5.keep Kq6) (Or.inl (wd hw 58 rfl)) (wd hw 7 rfl) pf_I rfl rfl d14_50 ?_
  intro T7 h7 X7 e7 W7
  have N7_ := Fr.snoc X7 N6_ r8
  have O7_ := extWr O6_ W7 r8
  have K7 := Keep.wr K6 W7 k1
  have F7 := Fld.same W7 (r0.keep Kq6 (ninS r7 nin0))
  refine t_aN X7 u d14_53 rfl rfl ?_
  have f8 := (fS W7 (r2.keep Kq6 (ninS r7 nin0)) (sn_10 hw))
  have f9 := (fS W7 (r4.keep Kq6 (ninS r7 nin0)) (sn_11 hw))
  exact Go.retA X7 hx hret rfl rfl hlk (hb hby d14_54) (by decide) (by decide) (by show Q_a14_5 ..; rw [e7]; exact ⟨rfl, N7_, K7, (pV6.other W7 (Ne.symm r7)), F7, f8, f9⟩)
def Q_a13_5 (Z : State) (x0 : Addr) (x1 : Int32) (w1 : Addr) (kk2 : ClassId) (h0 : Heap) (v : Option Value) (h : Heap) (L : List Loc) : Prop := v = some (.ref x0) ∧ Fr Z.heap.size L ∧ Keep h0 h [x0, w1] ∧ Arv Z h w1 kk2 .byte (16 : Int32) [v_115, v_116, v_97, v_116, v_117, v_115, v_32, (.int (bq x1 5)), (.int (bq x1 4)), (.int (bq x1 3)), (.int (bq x1 2)), (.int (bq x1 1)), (.int (bq x1 0))] v_0 ∧ fl_8 Z h x0 v_13 ∧ fl_6 Z h x0 (.ref w1) ∧ fl_7 Z h x0 v_0
theorem rm_a13_5 (x0 : Addr) (x1 : Int32) (w1 : Addr) (kk2 : ClassId) (h0 : Heap) (O0 : Ext Z.heap h0) (r0 : fl_8 Z h0 x0 v_7) (r1 : Dg_0_6 x1) (r2 : fl_6 Z h0 x0 (.ref w1)) (r3 : Arv Z h0 w1 kk2 .byte (16 : Int32) [v_115, v_116, v_97, v_116, v_117, v_115, v_32, v_0, v_0, v_0, v_0, v_0, v_0, v_0, v_0, v_0] v_0) (r4 : fl_7 Z h0 x0 v_0) (r5 : ex_3 Z h0 x0) (r6 : Z.heap.size ≤ w1) (r7 : x0 ≠ w1) (r8 : Z.heap.size ≤ x0) :
    MF hw GG l y_13 jdk_67_method_15_code 2 (some (.object "java/lang/StringBuilder")) ws ⟨2, 0, 0, 33⟩ h0 #[(.ref x0), (.int x1)] (Q_a13_5 Z x0 x1 w1 kk2 h0) := by
  refine own_mF #[.val (.ref x0), .val (.int x1)] (plainFor_of_name pn_13) (fun _ => rfl) ?_
  intro p e s m below meth c s₁ u hlk hret hZ hown hnm X0 e0 N0
  obtain ⟨hx, hby, hml⟩ := id u
  refine t_aN X0 u d13_0 rfl rfl ?_
  refine t_iN X0 u d13_1 rfl ?_
  refine t_cX [(.int x1)] [] 0 X0 u hZ hown (by decide) r5 (wd hw 89 rfl) (m_13 hw) e0 (rm_a14_5 l Z a0 hw [] G GG x0 x1 w1 kk2 h0 O0 r0 r1 r2 r3 r4 r5 r6 r7 r8) rfl d13_2 rfl rfl (by decide) ?_
  intro v1 T1 L1 Lc1 X1 hQ1 l1
  obtain ⟨rfl, Nq1, Kq1, p1_0, p1_1, p1_2, p1_3⟩ := hQ1
  have O1_ := extKeep O0 Kq1 (allS r6 (allS r8 all0))
  have K1 := Keep.trans (Keep.refl h0 [x0, w1]) Kq1 (allS k1 (allS k0 all0))
  have N1_ := frA l1 N0 Nq1
  refine t_pop X1 u d13_5 rfl ?_
  refine t_aN X1 u d13_6 rfl rfl ?_
  exact Go.retA X1 hx hret rfl rfl hlk (hb hby d13_7) (by decide) (by decide) ⟨rfl, N1_, K1, p1_0, p1_1, p1_2, p1_3⟩
def Q_a25_5 (Z : State) (w2 w3 w4 w5 w6 w7 : Int32) (h0 : Heap) (v : Option Value) (h : Heap) (L : List Loc) : Prop := ∃ (b2 : Addr) (k2 : ClassId), v = some (.ref b2) ∧ Fr Z.heap.size L ∧ Keep h0 h [] ∧ h0.size ≤ b2 ∧ ex_0 Z h b2 ∧ Arv Z h b2 k2 .byte (13 : Int32) [v_115, v_116, v_97, v_116, v_117, v_115, v_32, (.int w2), (.int w3), (.int w4), (.int w5), (.int w6), (.int w7)] v_0
theorem rm_a25_5 (x0 : Addr) (kk1 : ClassId) (w2 w3 w4 w5 w6 w7 : Int32) (h0 : Heap) (O0 : Ext Z.heap h0) (r0 : Arv Z h0 x0 kk1 .byte (16 : Int32) [v_115, v_116, v_97, v_116, v_117, v_115, v_32, (.int w2), (.int w3), (.int w4), (.int w5), (.int w6), (.int w7)] v_0) :
    MF hw GG l y_25 jdk_65_method_133_code 5 (some (.array .byte)) ws ⟨1, 1, 13, 18⟩ h0 #[(.ref x0), v_0, v_13] (Q_a25_5 Z w2 w3 w4 w5 w6 w7 h0) := by
  refine own_mF #[.val (.ref x0), .val v_0, .val v_13, .unset, .unset] (plainFor_of_name pn_25) (fun _ => rfl) ?_
  intro p e s m below meth c s₁ u hlk hret hZ hown hnm X0 e0 N0
  obtain ⟨hx, hby, hml⟩ := id u
  refine t_iN X0 u d25_0 rfl ?_
  refine t_iN X0 u d25_1 rfl ?_
  refine pt_cS [v_0, v_13] [] 0 X0 u hZ hown (wd hw 141 rfl) (m_17 hw) e0 (rm_a26_0 l Z a0 hw [] G GG (0 : Int32) (13 : Int32) h0 O0 (by decide)) rfl d25_2 rfl rfl (by decide) N0 ?_
  intro T1 L1 X1 e1 N1_
  refine t_iN X1 u d25_5 rfl ?_
  refine t_iN X1 u d25_6 rfl ?_
  refine t_isub X1 u d25_7  ?_
  refine t_isN X1 u d25_8 (l' := #[.val (.ref x0), .val v_0, .val v_13, .val v_13, .unset]) rfl ?_
  refine t_iN X1 u d25_9 rfl ?_
  refine t_nB 13 X1 u hZ (wd hw 23 rfl) e1 d25_10 (by decide) ?_
  intro T2 h2 b2 k2 X2 e2 E2 hb2 V2 B2
  have g_b2 := leE O0.1 hb2
  have O2_ := extTr O0 E2
  have sz_b2 := leE (Keep.refl h0 []).1 hb2
  have K2 := Keep.ext (Keep.refl h0 []) E2
  refine t_asL X2 u d25_12 rfl (l' := #[.val (.ref x0), .val v_0, .val v_13, .val v_13, .val (.ref b2)]) rfl ?_
  refine t_aN X2 u d25_14 rfl rfl ?_
  refine t_iN X2 u d25_15 rfl ?_
  refine t_aL X2 u d25_16 rfl rfl ?_
  refine t_iC X2 u d25_18  ?_
  refine t_aN X2 u d25_19 rfl rfl ?_
  obtain ⟨cl3, Ar3, -, S3, N3, -, -⟩ := id (r0.ext E2)
  refine Go.step (X2.arraylength hx (by rw [e2]; exact Ar3.1) (State.isArrayOf_alike hZ.alike Ar3.2.1) (g := (mkF m 20 #[.val (.ref x0), .val v_0, .val v_13, .val v_13, .val (.ref b2)] [(.ref x0), v_0, (.ref b2), v_0, (.ref x0)])) rfl rfl (hb hby d25_20)) ?_
  rw [len_of S3 N3]
  show Go _ _ _ _ _ _ _ _ T2 (mkF m 21 #[.val (.ref x0), .val v_0, .val v_13, .val v_13, .val (.ref b2)] [v_16, v_0, (.ref b2), v_0, (.ref x0)])
  refine t_iN X2 u d25_21 rfl ?_
  refine t_isub X2 u d25_22  ?_
  refine t_iN X2 u d25_23 rfl ?_
  refine pt_cS [v_16, v_13] [v_0, (.ref b2), v_0, (.ref x0)] 4 X2 u hZ hown (wd hw 144 rfl) (m_18 hw) e2 (rm_a27_0 l Z a0 hw [] G GG (16 : Int32) (13 : Int32) h2 O2_ (by decide)) rfl d25_24 rfl rfl (by decide) N1_ ?_
  intro T4 L4 X4 e4 N4_
  obtain ⟨T5, h5, L5, X5, e5, N5_, K5_, V5_, st5⟩ := cpA X4 hx hZ hown (wd hw 148 rfl) (wd hw 83 rfl) (wd hw 81 rfl) (wd hw 82 rfl) e4 (us := [v_115, v_116, v_97, v_116, v_117, v_115, v_32, (.int w2), (.int w3), (.int w4), (.int w5), (.int w6), (.int w7)]) (r0.ext E2) V2 (Or.inl ⟨rfl, rfl⟩) (by decide) (by decide) (by decide) (by decide) (by decide) rfl (by decide) N4_ g_b2 (g := (mkF m 27 #[.val (.ref x0), .val v_0, .val v_13, .val v_13, .val (.ref b2)] [v_13, v_0, (.ref b2), v_0, (.ref x0)])) rfl (by rw [hml]; rfl) rfl (hb hby d25_27) (by decide) (W := 0) (by show 2 * 0 + _ ≤ _; exact Nat.le_of_eq rfl) (by decide)
  refine Go.step st5 ?_
  have V5 : Arv Z h5 b2 k2 .byte (13 : Int32) [v_115, v_116, v_97, v_116, v_117, v_115, v_32, (.int w2), (.int w3), (.int w4), (.int w5), (.int w6), (.int w7)] v_0 := V5_
  have O5_ : Ext Z.heap h5 := extKeep O2_ K5_ (allS g_b2 all0)
  have K5 := Keep.trans K2 K5_ (allS (Or.inr sz_b2) all0)
  refine t_aL X5 u d25_30 rfl rfl ?_
  exact Go.retA X5 hx hret rfl rfl hlk (hb hby d25_32) (by decide) (by decide) (by show Q_a25_5 ..; rw [e5]; exact ⟨b2, k2, rfl, N5_, K5, sz_b2, (B2.keep K5_), V5⟩)
def Q_a24_5 (Z : State) (w2 w3 w4 w5 w6 w7 : Int32) (h0 : Heap) (v : Option Value) (h : Heap) (L : List Loc) : Prop := ∃ (b2q2 : Addr) (k2q2 : ClassId), v = some (.ref b2q2) ∧ Fr Z.heap.size L ∧ Keep h0 h [] ∧ h0.size ≤ b2q2 ∧ ex_0 Z h b2q2 ∧ Arv Z h b2q2 k2q2 .byte (13 : Int32) [v_115, v_116, v_97, v_116, v_117, v_115, v_32, (.int w2), (.int w3), (.int w4), (.int w5), (.int w6), (.int w7)] v_0
theorem rm_a24_5 (x0 : Addr) (kk1 : ClassId) (w2 w3 w4 w5 w6 w7 : Int32) (h0 : Heap) (O0 : Ext Z.heap h0) (r0 : Arv Z h0 x0 kk1 .byte (16 : Int32) [v_115, v_116, v_97, v_116, v_117, v_115, v_32, (.int w2), (.int w3), (.int w4), (.int w5), (.int w6), (.int w7)] v_0) :
    MF hw GG l y_24 jdk_65_method_132_code 3 (some (.array .byte)) ws ⟨2, 1, 13, 34⟩ h0 #[(.ref x0), v_0, v_13] (Q_a24_5 Z w2 w3 w4 w5 w6 w7 h0) := by
  refine own_mF #[.val (.ref x0), .val v_0, .val v_13] (plainFor_of_name pn_24) (fun _ => rfl) ?_
  intro p e s m below meth c s₁ u hlk hret hZ hown hnm X0 e0 N0
  obtain ⟨hx, hby, hml⟩ := id u
  refine t_iN X0 u d24_0 rfl ?_
  refine t_ifN X0 u d24_1 ((if0 _ _).trans (teq (by decide : (0 : Int32) = (0 : Int32))).2) ?_
  refine t_iN X0 u d24_4 rfl ?_
  refine t_aN X0 u d24_5 rfl rfl ?_
  obtain ⟨cl1, Ar1, -, S1, N1, -, -⟩ := id r0
  refine Go.step (X0.arraylength hx (by rw [e0]; exact Ar1.1) (State.isArrayOf_alike hZ.alike Ar1.2.1) (g := (mkF m 6 #[.val (.ref x0), .val v_0, .val v_13] [(.ref x0), v_13])) rfl rfl (hb hby d24_6)) ?_
  rw [len_of S1 N1]
  show Go _ _ _ _ _ _ _ _ s₁ (mkF m 7 #[.val (.ref x0), .val v_0, .val v_13] [v_16, v_13])
  refine t_icN X0 u d24_7 (feq (by decide : ¬ ((13 : Int32) = (16 : Int32)))).1 ?_
  refine t_aN X0 u d24_10 rfl rfl ?_
  refine t_iN X0 u d24_11 rfl ?_
  refine t_iN X0 u d24_12 rfl ?_
  refine t_cS [(.ref x0), v_0, v_13] [] 0 X0 u hZ hown (wd hw 138 rfl) (m_19 hw) e0 (rm_a25_5 l Z a0 hw [] G GG x0 kk1 w2 w3 w4 w5 w6 w7 h0 O0 r0) rfl d24_13 rfl rfl (by decide) ?_
  intro v2 T2 L2 Lc2 X2 hQ2 l2
  obtain ⟨b2q2, k2q2, rfl, Nq2, Kq2, p2_0, p2_1, p2_2⟩ := hQ2
  have O2_ := extKeep O0 Kq2 all0
  have K2 := Keep.trans (Keep.refl h0 []) Kq2 all0
  have N2_ := frA l2 N0 Nq2
  have g_b2q2 := Nat.le_trans O0.1 p2_0
  have sz_b2q2 := Nat.le_trans (Keep.refl h0 []).1 p2_0
  exact Go.retA X2 hx hret rfl rfl hlk (hb hby d24_16) (by decide) (by decide) ⟨b2q2, k2q2, rfl, N2_, K2, sz_b2q2, p2_1, p2_2⟩
def Q_a20_5 (Z : State) (x0 : Addr) (w3 w4 w5 w6 w7 w8 : Int32) (h0 : Heap) (v : Option Value) (h : Heap) (L : List Loc) : Prop := ∃ (b2q2q6 : Addr) (k2q2q6 : ClassId), v = none ∧ Fr Z.heap.size L ∧ Keep h0 h [x0] ∧ fl_4 Z h x0 v_0 ∧ fl_5 Z h x0 (.ref b2q2q6) ∧ h0.size ≤ b2q2q6 ∧ ex_0 Z h b2q2q6 ∧ Arv Z h b2q2q6 k2q2q6 .byte (13 : Int32) [v_115, v_116, v_97, v_116, v_117, v_115, v_32, (.int w3), (.int w4), (.int w5), (.int w6), (.int w7), (.int w8)] v_0
theorem rm_a20_5 (x0 x1 w1 : Addr) (kk2 : ClassId) (w3 w4 w5 w6 w7 w8 : Int32) (h0 : Heap) (O0 : Ext Z.heap h0) (r0 : ex_3 Z h0 x1) (r1 : fl_6 Z h0 x1 (.ref w1)) (r2 : fl_8 Z h0 x1 v_13) (r3 : fl_7 Z h0 x1 v_0) (r4 : ex_2 Z h0 x0) (r5 : fl_4 Z h0 x0 v_0) (r6 : Z.heap.size ≤ x0) (r7 : Arv Z h0 w1 kk2 .byte (16 : Int32) [v_115, v_116, v_97, v_116, v_117, v_115, v_32, (.int w3), (.int w4), (.int w5), (.int w6), (.int w7), (.int w8)] v_0) (r8 : w1 ≠ x0) (r9 : fl_5 Z h0 x0 .null) :
    MF hw GG l y_20 jdk_42_method_150_code 5 none ws ⟨3, 1, 13, 49⟩ h0 #[(.ref x0), (.ref x1), .null] (Q_a20_5 Z x0 w3 w4 w5 w6 w7 w8 h0) := by
  refine own_mF #[.val (.ref x0), .val (.ref x1), .val .null, .unset, .unset] (plainFor_of_name pn_20) (fun _ => rfl) ?_
  intro p e s m below meth c s₁ u hlk hret hZ hown hnm X0 e0 N0
  obtain ⟨hx, hby, hml⟩ := id u
  refine t_aN X0 u d20_0 rfl rfl ?_
  refine t_in 0 X0 u hZ hown (wd hw 119 rfl) (wd hw 19 rfl) (wd hw 20 rfl) e0 rfl d20_1 rfl (by decide) ?_
  intro T1 X1 e1
  refine t_aN X1 u d20_4 rfl rfl ?_
  refine pt_cV [] [] 0 X1 u hZ hown (wd hw 120 rfl) (m_15 hw) e1 r0 (rm_a21_0 l Z a0 hw [] G GG x1 w1 h0 O0 r1) rfl d20_5 rfl rfl (by decide) N0 ?_
  intro T2 L2 X2 e2 N2_
  refine t_asN X2 u d20_8 rfl (l' := #[.val (.ref x0), .val (.ref x1), .val .null, .val (.ref w1), .unset]) rfl ?_
  refine t_aN X2 u d20_9 rfl rfl ?_
  obtain ⟨cq3, kq3, q3a, q3b, q3c⟩ := isOf hZ e2 r0
  obtain ⟨_, _, ⟨T3, L3, k3, n3⟩, -, X3, ⟨Lc3, hQ3, l3, y3, z3⟩, st3⟩ := X2.virtualBack hx (y := (⟨"java/lang/AbstractStringBuilder", "length", "()I"⟩ : MethodName)) (z := (⟨"java/lang/StringBuilder", "length", "()I"⟩ : MethodName)) hown (mvT hZ (wd hw 125 rfl)) (mvT hZ (wd hw 126 rfl)) (own_nf (mvT hZ (wd hw 62 rfl)) rfl) (mvT hZ (wd hw 128 rfl)) (mvT hZ (wd hw 129 rfl)) (by decide) (backOf (W := 0) (rm_a22_0 l Z a0 hw [] G GG x1 (13 : Int32) h0 O0 r2 r0) hZ (wd hw 130 rfl) (wd hw 8 rfl) (by decide) (by decide)) q3a q3c (g := (mkF m 10 #[.val (.ref x0), .val (.ref x1), .val .null, .val (.ref w1), .unset] [(.ref x1)])) rfl (by rw [hml]; rfl) (Steps.refl _) (argsL := []) (rest := []) (lenOf pd_LRI rfl) rfl (by show 2 * 0 + _ ≤ _; exact Nat.le_of_eq rfl) (hb hby d20_10) (fun _ _ => ⟨rfl, e2, (by decide : 0 + 0 ≤ _), (by decide : 0 + 0 ≤ _)⟩)
  dsimp only [Pt.U, Pt.locs, Pt.cells, Pt.slots] at X3 l3 y3 z3 st3 hQ3
  subst y3 z3
  obtain ⟨rfl, Nq3, e3⟩ := hQ3
  have N3_ := frA l3 N2_ Nq3
  refine Go.trans st3 ?_
  refine t_isL X3 u d20_13 (l' := #[.val (.ref x0), .val (.ref x1), .val .null, .val (.ref w1), .val v_13]) rfl ?_
  refine t_aN X3 u d20_15 rfl rfl ?_
  refine pt_cV [] [] 0 X3 u hZ hown (wd hw 133 rfl) (m_11 hw) e3 r0 (rm_a16_0 l Z a0 hw [] G GG x1 (0 : Int32) h0 O0 r3 (by decide)) rfl d20_16 rfl rfl (by decide) N3_ ?_
  intro T4 L4 X4 e4 N4_
  refine t_ifN X4 u d20_19 ((if0 _ _).trans (feq (by decide : ¬ ((1 : Int32) = (0 : Int32)))).1) ?_
  refine t_aN X4 u d20_22 rfl rfl ?_
  refine t_iC X4 u d20_23  ?_
  refine t_pN X4 u hZ hown (wd hw 56 rfl) e4 r5 r4 (Or.inr ⟨(wd hw 31 rfl), rfl, hnm⟩) (wd hw 29 rfl) v_0 pf_B rfl rfl d20_24 ?_
  intro T5 h5 X5 e5 W5
  have N5_ := Fr.snoc X5 N4_ r6
  have O5_ := extWr O0 W5 r6
  have K5 := Keep.wr (Keep.refl h0 [x0]) W5 k0
  have F5 := Fld.same W5 r5
  refine t_aN X5 u d20_27 rfl rfl ?_
  refine t_aN X5 u d20_28 rfl rfl ?_
  refine t_iC X5 u d20_29  ?_
  refine t_iL X5 u d20_30 rfl ?_
  refine t_cS [(.ref w1), v_0, v_13] [(.ref x0)] 1 X5 u hZ hown (wd hw 134 rfl) (m_20 hw) e5 (rm_a24_5 l Z a0 hw [] G GG w1 kk2 w3 w4 w5 w6 w7 w8 h5 O5_ (r7.other W5 r8)) rfl d20_32 rfl rfl (by decide) ?_
  intro v6 T6 L6 Lc6 X6 hQ6 l6
  obtain ⟨b2q2q6, k2q2q6, rfl, Nq6, Kq6, p6_0, p6_1, p6_2⟩ := hQ6
  have O6_ := extKeep O5_ Kq6 all0
  have K6 := Keep.trans K5 Kq6 all0
  have N6_ := frA l6 N5_ Nq6
  have g_b2q2q6 := Nat.le_trans O5_.1 p6_0
  have sz_b2q2q6 := Nat.le_trans K5.1 p6_0
  refine t_pF X6 u hZ hown (wd hw 49 rfl) rfl ((fR W5 r9 (sn_12 hw)).keep Kq6 nin0) ((Exa.wr W5 r4).keep Kq6) (Or.inr ⟨(wd hw 30 rfl), rfl, hnm⟩) (wd hw 29 rfl) pf_AB rfl rfl d20_35 ?_
  intro T7 h7 X7 e7 W7
  have N7_ := Fr.snoc X7 N6_ r6
  have O7_ := extWr O6_ W7 r6
  have K7 := Keep.wr K6 W7 k0
  have F7 := Fld.same W7 ((fR W5 r9 (sn_12 hw)).keep Kq6 nin0)
  refine t_go 38 97 X7 u rfl d20_38 (by decide) ?_
  have f8 := (p6_2.other W7 (Ne.symm (neL (Exa.wr W5 r4).lt p6_0)))
  exact Go.retV X7 hx hret hlk (hb hby d20_97) (by decide) (by decide) (by show Q_a20_5 ..; rw [e7]; exact ⟨b2q2q6, k2q2q6, rfl, N7_, K7, (fS W7 (F5.keep Kq6 nin0) (sn_12 hw)), F7, sz_b2q2q6, (Exa.wr W7 p6_1), f8⟩)
def Q_a19_5 (Z : State) (x0 : Addr) (w3 w4 w5 w6 w7 w8 : Int32) (h0 : Heap) (v : Option Value) (h : Heap) (L : List Loc) : Prop := ∃ (b2q2q6q1 : Addr) (k2q2q6q1 : ClassId), v = none ∧ Fr Z.heap.size L ∧ Keep h0 h [x0] ∧ fl_4 Z h x0 v_0 ∧ fl_5 Z h x0 (.ref b2q2q6q1) ∧ h0.size ≤ b2q2q6q1 ∧ ex_0 Z h b2q2q6q1 ∧ Arv Z h b2q2q6q1 k2q2q6q1 .byte (13 : Int32) [v_115, v_116, v_97, v_116, v_117, v_115, v_32, (.int w3), (.int w4), (.int w5), (.int w6), (.int w7), (.int w8)] v_0
theorem rm_a19_5 (x0 x1 w1 : Addr) (kk2 : ClassId) (w3 w4 w5 w6 w7 w8 : Int32) (h0 : Heap) (O0 : Ext Z.heap h0) (r0 : ex_3 Z h0 x1) (r1 : fl_6 Z h0 x1 (.ref w1)) (r2 : fl_8 Z h0 x1 v_13) (r3 : fl_7 Z h0 x1 v_0) (r4 : ex_2 Z h0 x0) (r5 : fl_4 Z h0 x0 v_0) (r6 : Z.heap.size ≤ x0) (r7 : Arv Z h0 w1 kk2 .byte (16 : Int32) [v_115, v_116, v_97, v_116, v_117, v_115, v_32, (.int w3), (.int w4), (.int w5), (.int w6), (.int w7), (.int w8)] v_0) (r8 : w1 ≠ x0) (r9 : fl_5 Z h0 x0 .null) :
    MF hw GG l y_19 jdk_42_method_53_code 2 none ws ⟨4, 1, 13, 65⟩ h0 #[(.ref x0), (.ref x1)] (Q_a19_5 Z x0 w3 w4 w5 w6 w7 w8 h0) := by
  refine own_mF #[.val (.ref x0), .val (.ref x1)] (plainFor_of_name pn_19) (fun _ => rfl) ?_
  intro p e s m below meth c s₁ u hlk hret hZ hown hnm X0 e0 N0
  obtain ⟨hx, hby, hml⟩ := id u
  refine t_aN X0 u d19_0 rfl rfl ?_
  refine t_aN X0 u d19_1 rfl rfl ?_
  refine t_nl X0 u d19_2  ?_
  refine t_cN [(.ref x1), .null] [] 0 X0 u hZ hown rfl (wd hw 116 rfl) (m_21 hw) e0 (rm_a20_5 l Z a0 hw [] G GG x0 x1 w1 kk2 w3 w4 w5 w6 w7 w8 h0 O0 r0 r1 r2 r3 r4 r5 r6 r7 r8 r9) rfl d19_3 rfl rfl (by decide) ?_
  intro v1 T1 L1 Lc1 X1 hQ1 l1
  obtain ⟨b2q2q6q1, k2q2q6q1, rfl, Nq1, Kq1, p1_0, p1_1, p1_2, p1_3, p1_4⟩ := hQ1
  have O1_ := extKeep O0 Kq1 (allS r6 all0)
  have K1 := Keep.trans (Keep.refl h0 [x0]) Kq1 (allS k0 all0)
  have N1_ := frA l1 N0 Nq1
  have g_b2q2q6q1 := Nat.le_trans O0.1 p1_2
  have sz_b2q2q6q1 := Nat.le_trans (Keep.refl h0 [x0]).1 p1_2
  exact Go.retV X1 hx hret hlk (hb hby d19_6) (by decide) (by decide) ⟨b2q2q6q1, k2q2q6q1, rfl, N1_, K1, p1_0, p1_1, sz_b2q2q6q1, p1_3, p1_4⟩
def Q_a18_5 (Z : State) (w3 w4 w5 w6 w7 w8 : Int32) (h0 : Heap) (v : Option Value) (h : Heap) (L : List Loc) : Prop := ∃ (b1 : Addr) (b2q2q6q1q2 : Addr) (k2q2q6q1q2 : ClassId), v = some (.ref b1) ∧ Fr Z.heap.size L ∧ Keep h0 h [] ∧ h0.size ≤ b1 ∧ ex_2 Z h b1 ∧ fl_4 Z h b1 v_0 ∧ fl_5 Z h b1 (.ref b2q2q6q1q2) ∧ h0.size ≤ b2q2q6q1q2 ∧ ex_0 Z h b2q2q6q1q2 ∧ Arv Z h b2q2q6q1q2 k2q2q6q1q2 .byte (13 : Int32) [v_115, v_116, v_97, v_116, v_117, v_115, v_32, (.int w3), (.int w4), (.int w5), (.int w6), (.int w7), (.int w8)] v_0 ∧ b1 ≠ b2q2q6q1q2
theorem rm_a18_5 (x0 w1 : Addr) (kk2 : ClassId) (w3 w4 w5 w6 w7 w8 : Int32) (h0 : Heap) (O0 : Ext Z.heap h0) (r0 : ex_3 Z h0 x0) (r1 : fl_6 Z h0 x0 (.ref w1)) (r2 : fl_8 Z h0 x0 v_13) (r3 : fl_7 Z h0 x0 v_0) (r4 : Arv Z h0 w1 kk2 .byte (16 : Int32) [v_115, v_116, v_97, v_116, v_117, v_115, v_32, (.int w3), (.int w4), (.int w5), (.int w6), (.int w7), (.int w8)] v_0) :
    MF hw GG l y_18 jdk_67_method_42_code 1 (some (.object "java/lang/String")) ws ⟨5, 2, 17, 79⟩ h0 #[(.ref x0)] (Q_a18_5 Z w3 w4 w5 w6 w7 w8 h0) := by
  refine own_mF #[.val (.ref x0)] (plainFor_of_name pn_18) (fun _ => rfl) ?_
  intro p e s m below meth c s₁ u hlk hret hZ hown hnm X0 e0 N0
  obtain ⟨hx, hby, hml⟩ := id u
  refine t_new X0 u hZ hown (wd hw 111 rfl) (wd hw 29 rfl) (wd hw 22 rfl) e0 d18_0 (by decide) ?_
  intro T1 h1 b1 X1 e1 E1 hb1 A1 D1
  have g_b1 := leE O0.1 hb1
  have O1_ := extTr O0 E1
  have sz_b1 := leE (Keep.refl h0 []).1 hb1
  have K1 := Keep.ext (Keep.refl h0 []) E1
  have F1_value : fl_5 Z h1 b1 .null := D1 (Or.inr (wd hw 30 rfl)) (ty := (.array .byte)) pf_AB
  have F1_coder : fl_4 Z h1 b1 v_0 := D1 (Or.inr (wd hw 31 rfl)) (ty := .byte) pf_B
  refine t_dup X1 u d18_3 rfl ?_
  refine t_aN X1 u d18_4 rfl rfl ?_
  refine t_cN [(.ref x0)] [(.ref b1)] 1 X1 u hZ hown rfl (wd hw 112 rfl) (m_22 hw) e1 (rm_a19_5 l Z a0 hw [] G GG b1 x0 w1 kk2 w3 w4 w5 w6 w7 w8 h1 O1_ (Exa.ext E1 r0) (Fld.ext E1 r1) (Fld.ext E1 r2) (Fld.ext E1 r3) A1 F1_coder g_b1 (r4.ext E1) (neE r4.lt hb1) F1_value) rfl d18_5 rfl rfl (by decide) ?_
  intro v2 T2 L2 Lc2 X2 hQ2 l2
  obtain ⟨b2q2q6q1q2, k2q2q6q1q2, rfl, Nq2, Kq2, p2_0, p2_1, p2_2, p2_3, p2_4⟩ := hQ2
  have O2_ := extKeep O1_ Kq2 (allS g_b1 all0)
  have K2 := Keep.trans K1 Kq2 (allS (Or.inr sz_b1) all0)
  have N2_ := frA l2 N0 Nq2
  have g_b2q2q6q1q2 := Nat.le_trans O1_.1 p2_2
  have sz_b2q2q6q1q2 := Nat.le_trans K1.1 p2_2
  exact Go.retA X2 hx hret rfl rfl hlk (hb hby d18_8) (by decide) (by decide) ⟨b1, b2q2q6q1q2, k2q2q6q1q2, rfl, N2_, K2, sz_b1, (A1.keep Kq2), p2_0, p2_1, sz_b2q2q6q1q2, p2_3, p2_4, (neL A1.lt p2_2)⟩
def Q_a14_6 (Z : State) (x0 : Addr) (x1 : Int32) (w1 : Addr) (kk2 : ClassId) (h0 : Heap) (v : Option Value) (h : Heap) (L : List Loc) : Prop := v = some (.ref x0) ∧ Fr Z.heap.size L ∧ Keep h0 h [w1, x0] ∧ Arv Z h w1 kk2 .byte (16 : Int32) [v_115, v_116, v_97, v_116, v_117, v_115, v_32, (.int (bq x1 6)), (.int (bq x1 5)), (.int (bq x1 4)), (.int (bq x1 3)), (.int (bq x1 2)), (.int (bq x1 1)), (.int (bq x1 0))] v_0 ∧ fl_8 Z h x0 v_14 ∧ fl_6 Z h x0 (.ref w1) ∧ fl_7 Z h x0 v_0
theorem rm_a14_6 (x0 : Addr) (x1 : Int32) (w1 : Addr) (kk2 : ClassId) (h0 : Heap) (O0 : Ext Z.heap h0) (r0 : fl_8 Z h0 x0 v_7) (r1 : Dg_0_7 x1) (r2 : fl_6 Z h0 x0 (.ref w1)) (r3 : Arv Z h0 w1 kk2 .byte (16 : Int32) [v_115, v_116, v_97, v_116, v_117, v_115, v_32, v_0, v_0, v_0, v_0, v_0, v_0, v_0, v_0, v_0] v_0) (r4 : fl_7 Z h0 x0 v_0) (r5 : ex_3 Z h0 x0) (r6 : Z.heap.size ≤ w1) (r7 : x0 ≠ w1) (r8 : Z.heap.size ≤ x0) :
    MF hw GG l y_14 jdk_68_method_32_code 4 (some (.object "java/lang/AbstractStringBuilder")) ws ⟨1, 0, 0, 18⟩ h0 #[(.ref x0), (.int x1)] (Q_a14_6 Z x0 x1 w1 kk2 h0) := by
  refine own_mF #[.val (.ref x0), .val (.int x1), .unset, .unset] (plainFor_of_name pn_14) (fun _ => rfl) ?_
  intro p e s m below meth c s₁ u hlk hret hZ hown hnm X0 e0 N0
  obtain ⟨hx, hby, hml⟩ := id u
  refine t_aN X0 u d14_0 rfl rfl ?_
  refine t_gF X0 u hZ hown (wd hw 57 rfl) e0 r0 d14_1 ?_
  intro T1 X1 e1
  refine t_isN X1 u d14_4 (l' := #[.val (.ref x0), .val (.int x1), .val v_7, .unset]) rfl ?_
  refine t_iN X1 u d14_5 rfl ?_
  refine t_iN X1 u d14_6 rfl ?_
  refine pt_cS [(.int x1)] [v_7] 1 X1 u hZ hown (wd hw 93 rfl) (m_10 hw) e1 (rm_ss_0_7 l Z a0 hw [] G GG x1 h0 O0 r1) rfl d14_7 rfl rfl (by decide) N0 ?_
  intro T2 L2 X2 e2 N2_
  refine t_iadd X2 u d14_10  ?_
  refine t_isN X2 u d14_11 (l' := #[.val (.ref x0), .val (.int x1), .val v_7, .val v_14]) rfl ?_
  refine t_aN X2 u d14_12 rfl rfl ?_
  refine t_iN X2 u d14_13 rfl ?_
  refine pt_cP [v_14] [] 0 X2 u hZ hown r5 (wd hw 59 rfl) (m_4 hw) e2 (rm_a9_0 l Z a0 hw [] G GG x0 (14 : Int32) w1 kk2 (115 : Int32) (116 : Int32) (97 : Int32) (116 : Int32) (117 : Int32) (115 : Int32) (32 : Int32) (0 : Int32) (0 : Int32) (0 : Int32) (0 : Int32) (0 : Int32) (0 : Int32) (0 : Int32) (0 : Int32) (0 : Int32) (0 : Int32) h0 O0 r2 r3 r4 (by decide)) rfl d14_14 rfl rfl (by decide) N2_ ?_
  intro T3 L3 X3 e3 N3_
  refine t_aN X3 u d14_17 rfl rfl ?_
  refine pt_cV [] [] 0 X3 u hZ hown (wd hw 97 rfl) (m_11 hw) e3 r5 (rm_a16_0 l Z a0 hw [] G GG x0 (0 : Int32) h0 O0 r4 (by decide)) rfl d14_18 rfl rfl (by decide) N3_ ?_
  intro T4 L4 X4 e4 N4_
  refine t_ifN X4 u d14_21 ((if0 _ _).trans (feq (by decide : ¬ ((1 : Int32) = (0 : Int32)))).1) ?_
  refine t_iN X4 u d14_24 rfl ?_
  refine t_iN X4 u d14_25 rfl ?_
  refine t_aN X4 u d14_26 rfl rfl ?_
  refine t_gF X4 u hZ hown (wd hw 24 rfl) e4 r2 d14_27 ?_
  intro T5 X5 e5
  refine t_cS [(.int x1), v_14, (.ref w1)] [] 0 X5 u hZ hown (wd hw 102 rfl) (m_12 hw) e5 (rm_gc_0_7 l Z a0 hw [] G GG x1 w1 kk2 h0 O0 r1 r6 (Arv.pad r3 (own_tr [v_115, v_116, v_97, v_116, v_117, v_115, v_32, v_0, v_0, v_0, v_0, v_0, v_0, v_0] 2 _))) rfl d14_30 rfl rfl (by decide) ?_
  intro v6 T6 L6 Lc6 X6 hQ6 l6
  obtain ⟨rfl, Nq6, Kq6, pV6⟩ := hQ6
  have O6_ := extKeep O0 Kq6 (allS r6 all0)
  have K6 := Keep.trans (Keep.refl h0 [w1, x0]) Kq6 (allS k0 all0)
  have N6_ := frA l6 N4_ Nq6
  refine t_pop X6 u d14_33 rfl ?_
  refine t_go 34 48 X6 u rfl d14_34 (by decide) ?_
  refine t_aN X6 u d14_48 rfl rfl ?_
  refine t_iN X6 u d14_49 rfl ?_
  refine t_pF X6 u hZ hown (wd hw 57 rfl) rfl (r0.keep Kq6 (ninS r7 nin0)) (r5.keep Kq6) (Or.inl (wd hw 58 rfl)) (wd hw 7 rfl) pf_I rfl rfl d14_50 ?_
  intro T7 h7 X7 e7 W7
  have N7_ := Fr.snoc X7 N6_ r8
  have O7_ := extWr O6_ W7 r8
  have K7 := Keep.wr K6 W7 k1
  have F7 := Fld.same W7 (r0.keep Kq6 (ninS r7 nin0))
  refine t_aN X7 u d14_53 rfl rfl ?_
  have f8 := (fS W7 (r2.keep Kq6 (ninS r7 nin0)) (sn_10 hw))
  have f9 := (fS W7 (r4.keep Kq6 (ninS r7 nin0)) (sn_11 hw))
  exact Go.retA X7 hx hret rfl rfl hlk (hb hby d14_54) (by decide) (by decide) (by show Q_a14_6 ..; rw [e7]; exact ⟨rfl, N7_, K7, (pV6.other W7 (Ne.symm r7)), F7, f8, f9⟩)
def Q_a13_6 (Z : State) (x0 : Addr) (x1 : Int32) (w1 : Addr) (kk2 : ClassId) (h0 : Heap) (v : Option Value) (h : Heap) (L : List Loc) : Prop := v = some (.ref x0) ∧ Fr Z.heap.size L ∧ Keep h0 h [x0, w1] ∧ Arv Z h w1 kk2 .byte (16 : Int32) [v_115, v_116, v_97, v_116, v_117, v_115, v_32, (.int (bq x1 6)), (.int (bq x1 5)), (.int (bq x1 4)), (.int (bq x1 3)), (.int (bq x1 2)), (.int (bq x1 1)), (.int (bq x1 0))] v_0 ∧ fl_8 Z h x0 v_14 ∧ fl_6 Z h x0 (.ref w1) ∧ fl_7 Z h x0 v_0
theorem rm_a13_6 (x0 : Addr) (x1 : Int32) (w1 : Addr) (kk2 : ClassId) (h0 : Heap) (O0 : Ext Z.heap h0) (r0 : fl_8 Z h0 x0 v_7) (r1 : Dg_0_7 x1) (r2 : fl_6 Z h0 x0 (.ref w1)) (r3 : Arv Z h0 w1 kk2 .byte (16 : Int32) [v_115, v_116, v_97, v_116, v_117, v_115, v_32, v_0, v_0, v_0, v_0, v_0, v_0, v_0, v_0, v_0] v_0) (r4 : fl_7 Z h0 x0 v_0) (r5 : ex_3 Z h0 x0) (r6 : Z.heap.size ≤ w1) (r7 : x0 ≠ w1) (r8 : Z.heap.size ≤ x0) :
    MF hw GG l y_13 jdk_67_method_15_code 2 (some (.object "java/lang/StringBuilder")) ws ⟨2, 0, 0, 33⟩ h0 #[(.ref x0), (.int x1)] (Q_a13_6 Z x0 x1 w1 kk2 h0) := by
  refine own_mF #[.val (.ref x0), .val (.int x1)] (plainFor_of_name pn_13) (fun _ => rfl) ?_
  intro p e s m below meth c s₁ u hlk hret hZ hown hnm X0 e0 N0
  obtain ⟨hx, hby, hml⟩ := id u
  refine t_aN X0 u d13_0 rfl rfl ?_
  refine t_iN X0 u d13_1 rfl ?_
  refine t_cX [(.int x1)] [] 0 X0 u hZ hown (by decide) r5 (wd hw 89 rfl) (m_13 hw) e0 (rm_a14_6 l Z a0 hw [] G GG x0 x1 w1 kk2 h0 O0 r0 r1 r2 r3 r4 r5 r6 r7 r8) rfl d13_2 rfl rfl (by decide) ?_
  intro v1 T1 L1 Lc1 X1 hQ1 l1
  obtain ⟨rfl, Nq1, Kq1, p1_0, p1_1, p1_2, p1_3⟩ := hQ1
  have O1_ := extKeep O0 Kq1 (allS r6 (allS r8 all0))
  have K1 := Keep.trans (Keep.refl h0 [x0, w1]) Kq1 (allS k1 (allS k0 all0))
  have N1_ := frA l1 N0 Nq1
  refine t_pop X1 u d13_5 rfl ?_
  refine t_aN X1 u d13_6 rfl rfl ?_
  exact Go.retA X1 hx hret rfl rfl hlk (hb hby d13_7) (by decide) (by decide) ⟨rfl, N1_, K1, p1_0, p1_1, p1_2, p1_3⟩
def Q_a25_6 (Z : State) (w2 w3 w4 w5 w6 w7 w8 : Int32) (h0 : Heap) (v : Option Value) (h : Heap) (L : List Loc) : Prop := ∃ (b2 : Addr) (k2 : ClassId), v = some (.ref b2) ∧ Fr Z.heap.size L ∧ Keep h0 h [] ∧ h0.size ≤ b2 ∧ ex_0 Z h b2 ∧ Arv Z h b2 k2 .byte (14 : Int32) [v_115, v_116, v_97, v_116, v_117, v_115, v_32, (.int w2), (.int w3), (.int w4), (.int w5), (.int w6), (.int w7), (.int w8)] v_0
theorem rm_a25_6 (x0 : Addr) (kk1 : ClassId) (w2 w3 w4 w5 w6 w7 w8 : Int32) (h0 : Heap) (O0 : Ext Z.heap h0) (r0 : Arv Z h0 x0 kk1 .byte (16 : Int32) [v_115, v_116, v_97, v_116, v_117, v_115, v_32, (.int w2), (.int w3), (.int w4), (.int w5), (.int w6), (.int w7), (.int w8)] v_0) :
    MF hw GG l y_25 jdk_65_method_133_code 5 (some (.array .byte)) ws ⟨1, 1, 14, 18⟩ h0 #[(.ref x0), v_0, v_14] (Q_a25_6 Z w2 w3 w4 w5 w6 w7 w8 h0) := by
  refine own_mF #[.val (.ref x0), .val v_0, .val v_14, .unset, .unset] (plainFor_of_name pn_25) (fun _ => rfl) ?_
  intro p e s m below meth c s₁ u hlk hret hZ hown hnm X0 e0 N0
  obtain ⟨hx, hby, hml⟩ := id u
  refine t_iN X0 u d25_0 rfl ?_
  refine t_iN X0 u d25_1 rfl ?_
  refine pt_cS [v_0, v_14] [] 0 X0 u hZ hown (wd hw 141 rfl) (m_17 hw) e0 (rm_a26_0 l Z a0 hw [] G GG (0 : Int32) (14 : Int32) h0 O0 (by decide)) rfl d25_2 rfl rfl (by decide) N0 ?_
  intro T1 L1 X1 e1 N1_
  refine t_iN X1 u d25_5 rfl ?_
  refine t_iN X1 u d25_6 rfl ?_
  refine t_isub X1 u d25_7  ?_
  refine t_isN X1 u d25_8 (l' := #[.val (.ref x0), .val v_0, .val v_14, .val v_14, .unset]) rfl ?_
  refine t_iN X1 u d25_9 rfl ?_
  refine t_nB 14 X1 u hZ (wd hw 23 rfl) e1 d25_10 (by decide) ?_
  intro T2 h2 b2 k2 X2 e2 E2 hb2 V2 B2
  have g_b2 := leE O0.1 hb2
  have O2_ := extTr O0 E2
  have sz_b2 := leE (Keep.refl h0 []).1 hb2
  have K2 := Keep.ext (Keep.refl h0 []) E2
  refine t_asL X2 u d25_12 rfl (l' := #[.val (.ref x0), .val v_0, .val v_14, .val v_14, .val (.ref b2)]) rfl ?_
  refine t_aN X2 u d25_14 rfl rfl ?_
  refine t_iN X2 u d25_15 rfl ?_
  refine t_aL X2 u d25_16 rfl rfl ?_
  refine t_iC X2 u d25_18  ?_
  refine t_aN X2 u d25_19 rfl rfl ?_
  obtain ⟨cl3, Ar3, -, S3, N3, -, -⟩ := id (r0.ext E2)
  refine Go.step (X2.arraylength hx (by rw [e2]; exact Ar3.1) (State.isArrayOf_alike hZ.alike Ar3.2.1) (g := (mkF m 20 #[.val (.ref x0), .val v_0, .val v_14, .val v_14, .val (.ref b2)] [(.ref x0), v_0, (.ref b2), v_0, (.ref x0)])) rfl rfl (hb hby d25_20)) ?_
  rw [len_of S3 N3]
  show Go _ _ _ _ _ _ _ _ T2 (mkF m 21 #[.val (.ref x0), .val v_0, .val v_14, .val v_14, .val (.ref b2)] [v_16, v_0, (.ref b2), v_0, (.ref x0)])
  refine t_iN X2 u d25_21 rfl ?_
  refine t_isub X2 u d25_22  ?_
  refine t_iN X2 u d25_23 rfl ?_
  refine pt_cS [v_16, v_14] [v_0, (.ref b2), v_0, (.ref x0)] 4 X2 u hZ hown (wd hw 144 rfl) (m_18 hw) e2 (rm_a27_0 l Z a0 hw [] G GG (16 : Int32) (14 : Int32) h2 O2_ (by decide)) rfl d25_24 rfl rfl (by decide) N1_ ?_
  intro T4 L4 X4 e4 N4_
  obtain ⟨T5, h5, L5, X5, e5, N5_, K5_, V5_, st5⟩ := cpA X4 hx hZ hown (wd hw 148 rfl) (wd hw 83 rfl) (wd hw 81 rfl) (wd hw 82 rfl) e4 (us := [v_115, v_116, v_97, v_116, v_117, v_115, v_32, (.int w2), (.int w3), (.int w4), (.int w5), (.int w6), (.int w7), (.int w8)]) (r0.ext E2) V2 (Or.inl ⟨rfl, rfl⟩) (by decide) (by decide) (by decide) (by decide) (by decide) rfl (by decide) N4_ g_b2 (g := (mkF m 27 #[.val (.ref x0), .val v_0, .val v_14, .val v_14, .val (.ref b2)] [v_14, v_0, (.ref b2), v_0, (.ref x0)])) rfl (by rw [hml]; rfl) rfl (hb hby d25_27) (by decide) (W := 0) (by show 2 * 0 + _ ≤ _; exact Nat.le_of_eq rfl) (by decide)
  refine Go.step st5 ?_
  have V5 : Arv Z h5 b2 k2 .byte (14 : Int32) [v_115, v_116, v_97, v_116, v_117, v_115, v_32, (.int w2), (.int w3), (.int w4), (.int w5), (.int w6), (.int w7), (.int w8)] v_0 := V5_
  have O5_ : Ext Z.heap h5 := extKeep O2_ K5_ (allS g_b2 all0)
  have K5 := Keep.trans K2 K5_ (allS (Or.inr sz_b2) all0)
  refine t_aL X5 u d25_30 rfl rfl ?_
  exact Go.retA X5 hx hret rfl rfl hlk (hb hby d25_32) (by decide) (by decide) (by show Q_a25_6 ..; rw [e5]; exact ⟨b2, k2, rfl, N5_, K5, sz_b2, (B2.keep K5_), V5⟩)
def Q_a24_6 (Z : State) (w2 w3 w4 w5 w6 w7 w8 : Int32) (h0 : Heap) (v : Option Value) (h : Heap) (L : List Loc) : Prop := ∃ (b2q2 : Addr) (k2q2 : ClassId), v = some (.ref b2q2) ∧ Fr Z.heap.size L ∧ Keep h0 h [] ∧ h0.size ≤ b2q2 ∧ ex_0 Z h b2q2 ∧ Arv Z h b2q2 k2q2 .byte (14 : Int32) [v_115, v_116, v_97, v_116, v_117, v_115, v_32, (.int w2), (.int w3), (.int w4), (.int w5), (.int w6), (.int w7), (.int w8)] v_0
theorem rm_a24_6 (x0 : Addr) (kk1 : ClassId) (w2 w3 w4 w5 w6 w7 w8 : Int32) (h0 : Heap) (O0 : Ext Z.heap h0) (r0 : Arv Z h0 x0 kk1 .byte (16 : Int32) [v_115, v_116, v_97, v_116, v_117, v_115, v_32, (.int w2), (.int w3), (.int w4), (.int w5), (.int w6), (.int w7), (.int w8)] v_0) :
    MF hw GG l y_24 jdk_65_method_132_code 3 (some (.array .byte)) ws ⟨2, 1, 14, 34⟩ h0 #[(.ref x0), v_0, v_14] (Q_a24_6 Z w2 w3 w4 w5 w6 w7 w8 h0) := by
  refine own_mF #[.val (.ref x0), .val v_0, .val v_14] (plainFor_of_name pn_24) (fun _ => rfl) ?_
  intro p e s m below meth c s₁ u hlk hret hZ hown hnm X0 e0 N0
  obtain ⟨hx, hby, hml⟩ := id u
  refine t_iN X0 u d24_0 rfl ?_
  refine t_ifN X0 u d24_1 ((if0 _ _).trans (teq (by decide : (0 : Int32) = (0 : Int32))).2) ?_
  refine t_iN X0 u d24_4 rfl ?_
  refine t_aN X0 u d24_5 rfl rfl ?_
  obtain ⟨cl1, Ar1, -, S1, N1, -, -⟩ := id r0
  refine Go.step (X0.arraylength hx (by rw [e0]; exact Ar1.1) (State.isArrayOf_alike hZ.alike Ar1.2.1) (g := (mkF m 6 #[.val (.ref x0), .val v_0, .val v_14] [(.ref x0), v_14])) rfl rfl (hb hby d24_6)) ?_
  rw [len_of S1 N1]
  show Go _ _ _ _ _ _ _ _ s₁ (mkF m 7 #[.val (.ref x0), .val v_0, .val v_14] [v_16, v_14])
  refine t_icN X0 u d24_7 (feq (by decide : ¬ ((14 : Int32) = (16 : Int32)))).1 ?_
  refine t_aN X0 u d24_10 rfl rfl ?_
  refine t_iN X0 u d24_11 rfl ?_
  refine t_iN X0 u d24_12 rfl ?_
  refine t_cS [(.ref x0), v_0, v_14] [] 0 X0 u hZ hown (wd hw 138 rfl) (m_19 hw) e0 (rm_a25_6 l Z a0 hw [] G GG x0 kk1 w2 w3 w4 w5 w6 w7 w8 h0 O0 r0) rfl d24_13 rfl rfl (by decide) ?_
  intro v2 T2 L2 Lc2 X2 hQ2 l2
  obtain ⟨b2q2, k2q2, rfl, Nq2, Kq2, p2_0, p2_1, p2_2⟩ := hQ2
  have O2_ := extKeep O0 Kq2 all0
  have K2 := Keep.trans (Keep.refl h0 []) Kq2 all0
  have N2_ := frA l2 N0 Nq2
  have g_b2q2 := Nat.le_trans O0.1 p2_0
  have sz_b2q2 := Nat.le_trans (Keep.refl h0 []).1 p2_0
  exact Go.retA X2 hx hret rfl rfl hlk (hb hby d24_16) (by decide) (by decide) ⟨b2q2, k2q2, rfl, N2_, K2, sz_b2q2, p2_1, p2_2⟩
def Q_a20_6 (Z : State) (x0 : Addr) (w3 w4 w5 w6 w7 w8 w9 : Int32) (h0 : Heap) (v : Option Value) (h : Heap) (L : List Loc) : Prop := ∃ (b2q2q6 : Addr) (k2q2q6 : ClassId), v = none ∧ Fr Z.heap.size L ∧ Keep h0 h [x0] ∧ fl_4 Z h x0 v_0 ∧ fl_5 Z h x0 (.ref b2q2q6) ∧ h0.size ≤ b2q2q6 ∧ ex_0 Z h b2q2q6 ∧ Arv Z h b2q2q6 k2q2q6 .byte (14 : Int32) [v_115, v_116, v_97, v_116, v_117, v_115, v_32, (.int w3), (.int w4), (.int w5), (.int w6), (.int w7), (.int w8), (.int w9)] v_0
theorem rm_a20_6 (x0 x1 w1 : Addr) (kk2 : ClassId) (w3 w4 w5 w6 w7 w8 w9 : Int32) (h0 : Heap) (O0 : Ext Z.heap h0) (r0 : ex_3 Z h0 x1) (r1 : fl_6 Z h0 x1 (.ref w1)) (r2 : fl_8 Z h0 x1 v_14) (r3 : fl_7 Z h0 x1 v_0) (r4 : ex_2 Z h0 x0) (r5 : fl_4 Z h0 x0 v_0) (r6 : Z.heap.size ≤ x0) (r7 : Arv Z h0 w1 kk2 .byte (16 : Int32) [v_115, v_116, v_97, v_116, v_117, v_115, v_32, (.int w3), (.int w4), (.int w5), (.int w6), (.int w7), (.int w8), (.int w9)] v_0) (r8 : w1 ≠ x0) (r9 : fl_5 Z h0 x0 .null) :
    MF hw GG l y_20 jdk_42_method_150_code 5 none ws ⟨3, 1, 14, 49⟩ h0 #[(.ref x0), (.ref x1), .null] (Q_a20_6 Z x0 w3 w4 w5 w6 w7 w8 w9 h0) := by
  refine own_mF #[.val (.ref x0), .val (.ref x1), .val .null, .unset, .unset] (plainFor_of_name pn_20) (fun _ => rfl) ?_
  intro p e s m below meth c s₁ u hlk hret hZ hown hnm X0 e0 N0
  obtain ⟨hx, hby, hml⟩ := id u
  refine t_aN X0 u d20_0 rfl rfl ?_
  refine t_in 0 X0 u hZ hown (wd hw 119 rfl) (wd hw 19 rfl) (wd hw 20 rfl) e0 rfl d20_1 rfl (by decide) ?_
  intro T1 X1 e1
  refine t_aN X1 u d20_4 rfl rfl ?_
  refine pt_cV [] [] 0 X1 u hZ hown (wd hw 120 rfl) (m_15 hw) e1 r0 (rm_a21_0 l Z a0 hw [] G GG x1 w1 h0 O0 r1) rfl d20_5 rfl rfl (by decide) N0 ?_
  intro T2 L2 X2 e2 N2_
  refine t_asN X2 u d20_8 rfl (l' := #[.val (.ref x0), .val (.ref x1), .val .null, .val (.ref w1), .unset]) rfl ?_
  refine t_aN X2 u d20_9 rfl rfl ?_
  obtain ⟨cq3, kq3, q3a, q3b, q3c⟩ := isOf hZ e2 r0
  obtain ⟨_, _, ⟨T3, L3, k3, n3⟩, -, X3, ⟨Lc3, hQ3, l3, y3, z3⟩, st3⟩ := X2.virtualBack hx (y := (⟨"java/lang/AbstractStringBuilder", "length", "()I"⟩ : MethodName)) (z := (⟨"java/lang/StringBuilder", "length", "()I"⟩ : MethodName)) hown (mvT hZ (wd hw 125 rfl)) (mvT hZ (wd hw 126 rfl)) (own_nf (mvT hZ (wd hw 62 rfl)) rfl) (mvT hZ (wd hw 128 rfl)) (mvT hZ (wd hw 129 rfl)) (by decide) (backOf (W := 0) (rm_a22_0 l Z a0 hw [] G GG x1 (14 : Int32) h0 O0 r2 r0) hZ (wd hw 130 rfl) (wd hw 8 rfl) (by decide) (by decide)) q3a q3c (g := (mkF m 10 #[.val (.ref x0), .val (.ref x1), .val .null, .val (.ref w1), .unset] [(.ref x1)])) rfl (by rw [hml]; rfl) (Steps.refl _) (argsL := []) (rest := []) (lenOf pd_LRI rfl) rfl (by show 2 * 0 + _ ≤ _; exact Nat.le_of_eq rfl) (hb hby d20_10) (fun _ _ => ⟨rfl, e2, (by decide : 0 + 0 ≤ _), (by decide : 0 + 0 ≤ _)⟩)
  dsimp only [Pt.U, Pt.locs, Pt.cells, Pt.slots] at X3 l3 y3 z3 st3 hQ3
  subst y3 z3
  obtain ⟨rfl, Nq3, e3⟩ := hQ3
  have N3_ := frA l3 N2_ Nq3
  refine Go.trans st3 ?_
  refine t_isL X3 u d20_13 (l' := #[.val (.ref x0), .val (.ref x1), .val .null, .val (.ref w1), .val v_14]) rfl ?_
  refine t_aN X3 u d20_15 rfl rfl ?_
  refine pt_cV [] [] 0 X3 u hZ hown (wd hw 133 rfl) (m_11 hw) e3 r0 (rm_a16_0 l Z a0 hw [] G GG x1 (0 : Int32) h0 O0 r3 (by decide)) rfl d20_16 rfl rfl (by decide) N3_ ?_
  intro T4 L4 X4 e4 N4_
  refine t_ifN X4 u d20_19 ((if0 _ _).trans (feq (by decide : ¬ ((1 : Int32) = (0 : Int32)))).1) ?_
  refine t_aN X4 u d20_22 rfl rfl ?_
  refine t_iC X4 u d20_23  ?_
  refine t_pN X4 u hZ hown (wd hw 56 rfl) e4 r5 r4 (Or.inr ⟨(wd hw 31 rfl), rfl, hnm⟩) (wd hw 29 rfl) v_0 pf_B rfl rfl d20_24 ?_
  intro T5 h5 X5 e5 W5
  have N5_ := Fr.snoc X5 N4_ r6
  have O5_ := extWr O0 W5 r6
  have K5 := Keep.wr (Keep.refl h0 [x0]) W5 k0
  have F5 := Fld.same W5 r5
  refine t_aN X5 u d20_27 rfl rfl ?_
  refine t_aN X5 u d20_28 rfl rfl ?_
  refine t_iC X5 u d20_29  ?_
  refine t_iL X5 u d20_30 rfl ?_
  refine t_cS [(.ref w1), v_0, v_14] [(.ref x0)] 1 X5 u hZ hown (wd hw 134 rfl) (m_20 hw) e5 (rm_a24_6 l Z a0 hw [] G GG w1 kk2 w3 w4 w5 w6 w7 w8 w9 h5 O5_ (r7.other W5 r8)) rfl d20_32 rfl rfl (by decide) ?_
  intro v6 T6 L6 Lc6 X6 hQ6 l6
  obtain ⟨b2q2q6, k2q2q6, rfl, Nq6, Kq6, p6_0, p6_1, p6_2⟩ := hQ6
  have O6_ := extKeep O5_ Kq6 all0
  have K6 := Keep.trans K5 Kq6 all0
  have N6_ := frA l6 N5_ Nq6
  have g_b2q2q6 := Nat.le_trans O5_.1 p6_0
  have sz_b2q2q6 := Nat.le_trans K5.1 p6_0
  refine t_pF X6 u hZ hown (wd hw 49 rfl) rfl ((fR W5 r9 (sn_12 hw)).keep Kq6 nin0) ((Exa.wr W5 r4).keep Kq6) (Or.inr ⟨(wd hw 30 rfl), rfl, hnm⟩) (wd hw 29 rfl) pf_AB rfl rfl d20_35 ?_
  intro T7 h7 X7 e7 W7
  have N7_ := Fr.snoc X7 N6_ r6
  have O7_ := extWr O6_ W7 r6
  have K7 := Keep.wr K6 W7 k0
  have F7 := Fld.same W7 ((fR W5 r9 (sn_12 hw)).keep Kq6 nin0)
  refine t_go 38 97 X7 u rfl d20_38 (by decide) ?_
  have f8 := (p6_2.other W7 (Ne.symm (neL (Exa.wr W5 r4).lt p6_0)))
  exact Go.retV X7 hx hret hlk (hb hby d20_97) (by decide) (by decide) (by show Q_a20_6 ..; rw [e7]; exact ⟨b2q2q6, k2q2q6, rfl, N7_, K7, (fS W7 (F5.keep Kq6 nin0) (sn_12 hw)), F7, sz_b2q2q6, (Exa.wr W7 p6_1), f8⟩)
def Q_a19_6 (Z : State) (x0 : Addr) (w3 w4 w5 w6 w7 w8 w9 : Int32) (h0 : Heap) (v : Option Value) (h : Heap) (L : List Loc) : Prop := ∃ (b2q2q6q1 : Addr) (k2q2q6q1 : ClassId), v = none ∧ Fr Z.heap.size L ∧ Keep h0 h [x0] ∧ fl_4 Z h x0 v_0 ∧ fl_5 Z h x0 (.ref b2q2q6q1) ∧ h0.size ≤ b2q2q6q1 ∧ ex_0 Z h b2q2q6q1 ∧ Arv Z h b2q2q6q1 k2q2q6q1 .byte (14 : Int32) [v_115, v_116, v_97, v_116, v_117, v_115, v_32, (.int w3), (.int w4), (.int w5), (.int w6), (.int w7), (.int w8), (.int w9)] v_0
theorem rm_a19_6 (x0 x1 w1 : Addr) (kk2 : ClassId) (w3 w4 w5 w6 w7 w8 w9 : Int32) (h0 : Heap) (O0 : Ext Z.heap h0) (r0 : ex_3 Z h0 x1) (r1 : fl_6 Z h0 x1 (.ref w1)) (r2 : fl_8 Z h0 x1 v_14) (r3 : fl_7 Z h0 x1 v_0) (r4 : ex_2 Z h0 x0) (r5 : fl_4 Z h0 x0 v_0) (r6 : Z.heap.size ≤ x0) (r7 : Arv Z h0 w1 kk2 .byte (16 : Int32) [v_115, v_116, v_97, v_116, v_117, v_115, v_32, (.int w3), (.int w4), (.int w5), (.int w6), (.int w7), (.int w8), (.int w9)] v_0) (r8 : w1 ≠ x0) (r9 : fl_5 Z h0 x0 .null) :
    MF hw GG l y_19 jdk_42_method_53_code 2 none ws ⟨4, 1, 14, 65⟩ h0 #[(.ref x0), (.ref x1)] (Q_a19_6 Z x0 w3 w4 w5 w6 w7 w8 w9 h0) := by
  refine own_mF #[.val (.ref x0), .val (.ref x1)] (plainFor_of_name pn_19) (fun _ => rfl) ?_
  intro p e s m below meth c s₁ u hlk hret hZ hown hnm X0 e0 N0
  obtain ⟨hx, hby, hml⟩ := id u
  refine t_aN X0 u d19_0 rfl rfl ?_
  refine t_aN X0 u d19_1 rfl rfl ?_
  refine t_nl X0 u d19_2  ?_
  refine t_cN [(.ref x1), .null] [] 0 X0 u hZ hown rfl (wd hw 116 rfl) (m_21 hw) e0 (rm_a20_6 l Z a0 hw [] G GG x0 x1 w1 kk2 w3 w4 w5 w6 w7 w8 w9 h0 O0 r0 r1 r2 r3 r4 r5 r6 r7 r8 r9) rfl d19_3 rfl rfl (by decide) ?_
  intro v1 T1 L1 Lc1 X1 hQ1 l1
  obtain ⟨b2q2q6q1, k2q2q6q1, rfl, Nq1, Kq1, p1_0, p1_1, p1_2, p1_3, p1_4⟩ := hQ1
  have O1_ := extKeep O0 Kq1 (allS r6 all0)
  have K1 := Keep.trans (Keep.refl h0 [x0]) Kq1 (allS k0 all0)
  have N1_ := frA l1 N0 Nq1
  have g_b2q2q6q1 := Nat.le_trans O0.1 p1_2
  have sz_b2q2q6q1 := Nat.le_trans (Keep.refl h0 [x0]).1 p1_2
  exact Go.retV X1 hx hret hlk (hb hby d19_6) (by decide) (by decide) ⟨b2q2q6q1, k2q2q6q1, rfl, N1_, K1, p1_0, p1_1, sz_b2q2q6q1, p1_3, p1_4⟩
def Q_a18_6 (Z : State) (w3 w4 w5 w6 w7 w8 w9 : Int32) (h0 : Heap) (v : Option Value) (h : Heap) (L : List Loc) : Prop := ∃ (b1 : Addr) (b2q2q6q1q2 : Addr) (k2q2q6q1q2 : ClassId), v = some (.ref b1) ∧ Fr Z.heap.size L ∧ Keep h0 h [] ∧ h0.size ≤ b1 ∧ ex_2 Z h b1 ∧ fl_4 Z h b1 v_0 ∧ fl_5 Z h b1 (.ref b2q2q6q1q2) ∧ h0.size ≤ b2q2q6q1q2 ∧ ex_0 Z h b2q2q6q1q2 ∧ Arv Z h b2q2q6q1q2 k2q2q6q1q2 .byte (14 : Int32) [v_115, v_116, v_97, v_116, v_117, v_115, v_32, (.int w3), (.int w4), (.int w5), (.int w6), (.int w7), (.int w8), (.int w9)] v_0 ∧ b1 ≠ b2q2q6q1q2
theorem rm_a18_6 (x0 w1 : Addr) (kk2 : ClassId) (w3 w4 w5 w6 w7 w8 w9 : Int32) (h0 : Heap) (O0 : Ext Z.heap h0) (r0 : ex_3 Z h0 x0) (r1 : fl_6 Z h0 x0 (.ref w1)) (r2 : fl_8 Z h0 x0 v_14) (r3 : fl_7 Z h0 x0 v_0) (r4 : Arv Z h0 w1 kk2 .byte (16 : Int32) [v_115, v_116, v_97, v_116, v_117, v_115, v_32, (.int w3), (.int w4), (.int w5), (.int w6), (.int w7), (.int w8), (.int w9)] v_0) :
    MF hw GG l y_18 jdk_67_method_42_code 1 (some (.object "java/lang/String")) ws ⟨5, 2, 18, 79⟩ h0 #[(.ref x0)] (Q_a18_6 Z w3 w4 w5 w6 w7 w8 w9 h0) := by
  refine own_mF #[.val (.ref x0)] (plainFor_of_name pn_18) (fun _ => rfl) ?_
  intro p e s m below meth c s₁ u hlk hret hZ hown hnm X0 e0 N0
  obtain ⟨hx, hby, hml⟩ := id u
  refine t_new X0 u hZ hown (wd hw 111 rfl) (wd hw 29 rfl) (wd hw 22 rfl) e0 d18_0 (by decide) ?_
  intro T1 h1 b1 X1 e1 E1 hb1 A1 D1
  have g_b1 := leE O0.1 hb1
  have O1_ := extTr O0 E1
  have sz_b1 := leE (Keep.refl h0 []).1 hb1
  have K1 := Keep.ext (Keep.refl h0 []) E1
  have F1_value : fl_5 Z h1 b1 .null := D1 (Or.inr (wd hw 30 rfl)) (ty := (.array .byte)) pf_AB
  have F1_coder : fl_4 Z h1 b1 v_0 := D1 (Or.inr (wd hw 31 rfl)) (ty := .byte) pf_B
  refine t_dup X1 u d18_3 rfl ?_
  refine t_aN X1 u d18_4 rfl rfl ?_
  refine t_cN [(.ref x0)] [(.ref b1)] 1 X1 u hZ hown rfl (wd hw 112 rfl) (m_22 hw) e1 (rm_a19_6 l Z a0 hw [] G GG b1 x0 w1 kk2 w3 w4 w5 w6 w7 w8 w9 h1 O1_ (Exa.ext E1 r0) (Fld.ext E1 r1) (Fld.ext E1 r2) (Fld.ext E1 r3) A1 F1_coder g_b1 (r4.ext E1) (neE r4.lt hb1) F1_value) rfl d18_5 rfl rfl (by decide) ?_
  intro v2 T2 L2 Lc2 X2 hQ2 l2
  obtain ⟨b2q2q6q1q2, k2q2q6q1q2, rfl, Nq2, Kq2, p2_0, p2_1, p2_2, p2_3, p2_4⟩ := hQ2
  have O2_ := extKeep O1_ Kq2 (allS g_b1 all0)
  have K2 := Keep.trans K1 Kq2 (allS (Or.inr sz_b1) all0)
  have N2_ := frA l2 N0 Nq2
  have g_b2q2q6q1q2 := Nat.le_trans O1_.1 p2_2
  have sz_b2q2q6q1q2 := Nat.le_trans K1.1 p2_2
  exact Go.retA X2 hx hret rfl rfl hlk (hb hby d18_8) (by decide) (by decide) ⟨b1, b2q2q6q1q2, k2q2q6q1q2, rfl, N2_, K2, sz_b1, (A1.keep Kq2), p2_0, p2_1, sz_b2q2q6q1q2, p2_3, p2_4, (neL A1.lt p2_2)⟩
def Q_a14_7 (Z : State) (x0 : Addr) (x1 : Int32) (w1 : Addr) (kk2 : ClassId) (h0 : Heap) (v : Option Value) (h : Heap) (L : List Loc) : Prop := v = some (.ref x0) ∧ Fr Z.heap.size L ∧ Keep h0 h [w1, x0] ∧ Arv Z h w1 kk2 .byte (16 : Int32) [v_115, v_116, v_97, v_116, v_117, v_115, v_32, (.int (bq x1 7)), (.int (bq x1 6)), (.int (bq x1 5)), (.int (bq x1 4)), (.int (bq x1 3)), (.int (bq x1 2)), (.int (bq x1 1)), (.int (bq x1 0))] v_0 ∧ fl_8 Z h x0 v_15 ∧ fl_6 Z h x0 (.ref w1) ∧ fl_7 Z h x0 v_0
theorem rm_a14_7 (x0 : Addr) (x1 : Int32) (w1 : Addr) (kk2 : ClassId) (h0 : Heap) (O0 : Ext Z.heap h0) (r0 : fl_8 Z h0 x0 v_7) (r1 : Dg_0_8 x1) (r2 : fl_6 Z h0 x0 (.ref w1)) (r3 : Arv Z h0 w1 kk2 .byte (16 : Int32) [v_115, v_116, v_97, v_116, v_117, v_115, v_32, v_0, v_0, v_0, v_0, v_0, v_0, v_0, v_0, v_0] v_0) (r4 : fl_7 Z h0 x0 v_0) (r5 : ex_3 Z h0 x0) (r6 : Z.heap.size ≤ w1) (r7 : x0 ≠ w1) (r8 : Z.heap.size ≤ x0) :
    MF hw GG l y_14 jdk_68_method_32_code 4 (some (.object "java/lang/AbstractStringBuilder")) ws ⟨1, 0, 0, 18⟩ h0 #[(.ref x0), (.int x1)] (Q_a14_7 Z x0 x1 w1 kk2 h0) := by
  refine own_mF #[.val (.ref x0), .val (.int x1), .unset, .unset] (plainFor_of_name pn_14) (fun _ => rfl) ?_
  intro p e s m below meth c s₁ u hlk hret hZ hown hnm X0 e0 N0
  obtain ⟨hx, hby, hml⟩ := id u
  refine t_aN X0 u d14_0 rfl rfl ?_
  refine t_gF X0 u hZ hown (wd hw 57 rfl) e0 r0 d14_1 ?_
  intro T1 X1 e1
  refine t_isN X1 u d14_4 (l' := #[.val (.ref x0), .val (.int x1), .val v_7, .unset]) rfl ?_
  refine t_iN X1 u d14_5 rfl ?_
  refine t_iN X1 u d14_6 rfl ?_
  refine pt_cS [(.int x1)] [v_7] 1 X1 u hZ hown (wd hw 93 rfl) (m_10 hw) e1 (rm_ss_0_8 l Z a0 hw [] G GG x1 h0 O0 r1) rfl d14_7 rfl rfl (by decide) N0 ?_
  intro T2 L2 X2 e2 N2_
  refine t_iadd X2 u d14_10  ?_
  refine t_isN X2 u d14_11 (l' := #[.val (.ref x0), .val (.int x1), .val v_7, .val v_15]) rfl ?_
  refine t_aN X2 u d14_12 rfl rfl ?_
  refine t_iN X2 u d14_13 rfl ?_
  refine pt_cP [v_15] [] 0 X2 u hZ hown r5 (wd hw 59 rfl) (m_4 hw) e2 (rm_a9_0 l Z a0 hw [] G GG x0 (15 : Int32) w1 kk2 (115 : Int32) (116 : Int32) (97 : Int32) (116 : Int32) (117 : Int32) (115 : Int32) (32 : Int32) (0 : Int32) (0 : Int32) (0 : Int32) (0 : Int32) (0 : Int32) (0 : Int32) (0 : Int32) (0 : Int32) (0 : Int32) (0 : Int32) h0 O0 r2 r3 r4 (by decide)) rfl d14_14 rfl rfl (by decide) N2_ ?_
  intro T3 L3 X3 e3 N3_
  refine t_aN X3 u d14_17 rfl rfl ?_
  refine pt_cV [] [] 0 X3 u hZ hown (wd hw 97 rfl) (m_11 hw) e3 r5 (rm_a16_0 l Z a0 hw [] G GG x0 (0 : Int32) h0 O0 r4 (by decide)) rfl d14_18 rfl rfl (by decide) N3_ ?_
  intro T4 L4 X4 e4 N4_
  refine t_ifN X4 u d14_21 ((if0 _ _).trans (feq (by decide : ¬ ((1 : Int32) = (0 : Int32)))).1) ?_
  refine t_iN X4 u d14_24 rfl ?_
  refine t_iN X4 u d14_25 rfl ?_
  refine t_aN X4 u d14_26 rfl rfl ?_
  refine t_gF X4 u hZ hown (wd hw 24 rfl) e4 r2 d14_27 ?_
  intro T5 X5 e5
  refine t_cS [(.int x1), v_15, (.ref w1)] [] 0 X5 u hZ hown (wd hw 102 rfl) (m_12 hw) e5 (rm_gc_0_8 l Z a0 hw [] G GG x1 w1 kk2 h0 O0 r1 r6 (Arv.pad r3 (own_tr [v_115, v_116, v_97, v_116, v_117, v_115, v_32, v_0, v_0, v_0, v_0, v_0, v_0, v_0, v_0] 1 _))) rfl d14_30 rfl rfl (by decide) ?_
  intro v6 T6 L6 Lc6 X6 hQ6 l6
  obtain ⟨rfl, Nq6, Kq6, pV6⟩ := hQ6
  have O6_ := extKeep O0 Kq6 (allS r6 all0)
  have K6 := Keep.trans (Keep.refl h0 [w1, x0]) Kq6 (allS k0 all0)
  have N6_ := frA l6 N4_ Nq6
  refine t_pop X6 u d14_33 rfl ?_
  refine t_go 34 48 X6 u rfl d14_34 (by decide) ?_
  refine t_aN X6 u d14_48 rfl rfl ?_
  refine t_iN X6 u d14_49 rfl ?_
  refine t_pF X6 u hZ hown (wd hw 57 rfl) rfl (r0.keep Kq6 (ninS r7 nin0)) (r5.keep Kq6) (Or.inl (wd hw 58 rfl)) (wd hw 7 rfl) pf_I rfl rfl d14_50 ?_
  intro T7 h7 X7 e7 W7
  have N7_ := Fr.snoc X7 N6_ r8
  have O7_ := extWr O6_ W7 r8
  have K7 := Keep.wr K6 W7 k1
  have F7 := Fld.same W7 (r0.keep Kq6 (ninS r7 nin0))
  refine t_aN X7 u d14_53 rfl rfl ?_
  have f8 := (fS W7 (r2.keep Kq6 (ninS r7 nin0)) (sn_10 hw))
  have f9 := (fS W7 (r4.keep Kq6 (ninS r7 nin0)) (sn_11 hw))
  exact Go.retA X7 hx hret rfl rfl hlk (hb hby d14_54) (by decide) (by decide) (by show Q_a14_7 ..; rw [e7]; exact ⟨rfl, N7_, K7, (pV6.other W7 (Ne.symm r7)), F7, f8, f9⟩)
def Q_a13_7 (Z : State) (x0 : Addr) (x1 : Int32) (w1 : Addr) (kk2 : ClassId) (h0 : Heap) (v : Option Value) (h : Heap) (L : List Loc) : Prop := v = some (.ref x0) ∧ Fr Z.heap.size L ∧ Keep h0 h [x0, w1] ∧ Arv Z h w1 kk2 .byte (16 : Int32) [v_115, v_116, v_97, v_116, v_117, v_115, v_32, (.int (bq x1 7)), (.int (bq x1 6)), (.int (bq x1 5)), (.int (bq x1 4)), (.int (bq x1 3)), (.int (bq x1 2)), (.int (bq x1 1)), (.int (bq x1 0))] v_0 ∧ fl_8 Z h x0 v_15 ∧ fl_6 Z h x0 (.ref w1) ∧ fl_7 Z h x0 v_0
theorem rm_a13_7 (x0 : Addr) (x1 : Int32) (w1 : Addr) (kk2 : ClassId) (h0 : Heap) (O0 : Ext Z.heap h0) (r0 : fl_8 Z h0 x0 v_7) (r1 : Dg_0_8 x1) (r2 : fl_6 Z h0 x0 (.ref w1)) (r3 : Arv Z h0 w1 kk2 .byte (16 : Int32) [v_115, v_116, v_97, v_116, v_117, v_115, v_32, v_0, v_0, v_0, v_0, v_0, v_0, v_0, v_0, v_0] v_0) (r4 : fl_7 Z h0 x0 v_0) (r5 : ex_3 Z h0 x0) (r6 : Z.heap.size ≤ w1) (r7 : x0 ≠ w1) (r8 : Z.heap.size ≤ x0) :
    MF hw GG l y_13 jdk_67_method_15_code 2 (some (.object "java/lang/StringBuilder")) ws ⟨2, 0, 0, 33⟩ h0 #[(.ref x0), (.int x1)] (Q_a13_7 Z x0 x1 w1 kk2 h0) := by
  refine own_mF #[.val (.ref x0), .val (.int x1)] (plainFor_of_name pn_13) (fun _ => rfl) ?_
  intro p e s m below meth c s₁ u hlk hret hZ hown hnm X0 e0 N0
  obtain ⟨hx, hby, hml⟩ := id u
  refine t_aN X0 u d13_0 rfl rfl ?_
  refine t_iN X0 u d13_1 rfl ?_
  refine t_cX [(.int x1)] [] 0 X0 u hZ hown (by decide) r5 (wd hw 89 rfl) (m_13 hw) e0 (rm_a14_7 l Z a0 hw [] G GG x0 x1 w1 kk2 h0 O0 r0 r1 r2 r3 r4 r5 r6 r7 r8) rfl d13_2 rfl rfl (by decide) ?_
  intro v1 T1 L1 Lc1 X1 hQ1 l1
  obtain ⟨rfl, Nq1, Kq1, p1_0, p1_1, p1_2, p1_3⟩ := hQ1
  have O1_ := extKeep O0 Kq1 (allS r6 (allS r8 all0))
  have K1 := Keep.trans (Keep.refl h0 [x0, w1]) Kq1 (allS k1 (allS k0 all0))
  have N1_ := frA l1 N0 Nq1
  refine t_pop X1 u d13_5 rfl ?_
  refine t_aN X1 u d13_6 rfl rfl ?_
  exact Go.retA X1 hx hret rfl rfl hlk (hb hby d13_7) (by decide) (by decide) ⟨rfl, N1_, K1, p1_0, p1_1, p1_2, p1_3⟩
def Q_a25_7 (Z : State) (w2 w3 w4 w5 w6 w7 w8 w9 : Int32) (h0 : Heap) (v : Option Value) (h : Heap) (L : List Loc) : Prop := ∃ (b2 : Addr) (k2 : ClassId), v = some (.ref b2) ∧ Fr Z.heap.size L ∧ Keep h0 h [] ∧ h0.size ≤ b2 ∧ ex_0 Z h b2 ∧ Arv Z h b2 k2 .byte (15 : Int32) [v_115, v_116, v_97, v_116, v_117, v_115, v_32, (.int w2), (.int w3), (.int w4), (.int w5), (.int w6), (.int w7), (.int w8), (.int w9)] v_0
theorem rm_a25_7 (x0 : Addr) (kk1 : ClassId) (w2 w3 w4 w5 w6 w7 w8 w9 : Int32) (h0 : Heap) (O0 : Ext Z.heap h0) (r0 : Arv Z h0 x0 kk1 .byte (16 : Int32) [v_115, v_116, v_97, v_116, v_117, v_115, v_32, (.int w2), (.int w3), (.int w4), (.int w5), (.int w6), (.int w7), (.int w8), (.int w9)] v_0) :
    MF hw GG l y_25 jdk_65_method_133_code 5 (some (.array .byte)) ws ⟨1, 1, 15, 18⟩ h0 #[(.ref x0), v_0, v_15] (Q_a25_7 Z w2 w3 w4 w5 w6 w7 w8 w9 h0) := by
  refine own_mF #[.val (.ref x0), .val v_0, .val v_15, .unset, .unset] (plainFor_of_name pn_25) (fun _ => rfl) ?_
  intro p e s m below meth c s₁ u hlk hret hZ hown hnm X0 e0 N0
  obtain ⟨hx, hby, hml⟩ := id u
  refine t_iN X0 u d25_0 rfl ?_
  refine t_iN X0 u d25_1 rfl ?_
  refine pt_cS [v_0, v_15] [] 0 X0 u hZ hown (wd hw 141 rfl) (m_17 hw) e0 (rm_a26_0 l Z a0 hw [] G GG (0 : Int32) (15 : Int32) h0 O0 (by decide)) rfl d25_2 rfl rfl (by decide) N0 ?_
  intro T1 L1 X1 e1 N1_
  refine t_iN X1 u d25_5 rfl ?_
  refine t_iN X1 u d25_6 rfl ?_
  refine t_isub X1 u d25_7  ?_
  refine t_isN X1 u d25_8 (l' := #[.val (.ref x0), .val v_0, .val v_15, .val v_15, .unset]) rfl ?_
  refine t_iN X1 u d25_9 rfl ?_
  refine t_nB 15 X1 u hZ (wd hw 23 rfl) e1 d25_10 (by decide) ?_
  intro T2 h2 b2 k2 X2 e2 E2 hb2 V2 B2
  have g_b2 := leE O0.1 hb2
  have O2_ := extTr O0 E2
  have sz_b2 := leE (Keep.refl h0 []).1 hb2
  have K2 := Keep.ext (Keep.refl h0 []) E2
  refine t_asL X2 u d25_12 rfl (l' := #[.val (.ref x0), .val v_0, .val v_15, .val v_15, .val (.ref b2)]) rfl ?_
  refine t_aN X2 u d25_14 rfl rfl ?_
  refine t_iN X2 u d25_15 rfl ?_
  refine t_aL X2 u d25_16 rfl rfl ?_
  refine t_iC X2 u d25_18  ?_
  refine t_aN X2 u d25_19 rfl rfl ?_
  obtain ⟨cl3, Ar3, -, S3, N3, -, -⟩ := id (r0.ext E2)
  refine Go.step (X2.arraylength hx (by rw [e2]; exact Ar3.1) (State.isArrayOf_alike hZ.alike Ar3.2.1) (g := (mkF m 20 #[.val (.ref x0), .val v_0, .val v_15, .val v_15, .val (.ref b2)] [(.ref x0), v_0, (.ref b2), v_0, (.ref x0)])) rfl rfl (hb hby d25_20)) ?_
  rw [len_of S3 N3]
  show Go _ _ _ _ _ _ _ _ T2 (mkF m 21 #[.val (.ref x0), .val v_0, .val v_15, .val v_15, .val (.ref b2)] [v_16, v_0, (.ref b2), v_0, (.ref x0)])
  refine t_iN X2 u d25_21 rfl ?_
  refine t_isub X2 u d25_22  ?_
  refine t_iN X2 u d25_23 rfl ?_
  refine pt_cS [v_16, v_15] [v_0, (.ref b2), v_0, (.ref x0)] 4 X2 u hZ hown (wd hw 144 rfl) (m_18 hw) e2 (rm_a27_0 l Z a0 hw [] G GG (16 : Int32) (15 : Int32) h2 O2_ (by decide)) rfl d25_24 rfl rfl (by decide) N1_ ?_
  intro T4 L4 X4 e4 N4_
  obtain ⟨T5, h5, L5, X5, e5, N5_, K5_, V5_, st5⟩ := cpA X4 hx hZ hown (wd hw 148 rfl) (wd hw 83 rfl) (wd hw 81 rfl) (wd hw 82 rfl) e4 (us := [v_115, v_116, v_97, v_116, v_117, v_115, v_32, (.int w2), (.int w3), (.int w4), (.int w5), (.int w6), (.int w7), (.int w8), (.int w9)]) (r0.ext E2) V2 (Or.inl ⟨rfl, rfl⟩) (by decide) (by decide) (by decide) (by decide) (by decide) rfl (by decide) N4_ g_b2 (g := (mkF m 27 #[.val (.ref x0), .val v_0, .val v_15, .val v_15, .val (.ref b2)] [v_15, v_0, (.ref b2), v_0, (.ref x0)])) rfl (by rw [hml]; rfl) rfl (hb hby d25_27) (by decide) (W := 0) (by show 2 * 0 + _ ≤ _; exact Nat.le_of_eq rfl) (by decide)
  refine Go.step st5 ?_
  have V5 : Arv Z h5 b2 k2 .byte (15 : Int32) [v_115, v_116, v_97, v_116, v_117, v_115, v_32, (.int w2), (.int w3), (.int w4), (.int w5), (.int w6), (.int w7), (.int w8), (.int w9)] v_0 := V5_
  have O5_ : Ext Z.heap h5 := extKeep O2_ K5_ (allS g_b2 all0)
  have K5 := Keep.trans K2 K5_ (allS (Or.inr sz_b2) all0)
  refine t_aL X5 u d25_30 rfl rfl ?_
  exact Go.retA X5 hx hret rfl rfl hlk (hb hby d25_32) (by decide) (by decide) (by show Q_a25_7 ..; rw [e5]; exact ⟨b2, k2, rfl, N5_, K5, sz_b2, (B2.keep K5_), V5⟩)
def Q_a24_7 (Z : State) (w2 w3 w4 w5 w6 w7 w8 w9 : Int32) (h0 : Heap) (v : Option Value) (h : Heap) (L : List Loc) : Prop := ∃ (b2q2 : Addr) (k2q2 : ClassId), v = some (.ref b2q2) ∧ Fr Z.heap.size L ∧ Keep h0 h [] ∧ h0.size ≤ b2q2 ∧ ex_0 Z h b2q2 ∧ Arv Z h b2q2 k2q2 .byte (15 : Int32) [v_115, v_116, v_97, v_116, v_117, v_115, v_32, (.int w2), (.int w3), (.int w4), (.int w5), (.int w6), (.int w7), (.int w8), (.int w9)] v_0
theorem rm_a24_7 (x0 : Addr) (kk1 : ClassId) (w2 w3 w4 w5 w6 w7 w8 w9 : Int32) (h0 : Heap) (O0 : Ext Z.heap h0) (r0 : Arv Z h0 x0 kk1 .byte (16 : Int32) [v_115, v_116, v_97, v_116, v_117, v_115, v_32, (.int w2), (.int w3), (.int w4), (.int w5), (.int w6), (.int w7), (.int w8), (.int w9)] v_0) :
    MF hw GG l y_24 jdk_65_method_132_code 3 (some (.array .byte)) ws ⟨2, 1, 15, 34⟩ h0 #[(.ref x0), v_0, v_15] (Q_a24_7 Z w2 w3 w4 w5 w6 w7 w8 w9 h0) := by
  refine own_mF #[.val (.ref x0), .val v_0, .val v_15] (plainFor_of_name pn_24) (fun _ => rfl) ?_
  intro p e s m below meth c s₁ u hlk hret hZ hown hnm X0 e0 N0
  obtain ⟨hx, hby, hml⟩ := id u
  refine t_iN X0 u d24_0 rfl ?_
  refine t_ifN X0 u d24_1 ((if0 _ _).trans (teq (by decide : (0 : Int32) = (0 : Int32))).2) ?_
  refine t_iN X0 u d24_4 rfl ?_
  refine t_aN X0 u d24_5 rfl rfl ?_
  obtain ⟨cl1, Ar1, -, S1, N1, -, -⟩ := id r0
  refine Go.step (X0.arraylength hx (by rw [e0]; exact Ar1.1) (State.isArrayOf_alike hZ.alike Ar1.2.1) (g := (mkF m 6 #[.val (.ref x0), .val v_0, .val v_15] [(.ref x0), v_15])) rfl rfl (hb hby d24_6)) ?_
  rw [len_of S1 N1]
  show Go _ _ _ _ _ _ _ _ s₁ (mkF m 7 #[.val (.ref x0), .val v_0, .val v_15] [v_16, v_15])
  refine t_icN X0 u d24_7 (feq (by decide : ¬ ((15 : Int32) = (16 : Int32)))).1 ?_
  refine t_aN X0 u d24_10 rfl rfl ?_
  refine t_iN X0 u d24_11 rfl ?_
  refine t_iN X0 u d24_12 rfl ?_
  refine t_cS [(.ref x0), v_0, v_15] [] 0 X0 u hZ hown (wd hw 138 rfl) (m_19 hw) e0 (rm_a25_7 l Z a0 hw [] G GG x0 kk1 w2 w3 w4 w5 w6 w7 w8 w9 h0 O0 r0) rfl d24_13 rfl rfl (by decide) ?_
  intro v2 T2 L2 Lc2 X2 hQ2 l2
  obtain ⟨b2q2, k2q2, rfl, Nq2, Kq2, p2_0, p2_1, p2_2⟩ := hQ2
  have O2_ := extKeep O0 Kq2 all0
  have K2 := Keep.trans (Keep.refl h0 []) Kq2 all0
  have N2_ := frA l2 N0 Nq2
  have g_b2q2 := Nat.le_trans O0.1 p2_0
  have sz_b2q2 := Nat.le_trans (Keep.refl h0 []).1 p2_0
  exact Go.retA X2 hx hret rfl rfl hlk (hb hby d24_16) (by decide) (by decide) ⟨b2q2, k2q2, rfl, N2_, K2, sz_b2q2, p2_1, p2_2⟩
def Q_a20_7 (Z : State) (x0 : Addr) (w3 w4 w5 w6 w7 w8 w9 w10 : Int32) (h0 : Heap) (v : Option Value) (h : Heap) (L : List Loc) : Prop := ∃ (b2q2q6 : Addr) (k2q2q6 : ClassId), v = none ∧ Fr Z.heap.size L ∧ Keep h0 h [x0] ∧ fl_4 Z h x0 v_0 ∧ fl_5 Z h x0 (.ref b2q2q6) ∧ h0.size ≤ b2q2q6 ∧ ex_0 Z h b2q2q6 ∧ Arv Z h b2q2q6 k2q2q6 .byte (15 : Int32) [v_115, v_116, v_97, v_116, v_117, v_115, v_32, (.int w3), (.int w4), (.int w5), (.int w6), (.int w7), (.int w8), (.int w9), (.int w10)] v_0
theorem rm_a20_7 (x0 x1 w1 : Addr) (kk2 : ClassId) (w3 w4 w5 w6 w7 w8 w9 w10 : Int32) (h0 : Heap) (O0 : Ext Z.heap h0) (r0 : ex_3 Z h0 x1) (r1 : fl_6 Z h0 x1 (.ref w1)) (r2 : fl_8 Z h0 x1 v_15) (r3 : fl_7 Z h0 x1 v_0) (r4 : ex_2 Z h0 x0) (r5 : fl_4 Z h0 x0 v_0) (r6 : Z.heap.size ≤ x0) (r7 : Arv Z h0 w1 kk2 .byte (16 : Int32) [v_115, v_116, v_97, v_116, v_117, v_115, v_32, (.int w3), (.int w4), (.int w5), (.int w6), (.int w7), (.int w8), (.int w9), (.int w10)] v_0) (r8 : w1 ≠ x0) (r9 : fl_5 Z h0 x0 .null) :
    MF hw GG l y_20 jdk_42_method_150_code 5 none ws ⟨3, 1, 15, 49⟩ h0 #[(.ref x0), (.ref x1), .null] (Q_a20_7 Z x0 w3 w4 w5 w6 w7 w8 w9 w10 h0) := by
  refine own_mF #[.val (.ref x0), .val (.ref x1), .val .null, .unset, .unset] (plainFor_of_name pn_20) (fun _ => rfl) ?_
  intro p e s m below meth c s₁ u hlk hret hZ hown hnm X0 e0 N0
  obtain ⟨hx, hby, hml⟩ := id u
  refine t_aN X0 u d20_0 rfl rfl ?_
  refine t_in 0 X0 u hZ hown (wd hw 119 rfl) (wd hw 19 rfl) (wd hw 20 rfl) e0 rfl d20_1 rfl (by decide) ?_
  intro T1 X1 e1
  refine t_aN X1 u d20_4 rfl rfl ?_
  refine pt_cV [] [] 0 X1 u hZ hown (wd hw 120 rfl) (m_15 hw) e1 r0 (rm_a21_0 l Z a0 hw [] G GG x1 w1 h0 O0 r1) rfl d20_5 rfl rfl (by decide) N0 ?_
  intro T2 L2 X2 e2 N2_
  refine t_asN X2 u d20_8 rfl (l' := #[.val (.ref x0), .val (.ref x1), .val .null, .val (.ref w1), .unset]) rfl ?_
  refine t_aN X2 u d20_9 rfl rfl ?_
  obtain ⟨cq3, kq3, q3a, q3b, q3c⟩ := isOf hZ e2 r0
  obtain ⟨_, _, ⟨T3, L3, k3, n3⟩, -, X3, ⟨Lc3, hQ3, l3, y3, z3⟩, st3⟩ := X2.virtualBack hx (y := (⟨"java/lang/AbstractStringBuilder", "length", "()I"⟩ : MethodName)) (z := (⟨"java/lang/StringBuilder", "length", "()I"⟩ : MethodName)) hown (mvT hZ (wd hw 125 rfl)) (mvT hZ (wd hw 126 rfl)) (own_nf (mvT hZ (wd hw 62 rfl)) rfl) (mvT hZ (wd hw 128 rfl)) (mvT hZ (wd hw 129 rfl)) (by decide) (backOf (W := 0) (rm_a22_0 l Z a0 hw [] G GG x1 (15 : Int32) h0 O0 r2 r0) hZ (wd hw 130 rfl) (wd hw 8 rfl) (by decide) (by decide)) q3a q3c (g := (mkF m 10 #[.val (.ref x0), .val (.ref x1), .val .null, .val (.ref w1), .unset] [(.ref x1)])) rfl (by rw [hml]; rfl) (Steps.refl _) (argsL := []) (rest := []) (lenOf pd_LRI rfl) rfl (by show 2 * 0 + _ ≤ _; exact Nat.le_of_eq rfl) (hb hby d20_10) (fun _ _ => ⟨rfl, e2, (by decide : 0 + 0 ≤ _), (by decide : 0 + 0 ≤ _)⟩)
  dsimp only [Pt.U, Pt.locs, Pt.cells, Pt.slots] at X3 l3 y3 z3 st3 hQ3
  subst y3 z3
  obtain ⟨rfl, Nq3, e3⟩ := hQ3
  have N3_ := frA l3 N2_ Nq3
  refine Go.trans st3 ?_
  refine t_isL X3 u d20_13 (l' := #[.val (.ref x0), .val (.ref x1), .val .null, .val (.ref w1), .val v_15]) rfl ?_
  refine t_aN X3 u d20_15 rfl rfl ?_
  refine pt_cV [] [] 0 X3 u hZ hown (wd hw 133 rfl) (m_11 hw) e3 r0 (rm_a16_0 l Z a0 hw [] G GG x1 (0 : Int32) h0 O0 r3 (by decide)) rfl d20_16 rfl rfl (by decide) N3_ ?_
  intro T4 L4 X4 e4 N4_
  refine t_ifN X4 u d20_19 ((if0 _ _).trans (feq (by decide : ¬ ((1 : Int32) = (0 : Int32)))).1) ?_
  refine t_aN X4 u d20_22 rfl rfl ?_
  refine t_iC X4 u d20_23  ?_
  refine t_pN X4 u hZ hown (wd hw 56 rfl) e4 r5 r4 (Or.inr ⟨(wd hw 31 rfl), rfl, hnm⟩) (wd hw 29 rfl) v_0 pf_B rfl rfl d20_24 ?_
  intro T5 h5 X5 e5 W5
  have N5_ := Fr.snoc X5 N4_ r6
  have O5_ := extWr O0 W5 r6
  have K5 := Keep.wr (Keep.refl h0 [x0]) W5 k0
  have F5 := Fld.same W5 r5
  refine t_aN X5 u d20_27 rfl rfl ?_
  refine t_aN X5 u d20_28 rfl rfl ?_
  refine t_iC X5 u d20_29  ?_
  refine t_iL X5 u d20_30 rfl ?_
  refine t_cS [(.ref w1), v_0, v_15] [(.ref x0)] 1 X5 u hZ hown (wd hw 134 rfl) (m_20 hw) e5 (rm_a24_7 l Z a0 hw [] G GG w1 kk2 w3 w4 w5 w6 w7 w8 w9 w10 h5 O5_ (r7.other W5 r8)) rfl d20_32 rfl rfl (by decide) ?_
  intro v6 T6 L6 Lc6 X6 hQ6 l6
  obtain ⟨b2q2q6, k2q2q6, rfl, Nq6, Kq6, p6_0, p6_1, p6_2⟩ := hQ6
  have O6_ := extKeep O5_ Kq6 all0
  have K6 := Keep.trans K5 Kq6 all0
  have N6_ := frA l6 N5_ Nq6
  have g_b2q2q6 := Nat.le_trans O5_.1 p6_0
  have sz_b2q2q6 := Nat.le_trans K5.1 p6_0
  refine t_pF X6 u hZ hown (wd hw 49 rfl) rfl ((fR W5 r9 (sn_12 hw)).keep Kq6 nin0) ((Exa.wr W5 r4).keep Kq6) (Or.inr ⟨(wd hw 30 rfl), rfl, hnm⟩) (wd hw 29 rfl) pf_AB rfl rfl d20_35 ?_
  intro T7 h7 X7 e7 W7
  have N7_ := Fr.snoc X7 N6_ r6
  have O7_ := extWr O6_ W7 r6
  have K7 := Keep.wr K6 W7 k0
  have F7 := Fld.same W7 ((fR W5 r9 (sn_12 hw)).keep Kq6 nin0)
  refine t_go 38 97 X7 u rfl d20_38 (by decide) ?_
  have f8 := (p6_2.other W7 (Ne.symm (neL (Exa.wr W5 r4).lt p6_0)))
  exact Go.retV X7 hx hret hlk (hb hby d20_97) (by decide) (by decide) (by show Q_a20_7 ..; rw [e7]; exact ⟨b2q2q6, k2q2q6, rfl, N7_, K7, (fS W7 (F5.keep Kq6 nin0) (sn_12 hw)), F7, sz_b2q2q6, (Exa.wr W7 p6_1), f8⟩)
def Q_a19_7 (Z : State) (x0 : Addr) (w3 w4 w5 w6 w7 w8 w9 w10 : Int32) (h0 : Heap) (v : Option Value) (h : Heap) (L : List Loc) : Prop := ∃ (b2q2q6q1 : Addr) (k2q2q6q1 : ClassId), v = none ∧ Fr Z.heap.size L ∧ Keep h0 h [x0] ∧ fl_4 Z h x0 v_0 ∧ fl_5 Z h x0 (.ref b2q2q6q1) ∧ h0.size ≤ b2q2q6q1 ∧ ex_0 Z h b2q2q6q1 ∧ Arv Z h b2q2q6q1 k2q2q6q1 .byte (15 : Int32) [v_115, v_116, v_97, v_116, v_117, v_115, v_32, (.int w3), (.int w4), (.int w5), (.int w6), (.int w7), (.int w8), (.int w9), (.int w10)] v_0
theorem rm_a19_7 (x0 x1 w1 : Addr) (kk2 : ClassId) (w3 w4 w5 w6 w7 w8 w9 w10 : Int32) (h0 : Heap) (O0 : Ext Z.heap h0) (r0 : ex_3 Z h0 x1) (r1 : fl_6 Z h0 x1 (.ref w1)) (r2 : fl_8 Z h0 x1 v_15) (r3 : fl_7 Z h0 x1 v_0) (r4 : ex_2 Z h0 x0) (r5 : fl_4 Z h0 x0 v_0) (r6 : Z.heap.size ≤ x0) (r7 : Arv Z h0 w1 kk2 .byte (16 : Int32) [v_115, v_116, v_97, v_116, v_117, v_115, v_32, (.int w3), (.int w4), (.int w5), (.int w6), (.int w7), (.int w8), (.int w9), (.int w10)] v_0) (r8 : w1 ≠ x0) (r9 : fl_5 Z h0 x0 .null) :
    MF hw GG l y_19 jdk_42_method_53_code 2 none ws ⟨4, 1, 15, 65⟩ h0 #[(.ref x0), (.ref x1)] (Q_a19_7 Z x0 w3 w4 w5 w6 w7 w8 w9 w10 h0) := by
  refine own_mF #[.val (.ref x0), .val (.ref x1)] (plainFor_of_name pn_19) (fun _ => rfl) ?_
  intro p e s m below meth c s₁ u hlk hret hZ hown hnm X0 e0 N0
  obtain ⟨hx, hby, hml⟩ := id u
  refine t_aN X0 u d19_0 rfl rfl ?_
  refine t_aN X0 u d19_1 rfl rfl ?_
  refine t_nl X0 u d19_2  ?_
  refine t_cN [(.ref x1), .null] [] 0 X0 u hZ hown rfl (wd hw 116 rfl) (m_21 hw) e0 (rm_a20_7 l Z a0 hw [] G GG x0 x1 w1 kk2 w3 w4 w5 w6 w7 w8 w9 w10 h0 O0 r0 r1 r2 r3 r4 r5 r6 r7 r8 r9) rfl d19_3 rfl rfl (by decide) ?_
  intro v1 T1 L1 Lc1 X1 hQ1 l1
  obtain ⟨b2q2q6q1, k2q2q6q1, rfl, Nq1, Kq1, p1_0, p1_1, p1_2, p1_3, p1_4⟩ := hQ1
  have O1_ := extKeep O0 Kq1 (allS r6 all0)
  have K1 := Keep.trans (Keep.refl h0 [x0]) Kq1 (allS k0 all0)
  have N1_ := frA l1 N0 Nq1
  have g_b2q2q6q1 := Nat.le_trans O0.1 p1_2
  have sz_b2q2q6q1 := Nat.le_trans (Keep.refl h0 [x0]).1 p1_2
  exact Go.retV X1 hx hret hlk (hb hby d19_6) (by decide) (by decide) ⟨b2q2q6q1, k2q2q6q1, rfl, N1_, K1, p1_0, p1_1, sz_b2q2q6q1, p1_3, p1_4⟩
def Q_a18_7 (Z : State) (w3 w4 w5 w6 w7 w8 w9 w10 : Int32) (h0 : Heap) (v : Option Value) (h : Heap) (L : List Loc) : Prop := ∃ (b1 : Addr) (b2q2q6q1q2 : Addr) (k2q2q6q1q2 : ClassId), v = some (.ref b1) ∧ Fr Z.heap.size L ∧ Keep h0 h [] ∧ h0.size ≤ b1 ∧ ex_2 Z h b1 ∧ fl_4 Z h b1 v_0 ∧ fl_5 Z h b1 (.ref b2q2q6q1q2) ∧ h0.size ≤ b2q2q6q1q2 ∧ ex_0 Z h b2q2q6q1q2 ∧ Arv Z h b2q2q6q1q2 k2q2q6q1q2 .byte (15 : Int32) [v_115, v_116, v_97, v_116, v_117, v_115, v_32, (.int w3), (.int w4), (.int w5), (.int w6), (.int w7), (.int w8), (.int w9), (.int w10)] v_0 ∧ b1 ≠ b2q2q6q1q2
theorem rm_a18_7 (x0 w1 : Addr) (kk2 : ClassId) (w3 w4 w5 w6 w7 w8 w9 w10 : Int32) (h0 : Heap) (O0 : Ext Z.heap h0) (r0 : ex_3 Z h0 x0) (r1 : fl_6 Z h0 x0 (.ref w1)) (r2 : fl_8 Z h0 x0 v_15) (r3 : fl_7 Z h0 x0 v_0) (r4 : Arv Z h0 w1 kk2 .byte (16 : Int32) [v_115, v_116, v_97, v_116, v_117, v_115, v_32, (.int w3), (.int w4), (.int w5), (.int w6), (.int w7), (.int w8), (.int w9), (.int w10)] v_0) :
    MF hw GG l y_18 jdk_67_method_42_code 1 (some (.object "java/lang/String")) ws ⟨5, 2, 19, 79⟩ h0 #[(.ref x0)] (Q_a18_7 Z w3 w4 w5 w6 w7 w8 w9 w10 h0) := by
  refine own_mF #[.val (.ref x0)] (plainFor_of_name pn_18) (fun _ => rfl) ?_
  intro p e s m below meth c s₁ u hlk hret hZ hown hnm X0 e0 N0
  obtain ⟨hx, hby, hml⟩ := id u
  refine t_new X0 u hZ hown (wd hw 111 rfl) (wd hw 29 rfl) (wd hw 22 rfl) e0 d18_0 (by decide) ?_
  intro T1 h1 b1 X1 e1 E1 hb1 A1 D1
  have g_b1 := leE O0.1 hb1
  have O1_ := extTr O0 E1
  have sz_b1 := leE (Keep.refl h0 []).1 hb1
  have K1 := Keep.ext (Keep.refl h0 []) E1
  have F1_value : fl_5 Z h1 b1 .null := D1 (Or.inr (wd hw 30 rfl)) (ty := (.array .byte)) pf_AB
  have F1_coder : fl_4 Z h1 b1 v_0 := D1 (Or.inr (wd hw 31 rfl)) (ty := .byte) pf_B
  refine t_dup X1 u d18_3 rfl ?_
  refine t_aN X1 u d18_4 rfl rfl ?_
  refine t_cN [(.ref x0)] [(.ref b1)] 1 X1 u hZ hown rfl (wd hw 112 rfl) (m_22 hw) e1 (rm_a19_7 l Z a0 hw [] G GG b1 x0 w1 kk2 w3 w4 w5 w6 w7 w8 w9 w10 h1 O1_ (Exa.ext E1 r0) (Fld.ext E1 r1) (Fld.ext E1 r2) (Fld.ext E1 r3) A1 F1_coder g_b1 (r4.ext E1) (neE r4.lt hb1) F1_value) rfl d18_5 rfl rfl (by decide) ?_
  intro v2 T2 L2 Lc2 X2 hQ2 l2
  obtain ⟨b2q2q6q1q2, k2q2q6q1q2, rfl, Nq2, Kq2, p2_0, p2_1, p2_2, p2_3, p2_4⟩ := hQ2
  have O2_ := extKeep O1_ Kq2 (allS g_b1 all0)
  have K2 := Keep.trans K1 Kq2 (allS (Or.inr sz_b1) all0)
  have N2_ := frA l2 N0 Nq2
  have g_b2q2q6q1q2 := Nat.le_trans O1_.1 p2_2
  have sz_b2q2q6q1q2 := Nat.le_trans K1.1 p2_2
  exact Go.retA X2 hx hret rfl rfl hlk (hb hby d18_8) (by decide) (by decide) ⟨b1, b2q2q6q1q2, k2q2q6q1q2, rfl, N2_, K2, sz_b1, (A1.keep Kq2), p2_0, p2_1, sz_b2q2q6q1q2, p2_3, p2_4, (neL A1.lt p2_2)⟩
def Q_a14_8 (Z : State) (x0 : Addr) (x1 : Int32) (w1 : Addr) (kk2 : ClassId) (h0 : Heap) (v : Option Value) (h : Heap) (L : List Loc) : Prop := v = some (.ref x0) ∧ Fr Z.heap.size L ∧ Keep h0 h [w1, x0] ∧ Arv Z h w1 kk2 .byte (16 : Int32) [v_115, v_116, v_97, v_116, v_117, v_115, v_32, (.int (bq x1 8)), (.int (bq x1 7)), (.int (bq x1 6)), (.int (bq x1 5)), (.int (bq x1 4)), (.int (bq x1 3)), (.int (bq x1 2)), (.int (bq x1 1)), (.int (bq x1 0))] v_0 ∧ fl_8 Z h x0 v_16 ∧ fl_6 Z h x0 (.ref w1) ∧ fl_7 Z h x0 v_0
theorem rm_a14_8 (x0 : Addr) (x1 : Int32) (w1 : Addr) (kk2 : ClassId) (h0 : Heap) (O0 : Ext Z.heap h0) (r0 : fl_8 Z h0 x0 v_7) (r1 : Dg_0_9 x1) (r2 : fl_6 Z h0 x0 (.ref w1)) (r3 : Arv Z h0 w1 kk2 .byte (16 : Int32) [v_115, v_116, v_97, v_116, v_117, v_115, v_32, v_0, v_0, v_0, v_0, v_0, v_0, v_0, v_0, v_0] v_0) (r4 : fl_7 Z h0 x0 v_0) (r5 : ex_3 Z h0 x0) (r6 : Z.heap.size ≤ w1) (r7 : x0 ≠ w1) (r8 : Z.heap.size ≤ x0) :
    MF hw GG l y_14 jdk_68_method_32_code 4 (some (.object "java/lang/AbstractStringBuilder")) ws ⟨1, 0, 0, 18⟩ h0 #[(.ref x0), (.int x1)] (Q_a14_8 Z x0 x1 w1 kk2 h0) := by
  refine own_mF #[.val (.ref x0), .val (.int x1), .unset, .unset] (plainFor_of_name pn_14) (fun _ => rfl) ?_
  intro p e s m below meth c s₁ u hlk hret hZ hown hnm X0 e0 N0
  obtain ⟨hx, hby, hml⟩ := id u
  refine t_aN X0 u d14_0 rfl rfl ?_
  refine t_gF X0 u hZ hown (wd hw 57 rfl) e0 r0 d14_1 ?_
  intro T1 X1 e1
  refine t_isN X1 u d14_4 (l' := #[.val (.ref x0), .val (.int x1), .val v_7, .unset]) rfl ?_
  refine t_iN X1 u d14_5 rfl ?_
  refine t_iN X1 u d14_6 rfl ?_
  refine pt_cS [(.int x1)] [v_7] 1 X1 u hZ hown (wd hw 93 rfl) (m_10 hw) e1 (rm_ss_0_9 l Z a0 hw [] G GG x1 h0 O0 r1) rfl d14_7 rfl rfl (by decide) N0 ?_
  intro T2 L2 X2 e2 N2_
  refine t_iadd X2 u d14_10  ?_
  refine t_isN X2 u d14_11 (l' := #[.val (.ref x0), .val (.int x1), .val v_7, .val v_16]) rfl ?_
  refine t_aN X2 u d14_12 rfl rfl ?_
  refine t_iN X2 u d14_13 rfl ?_
  refine pt_cP [v_16] [] 0 X2 u hZ hown r5 (wd hw 59 rfl) (m_4 hw) e2 (rm_a9_0 l Z a0 hw [] G GG x0 (16 : Int32) w1 kk2 (115 : Int32) (116 : Int32) (97 : Int32) (116 : Int32) (117 : Int32) (115 : Int32) (32 : Int32) (0 : Int32) (0 : Int32) (0 : Int32) (0 : Int32) (0 : Int32) (0 : Int32) (0 : Int32) (0 : Int32) (0 : Int32) (0 : Int32) h0 O0 r2 r3 r4 (by decide)) rfl d14_14 rfl rfl (by decide) N2_ ?_
  intro T3 L3 X3 e3 N3_
  refine t_aN X3 u d14_17 rfl rfl ?_
  refine pt_cV [] [] 0 X3 u hZ hown (wd hw 97 rfl) (m_11 hw) e3 r5 (rm_a16_0 l Z a0 hw [] G GG x0 (0 : Int32) h0 O0 r4 (by decide)) rfl d14_18 rfl rfl (by decide) N3_ ?_
  intro T4 L4 X4 e4 N4_
  refine t_ifN X4 u d14_21 ((if0 _ _).trans (feq (by decide : ¬ ((1 : Int32) = (0 : Int32)))).1) ?_
  refine t_iN X4 u d14_24 rfl ?_
  refine t_iN X4 u d14_25 rfl ?_
  refine t_aN X4 u d14_26 rfl rfl ?_
  refine t_gF X4 u hZ hown (wd hw 24 rfl) e4 r2 d14_27 ?_
  intro T5 X5 e5
  refine t_cS [(.int x1), v_16, (.ref w1)] [] 0 X5 u hZ hown (wd hw 102 rfl) (m_12 hw) e5 (rm_gc_0_9 l Z a0 hw [] G GG x1 w1 kk2 h0 O0 r1 r6 r3) rfl d14_30 rfl rfl (by decide) ?_
  intro v6 T6 L6 Lc6 X6 hQ6 l6
  obtain ⟨rfl, Nq6, Kq6, pV6⟩ := hQ6
  have O6_ := extKeep O0 Kq6 (allS r6 all0)
  have K6 := Keep.trans (Keep.refl h0 [w1, x0]) Kq6 (allS k0 all0)
  have N6_ := frA l6 N4_ Nq6
  refine t_pop X6 u d14_33 rfl ?_
  refine t_go 34 48 X6 u rfl d14_34 (by decide) ?_
  refine t_aN X6 u d14_48 rfl rfl ?_
  refine t_iN X6 u d14_49 rfl ?_
  refine t_pF X6 u hZ hown (wd hw 57 rfl) rfl (r0.keep Kq6 (ninS r7 nin0)) (r5.keep Kq6) (Or.inl (wd hw 58 rfl)) (wd hw 7 rfl) pf_I rfl rfl d14_50 ?_
  intro T7 h7 X7 e7 W7
  have N7_ := Fr.snoc X7 N6_ r8
  have O7_ := extWr O6_ W7 r8
  have K7 := Keep.wr K6 W7 k1
  have F7 := Fld.same W7 (r0.keep Kq6 (ninS r7 nin0))
  refine t_aN X7 u d14_53 rfl rfl ?_
  have f8 := (fS W7 (r2.keep Kq6 (ninS r7 nin0)) (sn_10 hw))
  have f9 := (fS W7 (r4.keep Kq6 (ninS r7 nin0)) (sn_11 hw))
  exact Go.retA X7 hx hret rfl rfl hlk (hb hby d14_54) (by decide) (by decide) (by show Q_a14_8 ..; rw [e7]; exact ⟨rfl, N7_, K7, (pV6.other W7 (Ne.symm r7)), F7, f8, f9⟩)
def Q_a13_8 (Z : State) (x0 : Addr) (x1 : Int32) (w1 : Addr) (kk2 : ClassId) (h0 : Heap) (v : Option Value) (h : Heap) (L : List Loc) : Prop := v = some (.ref x0) ∧ Fr Z.heap.size L ∧ Keep h0 h [x0, w1] ∧ Arv Z h w1 kk2 .byte (16 : Int32) [v_115, v_116, v_97, v_116, v_117, v_115, v_32, (.int (bq x1 8)), (.int (bq x1 7)), (.int (bq x1 6)), (.int (bq x1 5)), (.int (bq x1 4)), (.int (bq x1 3)), (.int (bq x1 2)), (.int (bq x1 1)), (.int (bq x1 0))] v_0 ∧ fl_8 Z h x0 v_16 ∧ fl_6 Z h x0 (.ref w1) ∧ fl_7 Z h x0 v_0
theorem rm_a13_8 (x0 : Addr) (x1 : Int32) (w1 : Addr) (kk2 : ClassId) (h0 : Heap) (O0 : Ext Z.heap h0) (r0 : fl_8 Z h0 x0 v_7) (r1 : Dg_0_9 x1) (r2 : fl_6 Z h0 x0 (.ref w1)) (r3 : Arv Z h0 w1 kk2 .byte (16 : Int32) [v_115, v_116, v_97, v_116, v_117, v_115, v_32, v_0, v_0, v_0, v_0, v_0, v_0, v_0, v_0, v_0] v_0) (r4 : fl_7 Z h0 x0 v_0) (r5 : ex_3 Z h0 x0) (r6 : Z.heap.size ≤ w1) (r7 : x0 ≠ w1) (r8 : Z.heap.size ≤ x0) :
    MF hw GG l y_13 jdk_67_method_15_code 2 (some (.object "java/lang/StringBuilder")) ws ⟨2, 0, 0, 33⟩ h0 #[(.ref x0), (.int x1)] (Q_a13_8 Z x0 x1 w1 kk2 h0) := by
  refine own_mF #[.val (.ref x0), .val (.int x1)] (plainFor_of_name pn_13) (fun _ => rfl) ?_
  intro p e s m below meth c s₁ u hlk hret hZ hown hnm X0 e0 N0
  obtain ⟨hx, hby, hml⟩ := id u
  refine t_aN X0 u d13_0 rfl rfl ?_
  refine t_iN X0 u d13_1 rfl ?_
  refine t_cX [(.int x1)] [] 0 X0 u hZ hown (by decide) r5 (wd hw 89 rfl) (m_13 hw) e0 (rm_a14_8 l Z a0 hw [] G GG x0 x1 w1 kk2 h0 O0 r0 r1 r2 r3 r4 r5 r6 r7 r8) rfl d13_2 rfl rfl (by decide) ?_
  intro v1 T1 L1 Lc1 X1 hQ1 l1
  obtain ⟨rfl, Nq1, Kq1, p1_0, p1_1, p1_2, p1_3⟩ := hQ1
  have O1_ := extKeep O0 Kq1 (allS r6 (allS r8 all0))
  have K1 := Keep.trans (Keep.refl h0 [x0, w1]) Kq1 (allS k1 (allS k0 all0))
  have N1_ := frA l1 N0 Nq1
  refine t_pop X1 u d13_5 rfl ?_
  refine t_aN X1 u d13_6 rfl rfl ?_
  exact Go.retA X1 hx hret rfl rfl hlk (hb hby d13_7) (by decide) (by decide) ⟨rfl, N1_, K1, p1_0, p1_1, p1_2, p1_3⟩
def Q_a24_8 (Z : State) (kk1 : ClassId) (w2 w3 w4 w5 w6 w7 w8 w9 w10 w11 w12 w13 w14 w15 w16 w17 : Int32) (h0 : Heap) (v : Option Value) (h : Heap) (L : List Loc) : Prop := ∃ (b2 : Addr) (kk1 : ClassId), v = some (.ref b2) ∧ Fr Z.heap.size L ∧ Keep h0 h [] ∧ h0.size ≤ b2 ∧ ex_0 Z h b2 ∧ Arv Z h b2 kk1 .byte (16 : Int32) [(.int w2), (.int w3), (.int w4), (.int w5), (.int w6), (.int w7), (.int w8), (.int w9), (.int w10), (.int w11), (.int w12), (.int w13), (.int w14), (.int w15), (.int w16), (.int w17)] v_0
theorem rm_a24_8 (x0 : Addr) (x1 x2 : Int32) (kk1 : ClassId) (w2 w3 w4 w5 w6 w7 w8 w9 w10 w11 w12 w13 w14 w15 w16 w17 : Int32) (h0 : Heap) (O0 : Ext Z.heap h0) (r0 : x1 = (0 : Int32)) (r1 : Arv Z h0 x0 kk1 .byte (16 : Int32) [(.int w2), (.int w3), (.int w4), (.int w5), (.int w6), (.int w7), (.int w8), (.int w9), (.int w10), (.int w11), (.int w12), (.int w13), (.int w14), (.int w15), (.int w16), (.int w17)] v_0) (r2 : x2 = (16 : Int32)) (r3 : ex_0 Z h0 x0) :
    MF hw GG l y_24 jdk_65_method_132_code 3 (some (.array .byte)) ws ⟨1, 1, 16, 14⟩ h0 #[(.ref x0), (.int x1), (.int x2)] (Q_a24_8 Z kk1 w2 w3 w4 w5 w6 w7 w8 w9 w10 w11 w12 w13 w14 w15 w16 w17 h0) := by
  refine own_mF #[.val (.ref x0), .val (.int x1), .val (.int x2)] (plainFor_of_name pn_24) (fun _ => rfl) ?_
  intro p e s m below meth c s₁ u hlk hret hZ hown hnm X0 e0 N0
  obtain ⟨hx, hby, hml⟩ := id u
  refine t_iN X0 u d24_0 rfl ?_
  refine t_ifN X0 u d24_1 ((if0 _ _).trans (teq r0).2) ?_
  refine t_iN X0 u d24_4 rfl ?_
  refine t_aN X0 u d24_5 rfl rfl ?_
  obtain ⟨cl1, Ar1, -, S1, N1, -, -⟩ := id r1
  refine Go.step (X0.arraylength hx (by rw [e0]; exact Ar1.1) (State.isArrayOf_alike hZ.alike Ar1.2.1) (g := (mkF m 6 #[.val (.ref x0), .val (.int x1), .val (.int x2)] [(.ref x0), (.int x2)])) rfl rfl (hb hby d24_6)) ?_
  rw [len_of S1 N1]
  show Go _ _ _ _ _ _ _ _ s₁ (mkF m 7 #[.val (.ref x0), .val (.int x1), .val (.int x2)] [v_16, (.int x2)])
  refine t_icY 7 17 X0 u rfl d24_7 (teq r2).1 (by decide) ?_
  refine t_aN X0 u d24_17 rfl rfl ?_
  refine t_cl 0 16 X0 u hZ hown (wd hw 266 rfl) (wd hw 267 rfl) (wd hw 271 rfl) (wd hw 269 rfl) (wd hw 270 rfl) (wd hw 272 rfl) e0 r1 r3 rfl d24_18 rfl (by decide) (by decide) ?_
  intro T2 h2 b2 X2 e2 E2 hb2 V2 B2
  have g_b2 := leE O0.1 hb2
  have O2_ := extTr O0 E2
  have sz_b2 := leE (Keep.refl h0 []).1 hb2
  have K2 := Keep.ext (Keep.refl h0 []) E2
  obtain ⟨T3, X3, e3, st3⟩ := castY X2 hx hZ hown (wd hw 273 rfl) e2 (Ins.self B2) (g := (mkF m 21 #[.val (.ref x0), .val (.int x1), .val (.int x2)] [(.ref b2)])) rfl rfl (hb hby d24_21)
  refine Go.step st3 ?_
  exact Go.retA X3 hx hret rfl rfl hlk (hb hby d24_24) (by decide) (by decide) (by show Q_a24_8 ..; rw [e3]; exact ⟨b2, kk1, rfl, N0, K2, sz_b2, B2, V2⟩)
def Q_a20_8 (Z : State) (x0 : Addr) (w6 w7 w8 w9 w10 w11 w12 w13 w14 w15 w16 w17 w18 w19 w20 w21 : Int32) (h0 : Heap) (v : Option Value) (h : Heap) (L : List Loc) : Prop := ∃ (b2q6 : Addr) (kk1q6 : ClassId), v = none ∧ Fr Z.heap.size L ∧ Keep h0 h [x0] ∧ fl_4 Z h x0 v_0 ∧ fl_5 Z h x0 (.ref b2q6) ∧ h0.size ≤ b2q6 ∧ ex_0 Z h b2q6 ∧ Arv Z h b2q6 kk1q6 .byte (16 : Int32) [(.int w6), (.int w7), (.int w8), (.int w9), (.int w10), (.int w11), (.int w12), (.int w13), (.int w14), (.int w15), (.int w16), (.int w17), (.int w18), (.int w19), (.int w20), (.int w21)] v_0
theorem rm_a20_8 (x0 x1 w1 : Addr) (w2 w3 w4 : Int32) (kk5 : ClassId) (w6 w7 w8 w9 w10 w11 w12 w13 w14 w15 w16 w17 w18 w19 w20 w21 : Int32) (h0 : Heap) (O0 : Ext Z.heap h0) (r0 : ex_3 Z h0 x1) (r1 : fl_6 Z h0 x1 (.ref w1)) (r2 : fl_8 Z h0 x1 (.int w2)) (r3 : fl_7 Z h0 x1 (.int w3)) (r4 : w3 = (0 : Int32)) (r5 : ex_2 Z h0 x0) (r6 : fl_4 Z h0 x0 (.int w4)) (r7 : Z.heap.size ≤ x0) (r8 : Arv Z h0 w1 kk5 .byte (16 : Int32) [(.int w6), (.int w7), (.int w8), (.int w9), (.int w10), (.int w11), (.int w12), (.int w13), (.int w14), (.int w15), (.int w16), (.int w17), (.int w18), (.int w19), (.int w20), (.int w21)] v_0) (r9 : w1 ≠ x0) (r10 : w2 = (16 : Int32)) (r11 : ex_0 Z h0 w1) (r12 : fl_5 Z h0 x0 .null) :
    MF hw GG l y_20 jdk_42_method_150_code 5 none ws ⟨2, 1, 16, 29⟩ h0 #[(.ref x0), (.ref x1), .null] (Q_a20_8 Z x0 w6 w7 w8 w9 w10 w11 w12 w13 w14 w15 w16 w17 w18 w19 w20 w21 h0) := by
  refine own_mF #[.val (.ref x0), .val (.ref x1), .val .null, .unset, .unset] (plainFor_of_name pn_20) (fun _ => rfl) ?_
  intro p e s m below meth c s₁ u hlk hret hZ hown hnm X0 e0 N0
  obtain ⟨hx, hby, hml⟩ := id u
  refine t_aN X0 u d20_0 rfl rfl ?_
  refine t_in 0 X0 u hZ hown (wd hw 119 rfl) (wd hw 19 rfl) (wd hw 20 rfl) e0 rfl d20_1 rfl (by decide) ?_
  intro T1 X1 e1
  refine t_aN X1 u d20_4 rfl rfl ?_
  refine pt_cV [] [] 0 X1 u hZ hown (wd hw 120 rfl) (m_15 hw) e1 r0 (rm_a21_0 l Z a0 hw [] G GG x1 w1 h0 O0 r1) rfl d20_5 rfl rfl (by decide) N0 ?_
  intro T2 L2 X2 e2 N2_
  refine t_asN X2 u d20_8 rfl (l' := #[.val (.ref x0), .val (.ref x1), .val .null, .val (.ref w1), .unset]) rfl ?_
  refine t_aN X2 u d20_9 rfl rfl ?_
  obtain ⟨cq3, kq3, q3a, q3b, q3c⟩ := isOf hZ e2 r0
  obtain ⟨_, _, ⟨T3, L3, k3, n3⟩, -, X3, ⟨Lc3, hQ3, l3, y3, z3⟩, st3⟩ := X2.virtualBack hx (y := (⟨"java/lang/AbstractStringBuilder", "length", "()I"⟩ : MethodName)) (z := (⟨"java/lang/StringBuilder", "length", "()I"⟩ : MethodName)) hown (mvT hZ (wd hw 125 rfl)) (mvT hZ (wd hw 126 rfl)) (own_nf (mvT hZ (wd hw 62 rfl)) rfl) (mvT hZ (wd hw 128 rfl)) (mvT hZ (wd hw 129 rfl)) (by decide) (backOf (W := 0) (rm_a22_0 l Z a0 hw [] G GG x1 w2 h0 O0 r2 r0) hZ (wd hw 130 rfl) (wd hw 8 rfl) (by decide) (by decide)) q3a q3c (g := (mkF m 10 #[.val (.ref x0), .val (.ref x1), .val .null, .val (.ref w1), .unset] [(.ref x1)])) rfl (by rw [hml]; rfl) (Steps.refl _) (argsL := []) (rest := []) (lenOf pd_LRI rfl) rfl (by show 2 * 0 + _ ≤ _; exact Nat.le_of_eq rfl) (hb hby d20_10) (fun _ _ => ⟨rfl, e2, (by decide : 0 + 0 ≤ _), (by decide : 0 + 0 ≤ _)⟩)
  dsimp only [Pt.U, Pt.locs, Pt.cells, Pt.slots] at X3 l3 y3 z3 st3 hQ3
  subst y3 z3
  obtain ⟨rfl, Nq3, e3⟩ := hQ3
  have N3_ := frA l3 N2_ Nq3
  refine Go.trans st3 ?_
  refine t_isL X3 u d20_13 (l' := #[.val (.ref x0), .val (.ref x1), .val .null, .val (.ref w1), .val (.int w2)]) rfl ?_
  refine t_aN X3 u d20_15 rfl rfl ?_
  refine pt_cV [] [] 0 X3 u hZ hown (wd hw 133 rfl) (m_11 hw) e3 r0 (rm_a16_0 l Z a0 hw [] G GG x1 w3 h0 O0 r3 r4) rfl d20_16 rfl rfl (by decide) N3_ ?_
  intro T4 L4 X4 e4 N4_
  refine t_ifN X4 u d20_19 ((if0 _ _).trans (feq (by decide : ¬ ((1 : Int32) = (0 : Int32)))).1) ?_
  refine t_aN X4 u d20_22 rfl rfl ?_
  refine t_iC X4 u d20_23  ?_
  refine t_pN X4 u hZ hown (wd hw 56 rfl) e4 r6 r5 (Or.inr ⟨(wd hw 31 rfl), rfl, hnm⟩) (wd hw 29 rfl) v_0 pf_B rfl rfl d20_24 ?_
  intro T5 h5 X5 e5 W5
  have N5_ := Fr.snoc X5 N4_ r7
  have O5_ := extWr O0 W5 r7
  have K5 := Keep.wr (Keep.refl h0 [x0]) W5 k0
  have F5 := Fld.same W5 r6
  refine t_aN X5 u d20_27 rfl rfl ?_
  refine t_aN X5 u d20_28 rfl rfl ?_
  refine t_iC X5 u d20_29  ?_
  refine t_iL X5 u d20_30 rfl ?_
  refine t_cS [(.ref w1), v_0, (.int w2)] [(.ref x0)] 1 X5 u hZ hown (wd hw 134 rfl) (m_20 hw) e5 (rm_a24_8 l Z a0 hw [] G GG w1 (0 : Int32) w2 kk5 w6 w7 w8 w9 w10 w11 w12 w13 w14 w15 w16 w17 w18 w19 w20 w21 h5 O5_ (by decide) (r8.other W5 r9) r10 (Exa.wr W5 r11)) rfl d20_32 rfl rfl (by decide) ?_
  intro v6 T6 L6 Lc6 X6 hQ6 l6
  obtain ⟨b2q6, kk1q6, rfl, Nq6, Kq6, p6_0, p6_1, p6_2⟩ := hQ6
  have O6_ := extKeep O5_ Kq6 all0
  have K6 := Keep.trans K5 Kq6 all0
  have N6_ := frA l6 N5_ Nq6
  have g_b2q6 := Nat.le_trans O5_.1 p6_0
  have sz_b2q6 := Nat.le_trans K5.1 p6_0
  refine t_pF X6 u hZ hown (wd hw 49 rfl) rfl ((fR W5 r12 (sn_12 hw)).keep Kq6 nin0) ((Exa.wr W5 r5).keep Kq6) (Or.inr ⟨(wd hw 30 rfl), rfl, hnm⟩) (wd hw 29 rfl) pf_AB rfl rfl d20_35 ?_
  intro T7 h7 X7 e7 W7
  have N7_ := Fr.snoc X7 N6_ r7
  have O7_ := extWr O6_ W7 r7
  have K7 := Keep.wr K6 W7 k0
  have F7 := Fld.same W7 ((fR W5 r12 (sn_12 hw)).keep Kq6 nin0)
  refine t_go 38 97 X7 u rfl d20_38 (by decide) ?_
  have f8 := (p6_2.other W7 (Ne.symm (neL (Exa.wr W5 r5).lt p6_0)))
  exact Go.retV X7 hx hret hlk (hb hby d20_97) (by decide) (by decide) (by show Q_a20_8 ..; rw [e7]; exact ⟨b2q6, kk1q6, rfl, N7_, K7, (fS W7 (F5.keep Kq6 nin0) (sn_12 hw)), F7, sz_b2q6, (Exa.wr W7 p6_1), f8⟩)
def Q_a19_8 (Z : State) (x0 : Addr) (w6 w7 w8 w9 w10 w11 w12 w13 w14 w15 w16 w17 w18 w19 w20 w21 : Int32) (h0 : Heap) (v : Option Value) (h : Heap) (L : List Loc) : Prop := ∃ (b2q6q1 : Addr) (kk1q6q1 : ClassId), v = none ∧ Fr Z.heap.size L ∧ Keep h0 h [x0] ∧ fl_4 Z h x0 v_0 ∧ fl_5 Z h x0 (.ref b2q6q1) ∧ h0.size ≤ b2q6q1 ∧ ex_0 Z h b2q6q1 ∧ Arv Z h b2q6q1 kk1q6q1 .byte (16 : Int32) [(.int w6), (.int w7), (.int w8), (.int w9), (.int w10), (.int w11), (.int w12), (.int w13), (.int w14), (.int w15), (.int w16), (.int w17), (.int w18), (.int w19), (.int w20), (.int w21)] v_0
theorem rm_a19_8 (x0 x1 w1 : Addr) (w2 w3 w4 : Int32) (kk5 : ClassId) (w6 w7 w8 w9 w10 w11 w12 w13 w14 w15 w16 w17 w18 w19 w20 w21 : Int32) (h0 : Heap) (O0 : Ext Z.heap h0) (r0 : ex_3 Z h0 x1) (r1 : fl_6 Z h0 x1 (.ref w1)) (r2 : fl_8 Z h0 x1 (.int w2)) (r3 : fl_7 Z h0 x1 (.int w3)) (r4 : w3 = (0 : Int32)) (r5 : ex_2 Z h0 x0) (r6 : fl_4 Z h0 x0 (.int w4)) (r7 : Z.heap.size ≤ x0) (r8 : Arv Z h0 w1 kk5 .byte (16 : Int32) [(.int w6), (.int w7), (.int w8), (.int w9), (.int w10), (.int w11), (.int w12), (.int w13), (.int w14), (.int w15), (.int w16), (.int w17), (.int w18), (.int w19), (.int w20), (.int w21)] v_0) (r9 : w1 ≠ x0) (r10 : w2 = (16 : Int32)) (r11 : ex_0 Z h0 w1) (r12 : fl_5 Z h0 x0 .null) :
    MF hw GG l y_19 jdk_42_method_53_code 2 none ws ⟨3, 1, 16, 45⟩ h0 #[(.ref x0), (.ref x1)] (Q_a19_8 Z x0 w6 w7 w8 w9 w10 w11 w12 w13 w14 w15 w16 w17 w18 w19 w20 w21 h0) := by
  refine own_mF #[.val (.ref x0), .val (.ref x1)] (plainFor_of_name pn_19) (fun _ => rfl) ?_
  intro p e s m below meth c s₁ u hlk hret hZ hown hnm X0 e0 N0
  obtain ⟨hx, hby, hml⟩ := id u
  refine t_aN X0 u d19_0 rfl rfl ?_
  refine t_aN X0 u d19_1 rfl rfl ?_
  refine t_nl X0 u d19_2  ?_
  refine t_cN [(.ref x1), .null] [] 0 X0 u hZ hown rfl (wd hw 116 rfl) (m_21 hw) e0 (rm_a20_8 l Z a0 hw [] G GG x0 x1 w1 w2 w3 w4 kk5 w6 w7 w8 w9 w10 w11 w12 w13 w14 w15 w16 w17 w18 w19 w20 w21 h0 O0 r0 r1 r2 r3 r4 r5 r6 r7 r8 r9 r10 r11 r12) rfl d19_3 rfl rfl (by decide) ?_
  intro v1 T1 L1 Lc1 X1 hQ1 l1
  obtain ⟨b2q6q1, kk1q6q1, rfl, Nq1, Kq1, p1_0, p1_1, p1_2, p1_3, p1_4⟩ := hQ1
  have O1_ := extKeep O0 Kq1 (allS r7 all0)
  have K1 := Keep.trans (Keep.refl h0 [x0]) Kq1 (allS k0 all0)
  have N1_ := frA l1 N0 Nq1
  have g_b2q6q1 := Nat.le_trans O0.1 p1_2
  have sz_b2q6q1 := Nat.le_trans (Keep.refl h0 [x0]).1 p1_2
  exact Go.retV X1 hx hret hlk (hb hby d19_6) (by decide) (by decide) ⟨b2q6q1, kk1q6q1, rfl, N1_, K1, p1_0, p1_1, sz_b2q6q1, p1_3, p1_4⟩
def Q_a18_8 (Z : State) (w5 w6 w7 w8 w9 w10 w11 w12 w13 w14 w15 w16 w17 w18 w19 w20 : Int32) (h0 : Heap) (v : Option Value) (h : Heap) (L : List Loc) : Prop := ∃ (b1 : Addr) (b2q6q1q2 : Addr) (kk1q6q1q2 : ClassId), v = some (.ref b1) ∧ Fr Z.heap.size L ∧ Keep h0 h [] ∧ h0.size ≤ b1 ∧ ex_2 Z h b1 ∧ fl_4 Z h b1 v_0 ∧ fl_5 Z h b1 (.ref b2q6q1q2) ∧ h0.size ≤ b2q6q1q2 ∧ ex_0 Z h b2q6q1q2 ∧ Arv Z h b2q6q1q2 kk1q6q1q2 .byte (16 : Int32) [(.int w5), (.int w6), (.int w7), (.int w8), (.int w9), (.int w10), (.int w11), (.int w12), (.int w13), (.int w14), (.int w15), (.int w16), (.int w17), (.int w18), (.int w19), (.int w20)] v_0 ∧ b1 ≠ b2q6q1q2
theorem rm_a18_8 (x0 w1 : Addr) (w2 w3 : Int32) (kk4 : ClassId) (w5 w6 w7 w8 w9 w10 w11 w12 w13 w14 w15 w16 w17 w18 w19 w20 : Int32) (h0 : Heap) (O0 : Ext Z.heap h0) (r0 : ex_3 Z h0 x0) (r1 : fl_6 Z h0 x0 (.ref w1)) (r2 : fl_8 Z h0 x0 (.int w2)) (r3 : fl_7 Z h0 x0 (.int w3)) (r4 : w3 = (0 : Int32)) (r5 : Arv Z h0 w1 kk4 .byte (16 : Int32) [(.int w5), (.int w6), (.int w7), (.int w8), (.int w9), (.int w10), (.int w11), (.int w12), (.int w13), (.int w14), (.int w15), (.int w16), (.int w17), (.int w18), (.int w19), (.int w20)] v_0) (r6 : w2 = (16 : Int32)) (r7 : ex_0 Z h0 w1) :
    MF hw GG l y_18 jdk_67_method_42_code 1 (some (.object "java/lang/String")) ws ⟨4, 2, 20, 59⟩ h0 #[(.ref x0)] (Q_a18_8 Z w5 w6 w7 w8 w9 w10 w11 w12 w13 w14 w15 w16 w17 w18 w19 w20 h0) := by
  refine own_mF #[.val (.ref x0)] (plainFor_of_name pn_18) (fun _ => rfl) ?_
  intro p e s m below meth c s₁ u hlk hret hZ hown hnm X0 e0 N0
  obtain ⟨hx, hby, hml⟩ := id u
  refine t_new X0 u hZ hown (wd hw 111 rfl) (wd hw 29 rfl) (wd hw 22 rfl) e0 d18_0 (by decide) ?_
  intro T1 h1 b1 X1 e1 E1 hb1 A1 D1
  have g_b1 := leE O0.1 hb1
  have O1_ := extTr O0 E1
  have sz_b1 := leE (Keep.refl h0 []).1 hb1
  have K1 := Keep.ext (Keep.refl h0 []) E1
  have F1_value : fl_5 Z h1 b1 .null := D1 (Or.inr (wd hw 30 rfl)) (ty := (.array .byte)) pf_AB
  have F1_coder : fl_4 Z h1 b1 v_0 := D1 (Or.inr (wd hw 31 rfl)) (ty := .byte) pf_B
  refine t_dup X1 u d18_3 rfl ?_
  refine t_aN X1 u d18_4 rfl rfl ?_
  refine t_cN [(.ref x0)] [(.ref b1)] 1 X1 u hZ hown rfl (wd hw 112 rfl) (m_22 hw) e1 (rm_a19_8 l Z a0 hw [] G GG b1 x0 w1 w2 w3 (0 : Int32) kk4 w5 w6 w7 w8 w9 w10 w11 w12 w13 w14 w15 w16 w17 w18 w19 w20 h1 O1_ (Exa.ext E1 r0) (Fld.ext E1 r1) (Fld.ext E1 r2) (Fld.ext E1 r3) r4 A1 F1_coder g_b1 (r5.ext E1) (neE r5.lt hb1) r6 (Exa.ext E1 r7) F1_value) rfl d18_5 rfl rfl (by decide) ?_
  intro v2 T2 L2 Lc2 X2 hQ2 l2
  obtain ⟨b2q6q1q2, kk1q6q1q2, rfl, Nq2, Kq2, p2_0, p2_1, p2_2, p2_3, p2_4⟩ := hQ2
  have O2_ := extKeep O1_ Kq2 (allS g_b1 all0)
  have K2 := Keep.trans K1 Kq2 (allS (Or.inr sz_b1) all0)
  have N2_ := frA l2 N0 Nq2
  have g_b2q6q1q2 := Nat.le_trans O1_.1 p2_2
  have sz_b2q6q1q2 := Nat.le_trans K1.1 p2_2
  exact Go.retA X2 hx hret rfl rfl hlk (hb hby d18_8) (by decide) (by decide) ⟨b1, b2q6q1q2, kk1q6q1q2, rfl, N2_, K2, sz_b1, (A1.keep Kq2), p2_0, p2_1, sz_b2q6q1q2, p2_3, p2_4, (neL A1.lt p2_2)⟩
theorem rm_a47_0 (x0 x1 : Int32) (h0 : Heap) (O0 : Ext Z.heap h0) (r0 : x0 < x1) :
    MF hw GG l y_47 jdk_29_method_65_code 2 (some .int) ws ⟨0, 0, 0, 0⟩ h0 #[(.int x0), (.int x1)] (Qp (some (.int x1)) Z h0) := by
  refine own_mF #[.val (.int x0), .val (.int x1)] (Jvm.Free.JP.mathPlain rfl (by decide +kernel)) (fun _ => rfl) ?_
  intro p e s m below meth c s₁ u hlk hret hZ hown hnm X0 e0 N0
  refine t_iN X0 u d47_0 rfl ?_
  refine t_iN X0 u d47_1 rfl ?_
  refine t_icY 2 9 X0 u rfl d47_2 (tlt r0).1 (by decide) ?_
  refine t_iN X0 u d47_9 rfl ?_
  exact t_rI X0 u hret hlk d47_10 e0 N0 (by decide)
theorem pn_46 : plainName "jdk/internal/util/ArraysSupport" = true := by first | (simp [plainName, overriddenIn]; done) | decide +kernel
theorem rm_a46_0 (x0 x1 x2 : Int32) (h0 : Heap) (O0 : Ext Z.heap h0) (r0 : x1 < x2) (r1 : (0 : Int32) < (x0 + x2)) (r2 : ¬ ((2147483639 : Int32) < (x0 + x2))) :
    MF hw GG l y_46 jdk_48_method_27_code 4 (some .int) ws ⟨1, 0, 0, 14⟩ h0 #[(.int x0), (.int x1), (.int x2)] (Qp (some (.int (x0 + x2))) Z h0) := by
  refine own_mF #[.val (.int x0), .val (.int x1), .val (.int x2), .unset] (plainFor_of_name pn_46) (fun _ => rfl) ?_
  intro p e s m below meth c s₁ u hlk hret hZ hown hnm X0 e0 N0
  obtain ⟨hx, hby, hml⟩ := id u
  refine t_iN X0 u d46_0 rfl ?_
  refine t_iN X0 u d46_1 rfl ?_
  refine t_iN X0 u d46_2 rfl ?_
  refine pt_cS [(.int x1), (.int x2)] [(.int x0)] 1 X0 u hZ hown (wd hw 284 rfl) (m_24 hw) e0 (rm_a47_0 l Z a0 hw [] G GG x1 x2 h0 O0 r0) rfl d46_3 rfl rfl (by decide) N0 ?_
  intro T1 L1 X1 e1 N1_
  refine t_iadd X1 u d46_6  ?_
  refine t_isN X1 u d46_7 (l' := #[.val (.int x0), .val (.int x1), .val (.int x2), .val (.int (x0 + x2))]) rfl ?_
  refine t_iC X1 u d46_8  ?_
  refine t_iN X1 u d46_9 rfl ?_
  refine t_icN X1 u d46_10 (tlt r1).2.1 ?_
  refine t_iN X1 u d46_13 rfl ?_
  refine Go.step (X1.ldcInt hx hown (mvT hZ (wd hw 287 rfl)) (g := (mkF m 14 #[.val (.int x0), .val (.int x1), .val (.int x2), .val (.int (x0 + x2))] [(.int (x0 + x2))])) rfl (hb hby d46_14)) ?_
  refine t_icN X1 u d46_16 (flt r2).2.2.1 ?_
  refine t_iN X1 u d46_19 rfl ?_
  exact t_rI X1 u hret hlk d46_20 e1 N1_ (by decide)
theorem pn_45 : plainName "java/lang/AbstractStringBuilder" = true := by first | (simp [plainName, overriddenIn]; done) | decide +kernel
theorem rm_a45_0 (x0 : Addr) (x1 : Int32) (w1 : Addr) (kk2 : ClassId) (w3 w4 w5 w6 w7 w8 w9 w10 w11 w12 w13 w14 w15 w16 w17 w18 w19 : Int32) (h0 : Heap) (O0 : Ext Z.heap h0) (r0 : fl_6 Z h0 x0 (.ref w1)) (r1 : Arv Z h0 w1 kk2 .byte (16 : Int32) [(.int w3), (.int w4), (.int w5), (.int w6), (.int w7), (.int w8), (.int w9), (.int w10), (.int w11), (.int w12), (.int w13), (.int w14), (.int w15), (.int w16), (.int w17), (.int w18)] v_0) (r2 : fl_7 Z h0 x0 (.int w19)) (r3 : ((x1 <<< (w19 &&& 31)) - (16 : Int32)) < ((16 : Int32) + ((2 : Int32) <<< (w19 &&& 31)))) (r4 : (0 : Int32) < ((16 : Int32) + ((16 : Int32) + ((2 : Int32) <<< (w19 &&& 31))))) (r5 : ¬ ((2147483639 : Int32) < ((16 : Int32) + ((16 : Int32) + ((2 : Int32) <<< (w19 &&& 31)))))) (r6 : ¬ (((16 : Int32) + ((16 : Int32) + ((2 : Int32) <<< (w19 &&& 31)))) = (2147483647 : Int32))) :
    MF hw GG l y_45 jdk_68_method_10_code 6 (some .int) ws ⟨2, 0, 0, 29⟩ h0 #[(.ref x0), (.int x1)] (Qp (some (.int (((16 : Int32) + ((16 : Int32) + ((2 : Int32) <<< (w19 &&& 31)))) >>> (w19 &&& 31)))) Z h0) := by
  refine own_mF #[.val (.ref x0), .val (.int x1), .unset, .unset, .unset, .unset] (plainFor_of_name pn_45) (fun _ => rfl) ?_
  intro p e s m below meth c s₁ u hlk hret hZ hown hnm X0 e0 N0
  obtain ⟨hx, hby, hml⟩ := id u
  refine t_aN X0 u d45_0 rfl rfl ?_
  refine t_gF X0 u hZ hown (wd hw 24 rfl) e0 r0 d45_1 ?_
  intro T1 X1 e1
  obtain ⟨cl2, Ar2, -, S2, N2, -, -⟩ := id r1
  refine Go.step (X1.arraylength hx (by rw [e1]; exact Ar2.1) (State.isArrayOf_alike hZ.alike Ar2.2.1) (g := (mkF m 4 #[.val (.ref x0), .val (.int x1), .unset, .unset, .unset, .unset] [(.ref w1)])) rfl rfl (hb hby d45_4)) ?_
  rw [len_of S2 N2]
  show Go _ _ _ _ _ _ _ _ T1 (mkF m 5 #[.val (.ref x0), .val (.int x1), .unset, .unset, .unset, .unset] [v_16])
  refine t_isN X1 u d45_5 (l' := #[.val (.ref x0), .val (.int x1), .val v_16, .unset, .unset, .unset]) rfl ?_
  refine t_iN X1 u d45_6 rfl ?_
  refine t_aN X1 u d45_7 rfl rfl ?_
  refine t_gF X1 u hZ hown (wd hw 26 rfl) e1 r2 d45_8 ?_
  intro T3 X3 e3
  refine Go.step (fun _ kt_ => XS.ishl X3.here hx rfl (hb hby d45_11) rfl kt_) ?_
  show Go _ _ _ _ _ _ _ _ T3 (mkF m 12 #[.val (.ref x0), .val (.int x1), .val v_16, .unset, .unset, .unset] [(.int (x1 <<< (w19 &&& 31)))])
  refine t_isN X3 u d45_12 (l' := #[.val (.ref x0), .val (.int x1), .val v_16, .val (.int (x1 <<< (w19 &&& 31))), .unset, .unset]) rfl ?_
  refine t_iN X3 u d45_13 rfl ?_
  refine t_iN X3 u d45_14 rfl ?_
  refine t_isub X3 u d45_15  ?_
  refine t_isL X3 u d45_16 (l' := #[.val (.ref x0), .val (.int x1), .val v_16, .val (.int (x1 <<< (w19 &&& 31))), .val (.int ((x1 <<< (w19 &&& 31)) - (16 : Int32))), .unset]) rfl ?_
  refine t_iN X3 u d45_18 rfl ?_
  refine t_iL X3 u d45_19 rfl ?_
  refine t_iN X3 u d45_21 rfl ?_
  refine t_iC X3 u d45_22  ?_
  refine t_aN X3 u d45_23 rfl rfl ?_
  refine t_gF X3 u hZ hown (wd hw 26 rfl) e3 r2 d45_24 ?_
  intro T4 X4 e4
  refine Go.step (fun _ kt_ => XS.ishl X4.here hx rfl (hb hby d45_27) rfl kt_) ?_
  show Go _ _ _ _ _ _ _ _ T4 (mkF m 28 #[.val (.ref x0), .val (.int x1), .val v_16, .val (.int (x1 <<< (w19 &&& 31))), .val (.int ((x1 <<< (w19 &&& 31)) - (16 : Int32))), .unset] [(.int ((2 : Int32) <<< (w19 &&& 31))), v_16, (.int ((x1 <<< (w19 &&& 31)) - (16 : Int32))), v_16])
  refine t_iadd X4 u d45_28  ?_
  refine pt_cS [v_16, (.int ((x1 <<< (w19 &&& 31)) - (16 : Int32))), (.int ((16 : Int32) + ((2 : Int32) <<< (w19 &&& 31))))] [] 0 X4 u hZ hown (wd hw 280 rfl) (m_25 hw) e4 (rm_a46_0 l Z a0 hw [] G GG (16 : Int32) ((x1 <<< (w19 &&& 31)) - (16 : Int32)) ((16 : Int32) + ((2 : Int32) <<< (w19 &&& 31))) h0 O0 r3 r4 r5) rfl d45_29 rfl rfl (by decide) N0 ?_
  intro T5 L5 X5 e5 N5_
  refine t_isL X5 u d45_32 (l' := #[.val (.ref x0), .val (.int x1), .val v_16, .val (.int (x1 <<< (w19 &&& 31))), .val (.int ((x1 <<< (w19 &&& 31)) - (16 : Int32))), .val (.int ((16 : Int32) + ((16 : Int32) + ((2 : Int32) <<< (w19 &&& 31)))))]) rfl ?_
  refine t_iL X5 u d45_34 rfl ?_
  refine Go.step (X5.ldcInt hx hown (mvT hZ (wd hw 288 rfl)) (g := (mkF m 36 #[.val (.ref x0), .val (.int x1), .val v_16, .val (.int (x1 <<< (w19 &&& 31))), .val (.int ((x1 <<< (w19 &&& 31)) - (16 : Int32))), .val (.int ((16 : Int32) + ((16 : Int32) + ((2 : Int32) <<< (w19 &&& 31)))))] [(.int ((16 : Int32) + ((16 : Int32) + ((2 : Int32) <<< (w19 &&& 31)))))])) rfl (hb hby d45_36)) ?_
  refine t_icY 38 51 X5 u rfl d45_38 (feq r6).2 (by decide) ?_
  refine t_iL X5 u d45_51 rfl ?_
  refine t_aN X5 u d45_53 rfl rfl ?_
  refine t_gF X5 u hZ hown (wd hw 26 rfl) e5 r2 d45_54 ?_
  intro T6 X6 e6
  refine Go.step (fun _ kt_ => XS.ishr X6.here hx rfl (hb hby d45_57) rfl kt_) ?_
  show Go _ _ _ _ _ _ _ _ T6 (mkF m 58 #[.val (.ref x0), .val (.int x1), .val v_16, .val (.int (x1 <<< (w19 &&& 31))), .val (.int ((x1 <<< (w19 &&& 31)) - (16 : Int32))), .val (.int ((16 : Int32) + ((16 : Int32) + ((2 : Int32) <<< (w19 &&& 31)))))] [(.int (((16 : Int32) + ((16 : Int32) + ((2 : Int32) <<< (w19 &&& 31)))) >>> (w19 &&& 31)))])
  exact t_rI X6 u hret hlk d45_58 e6 N5_ (by decide)
theorem rm_a27_1 (x0 x1 : Int32) (h0 : Heap) (O0 : Ext Z.heap h0) (r0 : ¬ (x1 < x0)) :
    MF hw GG l y_27 jdk_29_method_69_code 2 (some .int) ws ⟨0, 0, 0, 0⟩ h0 #[(.int x0), (.int x1)] (Qp (some (.int x0)) Z h0) := by
  refine own_mF #[.val (.int x0), .val (.int x1)] (Jvm.Free.JP.mathPlain rfl (by decide +kernel)) (fun _ => rfl) ?_
  intro p e s m below meth c s₁ u hlk hret hZ hown hnm X0 e0 N0
  refine t_iN X0 u d27_0 rfl ?_
  refine t_iN X0 u d27_1 rfl ?_
  refine t_icN X0 u d27_2 (flt r0).2.2.1 ?_
  refine t_iN X0 u d27_5 rfl ?_
  refine t_go 6 10 X0 u rfl d27_6 (by decide) ?_
  exact t_rI X0 u hret hlk d27_10 e0 N0 (by decide)
theorem pn_48 : plainName "java/util/Arrays" = true := by first | (simp [plainName, overriddenIn]; done) | decide +kernel
def Q_a48_0 (Z : State)  (h0 : Heap) (v : Option Value) (h : Heap) (L : List Loc) : Prop := ∃ (b2 : Addr) (k2 : ClassId), v = some (.ref b2) ∧ Fr Z.heap.size L ∧ Keep h0 h [] ∧ h0.size ≤ b2 ∧ ex_0 Z h b2 ∧ Arv Z h b2 k2 .byte (34 : Int32) [v_115, v_116, v_97, v_116, v_117, v_115, v_32, v_0, v_0, v_0, v_0, v_0, v_0, v_0, v_0, v_0, v_0, v_0, v_0, v_0, v_0, v_0, v_0, v_0, v_0, v_0, v_0, v_0, v_0, v_0, v_0, v_0, v_0, v_0] v_0
theorem rm_a48_0 (x0 : Addr) (kk1 : ClassId) (h0 : Heap) (O0 : Ext Z.heap h0) (r0 : Arv Z h0 x0 kk1 .byte (16 : Int32) [v_115, v_116, v_97, v_116, v_117, v_115, v_32, v_0, v_0, v_0, v_0, v_0, v_0, v_0, v_0, v_0] v_0) :
    MF hw GG l y_48 jdk_65_method_121_code 3 (some (.array .byte)) ws ⟨1, 1, 34, 18⟩ h0 #[(.ref x0), v_34] (Q_a48_0 Z  h0) := by
  refine own_mF #[.val (.ref x0), .val v_34, .unset] (plainFor_of_name pn_48) (fun _ => rfl) ?_
  intro p e s m below meth c s₁ u hlk hret hZ hown hnm X0 e0 N0
  obtain ⟨hx, hby, hml⟩ := id u
  refine t_iN X0 u d48_0 rfl ?_
  refine t_aN X0 u d48_1 rfl rfl ?_
  obtain ⟨cl1, Ar1, -, S1, N1, -, -⟩ := id r0
  refine Go.step (X0.arraylength hx (by rw [e0]; exact Ar1.1) (State.isArrayOf_alike hZ.alike Ar1.2.1) (g := (mkF m 2 #[.val (.ref x0), .val v_34, .unset] [(.ref x0), v_34])) rfl rfl (hb hby d48_2)) ?_
  rw [len_of S1 N1]
  show Go _ _ _ _ _ _ _ _ s₁ (mkF m 3 #[.val (.ref x0), .val v_34, .unset] [v_16, v_34])
  refine t_icY 3 14 X0 u rfl d48_3 (feq (by decide : ¬ ((34 : Int32) = (16 : Int32)))).2 (by decide) ?_
  refine t_iN X0 u d48_14 rfl ?_
  refine t_nB 34 X0 u hZ (wd hw 23 rfl) e0 d48_15 (by decide) ?_
  intro T2 h2 b2 k2 X2 e2 E2 hb2 V2 B2
  have g_b2 := leE O0.1 hb2
  have O2_ := extTr O0 E2
  have sz_b2 := leE (Keep.refl h0 []).1 hb2
  have K2 := Keep.ext (Keep.refl h0 []) E2
  refine t_asN X2 u d48_17 rfl (l' := #[.val (.ref x0), .val v_34, .val (.ref b2)]) rfl ?_
  refine t_aN X2 u d48_18 rfl rfl ?_
  refine t_iC X2 u d48_19  ?_
  refine t_aN X2 u d48_20 rfl rfl ?_
  refine t_iC X2 u d48_21  ?_
  refine t_aN X2 u d48_22 rfl rfl ?_
  obtain ⟨cl3, Ar3, -, S3, N3, -, -⟩ := id (r0.ext E2)
  refine Go.step (X2.arraylength hx (by rw [e2]; exact Ar3.1) (State.isArrayOf_alike hZ.alike Ar3.2.1) (g := (mkF m 23 #[.val (.ref x0), .val v_34, .val (.ref b2)] [(.ref x0), v_0, (.ref b2), v_0, (.ref x0)])) rfl rfl (hb hby d48_23)) ?_
  rw [len_of S3 N3]
  show Go _ _ _ _ _ _ _ _ T2 (mkF m 24 #[.val (.ref x0), .val v_34, .val (.ref b2)] [v_16, v_0, (.ref b2), v_0, (.ref x0)])
  refine t_iN X2 u d48_24 rfl ?_
  refine pt_cS [v_16, v_34] [v_0, (.ref b2), v_0, (.ref x0)] 4 X2 u hZ hown (wd hw 144 rfl) (m_18 hw) e2 (rm_a27_1 l Z a0 hw [] G GG (16 : Int32) (34 : Int32) h2 O2_ (by decide)) rfl d48_25 rfl rfl (by decide) N0 ?_
  intro T4 L4 X4 e4 N4_
  obtain ⟨T5, h5, L5, X5, e5, N5_, K5_, V5_, st5⟩ := cpA X4 hx hZ hown (wd hw 148 rfl) (wd hw 83 rfl) (wd hw 81 rfl) (wd hw 82 rfl) e4 (us := [v_115, v_116, v_97, v_116, v_117, v_115, v_32, v_0, v_0, v_0, v_0, v_0, v_0, v_0, v_0, v_0]) (r0.ext E2) V2 (Or.inl ⟨rfl, rfl⟩) (by decide) (by decide) (by decide) (by decide) (by decide) rfl (by decide) N4_ g_b2 (g := (mkF m 28 #[.val (.ref x0), .val v_34, .val (.ref b2)] [v_16, v_0, (.ref b2), v_0, (.ref x0)])) rfl (by rw [hml]; rfl) rfl (hb hby d48_28) (by decide) (W := 0) (by show 2 * 0 + _ ≤ _; exact Nat.le_of_eq rfl) (by decide)
  refine Go.step st5 ?_
  have V5 : Arv Z h5 b2 k2 .byte (34 : Int32) [v_115, v_116, v_97, v_116, v_117, v_115, v_32, v_0, v_0, v_0, v_0, v_0, v_0, v_0, v_0, v_0, v_0, v_0, v_0, v_0, v_0, v_0, v_0, v_0, v_0, v_0, v_0, v_0, v_0, v_0, v_0, v_0, v_0, v_0] v_0 := V5_
  have O5_ : Ext Z.heap h5 := extKeep O2_ K5_ (allS g_b2 all0)
  have K5 := Keep.trans K2 K5_ (allS (Or.inr sz_b2) all0)
  refine t_aN X5 u d48_31 rfl rfl ?_
  exact Go.retA X5 hx hret rfl rfl hlk (hb hby d48_32) (by decide) (by decide) (by show Q_a48_0 ..; rw [e5]; exact ⟨b2, k2, rfl, N5_, K5, sz_b2, (B2.keep K5_), V5⟩)
def Q_a9_1 (Z : State) (x0 : Addr) (h0 : Heap) (v : Option Value) (h : Heap) (L : List Loc) : Prop := ∃ (b2q7 : Addr) (k2q7 : ClassId), v = none ∧ Fr Z.heap.size L ∧ Keep h0 h [x0] ∧ fl_6 Z h x0 (.ref b2q7) ∧ fl_7 Z h x0 v_0 ∧ fl_8 Z h x0 v_7 ∧ h0.size ≤ b2q7 ∧ ex_0 Z h b2q7 ∧ Arv Z h b2q7 k2q7 .byte (34 : Int32) [v_115, v_116, v_97, v_116, v_117, v_115, v_32, v_0, v_0, v_0, v_0, v_0, v_0, v_0, v_0, v_0, v_0, v_0, v_0, v_0, v_0, v_0, v_0, v_0, v_0, v_0, v_0, v_0, v_0, v_0, v_0, v_0, v_0, v_0] v_0
theorem rm_a9_1 (x0 w1 : Addr) (kk2 : ClassId) (h0 : Heap) (O0 : Ext Z.heap h0) (r0 : fl_6 Z h0 x0 (.ref w1)) (r1 : Arv Z h0 w1 kk2 .byte (16 : Int32) [v_115, v_116, v_97, v_116, v_117, v_115, v_32, v_0, v_0, v_0, v_0, v_0, v_0, v_0, v_0, v_0] v_0) (r2 : fl_7 Z h0 x0 v_0) (r3 : ex_3 Z h0 x0) (r4 : Z.heap.size ≤ x0) (r5 : fl_8 Z h0 x0 v_7) :
    MF hw GG l y_9 jdk_68_method_9_code 3 none ws ⟨3, 1, 34, 48⟩ h0 #[(.ref x0), v_17] (Q_a9_1 Z x0 h0) := by
  refine own_mF #[.val (.ref x0), .val v_17, .unset] (plainFor_of_name pn_9) (fun _ => rfl) ?_
  intro p e s m below meth c s₁ u hlk hret hZ hown hnm X0 e0 N0
  obtain ⟨hx, hby, hml⟩ := id u
  refine t_aN X0 u d9_0 rfl rfl ?_
  refine t_gF X0 u hZ hown (wd hw 24 rfl) e0 r0 d9_1 ?_
  intro T1 X1 e1
  obtain ⟨cl2, Ar2, -, S2, N2, -, -⟩ := id r1
  refine Go.step (X1.arraylength hx (by rw [e1]; exact Ar2.1) (State.isArrayOf_alike hZ.alike Ar2.2.1) (g := (mkF m 4 #[.val (.ref x0), .val v_17, .unset] [(.ref w1)])) rfl rfl (hb hby d9_4)) ?_
  rw [len_of S2 N2]
  show Go _ _ _ _ _ _ _ _ T1 (mkF m 5 #[.val (.ref x0), .val v_17, .unset] [v_16])
  refine t_aN X1 u d9_5 rfl rfl ?_
  refine t_gF X1 u hZ hown (wd hw 26 rfl) e1 r2 d9_6 ?_
  intro T3 X3 e3
  refine Go.step (fun _ kt_ => XS.ishr X3.here hx rfl (hb hby d9_9) rfl kt_) ?_
  show Go _ _ _ _ _ _ _ _ T3 (mkF m 10 #[.val (.ref x0), .val v_17, .unset] [v_16])
  refine t_isN X3 u d9_10 (l' := #[.val (.ref x0), .val v_17, .val v_16]) rfl ?_
  refine t_iN X3 u d9_11 rfl ?_
  refine t_iN X3 u d9_12 rfl ?_
  refine t_isub X3 u d9_13  ?_
  refine t_ifN X3 u d9_14 ((if0 _ _).trans (tlt (by decide : (0 : Int32) < (1 : Int32))).2.2.2) ?_
  refine t_aN X3 u d9_17 rfl rfl ?_
  refine t_aN X3 u d9_18 rfl rfl ?_
  refine t_gF X3 u hZ hown (wd hw 24 rfl) e3 r0 d9_19 ?_
  intro T4 X4 e4
  refine t_aN X4 u d9_22 rfl rfl ?_
  refine t_iN X4 u d9_23 rfl ?_
  refine pt_cP [v_17] [(.ref w1), (.ref x0)] 2 X4 u hZ hown r3 (wd hw 275 rfl) (m_26 hw) e4 (rm_a45_0 l Z a0 hw [] G GG x0 (17 : Int32) w1 kk2 (115 : Int32) (116 : Int32) (97 : Int32) (116 : Int32) (117 : Int32) (115 : Int32) (32 : Int32) (0 : Int32) (0 : Int32) (0 : Int32) (0 : Int32) (0 : Int32) (0 : Int32) (0 : Int32) (0 : Int32) (0 : Int32) (0 : Int32) h0 O0 r0 r1 r2 (by decide) (by decide) (by decide) (by decide)) rfl d9_24 rfl rfl (by decide) N0 ?_
  intro T5 L5 X5 e5 N5_
  refine t_aN X5 u d9_27 rfl rfl ?_
  refine t_gF X5 u hZ hown (wd hw 26 rfl) e5 r2 d9_28 ?_
  intro T6 X6 e6
  refine Go.step (fun _ kt_ => XS.ishl X6.here hx rfl (hb hby d9_31) rfl kt_) ?_
  show Go _ _ _ _ _ _ _ _ T6 (mkF m 32 #[.val (.ref x0), .val v_17, .val v_16] [v_34, (.ref w1), (.ref x0)])
  refine t_cS [(.ref w1), v_34] [(.ref x0)] 1 X6 u hZ hown (wd hw 289 rfl) (m_27 hw) e6 (rm_a48_0 l Z a0 hw [] G GG w1 kk2 h0 O0 r1) rfl d9_32 rfl rfl (by decide) ?_
  intro v7 T7 L7 Lc7 X7 hQ7 l7
  obtain ⟨b2q7, k2q7, rfl, Nq7, Kq7, p7_0, p7_1, p7_2⟩ := hQ7
  have O7_ := extKeep O0 Kq7 all0
  have K7 := Keep.trans (Keep.refl h0 [x0]) Kq7 all0
  have N7_ := frA l7 N5_ Nq7
  have g_b2q7 := Nat.le_trans O0.1 p7_0
  have sz_b2q7 := Nat.le_trans (Keep.refl h0 [x0]).1 p7_0
  refine t_pF X7 u hZ hown (wd hw 24 rfl) rfl (r0.keep Kq7 nin0) (r3.keep Kq7) (Or.inl (wd hw 25 rfl)) (wd hw 7 rfl) pf_AB rfl rfl d9_35 ?_
  intro T8 h8 X8 e8 W8
  have N8_ := Fr.snoc X8 N7_ r4
  have O8_ := extWr O7_ W8 r4
  have K8 := Keep.wr K7 W8 k0
  have F8 := Fld.same W8 (r0.keep Kq7 nin0)
  have f9 := (p7_2.other W8 (Ne.symm (neL r3.lt p7_0)))
  exact Go.retV X8 hx hret hlk (hb hby d9_38) (by decide) (by decide) (by show Q_a9_1 ..; rw [e8]; exact ⟨b2q7, k2q7, rfl, N8_, K8, F8, (fR W8 (r2.keep Kq7 nin0) (sn_9 hw)), (fR W8 (r5.keep Kq7 nin0) (sn_10 hw)), sz_b2q7, (Exa.wr W8 p7_1), f9⟩)
def Q_a14_9 (Z : State) (x0 : Addr) (x1 : Int32) (h0 : Heap) (v : Option Value) (h : Heap) (L : List Loc) : Prop := ∃ (b2q7q3 : Addr) (k2q7q3 : ClassId), v = some (.ref x0) ∧ Fr Z.heap.size L ∧ Keep h0 h [x0] ∧ fl_6 Z h x0 (.ref b2q7q3) ∧ fl_7 Z h x0 v_0 ∧ fl_8 Z h x0 v_17 ∧ h0.size ≤ b2q7q3 ∧ ex_0 Z h b2q7q3 ∧ Arv Z h b2q7q3 k2q7q3 .byte (34 : Int32) [v_115, v_116, v_97, v_116, v_117, v_115, v_32, (.int (bq x1 9)), (.int (bq x1 8)), (.int (bq x1 7)), (.int (bq x1 6)), (.int (bq x1 5)), (.int (bq x1 4)), (.int (bq x1 3)), (.int (bq x1 2)), (.int (bq x1 1)), (.int (bq x1 0))] v_0
theorem rm_a14_9 (x0 : Addr) (x1 : Int32) (w1 : Addr) (kk2 : ClassId) (h0 : Heap) (O0 : Ext Z.heap h0) (r0 : fl_8 Z h0 x0 v_7) (r1 : Dg_0_10 x1) (r2 : fl_6 Z h0 x0 (.ref w1)) (r3 : Arv Z h0 w1 kk2 .byte (16 : Int32) [v_115, v_116, v_97, v_116, v_117, v_115, v_32, v_0, v_0, v_0, v_0, v_0, v_0, v_0, v_0, v_0] v_0) (r4 : fl_7 Z h0 x0 v_0) (r5 : ex_3 Z h0 x0) (r6 : Z.heap.size ≤ x0) :
    MF hw GG l y_14 jdk_68_method_32_code 4 (some (.object "java/lang/AbstractStringBuilder")) ws ⟨4, 1, 34, 62⟩ h0 #[(.ref x0), (.int x1)] (Q_a14_9 Z x0 x1 h0) := by
  refine own_mF #[.val (.ref x0), .val (.int x1), .unset, .unset] (plainFor_of_name pn_14) (fun _ => rfl) ?_
  intro p e s m below meth c s₁ u hlk hret hZ hown hnm X0 e0 N0
  obtain ⟨hx, hby, hml⟩ := id u
  refine t_aN X0 u d14_0 rfl rfl ?_
  refine t_gF X0 u hZ hown (wd hw 57 rfl) e0 r0 d14_1 ?_
  intro T1 X1 e1
  refine t_isN X1 u d14_4 (l' := #[.val (.ref x0), .val (.int x1), .val v_7, .unset]) rfl ?_
  refine t_iN X1 u d14_5 rfl ?_
  refine t_iN X1 u d14_6 rfl ?_
  refine pt_cS [(.int x1)] [v_7] 1 X1 u hZ hown (wd hw 93 rfl) (m_10 hw) e1 (rm_ss_0_10 l Z a0 hw [] G GG x1 h0 O0 r1) rfl d14_7 rfl rfl (by decide) N0 ?_
  intro T2 L2 X2 e2 N2_
  refine t_iadd X2 u d14_10  ?_
  refine t_isN X2 u d14_11 (l' := #[.val (.ref x0), .val (.int x1), .val v_7, .val v_17]) rfl ?_
  refine t_aN X2 u d14_12 rfl rfl ?_
  refine t_iN X2 u d14_13 rfl ?_
  refine t_cP [v_17] [] 0 X2 u hZ hown r5 (wd hw 59 rfl) (m_4 hw) e2 (rm_a9_1 l Z a0 hw [] G GG x0 w1 kk2 h0 O0 r2 r3 r4 r5 r6 r0) rfl d14_14 rfl rfl (by decide) ?_
  intro v3 T3 L3 Lc3 X3 hQ3 l3
  obtain ⟨b2q7q3, k2q7q3, rfl, Nq3, Kq3, p3_0, p3_1, p3_2, p3_3, p3_4, p3_5⟩ := hQ3
  have O3_ := extKeep O0 Kq3 (allS r6 all0)
  have K3 := Keep.trans (Keep.refl h0 [x0]) Kq3 (allS k0 all0)
  have N3_ := frA l3 N2_ Nq3
  have g_b2q7q3 := Nat.le_trans O0.1 p3_3
  have sz_b2q7q3 := Nat.le_trans (Keep.refl h0 [x0]).1 p3_3
  refine t_aN X3 u d14_17 rfl rfl ?_
  refine pt_cV [] [] 0 X3 u hZ hown (wd hw 97 rfl) (m_11 hw) rfl (r5.keep Kq3) (rm_a16_0 l Z a0 hw [] G GG x0 (0 : Int32) T3.heap O3_ p3_1 (by decide)) rfl d14_18 rfl rfl (by decide) N3_ ?_
  intro T4 L4 X4 e4 N4_
  refine t_ifN X4 u d14_21 ((if0 _ _).trans (feq (by decide : ¬ ((1 : Int32) = (0 : Int32)))).1) ?_
  refine t_iN X4 u d14_24 rfl ?_
  refine t_iN X4 u d14_25 rfl ?_
  refine t_aN X4 u d14_26 rfl rfl ?_
  refine t_gF X4 u hZ hown (wd hw 24 rfl) e4 p3_0 d14_27 ?_
  intro T5 X5 e5
  refine t_cS [(.int x1), v_17, (.ref b2q7q3)] [] 0 X5 u hZ hown (wd hw 102 rfl) (m_12 hw) e5 (rm_gc_0_10 l Z a0 hw [] G GG x1 b2q7q3 k2q7q3 T3.heap O3_ r1 g_b2q7q3 (Arv.pad p3_5 (own_tr [v_115, v_116, v_97, v_116, v_117, v_115, v_32, v_0, v_0, v_0, v_0, v_0, v_0, v_0, v_0, v_0, v_0] 17 _))) rfl d14_30 rfl rfl (by decide) ?_
  intro v6 T6 L6 Lc6 X6 hQ6 l6
  obtain ⟨rfl, Nq6, Kq6, pV6⟩ := hQ6
  have O6_ := extKeep O3_ Kq6 (allS g_b2q7q3 all0)
  have K6 := Keep.trans K3 Kq6 (allS (Or.inr sz_b2q7q3) all0)
  have N6_ := frA l6 N4_ Nq6
  refine t_pop X6 u d14_33 rfl ?_
  refine t_go 34 48 X6 u rfl d14_34 (by decide) ?_
  refine t_aN X6 u d14_48 rfl rfl ?_
  refine t_iN X6 u d14_49 rfl ?_
  have f7 := (p3_2.keep Kq6 (ninS (neL r5.lt p3_3) nin0))
  refine t_pF X6 u hZ hown (wd hw 57 rfl) rfl f7 ((r5.keep Kq3).keep Kq6) (Or.inl (wd hw 58 rfl)) (wd hw 7 rfl) pf_I rfl rfl d14_50 ?_
  intro T8 h8 X8 e8 W8
  have N8_ := Fr.snoc X8 N6_ r6
  have O8_ := extWr O6_ W8 r6
  have K8 := Keep.wr K6 W8 k0
  have F8 := Fld.same W8 f7
  refine t_aN X8 u d14_53 rfl rfl ?_
  have f9 := (fS W8 (p3_0.keep Kq6 (ninS (neL r5.lt p3_3) nin0)) (sn_10 hw))
  have f10 := (fS W8 (p3_1.keep Kq6 (ninS (neL r5.lt p3_3) nin0)) (sn_11 hw))
  have f11 := (pV6.other W8 (Ne.symm (neL r5.lt p3_3)))
  exact Go.retA X8 hx hret rfl rfl hlk (hb hby d14_54) (by decide) (by decide) (by show Q_a14_9 ..; rw [e8]; exact ⟨b2q7q3, k2q7q3, rfl, N8_, K8, f9, f10, F8, sz_b2q7q3, (Exa.wr W8 (p3_4.keep Kq6)), f11⟩)
def Q_a13_9 (Z : State) (x0 : Addr) (x1 : Int32) (h0 : Heap) (v : Option Value) (h : Heap) (L : List Loc) : Prop := ∃ (b2q7q3q1 : Addr) (k2q7q3q1 : ClassId), v = some (.ref x0) ∧ Fr Z.heap.size L ∧ Keep h0 h [x0] ∧ fl_6 Z h x0 (.ref b2q7q3q1) ∧ fl_7 Z h x0 v_0 ∧ fl_8 Z h x0 v_17 ∧ h0.size ≤ b2q7q3q1 ∧ ex_0 Z h b2q7q3q1 ∧ Arv Z h b2q7q3q1 k2q7q3q1 .byte (34 : Int32) [v_115, v_116, v_97, v_116, v_117, v_115, v_32, (.int (bq x1 9)), (.int (bq x1 8)), (.int (bq x1 7)), (.int (bq x1 6)), (.int (bq x1 5)), (.int (bq x1 4)), (.int (bq x1 3)), (.int (bq x1 2)), (.int (bq x1 1)), (.int (bq x1 0))] v_0
theorem rm_a13_9 (x0 : Addr) (x1 : Int32) (w1 : Addr) (kk2 : ClassId) (h0 : Heap) (O0 : Ext Z.heap h0) (r0 : fl_8 Z h0 x0 v_7) (r1 : Dg_0_10 x1) (r2 : fl_6 Z h0 x0 (.ref w1)) (r3 : Arv Z h0 w1 kk2 .byte (16 : Int32) [v_115, v_116, v_97, v_116, v_117, v_115, v_32, v_0, v_0, v_0, v_0, v_0, v_0, v_0, v_0, v_0] v_0) (r4 : fl_7 Z h0 x0 v_0) (r5 : ex_3 Z h0 x0) (r6 : Z.heap.size ≤ x0) :
    MF hw GG l y_13 jdk_67_method_15_code 2 (some (.object "java/lang/StringBuilder")) ws ⟨5, 1, 34, 77⟩ h0 #[(.ref x0), (.int x1)] (Q_a13_9 Z x0 x1 h0) := by
  refine own_mF #[.val (.ref x0), .val (.int x1)] (plainFor_of_name pn_13) (fun _ => rfl) ?_
  intro p e s m below meth c s₁ u hlk hret hZ hown hnm X0 e0 N0
  obtain ⟨hx, hby, hml⟩ := id u
  refine t_aN X0 u d13_0 rfl rfl ?_
  refine t_iN X0 u d13_1 rfl ?_
  refine t_cX [(.int x1)] [] 0 X0 u hZ hown (by decide) r5 (wd hw 89 rfl) (m_13 hw) e0 (rm_a14_9 l Z a0 hw [] G GG x0 x1 w1 kk2 h0 O0 r0 r1 r2 r3 r4 r5 r6) rfl d13_2 rfl rfl (by decide) ?_
  intro v1 T1 L1 Lc1 X1 hQ1 l1
  obtain ⟨b2q7q3q1, k2q7q3q1, rfl, Nq1, Kq1, p1_0, p1_1, p1_2, p1_3, p1_4, p1_5⟩ := hQ1
  have O1_ := extKeep O0 Kq1 (allS r6 all0)
  have K1 := Keep.trans (Keep.refl h0 [x0]) Kq1 (allS k0 all0)
  have N1_ := frA l1 N0 Nq1
  have g_b2q7q3q1 := Nat.le_trans O0.1 p1_3
  have sz_b2q7q3q1 := Nat.le_trans (Keep.refl h0 [x0]).1 p1_3
  refine t_pop X1 u d13_5 rfl ?_
  refine t_aN X1 u d13_6 rfl rfl ?_
  exact Go.retA X1 hx hret rfl rfl hlk (hb hby d13_7) (by decide) (by decide) ⟨b2q7q3q1, k2q7q3q1, rfl, N1_, K1, p1_0, p1_1, p1_2, sz_b2q7q3q1, p1_4, p1_5⟩
def Q_a25_8 (Z : State) (w2 w3 w4 w5 w6 w7 w8 w9 w10 w11 : Int32) (h0 : Heap) (v : Option Value) (h : Heap) (L : List Loc) : Prop := ∃ (b2 : Addr) (k2 : ClassId), v = some (.ref b2) ∧ Fr Z.heap.size L ∧ Keep h0 h [] ∧ h0.size ≤ b2 ∧ ex_0 Z h b2 ∧ Arv Z h b2 k2 .byte (17 : Int32) [v_115, v_116, v_97, v_116, v_117, v_115, v_32, (.int w2), (.int w3), (.int w4), (.int w5), (.int w6), (.int w7), (.int w8), (.int w9), (.int w10), (.int w11)] v_0
theorem rm_a25_8 (x0 : Addr) (kk1 : ClassId) (w2 w3 w4 w5 w6 w7 w8 w9 w10 w11 : Int32) (h0 : Heap) (O0 : Ext Z.heap h0) (r0 : Arv Z h0 x0 kk1 .byte (34 : Int32) [v_115, v_116, v_97, v_116, v_117, v_115, v_32, (.int w2), (.int w3), (.int w4), (.int w5), (.int w6), (.int w7), (.int w8), (.int w9), (.int w10), (.int w11)] v_0) :
    MF hw GG l y_25 jdk_65_method_133_code 5 (some (.array .byte)) ws ⟨1, 1, 17, 18⟩ h0 #[(.ref x0), v_0, v_17] (Q_a25_8 Z w2 w3 w4 w5 w6 w7 w8 w9 w10 w11 h0) := by
  refine own_mF #[.val (.ref x0), .val v_0, .val v_17, .unset, .unset] (plainFor_of_name pn_25) (fun _ => rfl) ?_
  intro p e s m below meth c s₁ u hlk hret hZ hown hnm X0 e0 N0
  obtain ⟨hx, hby, hml⟩ := id u
  refine t_iN X0 u d25_0 rfl ?_
  refine t_iN X0 u d25_1 rfl ?_
  refine pt_cS [v_0, v_17] [] 0 X0 u hZ hown (wd hw 141 rfl) (m_17 hw) e0 (rm_a26_0 l Z a0 hw [] G GG (0 : Int32) (17 : Int32) h0 O0 (by decide)) rfl d25_2 rfl rfl (by decide) N0 ?_
  intro T1 L1 X1 e1 N1_
  refine t_iN X1 u d25_5 rfl ?_
  refine t_iN X1 u d25_6 rfl ?_
  refine t_isub X1 u d25_7  ?_
  refine t_isN X1 u d25_8 (l' := #[.val (.ref x0), .val v_0, .val v_17, .val v_17, .unset]) rfl ?_
  refine t_iN X1 u d25_9 rfl ?_
  refine t_nB 17 X1 u hZ (wd hw 23 rfl) e1 d25_10 (by decide) ?_
  intro T2 h2 b2 k2 X2 e2 E2 hb2 V2 B2
  have g_b2 := leE O0.1 hb2
  have O2_ := extTr O0 E2
  have sz_b2 := leE (Keep.refl h0 []).1 hb2
  have K2 := Keep.ext (Keep.refl h0 []) E2
  refine t_asL X2 u d25_12 rfl (l' := #[.val (.ref x0), .val v_0, .val v_17, .val v_17, .val (.ref b2)]) rfl ?_
  refine t_aN X2 u d25_14 rfl rfl ?_
  refine t_iN X2 u d25_15 rfl ?_
  refine t_aL X2 u d25_16 rfl rfl ?_
  refine t_iC X2 u d25_18  ?_
  refine t_aN X2 u d25_19 rfl rfl ?_
  obtain ⟨cl3, Ar3, -, S3, N3, -, -⟩ := id (r0.ext E2)
  refine Go.step (X2.arraylength hx (by rw [e2]; exact Ar3.1) (State.isArrayOf_alike hZ.alike Ar3.2.1) (g := (mkF m 20 #[.val (.ref x0), .val v_0, .val v_17, .val v_17, .val (.ref b2)] [(.ref x0), v_0, (.ref b2), v_0, (.ref x0)])) rfl rfl (hb hby d25_20)) ?_
  rw [len_of S3 N3]
  show Go _ _ _ _ _ _ _ _ T2 (mkF m 21 #[.val (.ref x0), .val v_0, .val v_17, .val v_17, .val (.ref b2)] [v_34, v_0, (.ref b2), v_0, (.ref x0)])
  refine t_iN X2 u d25_21 rfl ?_
  refine t_isub X2 u d25_22  ?_
  refine t_iN X2 u d25_23 rfl ?_
  refine pt_cS [v_34, v_17] [v_0, (.ref b2), v_0, (.ref x0)] 4 X2 u hZ hown (wd hw 144 rfl) (m_18 hw) e2 (rm_a27_0 l Z a0 hw [] G GG (34 : Int32) (17 : Int32) h2 O2_ (by decide)) rfl d25_24 rfl rfl (by decide) N1_ ?_
  intro T4 L4 X4 e4 N4_
  obtain ⟨T5, h5, L5, X5, e5, N5_, K5_, V5_, st5⟩ := cpA X4 hx hZ hown (wd hw 148 rfl) (wd hw 83 rfl) (wd hw 81 rfl) (wd hw 82 rfl) e4 (us := [v_115, v_116, v_97, v_116, v_117, v_115, v_32, (.int w2), (.int w3), (.int w4), (.int w5), (.int w6), (.int w7), (.int w8), (.int w9), (.int w10), (.int w11)]) (r0.ext E2) V2 (Or.inl ⟨rfl, rfl⟩) (by decide) (by decide) (by decide) (by decide) (by decide) rfl (by decide) N4_ g_b2 (g := (mkF m 27 #[.val (.ref x0), .val v_0, .val v_17, .val v_17, .val (.ref b2)] [v_17, v_0, (.ref b2), v_0, (.ref x0)])) rfl (by rw [hml]; rfl) rfl (hb hby d25_27) (by decide) (W := 0) (by show 2 * 0 + _ ≤ _; exact Nat.le_of_eq rfl) (by decide)
  refine Go.step st5 ?_
  have V5 : Arv Z h5 b2 k2 .byte (17 : Int32) [v_115, v_116, v_97, v_116, v_117, v_115, v_32, (.int w2), (.int w3), (.int w4), (.int w5), (.int w6), (.int w7), (.int w8), (.int w9), (.int w10), (.int w11)] v_0 := V5_
  have O5_ : Ext Z.heap h5 := extKeep O2_ K5_ (allS g_b2 all0)
  have K5 := Keep.trans K2 K5_ (allS (Or.inr sz_b2) all0)
  refine t_aL X5 u d25_30 rfl rfl ?_
  exact Go.retA X5 hx hret rfl rfl hlk (hb hby d25_32) (by decide) (by decide) (by show Q_a25_8 ..; rw [e5]; exact ⟨b2, k2, rfl, N5_, K5, sz_b2, (B2.keep K5_), V5⟩)
def Q_a24_9 (Z : State) (w2 w3 w4 w5 w6 w7 w8 w9 w10 w11 : Int32) (h0 : Heap) (v : Option Value) (h : Heap) (L : List Loc) : Prop := ∃ (b2q2 : Addr) (k2q2 : ClassId), v = some (.ref b2q2) ∧ Fr Z.heap.size L ∧ Keep h0 h [] ∧ h0.size ≤ b2q2 ∧ ex_0 Z h b2q2 ∧ Arv Z h b2q2 k2q2 .byte (17 : Int32) [v_115, v_116, v_97, v_116, v_117, v_115, v_32, (.int w2), (.int w3), (.int w4), (.int w5), (.int w6), (.int w7), (.int w8), (.int w9), (.int w10), (.int w11)] v_0
theorem rm_a24_9 (x0 : Addr) (kk1 : ClassId) (w2 w3 w4 w5 w6 w7 w8 w9 w10 w11 : Int32) (h0 : Heap) (O0 : Ext Z.heap h0) (r0 : Arv Z h0 x0 kk1 .byte (34 : Int32) [v_115, v_116, v_97, v_116, v_117, v_115, v_32, (.int w2), (.int w3), (.int w4), (.int w5), (.int w6), (.int w7), (.int w8), (.int w9), (.int w10), (.int w11)] v_0) :
    MF hw GG l y_24 jdk_65_method_132_code 3 (some (.array .byte)) ws ⟨2, 1, 17, 34⟩ h0 #[(.ref x0), v_0, v_17] (Q_a24_9 Z w2 w3 w4 w5 w6 w7 w8 w9 w10 w11 h0) := by
  refine own_mF #[.val (.ref x0), .val v_0, .val v_17] (plainFor_of_name pn_24) (fun _ => rfl) ?_
  intro p e s m below meth c s₁ u hlk hret hZ hown hnm X0 e0 N0
  obtain ⟨hx, hby, hml⟩ := id u
  refine t_iN X0 u d24_0 rfl ?_
  refine t_ifN X0 u d24_1 ((if0 _ _).trans (teq (by decide : (0 : Int32) = (0 : Int32))).2) ?_
  refine t_iN X0 u d24_4 rfl ?_
  refine t_aN X0 u d24_5 rfl rfl ?_
  obtain ⟨cl1, Ar1, -, S1, N1, -, -⟩ := id r0
  refine Go.step (X0.arraylength hx (by rw [e0]; exact Ar1.1) (State.isArrayOf_alike hZ.alike Ar1.2.1) (g := (mkF m 6 #[.val (.ref x0), .val v_0, .val v_17] [(.ref x0), v_17])) rfl rfl (hb hby d24_6)) ?_
  rw [len_of S1 N1]
  show Go _ _ _ _ _ _ _ _ s₁ (mkF m 7 #[.val (.ref x0), .val v_0, .val v_17] [v_34, v_17])
  refine t_icN X0 u d24_7 (feq (by decide : ¬ ((17 : Int32) = (34 : Int32)))).1 ?_
  refine t_aN X0 u d24_10 rfl rfl ?_
  refine t_iN X0 u d24_11 rfl ?_
  refine t_iN X0 u d24_12 rfl ?_
  refine t_cS [(.ref x0), v_0, v_17] [] 0 X0 u hZ hown (wd hw 138 rfl) (m_19 hw) e0 (rm_a25_8 l Z a0 hw [] G GG x0 kk1 w2 w3 w4 w5 w6 w7 w8 w9 w10 w11 h0 O0 r0) rfl d24_13 rfl rfl (by decide) ?_
  intro v2 T2 L2 Lc2 X2 hQ2 l2
  obtain ⟨b2q2, k2q2, rfl, Nq2, Kq2, p2_0, p2_1, p2_2⟩ := hQ2
  have O2_ := extKeep O0 Kq2 all0
  have K2 := Keep.trans (Keep.refl h0 []) Kq2 all0
  have N2_ := frA l2 N0 Nq2
  have g_b2q2 := Nat.le_trans O0.1 p2_0
  have sz_b2q2 := Nat.le_trans (Keep.refl h0 []).1 p2_0
  exact Go.retA X2 hx hret rfl rfl hlk (hb hby d24_16) (by decide) (by decide) ⟨b2q2, k2q2, rfl, N2_, K2, sz_b2q2, p2_1, p2_2⟩
def Q_a20_9 (Z : State) (x0 : Addr) (w3 w4 w5 w6 w7 w8 w9 w10 w11 w12 : Int32) (h0 : Heap) (v : Option Value) (h : Heap) (L : List Loc) : Prop := ∃ (b2q2q6 : Addr) (k2q2q6 : ClassId), v = none ∧ Fr Z.heap.size L ∧ Keep h0 h [x0] ∧ fl_4 Z h x0 v_0 ∧ fl_5 Z h x0 (.ref b2q2q6) ∧ h0.size ≤ b2q2q6 ∧ ex_0 Z h b2q2q6 ∧ Arv Z h b2q2q6 k2q2q6 .byte (17 : Int32) [v_115, v_116, v_97, v_116, v_117, v_115, v_32, (.int w3), (.int w4), (.int w5), (.int w6), (.int w7), (.int w8), (.int w9), (.int w10), (.int w11), (.int w12)] v_0
theorem rm_a20_9 (x0 x1 w1 : Addr) (kk2 : ClassId) (w3 w4 w5 w6 w7 w8 w9 w10 w11 w12 : Int32) (h0 : Heap) (O0 : Ext Z.heap h0) (r0 : ex_3 Z h0 x1) (r1 : fl_6 Z h0 x1 (.ref w1)) (r2 : fl_8 Z h0 x1 v_17) (r3 : fl_7 Z h0 x1 v_0) (r4 : ex_2 Z h0 x0) (r5 : fl_4 Z h0 x0 v_0) (r6 : Z.heap.size ≤ x0) (r7 : Arv Z h0 w1 kk2 .byte (34 : Int32) [v_115, v_116, v_97, v_116, v_117, v_115, v_32, (.int w3), (.int w4), (.int w5), (.int w6), (.int w7), (.int w8), (.int w9), (.int w10), (.int w11), (.int w12)] v_0) (r8 : w1 ≠ x0) (r9 : fl_5 Z h0 x0 .null) :
    MF hw GG l y_20 jdk_42_method_150_code 5 none ws ⟨3, 1, 17, 49⟩ h0 #[(.ref x0), (.ref x1), .null] (Q_a20_9 Z x0 w3 w4 w5 w6 w7 w8 w9 w10 w11 w12 h0) := by
  refine own_mF #[.val (.ref x0), .val (.ref x1), .val .null, .unset, .unset] (plainFor_of_name pn_20) (fun _ => rfl) ?_
  intro p e s m below meth c s₁ u hlk hret hZ hown hnm X0 e0 N0
  obtain ⟨hx, hby, hml⟩ := id u
  refine t_aN X0 u d20_0 rfl rfl ?_
  refine t_in 0 X0 u hZ hown (wd hw 119 rfl) (wd hw 19 rfl) (wd hw 20 rfl) e0 rfl d20_1 rfl (by decide) ?_
  intro T1 X1 e1
  refine t_aN X1 u d20_4 rfl rfl ?_
  refine pt_cV [] [] 0 X1 u hZ hown (wd hw 120 rfl) (m_15 hw) e1 r0 (rm_a21_0 l Z a0 hw [] G GG x1 w1 h0 O0 r1) rfl d20_5 rfl rfl (by decide) N0 ?_
  intro T2 L2 X2 e2 N2_
  refine t_asN X2 u d20_8 rfl (l' := #[.val (.ref x0), .val (.ref x1), .val .null, .val (.ref w1), .unset]) rfl ?_
  refine t_aN X2 u d20_9 rfl rfl ?_
  obtain ⟨cq3, kq3, q3a, q3b, q3c⟩ := isOf hZ e2 r0
  obtain ⟨_, _, ⟨T3, L3, k3, n3⟩, -, X3, ⟨Lc3, hQ3, l3, y3, z3⟩, st3⟩ := X2.virtualBack hx (y := (⟨"java/lang/AbstractStringBuilder", "length", "()I"⟩ : MethodName)) (z := (⟨"java/lang/StringBuilder", "length", "()I"⟩ : MethodName)) hown (mvT hZ (wd hw 125 rfl)) (mvT hZ (wd hw 126 rfl)) (own_nf (mvT hZ (wd hw 62 rfl)) rfl) (mvT hZ (wd hw 128 rfl)) (mvT hZ (wd hw 129 rfl)) (by decide) (backOf (W := 0) (rm_a22_0 l Z a0 hw [] G GG x1 (17 : Int32) h0 O0 r2 r0) hZ (wd hw 130 rfl) (wd hw 8 rfl) (by decide) (by decide)) q3a q3c (g := (mkF m 10 #[.val (.ref x0), .val (.ref x1), .val .null, .val (.ref w1), .unset] [(.ref x1)])) rfl (by rw [hml]; rfl) (Steps.refl _) (argsL := []) (rest := []) (lenOf pd_LRI rfl) rfl (by show 2 * 0 + _ ≤ _; exact Nat.le_of_eq rfl) (hb hby d20_10) (fun _ _ => ⟨rfl, e2, (by decide : 0 + 0 ≤ _), (by decide : 0 + 0 ≤ _)⟩)
  dsimp only [Pt.U, Pt.locs, Pt.cells, Pt.slots] at X3 l3 y3 z3 st3 hQ3
  subst y3 z3
  obtain ⟨rfl, Nq3, e3⟩ := hQ3
  have N3_ := frA l3 N2_ Nq3
  refine Go.trans st3 ?_
  refine t_isL X3 u d20_13 (l' := #[.val (.ref x0), .val (.ref x1), .val .null, .val (.ref w1), .val v_17]) rfl ?_
  refine t_aN X3 u d20_15 rfl rfl ?_
  refine pt_cV [] [] 0 X3 u hZ hown (wd hw 133 rfl) (m_11 hw) e3 r0 (rm_a16_0 l Z a0 hw [] G GG x1 (0 : Int32) h0 O0 r3 (by decide)) rfl d20_16 rfl rfl (by decide) N3_ ?_
  intro T4 L4 X4 e4 N4_
  refine t_ifN X4 u d20_19 ((if0 _ _).trans (feq (by decide : ¬ ((1 : Int32) = (0 : Int32)))).1) ?_
  refine t_aN X4 u d20_22 rfl rfl ?_
  refine t_iC X4 u d20_23  ?_
  refine t_pN X4 u hZ hown (wd hw 56 rfl) e4 r5 r4 (Or.inr ⟨(wd hw 31 rfl), rfl, hnm⟩) (wd hw 29 rfl) v_0 pf_B rfl rfl d20_24 ?_
  intro T5 h5 X5 e5 W5
  have N5_ := Fr.snoc X5 N4_ r6
  have O5_ := extWr O0 W5 r6
  have K5 := Keep.wr (Keep.refl h0 [x0]) W5 k0
  have F5 := Fld.same W5 r5
  refine t_aN X5 u d20_27 rfl rfl ?_
  refine t_aN X5 u d20_28 rfl rfl ?_
  refine t_iC X5 u d20_29  ?_
  refine t_iL X5 u d20_30 rfl ?_
  refine t_cS [(.ref w1), v_0, v_17] [(.ref x0)] 1 X5 u hZ hown (wd hw 134 rfl) (m_20 hw) e5 (rm_a24_9 l Z a0 hw [] G GG w1 kk2 w3 w4 w5 w6 w7 w8 w9 w10 w11 w12 h5 O5_ (r7.other W5 r8)) rfl d20_32 rfl rfl (by decide) ?_
  intro v6 T6 L6 Lc6 X6 hQ6 l6
  obtain ⟨b2q2q6, k2q2q6, rfl, Nq6, Kq6, p6_0, p6_1, p6_2⟩ := hQ6
  have O6_ := extKeep O5_ Kq6 all0
  have K6 := Keep.trans K5 Kq6 all0
  have N6_ := frA l6 N5_ Nq6
  have g_b2q2q6 := Nat.le_trans O5_.1 p6_0
  have sz_b2q2q6 := Nat.le_trans K5.1 p6_0
  refine t_pF X6 u hZ hown (wd hw 49 rfl) rfl ((fR W5 r9 (sn_12 hw)).keep Kq6 nin0) ((Exa.wr W5 r4).keep Kq6) (Or.inr ⟨(wd hw 30 rfl), rfl, hnm⟩) (wd hw 29 rfl) pf_AB rfl rfl d20_35 ?_
  intro T7 h7 X7 e7 W7
  have N7_ := Fr.snoc X7 N6_ r6
  have O7_ := extWr O6_ W7 r6
  have K7 := Keep.wr K6 W7 k0
  have F7 := Fld.same W7 ((fR W5 r9 (sn_12 hw)).keep Kq6 nin0)
  refine t_go 38 97 X7 u rfl d20_38 (by decide) ?_
  have f8 := (p6_2.other W7 (Ne.symm (neL (Exa.wr W5 r4).lt p6_0)))
  exact Go.retV X7 hx hret hlk (hb hby d20_97) (by decide) (by decide) (by show Q_a20_9 ..; rw [e7]; exact ⟨b2q2q6, k2q2q6, rfl, N7_, K7, (fS W7 (F5.keep Kq6 nin0) (sn_12 hw)), F7, sz_b2q2q6, (Exa.wr W7 p6_1), f8⟩)
def Q_a19_9 (Z : State) (x0 : Addr) (w3 w4 w5 w6 w7 w8 w9 w10 w11 w12 : Int32) (h0 : Heap) (v : Option Value) (h : Heap) (L : List Loc) : Prop := ∃ (b2q2q6q1 : Addr) (k2q2q6q1 : ClassId), v = none ∧ Fr Z.heap.size L ∧ Keep h0 h [x0] ∧ fl_4 Z h x0 v_0 ∧ fl_5 Z h x0 (.ref b2q2q6q1) ∧ h0.size ≤ b2q2q6q1 ∧ ex_0 Z h b2q2q6q1 ∧ Arv Z h b2q2q6q1 k2q2q6q1 .byte (17 : Int32) [v_115, v_116, v_97, v_116, v_117, v_115, v_32, (.int w3), (.int w4), (.int w5), (.int w6), (.int w7), (.int w8), (.int w9), (.int w10), (.int w11), (.int w12)] v_0
theorem rm_a19_9 (x0 x1 w1 : Addr) (kk2 : ClassId) (w3 w4 w5 w6 w7 w8 w9 w10 w11 w12 : Int32) (h0 : Heap) (O0 : Ext Z.heap h0) (r0 : ex_3 Z h0 x1) (r1 : fl_6 Z h0 x1 (.ref w1)) (r2 : fl_8 Z h0 x1 v_17) (r3 : fl_7 Z h0 x1 v_0) (r4 : ex_2 Z h0 x0) (r5 : fl_4 Z h0 x0 v_0) (r6 : Z.heap.size ≤ x0) (r7 : Arv Z h0 w1 kk2 .byte (34 : Int32) [v_115, v_116, v_97, v_116, v_117, v_115, v_32, (.int w3), (.int w4), (.int w5), (.int w6), (.int w7), (.int w8), (.int w9), (.int w10), (.int w11), (.int w12)] v_0) (r8 : w1 ≠ x0) (r9 : fl_5 Z h0 x0 .null) :
    MF hw GG l y_19 jdk_42_method_53_code 2 none ws ⟨4, 1, 17, 65⟩ h0 #[(.ref x0), (.ref x1)] (Q_a19_9 Z x0 w3 w4 w5 w6 w7 w8 w9 w10 w11 w12 h0) := by
  refine own_mF #[.val (.ref x0), .val (.ref x1)] (plainFor_of_name pn_19) (fun _ => rfl) ?_
  intro p e s m below meth c s₁ u hlk hret hZ hown hnm X0 e0 N0
  obtain ⟨hx, hby, hml⟩ := id u
  refine t_aN X0 u d19_0 rfl rfl ?_
  refine t_aN X0 u d19_1 rfl rfl ?_
  refine t_nl X0 u d19_2  ?_
  refine t_cN [(.ref x1), .null] [] 0 X0 u hZ hown rfl (wd hw 116 rfl) (m_21 hw) e0 (rm_a20_9 l Z a0 hw [] G GG x0 x1 w1 kk2 w3 w4 w5 w6 w7 w8 w9 w10 w11 w12 h0 O0 r0 r1 r2 r3 r4 r5 r6 r7 r8 r9) rfl d19_3 rfl rfl (by decide) ?_
  intro v1 T1 L1 Lc1 X1 hQ1 l1
  obtain ⟨b2q2q6q1, k2q2q6q1, rfl, Nq1, Kq1, p1_0, p1_1, p1_2, p1_3, p1_4⟩ := hQ1
  have O1_ := extKeep O0 Kq1 (allS r6 all0)
  have K1 := Keep.trans (Keep.refl h0 [x0]) Kq1 (allS k0 all0)
  have N1_ := frA l1 N0 Nq1
  have g_b2q2q6q1 := Nat.le_trans O0.1 p1_2
  have sz_b2q2q6q1 := Nat.le_trans (Keep.refl h0 [x0]).1 p1_2
  exact Go.retV X1 hx hret hlk (hb hby d19_6) (by decide) (by decide) ⟨b2q2q6q1, k2q2q6q1, rfl, N1_, K1, p1_0, p1_1, sz_b2q2q6q1, p1_3, p1_4⟩
def Q_a18_9 (Z : State) (w3 w4 w5 w6 w7 w8 w9 w10 w11 w12 : Int32) (h0 : Heap) (v : Option Value) (h : Heap) (L : List Loc) : Prop := ∃ (b1 : Addr) (b2q2q6q1q2 : Addr) (k2q2q6q1q2 : ClassId), v = some (.ref b1) ∧ Fr Z.heap.size L ∧ Keep h0 h [] ∧ h0.size ≤ b1 ∧ ex_2 Z h b1 ∧ fl_4 Z h b1 v_0 ∧ fl_5 Z h b1 (.ref b2q2q6q1q2) ∧ h0.size ≤ b2q2q6q1q2 ∧ ex_0 Z h b2q2q6q1q2 ∧ Arv Z h b2q2q6q1q2 k2q2q6q1q2 .byte (17 : Int32) [v_115, v_116, v_97, v_116, v_117, v_115, v_32, (.int w3), (.int w4), (.int w5), (.int w6), (.int w7), (.int w8), (.int w9), (.int w10), (.int w11), (.int w12)] v_0 ∧ b1 ≠ b2q2q6q1q2
theorem rm_a18_9 (x0 w1 : Addr) (kk2 : ClassId) (w3 w4 w5 w6 w7 w8 w9 w10 w11 w12 : Int32) (h0 : Heap) (O0 : Ext Z.heap h0) (r0 : ex_3 Z h0 x0) (r1 : fl_6 Z h0 x0 (.ref w1)) (r2 : fl_8 Z h0 x0 v_17) (r3 : fl_7 Z h0 x0 v_0) (r4 : Arv Z h0 w1 kk2 .byte (34 : Int32) [v_115, v_116, v_97, v_116, v_117, v_115, v_32, (.int w3), (.int w4), (.int w5), (.int w6), (.int w7), (.int w8), (.int w9), (.int w10), (.int w11), (.int w12)] v_0) :
    MF hw GG l y_18 jdk_67_method_42_code 1 (some (.object "java/lang/String")) ws ⟨5, 2, 21, 79⟩ h0 #[(.ref x0)] (Q_a18_9 Z w3 w4 w5 w6 w7 w8 w9 w10 w11 w12 h0) := by
  refine own_mF #[.val (.ref x0)] (plainFor_of_name pn_18) (fun _ => rfl) ?_
  intro p e s m below meth c s₁ u hlk hret hZ hown hnm X0 e0 N0
  obtain ⟨hx, hby, hml⟩ := id u
  refine t_new X0 u hZ hown (wd hw 111 rfl) (wd hw 29 rfl) (wd hw 22 rfl) e0 d18_0 (by decide) ?_
  intro T1 h1 b1 X1 e1 E1 hb1 A1 D1
  have g_b1 := leE O0.1 hb1
  have O1_ := extTr O0 E1
  have sz_b1 := leE (Keep.refl h0 []).1 hb1
  have K1 := Keep.ext (Keep.refl h0 []) E1
  have F1_value : fl_5 Z h1 b1 .null := D1 (Or.inr (wd hw 30 rfl)) (ty := (.array .byte)) pf_AB
  have F1_coder : fl_4 Z h1 b1 v_0 := D1 (Or.inr (wd hw 31 rfl)) (ty := .byte) pf_B
  refine t_dup X1 u d18_3 rfl ?_
  refine t_aN X1 u d18_4 rfl rfl ?_
  refine t_cN [(.ref x0)] [(.ref b1)] 1 X1 u hZ hown rfl (wd hw 112 rfl) (m_22 hw) e1 (rm_a19_9 l Z a0 hw [] G GG b1 x0 w1 kk2 w3 w4 w5 w6 w7 w8 w9 w10 w11 w12 h1 O1_ (Exa.ext E1 r0) (Fld.ext E1 r1) (Fld.ext E1 r2) (Fld.ext E1 r3) A1 F1_coder g_b1 (r4.ext E1) (neE r4.lt hb1) F1_value) rfl d18_5 rfl rfl (by decide) ?_
  intro v2 T2 L2 Lc2 X2 hQ2 l2
  obtain ⟨b2q2q6q1q2, k2q2q6q1q2, rfl, Nq2, Kq2, p2_0, p2_1, p2_2, p2_3, p2_4⟩ := hQ2
  have O2_ := extKeep O1_ Kq2 (allS g_b1 all0)
  have K2 := Keep.trans K1 Kq2 (allS (Or.inr sz_b1) all0)
  have N2_ := frA l2 N0 Nq2
  have g_b2q2q6q1q2 := Nat.le_trans O1_.1 p2_2
  have sz_b2q2q6q1q2 := Nat.le_trans K1.1 p2_2
  exact Go.retA X2 hx hret rfl rfl hlk (hb hby d18_8) (by decide) (by decide) ⟨b1, b2q2q6q1q2, k2q2q6q1q2, rfl, N2_, K2, sz_b1, (A1.keep Kq2), p2_0, p2_1, sz_b2q2q6q1q2, p2_3, p2_4, (neL A1.lt p2_2)⟩
def Q_a14_10 (Z : State) (x0 : Addr) (x1 : Int32) (w1 : Addr) (kk2 : ClassId) (h0 : Heap) (v : Option Value) (h : Heap) (L : List Loc) : Prop := v = some (.ref x0) ∧ Fr Z.heap.size L ∧ Keep h0 h [w1, x0] ∧ Arv Z h w1 kk2 .byte (16 : Int32) [v_115, v_116, v_97, v_116, v_117, v_115, v_32, v_45, (.int (bq x1 0))] v_0 ∧ fl_8 Z h x0 v_9 ∧ fl_6 Z h x0 (.ref w1) ∧ fl_7 Z h x0 v_0
theorem rm_a14_10 (x0 : Addr) (x1 : Int32) (w1 : Addr) (kk2 : ClassId) (h0 : Heap) (O0 : Ext Z.heap h0) (r0 : fl_8 Z h0 x0 v_7) (r1 : Dg_1_1 x1) (r2 : fl_6 Z h0 x0 (.ref w1)) (r3 : Arv Z h0 w1 kk2 .byte (16 : Int32) [v_115, v_116, v_97, v_116, v_117, v_115, v_32, v_0, v_0, v_0, v_0, v_0, v_0, v_0, v_0, v_0] v_0) (r4 : fl_7 Z h0 x0 v_0) (r5 : ex_3 Z h0 x0) (r6 : Z.heap.size ≤ w1) (r7 : x0 ≠ w1) (r8 : Z.heap.size ≤ x0) :
    MF hw GG l y_14 jdk_68_method_32_code 4 (some (.object "java/lang/AbstractStringBuilder")) ws ⟨1, 0, 0, 18⟩ h0 #[(.ref x0), (.int x1)] (Q_a14_10 Z x0 x1 w1 kk2 h0) := by
  refine own_mF #[.val (.ref x0), .val (.int x1), .unset, .unset] (plainFor_of_name pn_14) (fun _ => rfl) ?_
  intro p e s m below meth c s₁ u hlk hret hZ hown hnm X0 e0 N0
  obtain ⟨hx, hby, hml⟩ := id u
  refine t_aN X0 u d14_0 rfl rfl ?_
  refine t_gF X0 u hZ hown (wd hw 57 rfl) e0 r0 d14_1 ?_
  intro T1 X1 e1
  refine t_isN X1 u d14_4 (l' := #[.val (.ref x0), .val (.int x1), .val v_7, .unset]) rfl ?_
  refine t_iN X1 u d14_5 rfl ?_
  refine t_iN X1 u d14_6 rfl ?_
  refine pt_cS [(.int x1)] [v_7] 1 X1 u hZ hown (wd hw 93 rfl) (m_10 hw) e1 (rm_ss_1_1 l Z a0 hw [] G GG x1 h0 O0 r1) rfl d14_7 rfl rfl (by decide) N0 ?_
  intro T2 L2 X2 e2 N2_
  refine t_iadd X2 u d14_10  ?_
  refine t_isN X2 u d14_11 (l' := #[.val (.ref x0), .val (.int x1), .val v_7, .val v_9]) rfl ?_
  refine t_aN X2 u d14_12 rfl rfl ?_
  refine t_iN X2 u d14_13 rfl ?_
  refine pt_cP [v_9] [] 0 X2 u hZ hown r5 (wd hw 59 rfl) (m_4 hw) e2 (rm_a9_0 l Z a0 hw [] G GG x0 (9 : Int32) w1 kk2 (115 : Int32) (116 : Int32) (97 : Int32) (116 : Int32) (117 : Int32) (115 : Int32) (32 : Int32) (0 : Int32) (0 : Int32) (0 : Int32) (0 : Int32) (0 : Int32) (0 : Int32) (0 : Int32) (0 : Int32) (0 : Int32) (0 : Int32) h0 O0 r2 r3 r4 (by decide)) rfl d14_14 rfl rfl (by decide) N2_ ?_
  intro T3 L3 X3 e3 N3_
  refine t_aN X3 u d14_17 rfl rfl ?_
  refine pt_cV [] [] 0 X3 u hZ hown (wd hw 97 rfl) (m_11 hw) e3 r5 (rm_a16_0 l Z a0 hw [] G GG x0 (0 : Int32) h0 O0 r4 (by decide)) rfl d14_18 rfl rfl (by decide) N3_ ?_
  intro T4 L4 X4 e4 N4_
  refine t_ifN X4 u d14_21 ((if0 _ _).trans (feq (by decide : ¬ ((1 : Int32) = (0 : Int32)))).1) ?_
  refine t_iN X4 u d14_24 rfl ?_
  refine t_iN X4 u d14_25 rfl ?_
  refine t_aN X4 u d14_26 rfl rfl ?_
  refine t_gF X4 u hZ hown (wd hw 24 rfl) e4 r2 d14_27 ?_
  intro T5 X5 e5
  refine t_cS [(.int x1), v_9, (.ref w1)] [] 0 X5 u hZ hown (wd hw 102 rfl) (m_12 hw) e5 (rm_gc_1_1 l Z a0 hw [] G GG x1 w1 kk2 h0 O0 r1 r6 (Arv.pad r3 (own_tr [v_115, v_116, v_97, v_116, v_117, v_115, v_32, v_0, v_0] 7 _))) rfl d14_30 rfl rfl (by decide) ?_
  intro v6 T6 L6 Lc6 X6 hQ6 l6
  obtain ⟨rfl, Nq6, Kq6, pV6⟩ := hQ6
  have O6_ := extKeep O0 Kq6 (allS r6 all0)
  have K6 := Keep.trans (Keep.refl h0 [w1, x0]) Kq6 (allS k0 all0)
  have N6_ := frA l6 N4_ Nq6
  refine t_pop X6 u d14_33 rfl ?_
  refine t_go 34 48 X6 u rfl d14_34 (by decide) ?_
  refine t_aN X6 u d14_48 rfl rfl ?_
  refine t_iN X6 u d14_49 rfl ?_
  refine t_pF X6 u hZ hown (wd hw 57 rfl) rfl (r0.keep Kq6 (ninS r7 nin0)) (r5.keep Kq6) (Or.inl (wd hw 58 rfl)) (wd hw 7 rfl) pf_I rfl rfl d14_50 ?_
  intro T7 h7 X7 e7 W7
  have N7_ := Fr.snoc X7 N6_ r8
  have O7_ := extWr O6_ W7 r8
  have K7 := Keep.wr K6 W7 k1
  have F7 := Fld.same W7 (r0.keep Kq6 (ninS r7 nin0))
  refine t_aN X7 u d14_53 rfl rfl ?_
  have f8 := (fS W7 (r2.keep Kq6 (ninS r7 nin0)) (sn_10 hw))
  have f9 := (fS W7 (r4.keep Kq6 (ninS r7 nin0)) (sn_11 hw))
  exact Go.retA X7 hx hret rfl rfl hlk (hb hby d14_54) (by decide) (by decide) (by show Q_a14_10 ..; rw [e7]; exact ⟨rfl, N7_, K7, (pV6.other W7 (Ne.symm r7)), F7, f8, f9⟩)
def Q_a13_10 (Z : State) (x0 : Addr) (x1 : Int32) (w1 : Addr) (kk2 : ClassId) (h0 : Heap) (v : Option Value) (h : Heap) (L : List Loc) : Prop := v = some (.ref x0) ∧ Fr Z.heap.size L ∧ Keep h0 h [x0, w1] ∧ Arv Z h w1 kk2 .byte (16 : Int32) [v_115, v_116, v_97, v_116, v_117, v_115, v_32, v_45, (.int (bq x1 0))] v_0 ∧ fl_8 Z h x0 v_9 ∧ fl_6 Z h x0 (.ref w1) ∧ fl_7 Z h x0 v_0
theorem rm_a13_10 (x0 : Addr) (x1 : Int32) (w1 : Addr) (kk2 : ClassId) (h0 : Heap) (O0 : Ext Z.heap h0) (r0 : fl_8 Z h0 x0 v_7) (r1 : Dg_1_1 x1) (r2 : fl_6 Z h0 x0 (.ref w1)) (r3 : Arv Z h0 w1 kk2 .byte (16 : Int32) [v_115, v_116, v_97, v_116, v_117, v_115, v_32, v_0, v_0, v_0, v_0, v_0, v_0, v_0, v_0, v_0] v_0) (r4 : fl_7 Z h0 x0 v_0) (r5 : ex_3 Z h0 x0) (r6 : Z.heap.size ≤ w1) (r7 : x0 ≠ w1) (r8 : Z.heap.size ≤ x0) :
    MF hw GG l y_13 jdk_67_method_15_code 2 (some (.object "java/lang/StringBuilder")) ws ⟨2, 0, 0, 33⟩ h0 #[(.ref x0), (.int x1)] (Q_a13_10 Z x0 x1 w1 kk2 h0) := by
  refine own_mF #[.val (.ref x0), .val (.int x1)] (plainFor_of_name pn_13) (fun _ => rfl) ?_
  intro p e s m below meth c s₁ u hlk hret hZ hown hnm X0 e0 N0
  obtain ⟨hx, hby, hml⟩ := id u
  refine t_aN X0 u d13_0 rfl rfl ?_
  refine t_iN X0 u d13_1 rfl ?_
  refine t_cX [(.int x1)] [] 0 X0 u hZ hown (by decide) r5 (wd hw 89 rfl) (m_13 hw) e0 (rm_a14_10 l Z a0 hw [] G GG x0 x1 w1 kk2 h0 O0 r0 r1 r2 r3 r4 r5 r6 r7 r8) rfl d13_2 rfl rfl (by decide) ?_
  intro v1 T1 L1 Lc1 X1 hQ1 l1
  obtain ⟨rfl, Nq1, Kq1, p1_0, p1_1, p1_2, p1_3⟩ := hQ1
  have O1_ := extKeep O0 Kq1 (allS r6 (allS r8 all0))
  have K1 := Keep.trans (Keep.refl h0 [x0, w1]) Kq1 (allS k1 (allS k0 all0))
  have N1_ := frA l1 N0 Nq1
  refine t_pop X1 u d13_5 rfl ?_
  refine t_aN X1 u d13_6 rfl rfl ?_
  exact Go.retA X1 hx hret rfl rfl hlk (hb hby d13_7) (by decide) (by decide) ⟨rfl, N1_, K1, p1_0, p1_1, p1_2, p1_3⟩
def Q_a14_11 (Z : State) (x0 : Addr) (x1 : Int32) (w1 : Addr) (kk2 : ClassId) (h0 : Heap) (v : Option Value) (h : Heap) (L : List Loc) : Prop := v = some (.ref x0) ∧ Fr Z.heap.size L ∧ Keep h0 h [w1, x0] ∧ Arv Z h w1 kk2 .byte (16 : Int32) [v_115, v_116, v_97, v_116, v_117, v_115, v_32, v_45, (.int (bq x1 1)), (.int (bq x1 0))] v_0 ∧ fl_8 Z h x0 v_10 ∧ fl_6 Z h x0 (.ref w1) ∧ fl_7 Z h x0 v_0
theorem rm_a14_11 (x0 : Addr) (x1 : Int32) (w1 : Addr) (kk2 : ClassId) (h0 : Heap) (O0 : Ext Z.heap h0) (r0 : fl_8 Z h0 x0 v_7) (r1 : Dg_1_2 x1) (r2 : fl_6 Z h0 x0 (.ref w1)) (r3 : Arv Z h0 w1 kk2 .byte (16 : Int32) [v_115, v_116, v_97, v_116, v_117, v_115, v_32, v_0, v_0, v_0, v_0, v_0, v_0, v_0, v_0, v_0] v_0) (r4 : fl_7 Z h0 x0 v_0) (r5 : ex_3 Z h0 x0) (r6 : Z.heap.size ≤ w1) (r7 : x0 ≠ w1) (r8 : Z.heap.size ≤ x0) :
    MF hw GG l y_14 jdk_68_method_32_code 4 (some (.object "java/lang/AbstractStringBuilder")) ws ⟨1, 0, 0, 18⟩ h0 #[(.ref x0), (.int x1)] (Q_a14_11 Z x0 x1 w1 kk2 h0) := by
  refine own_mF #[.val (.ref x0), .val (.int x1), .unset, .unset] (plainFor_of_name pn_14) (fun _ => rfl) ?_
  intro p e s m below meth c s₁ u hlk hret hZ hown hnm X0 e0 N0
  obtain ⟨hx, hby, hml⟩ := id u
  refine t_aN X0 u d14_0 rfl rfl ?_
  refine t_gF X0 u hZ hown (wd hw 57 rfl) e0 r0 d14_1 ?_
  intro T1 X1 e1
  refine t_isN X1 u d14_4 (l' := #[.val (.ref x0), .val (.int x1), .val v_7, .unset]) rfl ?_
  refine t_iN X1 u d14_5 rfl ?_
  refine t_iN X1 u d14_6 rfl ?_
  refine pt_cS [(.int x1)] [v_7] 1 X1 u hZ hown (wd hw 93 rfl) (m_10 hw) e1 (rm_ss_1_2 l Z a0 hw [] G GG x1 h0 O0 r1) rfl d14_7 rfl rfl (by decide) N0 ?_
  intro T2 L2 X2 e2 N2_
  refine t_iadd X2 u d14_10  ?_
  refine t_isN X2 u d14_11 (l' := #[.val (.ref x0), .val (.int x1), .val v_7, .val v_10]) rfl ?_
  refine t_aN X2 u d14_12 rfl rfl ?_
  refine t_iN X2 u d14_13 rfl ?_
  refine pt_cP [v_10] [] 0 X2 u hZ hown r5 (wd hw 59 rfl) (m_4 hw) e2 (rm_a9_0 l Z a0 hw [] G GG x0 (10 : Int32) w1 kk2 (115 : Int32) (116 : Int32) (97 : Int32) (116 : Int32) (117 : Int32) (115 : Int32) (32 : Int32) (0 : Int32) (0 : Int32) (0 : Int32) (0 : Int32) (0 : Int32) (0 : Int32) (0 : Int32) (0 : Int32) (0 : Int32) (0 : Int32) h0 O0 r2 r3 r4 (by decide)) rfl d14_14 rfl rfl (by decide) N2_ ?_
  intro T3 L3 X3 e3 N3_
  refine t_aN X3 u d14_17 rfl rfl ?_
  refine pt_cV [] [] 0 X3 u hZ hown (wd hw 97 rfl) (m_11 hw) e3 r5 (rm_a16_0 l Z a0 hw [] G GG x0 (0 : Int32) h0 O0 r4 (by decide)) rfl d14_18 rfl rfl (by decide) N3_ ?_
  intro T4 L4 X4 e4 N4_
  refine t_ifN X4 u d14_21 ((if0 _ _).trans (feq (by decide : ¬ ((1 : Int32) = (0 : Int32)))).1) ?_
  refine t_iN X4 u d14_24 rfl ?_
  refine t_iN X4 u d14_25 rfl ?_
  refine t_aN X4 u d14_26 rfl rfl ?_
  refine t_gF X4 u hZ hown (wd hw 24 rfl) e4 r2 d14_27 ?_
  intro T5 X5 e5
  refine t_cS [(.int x1), v_10, (.ref w1)] [] 0 X5 u hZ hown (wd hw 102 rfl) (m_12 hw) e5 (rm_gc_1_2 l Z a0 hw [] G GG x1 w1 kk2 h0 O0 r1 r6 (Arv.pad r3 (own_tr [v_115, v_116, v_97, v_116, v_117, v_115, v_32, v_0, v_0, v_0] 6 _))) rfl d14_30 rfl rfl (by decide) ?_
  intro v6 T6 L6 Lc6 X6 hQ6 l6
  obtain ⟨rfl, Nq6, Kq6, pV6⟩ := hQ6
  have O6_ := extKeep O0 Kq6 (allS r6 all0)
  have K6 := Keep.trans (Keep.refl h0 [w1, x0]) Kq6 (allS k0 all0)
  have N6_ := frA l6 N4_ Nq6
  refine t_pop X6 u d14_33 rfl ?_
  refine t_go 34 48 X6 u rfl d14_34 (by decide) ?_
  refine t_aN X6 u d14_48 rfl rfl ?_
  refine t_iN X6 u d14_49 rfl ?_
  refine t_pF X6 u hZ hown (wd hw 57 rfl) rfl (r0.keep Kq6 (ninS r7 nin0)) (r5.keep Kq6) (Or.inl (wd hw 58 rfl)) (wd hw 7 rfl) pf_I rfl rfl d14_50 ?_
  intro T7 h7 X7 e7 W7
  have N7_ := Fr.snoc X7 N6_ r8
  have O7_ := extWr O6_ W7 r8
  have K7 := Keep.wr K6 W7 k1
  have F7 := Fld.same W7 (r0.keep Kq6 (ninS r7 nin0))
  refine t_aN X7 u d14_53 rfl rfl ?_
  have f8 := (fS W7 (r2.keep Kq6 (ninS r7 nin0)) (sn_10 hw))
  have f9 := (fS W7 (r4.keep Kq6 (ninS r7 nin0)) (sn_11 hw))
  exact Go.retA X7 hx hret rfl rfl hlk (hb hby d14_54) (by decide) (by decide) (by show Q_a14_11 ..; rw [e7]; exact ⟨rfl, N7_, K7, (pV6.other W7 (Ne.symm r7)), F7, f8, f9⟩)
def Q_a13_11 (Z : State) (x0 : Addr) (x1 : Int32) (w1 : Addr) (kk2 : ClassId) (h0 : Heap) (v : Option Value) (h : Heap) (L : List Loc) : Prop := v = some (.ref x0) ∧ Fr Z.heap.size L ∧ Keep h0 h [x0, w1] ∧ Arv Z h w1 kk2 .byte (16 : Int32) [v_115, v_116, v_97, v_116, v_117, v_115, v_32, v_45, (.int (bq x1 1)), (.int (bq x1 0))] v_0 ∧ fl_8 Z h x0 v_10 ∧ fl_6 Z h x0 (.ref w1) ∧ fl_7 Z h x0 v_0
theorem rm_a13_11 (x0 : Addr) (x1 : Int32) (w1 : Addr) (kk2 : ClassId) (h0 : Heap) (O0 : Ext Z.heap h0) (r0 : fl_8 Z h0 x0 v_7) (r1 : Dg_1_2 x1) (r2 : fl_6 Z h0 x0 (.ref w1)) (r3 : Arv Z h0 w1 kk2 .byte (16 : Int32) [v_115, v_116, v_97, v_116, v_117, v_115, v_32, v_0, v_0, v_0, v_0, v_0, v_0, v_0, v_0, v_0] v_0) (r4 : fl_7 Z h0 x0 v_0) (r5 : ex_3 Z h0 x0) (r6 : Z.heap.size ≤ w1) (r7 : x0 ≠ w1) (r8 : Z.heap.size ≤ x0) :
    MF hw GG l y_13 jdk_67_method_15_code 2 (some (.object "java/lang/StringBuilder")) ws ⟨2, 0, 0, 33⟩ h0 #[(.ref x0), (.int x1)] (Q_a13_11 Z x0 x1 w1 kk2 h0) := by
  refine own_mF #[.val (.ref x0), .val (.int x1)] (plainFor_of_name pn_13) (fun _ => rfl) ?_
  intro p e s m below meth c s₁ u hlk hret hZ hown hnm X0 e0 N0
  obtain ⟨hx, hby, hml⟩ := id u
  refine t_aN X0 u d13_0 rfl rfl ?_
  refine t_iN X0 u d13_1 rfl ?_
  refine t_cX [(.int x1)] [] 0 X0 u hZ hown (by decide) r5 (wd hw 89 rfl) (m_13 hw) e0 (rm_a14_11 l Z a0 hw [] G GG x0 x1 w1 kk2 h0 O0 r0 r1 r2 r3 r4 r5 r6 r7 r8) rfl d13_2 rfl rfl (by decide) ?_
  intro v1 T1 L1 Lc1 X1 hQ1 l1
  obtain ⟨rfl, Nq1, Kq1, p1_0, p1_1, p1_2, p1_3⟩ := hQ1
  have O1_ := extKeep O0 Kq1 (allS r6 (allS r8 all0))
  have K1 := Keep.trans (Keep.refl h0 [x0, w1]) Kq1 (allS k1 (allS k0 all0))
  have N1_ := frA l1 N0 Nq1
  refine t_pop X1 u d13_5 rfl ?_
  refine t_aN X1 u d13_6 rfl rfl ?_
  exact Go.retA X1 hx hret rfl rfl hlk (hb hby d13_7) (by decide) (by decide) ⟨rfl, N1_, K1, p1_0, p1_1, p1_2, p1_3⟩
def Q_a14_12 (Z : State) (x0 : Addr) (x1 : Int32) (w1 : Addr) (kk2 : ClassId) (h0 : Heap) (v : Option Value) (h : Heap) (L : List Loc) : Prop := v = some (.ref x0) ∧ Fr Z.heap.size L ∧ Keep h0 h [w1, x0] ∧ Arv Z h w1 kk2 .byte (16 : Int32) [v_115, v_116, v_97, v_116, v_117, v_115, v_32, v_45, (.int (bq x1 2)), (.int (bq x1 1)), (.int (bq x1 0))] v_0 ∧ fl_8 Z h x0 v_11 ∧ fl_6 Z h x0 (.ref w1) ∧ fl_7 Z h x0 v_0
theorem rm_a14_12 (x0 : Addr) (x1 : Int32) (w1 : Addr) (kk2 : ClassId) (h0 : Heap) (O0 : Ext Z.heap h0) (r0 : fl_8 Z h0 x0 v_7) (r1 : Dg_1_3 x1) (r2 : fl_6 Z h0 x0 (.ref w1)) (r3 : Arv Z h0 w1 kk2 .byte (16 : Int32) [v_115, v_116, v_97, v_116, v_117, v_115, v_32, v_0, v_0, v_0, v_0, v_0, v_0, v_0, v_0, v_0] v_0) (r4 : fl_7 Z h0 x0 v_0) (r5 : ex_3 Z h0 x0) (r6 : Z.heap.size ≤ w1) (r7 : x0 ≠ w1) (r8 : Z.heap.size ≤ x0) :
    MF hw GG l y_14 jdk_68_method_32_code 4 (some (.object "java/lang/AbstractStringBuilder")) ws ⟨1, 0, 0, 18⟩ h0 #[(.ref x0), (.int x1)] (Q_a14_12 Z x0 x1 w1 kk2 h0) := by
  refine own_mF #[.val (.ref x0), .val (.int x1), .unset, .unset] (plainFor_of_name pn_14) (fun _ => rfl) ?_
  intro p e s m below meth c s₁ u hlk hret hZ hown hnm X0 e0 N0
  obtain ⟨hx, hby, hml⟩ := id u
  refine t_aN X0 u d14_0 rfl rfl ?_
  refine t_gF X0 u hZ hown (wd hw 57 rfl) e0 r0 d14_1 ?_
  intro T1 X1 e1
  refine t_isN X1 u d14_4 (l' := #[.val (.ref x0), .val (.int x1), .val v_7, .unset]) rfl ?_
  refine t_iN X1 u d14_5 rfl ?_
  refine t_iN X1 u d14_6 rfl ?_
  refine pt_cS [(.int x1)] [v_7] 1 X1 u hZ hown (wd hw 93 rfl) (m_10 hw) e1 (rm_ss_1_3 l Z a0 hw [] G GG x1 h0 O0 r1) rfl d14_7 rfl rfl (by decide) N0 ?_
  intro T2 L2 X2 e2 N2_
  refine t_iadd X2 u d14_10  ?_
  refine t_isN X2 u d14_11 (l' := #[.val (.ref x0), .val (.int x1), .val v_7, .val v_11]) rfl ?_
  refine t_aN X2 u d14_12 rfl rfl ?_
  refine t_iN X2 u d14_13 rfl ?_
  refine pt_cP [v_11] [] 0 X2 u hZ hown r5 (wd hw 59 rfl) (m_4 hw) e2 (rm_a9_0 l Z a0 hw [] G GG x0 (11 : Int32) w1 kk2 (115 : Int32) (116 : Int32) (97 : Int32) (116 : Int32) (117 : Int32) (115 : Int32) (32 : Int32) (0 : Int32) (0 : Int32) (0 : Int32) (0 : Int32) (0 : Int32) (0 : Int32) (0 : Int32) (0 : Int32) (0 : Int32) (0 : Int32) h0 O0 r2 r3 r4 (by decide)) rfl d14_14 rfl rfl (by decide) N2_ ?_
  intro T3 L3 X3 e3 N3_
  refine t_aN X3 u d14_17 rfl rfl ?_
  refine pt_cV [] [] 0 X3 u hZ hown (wd hw 97 rfl) (m_11 hw) e3 r5 (rm_a16_0 l Z a0 hw [] G GG x0 (0 : Int32) h0 O0 r4 (by decide)) rfl d14_18 rfl rfl (by decide) N3_ ?_
  intro T4 L4 X4 e4 N4_
  refine t_ifN X4 u d14_21 ((if0 _ _).trans (feq (by decide : ¬ ((1 : Int32) = (0 : Int32)))).1) ?_
  refine t_iN X4 u d14_24 rfl ?_
  refine t_iN X4 u d14_25 rfl ?_
  refine t_aN X4 u d14_26 rfl rfl ?_
  refine t_gF X4 u hZ hown (wd hw 24 rfl) e4 r2 d14_27 ?_
  intro T5 X5 e5
  refine t_cS [(.int x1), v_11, (.ref w1)] [] 0 X5 u hZ hown (wd hw 102 rfl) (m_12 hw) e5 (rm_gc_1_3 l Z a0 hw [] G GG x1 w1 kk2 h0 O0 r1 r6 (Arv.pad r3 (own_tr [v_115, v_116, v_97, v_116, v_117, v_115, v_32, v_0, v_0, v_0, v_0] 5 _))) rfl d14_30 rfl rfl (by decide) ?_
  intro v6 T6 L6 Lc6 X6 hQ6 l6
  obtain ⟨rfl, Nq6, Kq6, pV6⟩ := hQ6
  have O6_ := extKeep O0 Kq6 (allS r6 all0)
  have K6 := Keep.trans (Keep.refl h0 [w1, x0]) Kq6 (allS k0 all0)
  have N6_ := frA l6 N4_ Nq6
  refine t_pop X6 u d14_33 rfl ?_
  refine t_go 34 48 X6 u rfl d14_34 (by decide) ?_
  refine t_aN X6 u d14_48 rfl rfl ?_
  refine t_iN X6 u d14_49 rfl ?_
  refine t_pF X6 u hZ hown (wd hw 57 rfl) rfl (r0.keep Kq6 (ninS r7 nin0)) (r5.keep Kq6) (Or.inl (wd hw 58 rfl)) (wd hw 7 rfl) pf_I rfl rfl d14_50 ?_
  intro T7 h7 X7 e7 W7
  have N7_ := Fr.snoc X7 N6_ r8
  have O7_ := extWr O6_ W7 r8
  have K7 := Keep.wr K6 W7 k1
  have F7 := Fld.same W7 (r0.keep Kq6 (ninS r7 nin0))
  refine t_aN X7 u d14_53 rfl rfl ?_
  have f8 := (fS W7 (r2.keep Kq6 (ninS r7 nin0)) (sn_10 hw))
  have f9 := (fS W7 (r4.keep Kq6 (ninS r7 nin0)) (sn_11 hw))
  exact Go.retA X7 hx hret rfl rfl hlk (hb hby d14_54) (by decide) (by decide) (by show Q_a14_12 ..; rw [e7]; exact ⟨rfl, N7_, K7, (pV6.other W7 (Ne.symm r7)), F7, f8, f9⟩)
def Q_a13_12 (Z : State) (x0 : Addr) (x1 : Int32) (w1 : Addr) (kk2 : ClassId) (h0 : Heap) (v : Option Value) (h : Heap) (L : List Loc) : Prop := v = some (.ref x0) ∧ Fr Z.heap.size L ∧ Keep h0 h [x0, w1] ∧ Arv Z h w1 kk2 .byte (16 : Int32) [v_115, v_116, v_97, v_116, v_117, v_115, v_32, v_45, (.int (bq x1 2)), (.int (bq x1 1)), (.int (bq x1 0))] v_0 ∧ fl_8 Z h x0 v_11 ∧ fl_6 Z h x0 (.ref w1) ∧ fl_7 Z h x0 v_0
theorem rm_a13_12 (x0 : Addr) (x1 : Int32) (w1 : Addr) (kk2 : ClassId) (h0 : Heap) (O0 : Ext Z.heap h0) (r0 : fl_8 Z h0 x0 v_7) (r1 : Dg_1_3 x1) (r2 : fl_6 Z h0 x0 (.ref w1)) (r3 : Arv Z h0 w1 kk2 .byte (16 : Int32) [v_115, v_116, v_97, v_116, v_117, v_115, v_32, v_0, v_0, v_0, v_0, v_0, v_0, v_0, v_0, v_0] v_0) (r4 : fl_7 Z h0 x0 v_0) (r5 : ex_3 Z h0 x0) (r6 : Z.heap.size ≤ w1) (r7 : x0 ≠ w1) (r8 : Z.heap.size ≤ x0) :
    MF hw GG l y_13 jdk_67_method_15_code 2 (some (.object "java/lang/StringBuilder")) ws ⟨2, 0, 0, 33⟩ h0 #[(.ref x0), (.int x1)] (Q_a13_12 Z x0 x1 w1 kk2 h0) := by
  refine own_mF #[.val (.ref x0), .val (.int x1)] (plainFor_of_name pn_13) (fun _ => rfl) ?_
  intro p e s m below meth c s₁ u hlk hret hZ hown hnm X0 e0 N0
  obtain ⟨hx, hby, hml⟩ := id u
  refine t_aN X0 u d13_0 rfl rfl ?_
  refine t_iN X0 u d13_1 rfl ?_
  refine t_cX [(.int x1)] [] 0 X0 u hZ hown (by decide) r5 (wd hw 89 rfl) (m_13 hw) e0 (rm_a14_12 l Z a0 hw [] G GG x0 x1 w1 kk2 h0 O0 r0 r1 r2 r3 r4 r5 r6 r7 r8) rfl d13_2 rfl rfl (by decide) ?_
  intro v1 T1 L1 Lc1 X1 hQ1 l1
  obtain ⟨rfl, Nq1, Kq1, p1_0, p1_1, p1_2, p1_3⟩ := hQ1
  have O1_ := extKeep O0 Kq1 (allS r6 (allS r8 all0))
  have K1 := Keep.trans (Keep.refl h0 [x0, w1]) Kq1 (allS k1 (allS k0 all0))
  have N1_ := frA l1 N0 Nq1
  refine t_pop X1 u d13_5 rfl ?_
  refine t_aN X1 u d13_6 rfl rfl ?_
  exact Go.retA X1 hx hret rfl rfl hlk (hb hby d13_7) (by decide) (by decide) ⟨rfl, N1_, K1, p1_0, p1_1, p1_2, p1_3⟩
def Q_a14_13 (Z : State) (x0 : Addr) (x1 : Int32) (w1 : Addr) (kk2 : ClassId) (h0 : Heap) (v : Option Value) (h : Heap) (L : List Loc) : Prop := v = some (.ref x0) ∧ Fr Z.heap.size L ∧ Keep h0 h [w1, x0] ∧ Arv Z h w1 kk2 .byte (16 : Int32) [v_115, v_116, v_97, v_116, v_117, v_115, v_32, v_45, (.int (bq x1 3)), (.int (bq x1 2)), (.int (bq x1 1)), (.int (bq x1 0))] v_0 ∧ fl_8 Z h x0 v_12 ∧ fl_6 Z h x0 (.ref w1) ∧ fl_7 Z h x0 v_0
theorem rm_a14_13 (x0 : Addr) (x1 : Int32) (w1 : Addr) (kk2 : ClassId) (h0 : Heap) (O0 : Ext Z.heap h0) (r0 : fl_8 Z h0 x0 v_7) (r1 : Dg_1_4 x1) (r2 : fl_6 Z h0 x0 (.ref w1)) (r3 : Arv Z h0 w1 kk2 .byte (16 : Int32) [v_115, v_116, v_97, v_116, v_117, v_115, v_32, v_0, v_0, v_0, v_0, v_0, v_0, v_0, v_0, v_0] v_0) (r4 : fl_7 Z h0 x0 v_0) (r5 : ex_3 Z h0 x0) (r6 : Z.heap.size ≤ w1) (r7 : x0 ≠ w1) (r8 : Z.heap.size ≤ x0) :
    MF hw GG l y_14 jdk_68_method_32_code 4 (some (.object "java/lang/AbstractStringBuilder")) ws ⟨1, 0, 0, 18⟩ h0 #[(.ref x0), (.int x1)] (Q_a14_13 Z x0 x1 w1 kk2 h0) := by
  refine own_mF #[.val (.ref x0), .val (.int x1), .unset, .unset] (plainFor_of_name pn_14) (fun _ => rfl) ?_
  intro p e s m below meth c s₁ u hlk hret hZ hown hnm X0 e0 N0
  obtain ⟨hx, hby, hml⟩ := id u
  refine t_aN X0 u d14_0 rfl rfl ?_
  refine t_gF X0 u hZ hown (wd hw 57 rfl) e0 r0 d14_1 ?_
  intro T1 X1 e1
  refine t_isN X1 u d14_4 (l' := #[.val (.ref x0), .val (.int x1), .val v_7, .unset]) rfl ?_
  refine t_iN X1 u d14_5 rfl ?_
  refine t_iN X1 u d14_6 rfl ?_
  refine pt_cS [(.int x1)] [v_7] 1 X1 u hZ hown (wd hw 93 rfl) (m_10 hw) e1 (rm_ss_1_4 l Z a0 hw [] G GG x1 h0 O0 r1) rfl d14_7 rfl rfl (by decide) N0 ?_
  intro T2 L2 X2 e2 N2_
  refine t_iadd X2 u d14_10  ?_
  refine t_isN X2 u d14_11 (l' := #[.val (.ref x0), .val (.int x1), .val v_7, .val v_12]) rfl ?_
  refine t_aN X2 u d14_12 rfl rfl ?_
  refine t_iN X2 u d14_13 rfl ?_
  refine pt_cP [v_12] [] 0 X2 u hZ hown r5 (wd hw 59 rfl) (m_4 hw) e2 (rm_a9_0 l Z a0 hw [] G GG x0 (12 : Int32) w1 kk2 (115 : Int32) (116 : Int32) (97 : Int32) (116 : Int32) (117 : Int32) (115 : Int32) (32 : Int32) (0 : Int32) (0 : Int32) (0 : Int32) (0 : Int32) (0 : Int32) (0 : Int32) (0 : Int32) (0 : Int32) (0 : Int32) (0 : Int32) h0 O0 r2 r3 r4 (by decide)) rfl d14_14 rfl rfl (by decide) N2_ ?_
  intro T3 L3 X3 e3 N3_
  refine t_aN X3 u d14_17 rfl rfl ?_
  refine pt_cV [] [] 0 X3 u hZ hown (wd hw 97 rfl) (m_11 hw) e3 r5 (rm_a16_0 l Z a0 hw [] G GG x0 (0 : Int32) h0 O0 r4 (by decide)) rfl d14_18 rfl rfl (by decide) N3_ ?_
  intro T4 L4 X4 e4 N4_
  refine t_ifN X4 u d14_21 ((if0 _ _).trans (feq (by decide : ¬ ((1 : Int32) = (0 : Int32)))).1) ?_
  refine t_iN X4 u d14_24 rfl ?_
  refine t_iN X4 u d14_25 rfl ?_
  refine t_aN X4 u d14_26 rfl rfl ?_
  refine t_gF X4 u hZ hown (wd hw 24 rfl) e4 r2 d14_27 ?_
  intro T5 X5 e5
  refine t_cS [(.int x1), v_12, (.ref w1)] [] 0 X5 u hZ hown (wd hw 102 rfl) (m_12 hw) e5 (rm_gc_1_4 l Z a0 hw [] G GG x1 w1 kk2 h0 O0 r1 r6 (Arv.pad r3 (own_tr [v_115, v_116, v_97, v_116, v_117, v_115, v_32, v_0, v_0, v_0, v_0, v_0] 4 _))) rfl d14_30 rfl rfl (by decide) ?_
  intro v6 T6 L6 Lc6 X6 hQ6 l6
  obtain ⟨rfl, Nq6, Kq6, pV6⟩ := hQ6
  have O6_ := extKeep O0 Kq6 (allS r6 all0)
  have K6 := Keep.trans (Keep.refl h0 [w1, x0]) Kq6 (allS k0 all0)
  have N6_ := frA l6 N4_ Nq6
  refine t_pop X6 u d14_33 rfl ?_
  refine t_go 34 48 X6 u rfl d14_34 (by decide) ?_
  refine t_aN X6 u d14_48 rfl rfl ?_
  refine t_iN X6 u d14_49 rfl ?_
  refine t_pF X6 u hZ hown (wd hw 57 rfl) rfl (r0.keep Kq6 (ninS r7 nin0)) (r5.keep Kq6) (Or.inl (wd hw 58 rfl)) (wd hw 7 rfl) pf_I rfl rfl d14_50 ?_
  intro T7 h7 X7 e7 W7
  have N7_ := Fr.snoc X7 N6_ r8
  have O7_ := extWr O6_ W7 r8
  have K7 := Keep.wr K6 W7 k1
  have F7 := Fld.same W7 (r0.keep Kq6 (ninS r7 nin0))
  refine t_aN X7 u d14_53 rfl rfl ?_
  have f8 := (fS W7 (r2.keep Kq6 (ninS r7 nin0)) (sn_10 hw))
  have f9 := (fS W7 (r4.keep Kq6 (ninS r7 nin0)) (sn_11 hw))
  exact Go.retA X7 hx hret rfl rfl hlk (hb hby d14_54) (by decide) (by decide) (by show Q_a14_13 ..; rw [e7]; exact ⟨rfl, N7_, K7, (pV6.other W7 (Ne.symm r7)), F7, f8, f9⟩)
def Q_a13_13 (Z : State) (x0 : Addr) (x1 : Int32) (w1 : Addr) (kk2 : ClassId) (h0 : Heap) (v : Option Value) (h : Heap) (L : List Loc) : Prop := v = some (.ref x0) ∧ Fr Z.heap.size L ∧ Keep h0 h [x0, w1] ∧ Arv Z h w1 kk2 .byte (16 : Int32) [v_115, v_116, v_97, v_116, v_117, v_115, v_32, v_45, (.int (bq x1 3)), (.int (bq x1 2)), (.int (bq x1 1)), (.int (bq x1 0))] v_0 ∧ fl_8 Z h x0 v_12 ∧ fl_6 Z h x0 (.ref w1) ∧ fl_7 Z h x0 v_0
theorem rm_a13_13 (x0 : Addr) (x1 : Int32) (w1 : Addr) (kk2 : ClassId) (h0 : Heap) (O0 : Ext Z.heap h0) (r0 : fl_8 Z h0 x0 v_7) (r1 : Dg_1_4 x1) (r2 : fl_6 Z h0 x0 (.ref w1)) (r3 : Arv Z h0 w1 kk2 .byte (16 : Int32) [v_115, v_116, v_97, v_116, v_117, v_115, v_32, v_0, v_0, v_0, v_0, v_0, v_0, v_0, v_0, v_0] v_0) (r4 : fl_7 Z h0 x0 v_0) (r5 : ex_3 Z h0 x0) (r6 : Z.heap.size ≤ w1) (r7 : x0 ≠ w1) (r8 : Z.heap.size ≤ x0) :
    MF hw GG l y_13 jdk_67_method_15_code 2 (some (.object "java/lang/StringBuilder")) ws ⟨2, 0, 0, 33⟩ h0 #[(.ref x0), (.int x1)] (Q_a13_13 Z x0 x1 w1 kk2 h0) := by
  refine own_mF #[.val (.ref x0), .val (.int x1)] (plainFor_of_name pn_13) (fun _ => rfl) ?_
  intro p e s m below meth c s₁ u hlk hret hZ hown hnm X0 e0 N0
  obtain ⟨hx, hby, hml⟩ := id u
  refine t_aN X0 u d13_0 rfl rfl ?_
  refine t_iN X0 u d13_1 rfl ?_
  refine t_cX [(.int x1)] [] 0 X0 u hZ hown (by decide) r5 (wd hw 89 rfl) (m_13 hw) e0 (rm_a14_13 l Z a0 hw [] G GG x0 x1 w1 kk2 h0 O0 r0 r1 r2 r3 r4 r5 r6 r7 r8) rfl d13_2 rfl rfl (by decide) ?_
  intro v1 T1 L1 Lc1 X1 hQ1 l1
  obtain ⟨rfl, Nq1, Kq1, p1_0, p1_1, p1_2, p1_3⟩ := hQ1
  have O1_ := extKeep O0 Kq1 (allS r6 (allS r8 all0))
  have K1 := Keep.trans (Keep.refl h0 [x0, w1]) Kq1 (allS k1 (allS k0 all0))
  have N1_ := frA l1 N0 Nq1
  refine t_pop X1 u d13_5 rfl ?_
  refine t_aN X1 u d13_6 rfl rfl ?_
  exact Go.retA X1 hx hret rfl rfl hlk (hb hby d13_7) (by decide) (by decide) ⟨rfl, N1_, K1, p1_0, p1_1, p1_2, p1_3⟩
def Q_a14_14 (Z : State) (x0 : Addr) (x1 : Int32) (w1 : Addr) (kk2 : ClassId) (h0 : Heap) (v : Option Value) (h : Heap) (L : List Loc) : Prop := v = some (.ref x0) ∧ Fr Z.heap.size L ∧ Keep h0 h [w1, x0] ∧ Arv Z h w1 kk2 .byte (16 : Int32) [v_115, v_116, v_97, v_116, v_117, v_115, v_32, v_45, (.int (bq x1 4)), (.int (bq x1 3)), (.int (bq x1 2)), (.int (bq x1 1)), (.int (bq x1 0))] v_0 ∧ fl_8 Z h x0 v_13 ∧ fl_6 Z h x0 (.ref w1) ∧ fl_7 Z h x0 v_0
theorem rm_a14_14 (x0 : Addr) (x1 : Int32) (w1 : Addr) (kk2 : ClassId) (h0 : Heap) (O0 : Ext Z.heap h0) (r0 : fl_8 Z h0 x0 v_7) (r1 : Dg_1_5 x1) (r2 : fl_6 Z h0 x0 (.ref w1)) (r3 : Arv Z h0 w1 kk2 .byte (16 : Int32) [v_115, v_116, v_97, v_116, v_117, v_115, v_32, v_0, v_0, v_0, v_0, v_0, v_0, v_0, v_0, v_0] v_0) (r4 : fl_7 Z h0 x0 v_0) (r5 : ex_3 Z h0 x0) (r6 : Z.heap.size ≤ w1) (r7 : x0 ≠ w1) (r8 : Z.heap.size ≤ x0) :
    MF hw GG l y_14 jdk_68_method_32_code 4 (some (.object "java/lang/AbstractStringBuilder")) ws ⟨1, 0, 0, 18⟩ h0 #[(.ref x0), (.int x1)] (Q_a14_14 Z x0 x1 w1 kk2 h0) := by
  refine own_mF #[.val (.ref x0), .val (.int x1), .unset, .unset] (plainFor_of_name pn_14) (fun _ => rfl) ?_
  intro p e s m below meth c s₁ u hlk hret hZ hown hnm X0 e0 N0
  obtain ⟨hx, hby, hml⟩ := id u
  refine t_aN X0 u d14_0 rfl rfl ?_
  refine t_gF X0 u hZ hown (wd hw 57 rfl) e0 r0 d14_1 ?_
  intro T1 X1 e1
  refine t_isN X1 u d14_4 (l' := #[.val (.ref x0), .val (.int x1), .val v_7, .unset]) rfl ?_
  refine t_iN X1 u d14_5 rfl ?_
  refine t_iN X1 u d14_6 rfl ?_
  refine pt_cS [(.int x1)] [v_7] 1 X1 u hZ hown (wd hw 93 rfl) (m_10 hw) e1 (rm_ss_1_5 l Z a0 hw [] G GG x1 h0 O0 r1) rfl d14_7 rfl rfl (by decide) N0 ?_
  intro T2 L2 X2 e2 N2_
  refine t_iadd X2 u d14_10  ?_
  refine t_isN X2 u d14_11 (l' := #[.val (.ref x0), .val (.int x1), .val v_7, .val v_13]) rfl ?_
  refine t_aN X2 u d14_12 rfl rfl ?_
  refine t_iN X2 u d14_13 rfl ?_
  refine pt_cP [v_13] [] 0 X2 u hZ hown r5 (wd hw 59 rfl) (m_4 hw) e2 (rm_a9_0 l Z a0 hw [] G GG x0 (13 : Int32) w1 kk2 (115 : Int32) (116 : Int32) (97 : Int32) (116 : Int32) (117 : Int32) (115 : Int32) (32 : Int32) (0 : Int32) (0 : Int32) (0 : Int32) (0 : Int32) (0 : Int32) (0 : Int32) (0 : Int32) (0 : Int32) (0 : Int32) (0 : Int32) h0 O0 r2 r3 r4 (by decide)) rfl d14_14 rfl rfl (by decide) N2_ ?_
  intro T3 L3 X3 e3 N3_
  refine t_aN X3 u d14_17 rfl rfl ?_
  refine pt_cV [] [] 0 X3 u hZ hown (wd hw 97 rfl) (m_11 hw) e3 r5 (rm_a16_0 l Z a0 hw [] G GG x0 (0 : Int32) h0 O0 r4 (by decide)) rfl d14_18 rfl rfl (by decide) N3_ ?_
  intro T4 L4 X4 e4 N4_
  refine t_ifN X4 u d14_21 ((if0 _ _).trans (feq (by decide : ¬ ((1 : Int32) = (0 : Int32)))).1) ?_
  refine t_iN X4 u d14_24 rfl ?_
  refine t_iN X4 u d14_25 rfl ?_
  refine t_aN X4 u d14_26 rfl rfl ?_
  refine t_gF X4 u hZ hown (wd hw 24 rfl) e4 r2 d14_27 ?_
  intro T5 X5 e5
  refine t_cS [(.int x1), v_13, (.ref w1)] [] 0 X5 u hZ hown (wd hw 102 rfl) (m_12 hw) e5 (rm_gc_1_5 l Z a0 hw [] G GG x1 w1 kk2 h0 O0 r1 r6 (Arv.pad r3 (own_tr [v_115, v_116, v_97, v_116, v_117, v_115, v_32, v_0, v_0, v_0, v_0, v_0, v_0] 3 _))) rfl d14_30 rfl rfl (by decide) ?_
  intro v6 T6 L6 Lc6 X6 hQ6 l6
  obtain ⟨rfl, Nq6, Kq6, pV6⟩ := hQ6
  have O6_ := extKeep O0 Kq6 (allS r6 all0)
  have K6 := Keep.trans (Keep.refl h0 [w1, x0]) Kq6 (allS k0 all0)
  have N6_ := frA l6 N4_ Nq6
  refine t_pop X6 u d14_33 rfl ?_
  refine t_go 34 48 X6 u rfl d14_34 (by decide) ?_
  refine t_aN X6 u d14_48 rfl rfl ?_
  refine t_iN X6 u d14_49 rfl ?_
  refine t_pF X6 u hZ hown (wd hw 57 rfl) rfl (r0.keep Kq6 (ninS r7 nin0)) (r5.keep Kq6) (Or.inl (wd hw 58 rfl)) (wd hw 7 rfl) pf_I rfl rfl d14_50 ?_
  intro T7 h7 X7 e7 W7
  have N7_ := Fr.snoc X7 N6_ r8
  have O7_ := extWr O6_ W7 r8
  have K7 := Keep.wr K6 W7 k1
  have F7 := Fld.same W7 (r0.keep Kq6 (ninS r7 nin0))
  refine t_aN X7 u d14_53 rfl rfl ?_
  have f8 := (fS W7 (r2.keep Kq6 (ninS r7 nin0)) (sn_10 hw))
  have f9 := (fS W7 (r4.keep Kq6 (ninS r7 nin0)) (sn_11 hw))
  exact Go.retA X7 hx hret rfl rfl hlk (hb hby d14_54) (by decide) (by decide) (by show Q_a14_14 ..; rw [e7]; exact ⟨rfl, N7_, K7, (pV6.other W7 (Ne.symm r7)), F7, f8, f9⟩)
def Q_a13_14 (Z : State) (x0 : Addr) (x1 : Int32) (w1 : Addr) (kk2 : ClassId) (h0 : Heap) (v : Option Value) (h : Heap) (L : List Loc) : Prop := v = some (.ref x0) ∧ Fr Z.heap.size L ∧ Keep h0 h [x0, w1] ∧ Arv Z h w1 kk2 .byte (16 : Int32) [v_115, v_116, v_97, v_116, v_117, v_115, v_32, v_45, (.int (bq x1 4)), (.int (bq x1 3)), (.int (bq x1 2)), (.int (bq x1 1)), (.int (bq x1 0))] v_0 ∧ fl_8 Z h x0 v_13 ∧ fl_6 Z h x0 (.ref w1) ∧ fl_7 Z h x0 v_0
theorem rm_a13_14 (x0 : Addr) (x1 : Int32) (w1 : Addr) (kk2 : ClassId) (h0 : Heap) (O0 : Ext Z.heap h0) (r0 : fl_8 Z h0 x0 v_7) (r1 : Dg_1_5 x1) (r2 : fl_6 Z h0 x0 (.ref w1)) (r3 : Arv Z h0 w1 kk2 .byte (16 : Int32) [v_115, v_116, v_97, v_116, v_117, v_115, v_32, v_0, v_0, v_0, v_0, v_0, v_0, v_0, v_0, v_0] v_0) (r4 : fl_7 Z h0 x0 v_0) (r5 : ex_3 Z h0 x0) (r6 : Z.heap.size ≤ w1) (r7 : x0 ≠ w1) (r8 : Z.heap.size ≤ x0) :
    MF hw GG l y_13 jdk_67_method_15_code 2 (some (.object "java/lang/StringBuilder")) ws ⟨2, 0, 0, 33⟩ h0 #[(.ref x0), (.int x1)] (Q_a13_14 Z x0 x1 w1 kk2 h0) := by
  refine own_mF #[.val (.ref x0), .val (.int x1)] (plainFor_of_name pn_13) (fun _ => rfl) ?_
  intro p e s m below meth c s₁ u hlk hret hZ hown hnm X0 e0 N0
  obtain ⟨hx, hby, hml⟩ := id u
  refine t_aN X0 u d13_0 rfl rfl ?_
  refine t_iN X0 u d13_1 rfl ?_
  refine t_cX [(.int x1)] [] 0 X0 u hZ hown (by decide) r5 (wd hw 89 rfl) (m_13 hw) e0 (rm_a14_14 l Z a0 hw [] G GG x0 x1 w1 kk2 h0 O0 r0 r1 r2 r3 r4 r5 r6 r7 r8) rfl d13_2 rfl rfl (by decide) ?_
  intro v1 T1 L1 Lc1 X1 hQ1 l1
  obtain ⟨rfl, Nq1, Kq1, p1_0, p1_1, p1_2, p1_3⟩ := hQ1
  have O1_ := extKeep O0 Kq1 (allS r6 (allS r8 all0))
  have K1 := Keep.trans (Keep.refl h0 [x0, w1]) Kq1 (allS k1 (allS k0 all0))
  have N1_ := frA l1 N0 Nq1
  refine t_pop X1 u d13_5 rfl ?_
  refine t_aN X1 u d13_6 rfl rfl ?_
  exact Go.retA X1 hx hret rfl rfl hlk (hb hby d13_7) (by decide) (by decide) ⟨rfl, N1_, K1, p1_0, p1_1, p1_2, p1_3⟩
def Q_a14_15 (Z : State) (x0 : Addr) (x1 : Int32) (w1 : Addr) (kk2 : ClassId) (h0 : Heap) (v : Option Value) (h : Heap) (L : List Loc) : Prop := v = some (.ref x0) ∧ Fr Z.heap.size L ∧ Keep h0 h [w1, x0] ∧ Arv Z h w1 kk2 .byte (16 : Int32) [v_115, v_116, v_97, v_116, v_117, v_115, v_32, v_45, (.int (bq x1 5)), (.int (bq x1 4)), (.int (bq x1 3)), (.int (bq x1 2)), (.int (bq x1 1)), (.int (bq x1 0))] v_0 ∧ fl_8 Z h x0 v_14 ∧ fl_6 Z h x0 (.ref w1) ∧ fl_7 Z h x0 v_0
theorem rm_a14_15 (x0 : Addr) (x1 : Int32) (w1 : Addr) (kk2 : ClassId) (h0 : Heap) (O0 : Ext Z.heap h0) (r0 : fl_8 Z h0 x0 v_7) (r1 : Dg_1_6 x1) (r2 : fl_6 Z h0 x0 (.ref w1)) (r3 : Arv Z h0 w1 kk2 .byte (16 : Int32) [v_115, v_116, v_97, v_116, v_117, v_115, v_32, v_0, v_0, v_0, v_0, v_0, v_0, v_0, v_0, v_0] v_0) (r4 : fl_7 Z h0 x0 v_0) (r5 : ex_3 Z h0 x0) (r6 : Z.heap.size ≤ w1) (r7 : x0 ≠ w1) (r8 : Z.heap.size ≤ x0) :
    MF hw GG l y_14 jdk_68_method_32_code 4 (some (.object "java/lang/AbstractStringBuilder")) ws ⟨1, 0, 0, 18⟩ h0 #[(.ref x0), (.int x1)] (Q_a14_15 Z x0 x1 w1 kk2 h0) := by
  refine own_mF #[.val (.ref x0), .val (.int x1), .unset, .unset] (plainFor_of_name pn_14) (fun _ => rfl) ?_
  intro p e s m below meth c s₁ u hlk hret hZ hown hnm X0 e0 N0
  obtain ⟨hx, hby, hml⟩ := id u
  refine t_aN X0 u d14_0 rfl rfl ?_
  refine t_gF X0 u hZ hown (wd hw 57 rfl) e0 r0 d14_1 ?_
  intro T1 X1 e1
  refine t_isN X1 u d14_4 (l' := #[.val (.ref x0), .val (.int x1), .val v_7, .unset]) rfl ?_
  refine t_iN X1 u d14_5 rfl ?_
  refine t_iN X1 u d14_6 rfl ?_
  refine pt_cS [(.int x1)] [v_7] 1 X1 u hZ hown (wd hw 93 rfl) (m_10 hw) e1 (rm_ss_1_6 l Z a0 hw [] G GG x1 h0 O0 r1) rfl d14_7 rfl rfl (by decide) N0 ?_
  intro T2 L2 X2 e2 N2_
  refine t_iadd X2 u d14_10  ?_
  refine t_isN X2 u d14_11 (l' := #[.val (.ref x0), .val (.int x1), .val v_7, .val v_14]) rfl ?_
  refine t_aN X2 u d14_12 rfl rfl ?_
  refine t_iN X2 u d14_13 rfl ?_
  refine pt_cP [v_14] [] 0 X2 u hZ hown r5 (wd hw 59 rfl) (m_4 hw) e2 (rm_a9_0 l Z a0 hw [] G GG x0 (14 : Int32) w1 kk2 (115 : Int32) (116 : Int32) (97 : Int32) (116 : Int32) (117 : Int32) (115 : Int32) (32 : Int32) (0 : Int32) (0 : Int32) (0 : Int32) (0 : Int32) (0 : Int32) (0 : Int32) (0 : Int32) (0 : Int32) (0 : Int32) (0 : Int32) h0 O0 r2 r3 r4 (by decide)) rfl d14_14 rfl rfl (by decide) N2_ ?_
  intro T3 L3 X3 e3 N3_
  refine t_aN X3 u d14_17 rfl rfl ?_
  refine pt_cV [] [] 0 X3 u hZ hown (wd hw 97 rfl) (m_11 hw) e3 r5 (rm_a16_0 l Z a0 hw [] G GG x0 (0 : Int32) h0 O0 r4 (by decide)) rfl d14_18 rfl rfl (by decide) N3_ ?_
  intro T4 L4 X4 e4 N4_
  refine t_ifN X4 u d14_21 ((if0 _ _).trans (feq (by decide : ¬ ((1 : Int32) = (0 : Int32)))).1) ?_
  refine t_iN X4 u d14_24 rfl ?_
  refine t_iN X4 u d14_25 rfl ?_
  refine t_aN X4 u d14_26 rfl rfl ?_
  refine t_gF X4 u hZ hown (wd hw 24 rfl) e4 r2 d14_27 ?_
  intro T5 X5 e5
  refine t_cS [(.int x1), v_14, (.ref w1)] [] 0 X5 u hZ hown (wd hw 102 rfl) (m_12 hw) e5 (rm_gc_1_6 l Z a0 hw [] G GG x1 w1 kk2 h0 O0 r1 r6 (Arv.pad r3 (own_tr [v_115, v_116, v_97, v_116, v_117, v_115, v_32, v_0, v_0, v_0, v_0, v_0, v_0, v_0] 2 _))) rfl d14_30 rfl rfl (by decide) ?_
  intro v6 T6 L6 Lc6 X6 hQ6 l6
  obtain ⟨rfl, Nq6, Kq6, pV6⟩ := hQ6
  have O6_ := extKeep O0 Kq6 (allS r6 all0)
  have K6 := Keep.trans (Keep.refl h0 [w1, x0]) Kq6 (allS k0 all0)
  have N6_ := frA l6 N4_ Nq6
  refine t_pop X6 u d14_33 rfl ?_
  refine t_go 34 48 X6 u rfl d14_34 (by decide) ?_
  refine t_aN X6 u d14_48 rfl rfl ?_
  refine t_iN X6 u d14_49 rfl ?_
  refine t_pF X6 u hZ hown (wd hw 57 rfl) rfl (r0.keep Kq6 (ninS r7 nin0)) (r5.keep Kq6) (Or.inl (wd hw 58 rfl)) (wd hw 7 rfl) pf_I rfl rfl d14_50 ?_
  intro T7 h7 X7 e7 W7
  have N7_ := Fr.snoc X7 N6_ r8
  have O7_ := extWr O6_ W7 r8
  have K7 := Keep.wr K6 W7 k1
  have F7 := Fld.same W7 (r0.keep Kq6 (ninS r7 nin0))
  refine t_aN X7 u d14_53 rfl rfl ?_
  have f8 := (fS W7 (r2.keep Kq6 (ninS r7 nin0)) (sn_10 hw))
  have f9 := (fS W7 (r4.keep Kq6 (ninS r7 nin0)) (sn_11 hw))
  exact Go.retA X7 hx hret rfl rfl hlk (hb hby d14_54) (by decide) (by decide) (by show Q_a14_15 ..; rw [e7]; exact ⟨rfl, N7_, K7, (pV6.other W7 (Ne.symm r7)), F7, f8, f9⟩)
def Q_a13_15 (Z : State) (x0 : Addr) (x1 : Int32) (w1 : Addr) (kk2 : ClassId) (h0 : Heap) (v : Option Value) (h : Heap) (L : List Loc) : Prop := v = some (.ref x0) ∧ Fr Z.heap.size L ∧ Keep h0 h [x0, w1] ∧ Arv Z h w1 kk2 .byte (16 : Int32) [v_115, v_116, v_97, v_116, v_117, v_115, v_32, v_45, (.int (bq x1 5)), (.int (bq x1 4)), (.int (bq x1 3)), (.int (bq x1 2)), (.int (bq x1 1)), (.int (bq x1 0))] v_0 ∧ fl_8 Z h x0 v_14 ∧ fl_6 Z h x0 (.ref w1) ∧ fl_7 Z h x0 v_0
theorem rm_a13_15 (x0 : Addr) (x1 : Int32) (w1 : Addr) (kk2 : ClassId) (h0 : Heap) (O0 : Ext Z.heap h0) (r0 : fl_8 Z h0 x0 v_7) (r1 : Dg_1_6 x1) (r2 : fl_6 Z h0 x0 (.ref w1)) (r3 : Arv Z h0 w1 kk2 .byte (16 : Int32) [v_115, v_116, v_97, v_116, v_117, v_115, v_32, v_0, v_0, v_0, v_0, v_0, v_0, v_0, v_0, v_0] v_0) (r4 : fl_7 Z h0 x0 v_0) (r5 : ex_3 Z h0 x0) (r6 : Z.heap.size ≤ w1) (r7 : x0 ≠ w1) (r8 : Z.heap.size ≤ x0) :
    MF hw GG l y_13 jdk_67_method_15_code 2 (some (.object "java/lang/StringBuilder")) ws ⟨2, 0, 0, 33⟩ h0 #[(.ref x0), (.int x1)] (Q_a13_15 Z x0 x1 w1 kk2 h0) := by
  refine own_mF #[.val (.ref x0), .val (.int x1)] (plainFor_of_name pn_13) (fun _ => rfl) ?_
  intro p e s m below meth c s₁ u hlk hret hZ hown hnm X0 e0 N0
  obtain ⟨hx, hby, hml⟩ := id u
  refine t_aN X0 u d13_0 rfl rfl ?_
  refine t_iN X0 u d13_1 rfl ?_
  refine t_cX [(.int x1)] [] 0 X0 u hZ hown (by decide) r5 (wd hw 89 rfl) (m_13 hw) e0 (rm_a14_15 l Z a0 hw [] G GG x0 x1 w1 kk2 h0 O0 r0 r1 r2 r3 r4 r5 r6 r7 r8) rfl d13_2 rfl rfl (by decide) ?_
  intro v1 T1 L1 Lc1 X1 hQ1 l1
  obtain ⟨rfl, Nq1, Kq1, p1_0, p1_1, p1_2, p1_3⟩ := hQ1
  have O1_ := extKeep O0 Kq1 (allS r6 (allS r8 all0))
  have K1 := Keep.trans (Keep.refl h0 [x0, w1]) Kq1 (allS k1 (allS k0 all0))
  have N1_ := frA l1 N0 Nq1
  refine t_pop X1 u d13_5 rfl ?_
  refine t_aN X1 u d13_6 rfl rfl ?_
  exact Go.retA X1 hx hret rfl rfl hlk (hb hby d13_7) (by decide) (by decide) ⟨rfl, N1_, K1, p1_0, p1_1, p1_2, p1_3⟩
def Q_a14_16 (Z : State) (x0 : Addr) (x1 : Int32) (w1 : Addr) (kk2 : ClassId) (h0 : Heap) (v : Option Value) (h : Heap) (L : List Loc) : Prop := v = some (.ref x0) ∧ Fr Z.heap.size L ∧ Keep h0 h [w1, x0] ∧ Arv Z h w1 kk2 .byte (16 : Int32) [v_115, v_116, v_97, v_116, v_117, v_115, v_32, v_45, (.int (bq x1 6)), (.int (bq x1 5)), (.int (bq x1 4)), (.int (bq x1 3)), (.int (bq x1 2)), (.int (bq x1 1)), (.int (bq x1 0))] v_0 ∧ fl_8 Z h x0 v_15 ∧ fl_6 Z h x0 (.ref w1) ∧ fl_7 Z h x0 v_0
theorem rm_a14_16 (x0 : Addr) (x1 : Int32) (w1 : Addr) (kk2 : ClassId) (h0 : Heap) (O0 : Ext Z.heap h0) (r0 : fl_8 Z h0 x0 v_7) (r1 : Dg_1_7 x1) (r2 : fl_6 Z h0 x0 (.ref w1)) (r3 : Arv Z h0 w1 kk2 .byte (16 : Int32) [v_115, v_116, v_97, v_116, v_117, v_115, v_32, v_0, v_0, v_0, v_0, v_0, v_0, v_0, v_0, v_0] v_0) (r4 : fl_7 Z h0 x0 v_0) (r5 : ex_3 Z h0 x0) (r6 : Z.heap.size ≤ w1) (r7 : x0 ≠ w1) (r8 : Z.heap.size ≤ x0) :
    MF hw GG l y_14 jdk_68_method_32_code 4 (some (.object "java/lang/AbstractStringBuilder")) ws ⟨1, 0, 0, 18⟩ h0 #[(.ref x0), (.int x1)] (Q_a14_16 Z x0 x1 w1 kk2 h0) := by
  refine own_mF #[.val (.ref x0), .val (.int x1), .unset, .unset] (plainFor_of_name pn_14) (fun _ => rfl) ?_
  intro p e s m below meth c s₁ u hlk hret hZ hown hnm X0 e0 N0
  obtain ⟨hx, hby, hml⟩ := id u
  refine t_aN X0 u d14_0 rfl rfl ?_
  refine t_gF X0 u hZ hown (wd hw 57 rfl) e0 r0 d14_1 ?_
  intro T1 X1 e1
  refine t_isN X1 u d14_4 (l' := #[.val (.ref x0), .val (.int x1), .val v_7, .unset]) rfl ?_
  refine t_iN X1 u d14_5 rfl ?_
  refine t_iN X1 u d14_6 rfl ?_
  refine pt_cS [(.int x1)] [v_7] 1 X1 u hZ hown (wd hw 93 rfl) (m_10 hw) e1 (rm_ss_1_7 l Z a0 hw [] G GG x1 h0 O0 r1) rfl d14_7 rfl rfl (by decide) N0 ?_
  intro T2 L2 X2 e2 N2_
  refine t_iadd X2 u d14_10  ?_
  refine t_isN X2 u d14_11 (l' := #[.val (.ref x0), .val (.int x1), .val v_7, .val v_15]) rfl ?_
  refine t_aN X2 u d14_12 rfl rfl ?_
  refine t_iN X2 u d14_13 rfl ?_
  refine pt_cP [v_15] [] 0 X2 u hZ hown r5 (wd hw 59 rfl) (m_4 hw) e2 (rm_a9_0 l Z a0 hw [] G GG x0 (15 : Int32) w1 kk2 (115 : Int32) (116 : Int32) (97 : Int32) (116 : Int32) (117 : Int32) (115 : Int32) (32 : Int32) (0 : Int32) (0 : Int32) (0 : Int32) (0 : Int32) (0 : Int32) (0 : Int32) (0 : Int32) (0 : Int32) (0 : Int32) (0 : Int32) h0 O0 r2 r3 r4 (by decide)) rfl d14_14 rfl rfl (by decide) N2_ ?_
  intro T3 L3 X3 e3 N3_
  refine t_aN X3 u d14_17 rfl rfl ?_
  refine pt_cV [] [] 0 X3 u hZ hown (wd hw 97 rfl) (m_11 hw) e3 r5 (rm_a16_0 l Z a0 hw [] G GG x0 (0 : Int32) h0 O0 r4 (by decide)) rfl d14_18 rfl rfl (by decide) N3_ ?_
  intro T4 L4 X4 e4 N4_
  refine t_ifN X4 u d14_21 ((if0 _ _).trans (feq (by decide : ¬ ((1 : Int32) = (0 : Int32)))).1) ?_
  refine t_iN X4 u d14_24 rfl ?_
  refine t_iN X4 u d14_25 rfl ?_
  refine t_aN X4 u d14_26 rfl rfl ?_
  refine t_gF X4 u hZ hown (wd hw 24 rfl) e4 r2 d14_27 ?_
  intro T5 X5 e5
  refine t_cS [(.int x1), v_15, (.ref w1)] [] 0 X5 u hZ hown (wd hw 102 rfl) (m_12 hw) e5 (rm_gc_1_7 l Z a0 hw [] G GG x1 w1 kk2 h0 O0 r1 r6 (Arv.pad r3 (own_tr [v_115, v_116, v_97, v_116, v_117, v_115, v_32, v_0, v_0, v_0, v_0, v_0, v_0, v_0, v_0] 1 _))) rfl d14_30 rfl rfl (by decide) ?_
  intro v6 T6 L6 Lc6 X6 hQ6 l6
  obtain ⟨rfl, Nq6, Kq6, pV6⟩ := hQ6
  have O6_ := extKeep O0 Kq6 (allS r6 all0)
  have K6 := Keep.trans (Keep.refl h0 [w1, x0]) Kq6 (allS k0 all0)
  have N6_ := frA l6 N4_ Nq6
  refine t_pop X6 u d14_33 rfl ?_
  refine t_go 34 48 X6 u rfl d14_34 (by decide) ?_
  refine t_aN X6 u d14_48 rfl rfl ?_
  refine t_iN X6 u d14_49 rfl ?_
  refine t_pF X6 u hZ hown (wd hw 57 rfl) rfl (r0.keep Kq6 (ninS r7 nin0)) (r5.keep Kq6) (Or.inl (wd hw 58 rfl)) (wd hw 7 rfl) pf_I rfl rfl d14_50 ?_
  intro T7 h7 X7 e7 W7
  have N7_ := Fr.snoc X7 N6_ r8
  have O7_ := extWr O6_ W7 r8
  have K7 := Keep.wr K6 W7 k1
  have F7 := Fld.same W7 (r0.keep Kq6 (ninS r7 nin0))
  refine t_aN X7 u d14_53 rfl rfl ?_
  have f8 := (fS W7 (r2.keep Kq6 (ninS r7 nin0)) (sn_10 hw))
  have f9 := (fS W7 (r4.keep Kq6 (ninS r7 nin0)) (sn_11 hw))
  exact Go.retA X7 hx hret rfl rfl hlk (hb hby d14_54) (by decide) (by decide) (by show Q_a14_16 ..; rw [e7]; exact ⟨rfl, N7_, K7, (pV6.other W7 (Ne.symm r7)), F7, f8, f9⟩)
def Q_a13_16 (Z : State) (x0 : Addr) (x1 : Int32) (w1 : Addr) (kk2 : ClassId) (h0 : Heap) (v : Option Value) (h : Heap) (L : List Loc) : Prop := v = some (.ref x0) ∧ Fr Z.heap.size L ∧ Keep h0 h [x0, w1] ∧ Arv Z h w1 kk2 .byte (16 : Int32) [v_115, v_116, v_97, v_116, v_117, v_115, v_32, v_45, (.int (bq x1 6)), (.int (bq x1 5)), (.int (bq x1 4)), (.int (bq x1 3)), (.int (bq x1 2)), (.int (bq x1 1)), (.int (bq x1 0))] v_0 ∧ fl_8 Z h x0 v_15 ∧ fl_6 Z h x0 (.ref w1) ∧ fl_7 Z h x0 v_0
theorem rm_a13_16 (x0 : Addr) (x1 : Int32) (w1 : Addr) (kk2 : ClassId) (h0 : Heap) (O0 : Ext Z.heap h0) (r0 : fl_8 Z h0 x0 v_7) (r1 : Dg_1_7 x1) (r2 : fl_6 Z h0 x0 (.ref w1)) (r3 : Arv Z h0 w1 kk2 .byte (16 : Int32) [v_115, v_116, v_97, v_116, v_117, v_115, v_32, v_0, v_0, v_0, v_0, v_0, v_0, v_0, v_0, v_0] v_0) (r4 : fl_7 Z h0 x0 v_0) (r5 : ex_3 Z h0 x0) (r6 : Z.heap.size ≤ w1) (r7 : x0 ≠ w1) (r8 : Z.heap.size ≤ x0) :
    MF hw GG l y_13 jdk_67_method_15_code 2 (some (.object "java/lang/StringBuilder")) ws ⟨2, 0, 0, 33⟩ h0 #[(.ref x0), (.int x1)] (Q_a13_16 Z x0 x1 w1 kk2 h0) := by
  refine own_mF #[.val (.ref x0), .val (.int x1)] (plainFor_of_name pn_13) (fun _ => rfl) ?_
  intro p e s m below meth c s₁ u hlk hret hZ hown hnm X0 e0 N0
  obtain ⟨hx, hby, hml⟩ := id u
  refine t_aN X0 u d13_0 rfl rfl ?_
  refine t_iN X0 u d13_1 rfl ?_
  refine t_cX [(.int x1)] [] 0 X0 u hZ hown (by decide) r5 (wd hw 89 rfl) (m_13 hw) e0 (rm_a14_16 l Z a0 hw [] G GG x0 x1 w1 kk2 h0 O0 r0 r1 r2 r3 r4 r5 r6 r7 r8) rfl d13_2 rfl rfl (by decide) ?_
  intro v1 T1 L1 Lc1 X1 hQ1 l1
  obtain ⟨rfl, Nq1, Kq1, p1_0, p1_1, p1_2, p1_3⟩ := hQ1
  have O1_ := extKeep O0 Kq1 (allS r6 (allS r8 all0))
  have K1 := Keep.trans (Keep.refl h0 [x0, w1]) Kq1 (allS k1 (allS k0 all0))
  have N1_ := frA l1 N0 Nq1
  refine t_pop X1 u d13_5 rfl ?_
  refine t_aN X1 u d13_6 rfl rfl ?_
  exact Go.retA X1 hx hret rfl rfl hlk (hb hby d13_7) (by decide) (by decide) ⟨rfl, N1_, K1, p1_0, p1_1, p1_2, p1_3⟩
def Q_a14_17 (Z : State) (x0 : Addr) (x1 : Int32) (w1 : Addr) (kk2 : ClassId) (h0 : Heap) (v : Option Value) (h : Heap) (L : List Loc) : Prop := v = some (.ref x0) ∧ Fr Z.heap.size L ∧ Keep h0 h [w1, x0] ∧ Arv Z h w1 kk2 .byte (16 : Int32) [v_115, v_116, v_97, v_116, v_117, v_115, v_32, v_45, (.int (bq x1 7)), (.int (bq x1 6)), (.int (bq x1 5)), (.int (bq x1 4)), (.int (bq x1 3)), (.int (bq x1 2)), (.int (bq x1 1)), (.int (bq x1 0))] v_0 ∧ fl_8 Z h x0 v_16 ∧ fl_6 Z h x0 (.ref w1) ∧ fl_7 Z h x0 v_0
theorem rm_a14_17 (x0 : Addr) (x1 : Int32) (w1 : Addr) (kk2 : ClassId) (h0 : Heap) (O0 : Ext Z.heap h0) (r0 : fl_8 Z h0 x0 v_7) (r1 : Dg_1_8 x1) (r2 : fl_6 Z h0 x0 (.ref w1)) (r3 : Arv Z h0 w1 kk2 .byte (16 : Int32) [v_115, v_116, v_97, v_116, v_117, v_115, v_32, v_0, v_0, v_0, v_0, v_0, v_0, v_0, v_0, v_0] v_0) (r4 : fl_7 Z h0 x0 v_0) (r5 : ex_3 Z h0 x0) (r6 : Z.heap.size ≤ w1) (r7 : x0 ≠ w1) (r8 : Z.heap.size ≤ x0) :
    MF hw GG l y_14 jdk_68_method_32_code 4 (some (.object "java/lang/AbstractStringBuilder")) ws ⟨1, 0, 0, 18⟩ h0 #[(.ref x0), (.int x1)] (Q_a14_17 Z x0 x1 w1 kk2 h0) := by
  refine own_mF #[.val (.ref x0), .val (.int x1), .unset, .unset] (plainFor_of_name pn_14) (fun _ => rfl) ?_
  intro p e s m below meth c s₁ u hlk hret hZ hown hnm X0 e0 N0
  obtain ⟨hx, hby, hml⟩ := id u
  refine t_aN X0 u d14_0 rfl rfl ?_
  refine t_gF X0 u hZ hown (wd hw 57 rfl) e0 r0 d14_1 ?_
  intro T1 X1 e1
  refine t_isN X1 u d14_4 (l' := #[.val (.ref x0), .val (.int x1), .val v_7, .unset]) rfl ?_
  refine t_iN X1 u d14_5 rfl ?_
  refine t_iN X1 u d14_6 rfl ?_
  refine pt_cS [(.int x1)] [v_7] 1 X1 u hZ hown (wd hw 93 rfl) (m_10 hw) e1 (rm_ss_1_8 l Z a0 hw [] G GG x1 h0 O0 r1) rfl d14_7 rfl rfl (by decide) N0 ?_
  intro T2 L2 X2 e2 N2_
  refine t_iadd X2 u d14_10  ?_
  refine t_isN X2 u d14_11 (l' := #[.val (.ref x0), .val (.int x1), .val v_7, .val v_16]) rfl ?_
  refine t_aN X2 u d14_12 rfl rfl ?_
  refine t_iN X2 u d14_13 rfl ?_
  refine pt_cP [v_16] [] 0 X2 u hZ hown r5 (wd hw 59 rfl) (m_4 hw) e2 (rm_a9_0 l Z a0 hw [] G GG x0 (16 : Int32) w1 kk2 (115 : Int32) (116 : Int32) (97 : Int32) (116 : Int32) (117 : Int32) (115 : Int32) (32 : Int32) (0 : Int32) (0 : Int32) (0 : Int32) (0 : Int32) (0 : Int32) (0 : Int32) (0 : Int32) (0 : Int32) (0 : Int32) (0 : Int32) h0 O0 r2 r3 r4 (by decide)) rfl d14_14 rfl rfl (by decide) N2_ ?_
  intro T3 L3 X3 e3 N3_
  refine t_aN X3 u d14_17 rfl rfl ?_
  refine pt_cV [] [] 0 X3 u hZ hown (wd hw 97 rfl) (m_11 hw) e3 r5 (rm_a16_0 l Z a0 hw [] G GG x0 (0 : Int32) h0 O0 r4 (by decide)) rfl d14_18 rfl rfl (by decide) N3_ ?_
  intro T4 L4 X4 e4 N4_
  refine t_ifN X4 u d14_21 ((if0 _ _).trans (feq (by decide : ¬ ((1 : Int32) = (0 : Int32)))).1) ?_
  refine t_iN X4 u d14_24 rfl ?_
  refine t_iN X4 u d14_25 rfl ?_
  refine t_aN X4 u d14_26 rfl rfl ?_
  refine t_gF X4 u hZ hown (wd hw 24 rfl) e4 r2 d14_27 ?_
  intro T5 X5 e5
  refine t_cS [(.int x1), v_16, (.ref w1)] [] 0 X5 u hZ hown (wd hw 102 rfl) (m_12 hw) e5 (rm_gc_1_8 l Z a0 hw [] G GG x1 w1 kk2 h0 O0 r1 r6 r3) rfl d14_30 rfl rfl (by decide) ?_
  intro v6 T6 L6 Lc6 X6 hQ6 l6
  obtain ⟨rfl, Nq6, Kq6, pV6⟩ := hQ6
  have O6_ := extKeep O0 Kq6 (allS r6 all0)
  have K6 := Keep.trans (Keep.refl h0 [w1, x0]) Kq6 (allS k0 all0)
  have N6_ := frA l6 N4_ Nq6
  refine t_pop X6 u d14_33 rfl ?_
  refine t_go 34 48 X6 u rfl d14_34 (by decide) ?_
  refine t_aN X6 u d14_48 rfl rfl ?_
  refine t_iN X6 u d14_49 rfl ?_
  refine t_pF X6 u hZ hown (wd hw 57 rfl) rfl (r0.keep Kq6 (ninS r7 nin0)) (r5.keep Kq6) (Or.inl (wd hw 58 rfl)) (wd hw 7 rfl) pf_I rfl rfl d14_50 ?_
  intro T7 h7 X7 e7 W7
  have N7_ := Fr.snoc X7 N6_ r8
  have O7_ := extWr O6_ W7 r8
  have K7 := Keep.wr K6 W7 k1
  have F7 := Fld.same W7 (r0.keep Kq6 (ninS r7 nin0))
  refine t_aN X7 u d14_53 rfl rfl ?_
  have f8 := (fS W7 (r2.keep Kq6 (ninS r7 nin0)) (sn_10 hw))
  have f9 := (fS W7 (r4.keep Kq6 (ninS r7 nin0)) (sn_11 hw))
  exact Go.retA X7 hx hret rfl rfl hlk (hb hby d14_54) (by decide) (by decide) (by show Q_a14_17 ..; rw [e7]; exact ⟨rfl, N7_, K7, (pV6.other W7 (Ne.symm r7)), F7, f8, f9⟩)
def Q_a13_17 (Z : State) (x0 : Addr) (x1 : Int32) (w1 : Addr) (kk2 : ClassId) (h0 : Heap) (v : Option Value) (h : Heap) (L : List Loc) : Prop := v = some (.ref x0) ∧ Fr Z.heap.size L ∧ Keep h0 h [x0, w1] ∧ Arv Z h w1 kk2 .byte (16 : Int32) [v_115, v_116, v_97, v_116, v_117, v_115, v_32, v_45, (.int (bq x1 7)), (.int (bq x1 6)), (.int (bq x1 5)), (.int (bq x1 4)), (.int (bq x1 3)), (.int (bq x1 2)), (.int (bq x1 1)), (.int (bq x1 0))] v_0 ∧ fl_8 Z h x0 v_16 ∧ fl_6 Z h x0 (.ref w1) ∧ fl_7 Z h x0 v_0
theorem rm_a13_17 (x0 : Addr) (x1 : Int32) (w1 : Addr) (kk2 : ClassId) (h0 : Heap) (O0 : Ext Z.heap h0) (r0 : fl_8 Z h0 x0 v_7) (r1 : Dg_1_8 x1) (r2 : fl_6 Z h0 x0 (.ref w1)) (r3 : Arv Z h0 w1 kk2 .byte (16 : Int32) [v_115, v_116, v_97, v_116, v_117, v_115, v_32, v_0, v_0, v_0, v_0, v_0, v_0, v_0, v_0, v_0] v_0) (r4 : fl_7 Z h0 x0 v_0) (r5 : ex_3 Z h0 x0) (r6 : Z.heap.size ≤ w1) (r7 : x0 ≠ w1) (r8 : Z.heap.size ≤ x0) :
    MF hw GG l y_13 jdk_67_method_15_code 2 (some (.object "java/lang/StringBuilder")) ws ⟨2, 0, 0, 33⟩ h0 #[(.ref x0), (.int x1)] (Q_a13_17 Z x0 x1 w1 kk2 h0) := by
  refine own_mF #[.val (.ref x0), .val (.int x1)] (plainFor_of_name pn_13) (fun _ => rfl) ?_
  intro p e s m below meth c s₁ u hlk hret hZ hown hnm X0 e0 N0
  obtain ⟨hx, hby, hml⟩ := id u
  refine t_aN X0 u d13_0 rfl rfl ?_
  refine t_iN X0 u d13_1 rfl ?_
  refine t_cX [(.int x1)] [] 0 X0 u hZ hown (by decide) r5 (wd hw 89 rfl) (m_13 hw) e0 (rm_a14_17 l Z a0 hw [] G GG x0 x1 w1 kk2 h0 O0 r0 r1 r2 r3 r4 r5 r6 r7 r8) rfl d13_2 rfl rfl (by decide) ?_
  intro v1 T1 L1 Lc1 X1 hQ1 l1
  obtain ⟨rfl, Nq1, Kq1, p1_0, p1_1, p1_2, p1_3⟩ := hQ1
  have O1_ := extKeep O0 Kq1 (allS r6 (allS r8 all0))
  have K1 := Keep.trans (Keep.refl h0 [x0, w1]) Kq1 (allS k1 (allS k0 all0))
  have N1_ := frA l1 N0 Nq1
  refine t_pop X1 u d13_5 rfl ?_
  refine t_aN X1 u d13_6 rfl rfl ?_
  exact Go.retA X1 hx hret rfl rfl hlk (hb hby d13_7) (by decide) (by decide) ⟨rfl, N1_, K1, p1_0, p1_1, p1_2, p1_3⟩
def Q_a14_18 (Z : State) (x0 : Addr) (x1 : Int32) (h0 : Heap) (v : Option Value) (h : Heap) (L : List Loc) : Prop := ∃ (b2q7q3 : Addr) (k2q7q3 : ClassId), v = some (.ref x0) ∧ Fr Z.heap.size L ∧ Keep h0 h [x0] ∧ fl_6 Z h x0 (.ref b2q7q3) ∧ fl_7 Z h x0 v_0 ∧ fl_8 Z h x0 v_17 ∧ h0.size ≤ b2q7q3 ∧ ex_0 Z h b2q7q3 ∧ Arv Z h b2q7q3 k2q7q3 .byte (34 : Int32) [v_115, v_116, v_97, v_116, v_117, v_115, v_32, v_45, (.int (bq x1 8)), (.int (bq x1 7)), (.int (bq x1 6)), (.int (bq x1 5)), (.int (bq x1 4)), (.int (bq x1 3)), (.int (bq x1 2)), (.int (bq x1 1)), (.int (bq x1 0))] v_0
theorem rm_a14_18 (x0 : Addr) (x1 : Int32) (w1 : Addr) (kk2 : ClassId) (h0 : Heap) (O0 : Ext Z.heap h0) (r0 : fl_8 Z h0 x0 v_7) (r1 : Dg_1_9 x1) (r2 : fl_6 Z h0 x0 (.ref w1)) (r3 : Arv Z h0 w1 kk2 .byte (16 : Int32) [v_115, v_116, v_97, v_116, v_117, v_115, v_32, v_0, v_0, v_0, v_0, v_0, v_0, v_0, v_0, v_0] v_0) (r4 : fl_7 Z h0 x0 v_0) (r5 : ex_3 Z h0 x0) (r6 : Z.heap.size ≤ x0) :
    MF hw GG l y_14 jdk_68_method_32_code 4 (some (.object "java/lang/AbstractStringBuilder")) ws ⟨4, 1, 34, 62⟩ h0 #[(.ref x0), (.int x1)] (Q_a14_18 Z x0 x1 h0) := by
  refine own_mF #[.val (.ref x0), .val (.int x1), .unset, .unset] (plainFor_of_name pn_14) (fun _ => rfl) ?_
  intro p e s m below meth c s₁ u hlk hret hZ hown hnm X0 e0 N0
  obtain ⟨hx, hby, hml⟩ := id u
  refine t_aN X0 u d14_0 rfl rfl ?_
  refine t_gF X0 u hZ hown (wd hw 57 rfl) e0 r0 d14_1 ?_
  intro T1 X1 e1
  refine t_isN X1 u d14_4 (l' := #[.val (.ref x0), .val (.int x1), .val v_7, .unset]) rfl ?_
  refine t_iN X1 u d14_5 rfl ?_
  refine t_iN X1 u d14_6 rfl ?_
  refine pt_cS [(.int x1)] [v_7] 1 X1 u hZ hown (wd hw 93 rfl) (m_10 hw) e1 (rm_ss_1_9 l Z a0 hw [] G GG x1 h0 O0 r1) rfl d14_7 rfl rfl (by decide) N0 ?_
  intro T2 L2 X2 e2 N2_
  refine t_iadd X2 u d14_10  ?_
  refine t_isN X2 u d14_11 (l' := #[.val (.ref x0), .val (.int x1), .val v_7, .val v_17]) rfl ?_
  refine t_aN X2 u d14_12 rfl rfl ?_
  refine t_iN X2 u d14_13 rfl ?_
  refine t_cP [v_17] [] 0 X2 u hZ hown r5 (wd hw 59 rfl) (m_4 hw) e2 (rm_a9_1 l Z a0 hw [] G GG x0 w1 kk2 h0 O0 r2 r3 r4 r5 r6 r0) rfl d14_14 rfl rfl (by decide) ?_
  intro v3 T3 L3 Lc3 X3 hQ3 l3
  obtain ⟨b2q7q3, k2q7q3, rfl, Nq3, Kq3, p3_0, p3_1, p3_2, p3_3, p3_4, p3_5⟩ := hQ3
  have O3_ := extKeep O0 Kq3 (allS r6 all0)
  have K3 := Keep.trans (Keep.refl h0 [x0]) Kq3 (allS k0 all0)
  have N3_ := frA l3 N2_ Nq3
  have g_b2q7q3 := Nat.le_trans O0.1 p3_3
  have sz_b2q7q3 := Nat.le_trans (Keep.refl h0 [x0]).1 p3_3
  refine t_aN X3 u d14_17 rfl rfl ?_
  refine pt_cV [] [] 0 X3 u hZ hown (wd hw 97 rfl) (m_11 hw) rfl (r5.keep Kq3) (rm_a16_0 l Z a0 hw [] G GG x0 (0 : Int32) T3.heap O3_ p3_1 (by decide)) rfl d14_18 rfl rfl (by decide) N3_ ?_
  intro T4 L4 X4 e4 N4_
  refine t_ifN X4 u d14_21 ((if0 _ _).trans (feq (by decide : ¬ ((1 : Int32) = (0 : Int32)))).1) ?_
  refine t_iN X4 u d14_24 rfl ?_
  refine t_iN X4 u d14_25 rfl ?_
  refine t_aN X4 u d14_26 rfl rfl ?_
  refine t_gF X4 u hZ hown (wd hw 24 rfl) e4 p3_0 d14_27 ?_
  intro T5 X5 e5
  refine t_cS [(.int x1), v_17, (.ref b2q7q3)] [] 0 X5 u hZ hown (wd hw 102 rfl) (m_12 hw) e5 (rm_gc_1_9 l Z a0 hw [] G GG x1 b2q7q3 k2q7q3 T3.heap O3_ r1 g_b2q7q3 (Arv.pad p3_5 (own_tr [v_115, v_116, v_97, v_116, v_117, v_115, v_32, v_0, v_0, v_0, v_0, v_0, v_0, v_0, v_0, v_0, v_0] 17 _))) rfl d14_30 rfl rfl (by decide) ?_
  intro v6 T6 L6 Lc6 X6 hQ6 l6
  obtain ⟨rfl, Nq6, Kq6, pV6⟩ := hQ6
  have O6_ := extKeep O3_ Kq6 (allS g_b2q7q3 all0)
  have K6 := Keep.trans K3 Kq6 (allS (Or.inr sz_b2q7q3) all0)
  have N6_ := frA l6 N4_ Nq6
  refine t_pop X6 u d14_33 rfl ?_
  refine t_go 34 48 X6 u rfl d14_34 (by decide) ?_
  refine t_aN X6 u d14_48 rfl rfl ?_
  refine t_iN X6 u d14_49 rfl ?_
  have f7 := (p3_2.keep Kq6 (ninS (neL r5.lt p3_3) nin0))
  refine t_pF X6 u hZ hown (wd hw 57 rfl) rfl f7 ((r5.keep Kq3).keep Kq6) (Or.inl (wd hw 58 rfl)) (wd hw 7 rfl) pf_I rfl rfl d14_50 ?_
  intro T8 h8 X8 e8 W8
  have N8_ := Fr.snoc X8 N6_ r6
  have O8_ := extWr O6_ W8 r6
  have K8 := Keep.wr K6 W8 k0
  have F8 := Fld.same W8 f7
  refine t_aN X8 u d14_53 rfl rfl ?_
  have f9 := (fS W8 (p3_0.keep Kq6 (ninS (neL r5.lt p3_3) nin0)) (sn_10 hw))
  have f10 := (fS W8 (p3_1.keep Kq6 (ninS (neL r5.lt p3_3) nin0)) (sn_11 hw))
  have f11 := (pV6.other W8 (Ne.symm (neL r5.lt p3_3)))
  exact Go.retA X8 hx hret rfl rfl hlk (hb hby d14_54) (by decide) (by decide) (by show Q_a14_18 ..; rw [e8]; exact ⟨b2q7q3, k2q7q3, rfl, N8_, K8, f9, f10, F8, sz_b2q7q3, (Exa.wr W8 (p3_4.keep Kq6)), f11⟩)
def Q_a13_18 (Z : State) (x0 : Addr) (x1 : Int32) (h0 : Heap) (v : Option Value) (h : Heap) (L : List Loc) : Prop := ∃ (b2q7q3q1 : Addr) (k2q7q3q1 : ClassId), v = some (.ref x0) ∧ Fr Z.heap.size L ∧ Keep h0 h [x0] ∧ fl_6 Z h x0 (.ref b2q7q3q1) ∧ fl_7 Z h x0 v_0 ∧ fl_8 Z h x0 v_17 ∧ h0.size ≤ b2q7q3q1 ∧ ex_0 Z h b2q7q3q1 ∧ Arv Z h b2q7q3q1 k2q7q3q1 .byte (34 : Int32) [v_115, v_116, v_97, v_116, v_117, v_115, v_32, v_45, (.int (bq x1 8)), (.int (bq x1 7)), (.int (bq x1 6)), (.int (bq x1 5)), (.int (bq x1 4)), (.int (bq x1 3)), (.int (bq x1 2)), (.int (bq x1 1)), (.int (bq x1 0))] v_0
theorem rm_a13_18 (x0 : Addr) (x1 : Int32) (w1 : Addr) (kk2 : ClassId) (h0 : Heap) (O0 : Ext Z.heap h0) (r0 : fl_8 Z h0 x0 v_7) (r1 : Dg_1_9 x1) (r2 : fl_6 Z h0 x0 (.ref w1)) (r3 : Arv Z h0 w1 kk2 .byte (16 : Int32) [v_115, v_116, v_97, v_116, v_117, v_115, v_32, v_0, v_0, v_0, v_0, v_0, v_0, v_0, v_0, v_0] v_0) (r4 : fl_7 Z h0 x0 v_0) (r5 : ex_3 Z h0 x0) (r6 : Z.heap.size ≤ x0) :
    MF hw GG l y_13 jdk_67_method_15_code 2 (some (.object "java/lang/StringBuilder")) ws ⟨5, 1, 34, 77⟩ h0 #[(.ref x0), (.int x1)] (Q_a13_18 Z x0 x1 h0) := by
  refine own_mF #[.val (.ref x0), .val (.int x1)] (plainFor_of_name pn_13) (fun _ => rfl) ?_
  intro p e s m below meth c s₁ u hlk hret hZ hown hnm X0 e0 N0
  obtain ⟨hx, hby, hml⟩ := id u
  refine t_aN X0 u d13_0 rfl rfl ?_
  refine t_iN X0 u d13_1 rfl ?_
  refine t_cX [(.int x1)] [] 0 X0 u hZ hown (by decide) r5 (wd hw 89 rfl) (m_13 hw) e0 (rm_a14_18 l Z a0 hw [] G GG x0 x1 w1 kk2 h0 O0 r0 r1 r2 r3 r4 r5 r6) rfl d13_2 rfl rfl (by decide) ?_
  intro v1 T1 L1 Lc1 X1 hQ1 l1
  obtain ⟨b2q7q3q1, k2q7q3q1, rfl, Nq1, Kq1, p1_0, p1_1, p1_2, p1_3, p1_4, p1_5⟩ := hQ1
  have O1_ := extKeep O0 Kq1 (allS r6 all0)
  have K1 := Keep.trans (Keep.refl h0 [x0]) Kq1 (allS k0 all0)
  have N1_ := frA l1 N0 Nq1
  have g_b2q7q3q1 := Nat.le_trans O0.1 p1_3
  have sz_b2q7q3q1 := Nat.le_trans (Keep.refl h0 [x0]).1 p1_3
  refine t_pop X1 u d13_5 rfl ?_
  refine t_aN X1 u d13_6 rfl rfl ?_
  exact Go.retA X1 hx hret rfl rfl hlk (hb hby d13_7) (by decide) (by decide) ⟨b2q7q3q1, k2q7q3q1, rfl, N1_, K1, p1_0, p1_1, p1_2, sz_b2q7q3q1, p1_4, p1_5⟩
def Q_a9_2 (Z : State) (x0 : Addr) (h0 : Heap) (v : Option Value) (h : Heap) (L : List Loc) : Prop := ∃ (b2q7 : Addr) (k2q7 : ClassId), v = none ∧ Fr Z.heap.size L ∧ Keep h0 h [x0] ∧ fl_6 Z h x0 (.ref b2q7) ∧ fl_7 Z h x0 v_0 ∧ fl_8 Z h x0 v_7 ∧ h0.size ≤ b2q7 ∧ ex_0 Z h b2q7 ∧ Arv Z h b2q7 k2q7 .byte (34 : Int32) [v_115, v_116, v_97, v_116, v_117, v_115, v_32, v_0, v_0, v_0, v_0, v_0, v_0, v_0, v_0, v_0, v_0, v_0, v_0, v_0, v_0, v_0, v_0, v_0, v_0, v_0, v_0, v_0, v_0, v_0, v_0, v_0, v_0, v_0] v_0
theorem rm_a9_2 (x0 w1 : Addr) (kk2 : ClassId) (h0 : Heap) (O0 : Ext Z.heap h0) (r0 : fl_6 Z h0 x0 (.ref w1)) (r1 : Arv Z h0 w1 kk2 .byte (16 : Int32) [v_115, v_116, v_97, v_116, v_117, v_115, v_32, v_0, v_0, v_0, v_0, v_0, v_0, v_0, v_0, v_0] v_0) (r2 : fl_7 Z h0 x0 v_0) (r3 : ex_3 Z h0 x0) (r4 : Z.heap.size ≤ x0) (r5 : fl_8 Z h0 x0 v_7) :
    MF hw GG l y_9 jdk_68_method_9_code 3 none ws ⟨3, 1, 34, 48⟩ h0 #[(.ref x0), v_18] (Q_a9_2 Z x0 h0) := by
  refine own_mF #[.val (.ref x0), .val v_18, .unset] (plainFor_of_name pn_9) (fun _ => rfl) ?_
  intro p e s m below meth c s₁ u hlk hret hZ hown hnm X0 e0 N0
  obtain ⟨hx, hby, hml⟩ := id u
  refine t_aN X0 u d9_0 rfl rfl ?_
  refine t_gF X0 u hZ hown (wd hw 24 rfl) e0 r0 d9_1 ?_
  intro T1 X1 e1
  obtain ⟨cl2, Ar2, -, S2, N2, -, -⟩ := id r1
  refine Go.step (X1.arraylength hx (by rw [e1]; exact Ar2.1) (State.isArrayOf_alike hZ.alike Ar2.2.1) (g := (mkF m 4 #[.val (.ref x0), .val v_18, .unset] [(.ref w1)])) rfl rfl (hb hby d9_4)) ?_
  rw [len_of S2 N2]
  show Go _ _ _ _ _ _ _ _ T1 (mkF m 5 #[.val (.ref x0), .val v_18, .unset] [v_16])
  refine t_aN X1 u d9_5 rfl rfl ?_
  refine t_gF X1 u hZ hown (wd hw 26 rfl) e1 r2 d9_6 ?_
  intro T3 X3 e3
  refine Go.step (fun _ kt_ => XS.ishr X3.here hx rfl (hb hby d9_9) rfl kt_) ?_
  show Go _ _ _ _ _ _ _ _ T3 (mkF m 10 #[.val (.ref x0), .val v_18, .unset] [v_16])
  refine t_isN X3 u d9_10 (l' := #[.val (.ref x0), .val v_18, .val v_16]) rfl ?_
  refine t_iN X3 u d9_11 rfl ?_
  refine t_iN X3 u d9_12 rfl ?_
  refine t_isub X3 u d9_13  ?_
  refine t_ifN X3 u d9_14 ((if0 _ _).trans (tlt (by decide : (0 : Int32) < (2 : Int32))).2.2.2) ?_
  refine t_aN X3 u d9_17 rfl rfl ?_
  refine t_aN X3 u d9_18 rfl rfl ?_
  refine t_gF X3 u hZ hown (wd hw 24 rfl) e3 r0 d9_19 ?_
  intro T4 X4 e4
  refine t_aN X4 u d9_22 rfl rfl ?_
  refine t_iN X4 u d9_23 rfl ?_
  refine pt_cP [v_18] [(.ref w1), (.ref x0)] 2 X4 u hZ hown r3 (wd hw 275 rfl) (m_26 hw) e4 (rm_a45_0 l Z a0 hw [] G GG x0 (18 : Int32) w1 kk2 (115 : Int32) (116 : Int32) (97 : Int32) (116 : Int32) (117 : Int32) (115 : Int32) (32 : Int32) (0 : Int32) (0 : Int32) (0 : Int32) (0 : Int32) (0 : Int32) (0 : Int32) (0 : Int32) (0 : Int32) (0 : Int32) (0 : Int32) h0 O0 r0 r1 r2 (by decide) (by decide) (by decide) (by decide)) rfl d9_24 rfl rfl (by decide) N0 ?_
  intro T5 L5 X5 e5 N5_
  refine t_aN X5 u d9_27 rfl rfl ?_
  refine t_gF X5 u hZ hown (wd hw 26 rfl) e5 r2 d9_28 ?_
  intro T6 X6 e6
  refine Go.step (fun _ kt_ => XS.ishl X6.here hx rfl (hb hby d9_31) rfl kt_) ?_
  show Go _ _ _ _ _ _ _ _ T6 (mkF m 32 #[.val (.ref x0), .val v_18, .val v_16] [v_34, (.ref w1), (.ref x0)])
  refine t_cS [(.ref w1), v_34] [(.ref x0)] 1 X6 u hZ hown (wd hw 289 rfl) (m_27 hw) e6 (rm_a48_0 l Z a0 hw [] G GG w1 kk2 h0 O0 r1) rfl d9_32 rfl rfl (by decide) ?_
  intro v7 T7 L7 Lc7 X7 hQ7 l7
  obtain ⟨b2q7, k2q7, rfl, Nq7, Kq7, p7_0, p7_1, p7_2⟩ := hQ7
  have O7_ := extKeep O0 Kq7 all0
  have K7 := Keep.trans (Keep.refl h0 [x0]) Kq7 all0
  have N7_ := frA l7 N5_ Nq7
  have g_b2q7 := Nat.le_trans O0.1 p7_0
  have sz_b2q7 := Nat.le_trans (Keep.refl h0 [x0]).1 p7_0
  refine t_pF X7 u hZ hown (wd hw 24 rfl) rfl (r0.keep Kq7 nin0) (r3.keep Kq7) (Or.inl (wd hw 25 rfl)) (wd hw 7 rfl) pf_AB rfl rfl d9_35 ?_
  intro T8 h8 X8 e8 W8
  have N8_ := Fr.snoc X8 N7_ r4
  have O8_ := extWr O7_ W8 r4
  have K8 := Keep.wr K7 W8 k0
  have F8 := Fld.same W8 (r0.keep Kq7 nin0)
  have f9 := (p7_2.other W8 (Ne.symm (neL r3.lt p7_0)))
  exact Go.retV X8 hx hret hlk (hb hby d9_38) (by decide) (by decide) (by show Q_a9_2 ..; rw [e8]; exact ⟨b2q7, k2q7, rfl, N8_, K8, F8, (fR W8 (r2.keep Kq7 nin0) (sn_9 hw)), (fR W8 (r5.keep Kq7 nin0) (sn_10 hw)), sz_b2q7, (Exa.wr W8 p7_1), f9⟩)
def Q_a14_19 (Z : State) (x0 : Addr) (x1 : Int32) (h0 : Heap) (v : Option Value) (h : Heap) (L : List Loc) : Prop := ∃ (b2q7q3 : Addr) (k2q7q3 : ClassId), v = some (.ref x0) ∧ Fr Z.heap.size L ∧ Keep h0 h [x0] ∧ fl_6 Z h x0 (.ref b2q7q3) ∧ fl_7 Z h x0 v_0 ∧ fl_8 Z h x0 v_18 ∧ h0.size ≤ b2q7q3 ∧ ex_0 Z h b2q7q3 ∧ Arv Z h b2q7q3 k2q7q3 .byte (34 : Int32) [v_115, v_116, v_97, v_116, v_117, v_115, v_32, v_45, (.int (bq x1 9)), (.int (bq x1 8)), (.int (bq x1 7)), (.int (bq x1 6)), (.int (bq x1 5)), (.int (bq x1 4)), (.int (bq x1 3)), (.int (bq x1 2)), (.int (bq x1 1)), (.int (bq x1 0))] v_0
theorem rm_a14_19 (x0 : Addr) (x1 : Int32) (w1 : Addr) (kk2 : ClassId) (h0 : Heap) (O0 : Ext Z.heap h0) (r0 : fl_8 Z h0 x0 v_7) (r1 : Dg_1_10 x1) (r2 : fl_6 Z h0 x0 (.ref w1)) (r3 : Arv Z h0 w1 kk2 .byte (16 : Int32) [v_115, v_116, v_97, v_116, v_117, v_115, v_32, v_0, v_0, v_0, v_0, v_0, v_0, v_0, v_0, v_0] v_0) (r4 : fl_7 Z h0 x0 v_0) (r5 : ex_3 Z h0 x0) (r6 : Z.heap.size ≤ x0) :
    MF hw GG l y_14 jdk_68_method_32_code 4 (some (.object "java/lang/AbstractStringBuilder")) ws ⟨4, 1, 34, 62⟩ h0 #[(.ref x0), (.int x1)] (Q_a14_19 Z x0 x1 h0) := by
  refine own_mF #[.val (.ref x0), .val (.int x1), .unset, .unset] (plainFor_of_name pn_14) (fun _ => rfl) ?_
  intro p e s m below meth c s₁ u hlk hret hZ hown hnm X0 e0 N0
  obtain ⟨hx, hby, hml⟩ := id u
  refine t_aN X0 u d14_0 rfl rfl ?_
  refine t_gF X0 u hZ hown (wd hw 57 rfl) e0 r0 d14_1 ?_
  intro T1 X1 e1
  refine t_isN X1 u d14_4 (l' := #[.val (.ref x0), .val (.int x1), .val v_7, .unset]) rfl ?_
  refine t_iN X1 u d14_5 rfl ?_
  refine t_iN X1 u d14_6 rfl ?_
  refine pt_cS [(.int x1)] [v_7] 1 X1 u hZ hown (wd hw 93 rfl) (m_10 hw) e1 (rm_ss_1_10 l Z a0 hw [] G GG x1 h0 O0 r1) rfl d14_7 rfl rfl (by decide) N0 ?_
  intro T2 L2 X2 e2 N2_
  refine t_iadd X2 u d14_10  ?_
  refine t_isN X2 u d14_11 (l' := #[.val (.ref x0), .val (.int x1), .val v_7, .val v_18]) rfl ?_
  refine t_aN X2 u d14_12 rfl rfl ?_
  refine t_iN X2 u d14_13 rfl ?_
  refine t_cP [v_18] [] 0 X2 u hZ hown r5 (wd hw 59 rfl) (m_4 hw) e2 (rm_a9_2 l Z a0 hw [] G GG x0 w1 kk2 h0 O0 r2 r3 r4 r5 r6 r0) rfl d14_14 rfl rfl (by decide) ?_
  intro v3 T3 L3 Lc3 X3 hQ3 l3
  obtain ⟨b2q7q3, k2q7q3, rfl, Nq3, Kq3, p3_0, p3_1, p3_2, p3_3, p3_4, p3_5⟩ := hQ3
  have O3_ := extKeep O0 Kq3 (allS r6 all0)
  have K3 := Keep.trans (Keep.refl h0 [x0]) Kq3 (allS k0 all0)
  have N3_ := frA l3 N2_ Nq3
  have g_b2q7q3 := Nat.le_trans O0.1 p3_3
  have sz_b2q7q3 := Nat.le_trans (Keep.refl h0 [x0]).1 p3_3
  refine t_aN X3 u d14_17 rfl rfl ?_
  refine pt_cV [] [] 0 X3 u hZ hown (wd hw 97 rfl) (m_11 hw) rfl (r5.keep Kq3) (rm_a16_0 l Z a0 hw [] G GG x0 (0 : Int32) T3.heap O3_ p3_1 (by decide)) rfl d14_18 rfl rfl (by decide) N3_ ?_
  intro T4 L4 X4 e4 N4_
  refine t_ifN X4 u d14_21 ((if0 _ _).trans (feq (by decide : ¬ ((1 : Int32) = (0 : Int32)))).1) ?_
  refine t_iN X4 u d14_24 rfl ?_
  refine t_iN X4 u d14_25 rfl ?_
  refine t_aN X4 u d14_26 rfl rfl ?_
  refine t_gF X4 u hZ hown (wd hw 24 rfl) e4 p3_0 d14_27 ?_
  intro T5 X5 e5
  refine t_cS [(.int x1), v_18, (.ref b2q7q3)] [] 0 X5 u hZ hown (wd hw 102 rfl) (m_12 hw) e5 (rm_gc_1_10 l Z a0 hw [] G GG x1 b2q7q3 k2q7q3 T3.heap O3_ r1 g_b2q7q3 (Arv.pad p3_5 (own_tr [v_115, v_116, v_97, v_116, v_117, v_115, v_32, v_0, v_0, v_0, v_0, v_0, v_0, v_0, v_0, v_0, v_0, v_0] 16 _))) rfl d14_30 rfl rfl (by decide) ?_
  intro v6 T6 L6 Lc6 X6 hQ6 l6
  obtain ⟨rfl, Nq6, Kq6, pV6⟩ := hQ6
  have O6_ := extKeep O3_ Kq6 (allS g_b2q7q3 all0)
  have K6 := Keep.trans K3 Kq6 (allS (Or.inr sz_b2q7q3) all0)
  have N6_ := frA l6 N4_ Nq6
  refine t_pop X6 u d14_33 rfl ?_
  refine t_go 34 48 X6 u rfl d14_34 (by decide) ?_
  refine t_aN X6 u d14_48 rfl rfl ?_
  refine t_iN X6 u d14_49 rfl ?_
  have f7 := (p3_2.keep Kq6 (ninS (neL r5.lt p3_3) nin0))
  refine t_pF X6 u hZ hown (wd hw 57 rfl) rfl f7 ((r5.keep Kq3).keep Kq6) (Or.inl (wd hw 58 rfl)) (wd hw 7 rfl) pf_I rfl rfl d14_50 ?_
  intro T8 h8 X8 e8 W8
  have N8_ := Fr.snoc X8 N6_ r6
  have O8_ := extWr O6_ W8 r6
  have K8 := Keep.wr K6 W8 k0
  have F8 := Fld.same W8 f7
  refine t_aN X8 u d14_53 rfl rfl ?_
  have f9 := (fS W8 (p3_0.keep Kq6 (ninS (neL r5.lt p3_3) nin0)) (sn_10 hw))
  have f10 := (fS W8 (p3_1.keep Kq6 (ninS (neL r5.lt p3_3) nin0)) (sn_11 hw))
  have f11 := (pV6.other W8 (Ne.symm (neL r5.lt p3_3)))
  exact Go.retA X8 hx hret rfl rfl hlk (hb hby d14_54) (by decide) (by decide) (by show Q_a14_19 ..; rw [e8]; exact ⟨b2q7q3, k2q7q3, rfl, N8_, K8, f9, f10, F8, sz_b2q7q3, (Exa.wr W8 (p3_4.keep Kq6)), f11⟩)
def Q_a13_19 (Z : State) (x0 : Addr) (x1 : Int32) (h0 : Heap) (v : Option Value) (h : Heap) (L : List Loc) : Prop := ∃ (b2q7q3q1 : Addr) (k2q7q3q1 : ClassId), v = some (.ref x0) ∧ Fr Z.heap.size L ∧ Keep h0 h [x0] ∧ fl_6 Z h x0 (.ref b2q7q3q1) ∧ fl_7 Z h x0 v_0 ∧ fl_8 Z h x0 v_18 ∧ h0.size ≤ b2q7q3q1 ∧ ex_0 Z h b2q7q3q1 ∧ Arv Z h b2q7q3q1 k2q7q3q1 .byte (34 : Int32) [v_115, v_116, v_97, v_116, v_117, v_115, v_32, v_45, (.int (bq x1 9)), (.int (bq x1 8)), (.int (bq x1 7)), (.int (bq x1 6)), (.int (bq x1 5)), (.int (bq x1 4)), (.int (bq x1 3)), (.int (bq x1 2)), (.int (bq x1 1)), (.int (bq x1 0))] v_0
theorem rm_a13_19 (x0 : Addr) (x1 : Int32) (w1 : Addr) (kk2 : ClassId) (h0 : Heap) (O0 : Ext Z.heap h0) (r0 : fl_8 Z h0 x0 v_7) (r1 : Dg_1_10 x1) (r2 : fl_6 Z h0 x0 (.ref w1)) (r3 : Arv Z h0 w1 kk2 .byte (16 : Int32) [v_115, v_116, v_97, v_116, v_117, v_115, v_32, v_0, v_0, v_0, v_0, v_0, v_0, v_0, v_0, v_0] v_0) (r4 : fl_7 Z h0 x0 v_0) (r5 : ex_3 Z h0 x0) (r6 : Z.heap.size ≤ x0) :
    MF hw GG l y_13 jdk_67_method_15_code 2 (some (.object "java/lang/StringBuilder")) ws ⟨5, 1, 34, 77⟩ h0 #[(.ref x0), (.int x1)] (Q_a13_19 Z x0 x1 h0) := by
  refine own_mF #[.val (.ref x0), .val (.int x1)] (plainFor_of_name pn_13) (fun _ => rfl) ?_
  intro p e s m below meth c s₁ u hlk hret hZ hown hnm X0 e0 N0
  obtain ⟨hx, hby, hml⟩ := id u
  refine t_aN X0 u d13_0 rfl rfl ?_
  refine t_iN X0 u d13_1 rfl ?_
  refine t_cX [(.int x1)] [] 0 X0 u hZ hown (by decide) r5 (wd hw 89 rfl) (m_13 hw) e0 (rm_a14_19 l Z a0 hw [] G GG x0 x1 w1 kk2 h0 O0 r0 r1 r2 r3 r4 r5 r6) rfl d13_2 rfl rfl (by decide) ?_
  intro v1 T1 L1 Lc1 X1 hQ1 l1
  obtain ⟨b2q7q3q1, k2q7q3q1, rfl, Nq1, Kq1, p1_0, p1_1, p1_2, p1_3, p1_4, p1_5⟩ := hQ1
  have O1_ := extKeep O0 Kq1 (allS r6 all0)
  have K1 := Keep.trans (Keep.refl h0 [x0]) Kq1 (allS k0 all0)
  have N1_ := frA l1 N0 Nq1
  have g_b2q7q3q1 := Nat.le_trans O0.1 p1_3
  have sz_b2q7q3q1 := Nat.le_trans (Keep.refl h0 [x0]).1 p1_3
  refine t_pop X1 u d13_5 rfl ?_
  refine t_aN X1 u d13_6 rfl rfl ?_
  exact Go.retA X1 hx hret rfl rfl hlk (hb hby d13_7) (by decide) (by decide) ⟨b2q7q3q1, k2q7q3q1, rfl, N1_, K1, p1_0, p1_1, p1_2, sz_b2q7q3q1, p1_4, p1_5⟩
def Q_a25_9 (Z : State) (w2 w3 w4 w5 w6 w7 w8 w9 w10 w11 : Int32) (h0 : Heap) (v : Option Value) (h : Heap) (L : List Loc) : Prop := ∃ (b2 : Addr) (k2 : ClassId), v = some (.ref b2) ∧ Fr Z.heap.size L ∧ Keep h0 h [] ∧ h0.size ≤ b2 ∧ ex_0 Z h b2 ∧ Arv Z h b2 k2 .byte (18 : Int32) [v_115, v_116, v_97, v_116, v_117, v_115, v_32, v_45, (.int w2), (.int w3), (.int w4), (.int w5), (.int w6), (.int w7), (.int w8), (.int w9), (.int w10), (.int w11)] v_0
theorem rm_a25_9 (x0 : Addr) (kk1 : ClassId) (w2 w3 w4 w5 w6 w7 w8 w9 w10 w11 : Int32) (h0 : Heap) (O0 : Ext Z.heap h0) (r0 : Arv Z h0 x0 kk1 .byte (34 : Int32) [v_115, v_116, v_97, v_116, v_117, v_115, v_32, v_45, (.int w2), (.int w3), (.int w4), (.int w5), (.int w6), (.int w7), (.int w8), (.int w9), (.int w10), (.int w11)] v_0) :
    MF hw GG l y_25 jdk_65_method_133_code 5 (some (.array .byte)) ws ⟨1, 1, 18, 18⟩ h0 #[(.ref x0), v_0, v_18] (Q_a25_9 Z w2 w3 w4 w5 w6 w7 w8 w9 w10 w11 h0) := by
  refine own_mF #[.val (.ref x0), .val v_0, .val v_18, .unset, .unset] (plainFor_of_name pn_25) (fun _ => rfl) ?_
  intro p e s m below meth c s₁ u hlk hret hZ hown hnm X0 e0 N0
  obtain ⟨hx, hby, hml⟩ := id u
  refine t_iN X0 u d25_0 rfl ?_
  refine t_iN X0 u d25_1 rfl ?_
  refine pt_cS [v_0, v_18] [] 0 X0 u hZ hown (wd hw 141 rfl) (m_17 hw) e0 (rm_a26_0 l Z a0 hw [] G GG (0 : Int32) (18 : Int32) h0 O0 (by decide)) rfl d25_2 rfl rfl (by decide) N0 ?_
  intro T1 L1 X1 e1 N1_
  refine t_iN X1 u d25_5 rfl ?_
  refine t_iN X1 u d25_6 rfl ?_
  refine t_isub X1 u d25_7  ?_
  refine t_isN X1 u d25_8 (l' := #[.val (.ref x0), .val v_0, .val v_18, .val v_18, .unset]) rfl ?_
  refine t_iN X1 u d25_9 rfl ?_
  refine t_nB 18 X1 u hZ (wd hw 23 rfl) e1 d25_10 (by decide) ?_
  intro T2 h2 b2 k2 X2 e2 E2 hb2 V2 B2
  have g_b2 := leE O0.1 hb2
  have O2_ := extTr O0 E2
  have sz_b2 := leE (Keep.refl h0 []).1 hb2
  have K2 := Keep.ext (Keep.refl h0 []) E2
  refine t_asL X2 u d25_12 rfl (l' := #[.val (.ref x0), .val v_0, .val v_18, .val v_18, .val (.ref b2)]) rfl ?_
  refine t_aN X2 u d25_14 rfl rfl ?_
  refine t_iN X2 u d25_15 rfl ?_
  refine t_aL X2 u d25_16 rfl rfl ?_
  refine t_iC X2 u d25_18  ?_
  refine t_aN X2 u d25_19 rfl rfl ?_
  obtain ⟨cl3, Ar3, -, S3, N3, -, -⟩ := id (r0.ext E2)
  refine Go.step (X2.arraylength hx (by rw [e2]; exact Ar3.1) (State.isArrayOf_alike hZ.alike Ar3.2.1) (g := (mkF m 20 #[.val (.ref x0), .val v_0, .val v_18, .val v_18, .val (.ref b2)] [(.ref x0), v_0, (.ref b2), v_0, (.ref x0)])) rfl rfl (hb hby d25_20)) ?_
  rw [len_of S3 N3]
  show Go _ _ _ _ _ _ _ _ T2 (mkF m 21 #[.val (.ref x0), .val v_0, .val v_18, .val v_18, .val (.ref b2)] [v_34, v_0, (.ref b2), v_0, (.ref x0)])
  refine t_iN X2 u d25_21 rfl ?_
  refine t_isub X2 u d25_22  ?_
  refine t_iN X2 u d25_23 rfl ?_
  refine pt_cS [v_34, v_18] [v_0, (.ref b2), v_0, (.ref x0)] 4 X2 u hZ hown (wd hw 144 rfl) (m_18 hw) e2 (rm_a27_0 l Z a0 hw [] G GG (34 : Int32) (18 : Int32) h2 O2_ (by decide)) rfl d25_24 rfl rfl (by decide) N1_ ?_
  intro T4 L4 X4 e4 N4_
  obtain ⟨T5, h5, L5, X5, e5, N5_, K5_, V5_, st5⟩ := cpA X4 hx hZ hown (wd hw 148 rfl) (wd hw 83 rfl) (wd hw 81 rfl) (wd hw 82 rfl) e4 (us := [v_115, v_116, v_97, v_116, v_117, v_115, v_32, v_45, (.int w2), (.int w3), (.int w4), (.int w5), (.int w6), (.int w7), (.int w8), (.int w9), (.int w10), (.int w11)]) (r0.ext E2) V2 (Or.inl ⟨rfl, rfl⟩) (by decide) (by decide) (by decide) (by decide) (by decide) rfl (by decide) N4_ g_b2 (g := (mkF m 27 #[.val (.ref x0), .val v_0, .val v_18, .val v_18, .val (.ref b2)] [v_18, v_0, (.ref b2), v_0, (.ref x0)])) rfl (by rw [hml]; rfl) rfl (hb hby d25_27) (by decide) (W := 0) (by show 2 * 0 + _ ≤ _; exact Nat.le_of_eq rfl) (by decide)
  refine Go.step st5 ?_
  have V5 : Arv Z h5 b2 k2 .byte (18 : Int32) [v_115, v_116, v_97, v_116, v_117, v_115, v_32, v_45, (.int w2), (.int w3), (.int w4), (.int w5), (.int w6), (.int w7), (.int w8), (.int w9), (.int w10), (.int w11)] v_0 := V5_
  have O5_ : Ext Z.heap h5 := extKeep O2_ K5_ (allS g_b2 all0)
  have K5 := Keep.trans K2 K5_ (allS (Or.inr sz_b2) all0)
  refine t_aL X5 u d25_30 rfl rfl ?_
  exact Go.retA X5 hx hret rfl rfl hlk (hb hby d25_32) (by decide) (by decide) (by show Q_a25_9 ..; rw [e5]; exact ⟨b2, k2, rfl, N5_, K5, sz_b2, (B2.keep K5_), V5⟩)
def Q_a24_10 (Z : State) (w2 w3 w4 w5 w6 w7 w8 w9 w10 w11 : Int32) (h0 : Heap) (v : Option Value) (h : Heap) (L : List Loc) : Prop := ∃ (b2q2 : Addr) (k2q2 : ClassId), v = some (.ref b2q2) ∧ Fr Z.heap.size L ∧ Keep h0 h [] ∧ h0.size ≤ b2q2 ∧ ex_0 Z h b2q2 ∧ Arv Z h b2q2 k2q2 .byte (18 : Int32) [v_115, v_116, v_97, v_116, v_117, v_115, v_32, v_45, (.int w2), (.int w3), (.int w4), (.int w5), (.int w6), (.int w7), (.int w8), (.int w9), (.int w10), (.int w11)] v_0
theorem rm_a24_10 (x0 : Addr) (kk1 : ClassId) (w2 w3 w4 w5 w6 w7 w8 w9 w10 w11 : Int32) (h0 : Heap) (O0 : Ext Z.heap h0) (r0 : Arv Z h0 x0 kk1 .byte (34 : Int32) [v_115, v_116, v_97, v_116, v_117, v_115, v_32, v_45, (.int w2), (.int w3), (.int w4), (.int w5), (.int w6), (.int w7), (.int w8), (.int w9), (.int w10), (.int w11)] v_0) :
    MF hw GG l y_24 jdk_65_method_132_code 3 (some (.array .byte)) ws ⟨2, 1, 18, 34⟩ h0 #[(.ref x0), v_0, v_18] (Q_a24_10 Z w2 w3 w4 w5 w6 w7 w8 w9 w10 w11 h0) := by
  refine own_mF #[.val (.ref x0), .val v_0, .val v_18] (plainFor_of_name pn_24) (fun _ => rfl) ?_
  intro p e s m below meth c s₁ u hlk hret hZ hown hnm X0 e0 N0
  obtain ⟨hx, hby, hml⟩ := id u
  refine t_iN X0 u d24_0 rfl ?_
  refine t_ifN X0 u d24_1 ((if0 _ _).trans (teq (by decide : (0 : Int32) = (0 : Int32))).2) ?_
  refine t_iN X0 u d24_4 rfl ?_
  refine t_aN X0 u d24_5 rfl rfl ?_
  obtain ⟨cl1, Ar1, -, S1, N1, -, -⟩ := id r0
  refine Go.step (X0.arraylength hx (by rw [e0]; exact Ar1.1) (State.isArrayOf_alike hZ.alike Ar1.2.1) (g := (mkF m 6 #[.val (.ref x0), .val v_0, .val v_18] [(.ref x0), v_18])) rfl rfl (hb hby d24_6)) ?_
  rw [len_of S1 N1]
  show Go _ _ _ _ _ _ _ _ s₁ (mkF m 7 #[.val (.ref x0), .val v_0, .val v_18] [v_34, v_18])
  refine t_icN X0 u d24_7 (feq (by decide : ¬ ((18 : Int32) = (34 : Int32)))).1 ?_
  refine t_aN X0 u d24_10 rfl rfl ?_
  refine t_iN X0 u d24_11 rfl ?_
  refine t_iN X0 u d24_12 rfl ?_
  refine t_cS [(.ref x0), v_0, v_18] [] 0 X0 u hZ hown (wd hw 138 rfl) (m_19 hw) e0 (rm_a25_9 l Z a0 hw [] G GG x0 kk1 w2 w3 w4 w5 w6 w7 w8 w9 w10 w11 h0 O0 r0) rfl d24_13 rfl rfl (by decide) ?_
  intro v2 T2 L2 Lc2 X2 hQ2 l2
  obtain ⟨b2q2, k2q2, rfl, Nq2, Kq2, p2_0, p2_1, p2_2⟩ := hQ2
  have O2_ := extKeep O0 Kq2 all0
  have K2 := Keep.trans (Keep.refl h0 []) Kq2 all0
  have N2_ := frA l2 N0 Nq2
  have g_b2q2 := Nat.le_trans O0.1 p2_0
  have sz_b2q2 := Nat.le_trans (Keep.refl h0 []).1 p2_0
  exact Go.retA X2 hx hret rfl rfl hlk (hb hby d24_16) (by decide) (by decide) ⟨b2q2, k2q2, rfl, N2_, K2, sz_b2q2, p2_1, p2_2⟩
def Q_a20_10 (Z : State) (x0 : Addr) (w3 w4 w5 w6 w7 w8 w9 w10 w11 w12 : Int32) (h0 : Heap) (v : Option Value) (h : Heap) (L : List Loc) : Prop := ∃ (b2q2q6 : Addr) (k2q2q6 : ClassId), v = none ∧ Fr Z.heap.size L ∧ Keep h0 h [x0] ∧ fl_4 Z h x0 v_0 ∧ fl_5 Z h x0 (.ref b2q2q6) ∧ h0.size ≤ b2q2q6 ∧ ex_0 Z h b2q2q6 ∧ Arv Z h b2q2q6 k2q2q6 .byte (18 : Int32) [v_115, v_116, v_97, v_116, v_117, v_115, v_32, v_45, (.int w3), (.int w4), (.int w5), (.int w6), (.int w7), (.int w8), (.int w9), (.int w10), (.int w11), (.int w12)] v_0
theorem rm_a20_10 (x0 x1 w1 : Addr) (kk2 : ClassId) (w3 w4 w5 w6 w7 w8 w9 w10 w11 w12 : Int32) (h0 : Heap) (O0 : Ext Z.heap h0) (r0 : ex_3 Z h0 x1) (r1 : fl_6 Z h0 x1 (.ref w1)) (r2 : fl_8 Z h0 x1 v_18) (r3 : fl_7 Z h0 x1 v_0) (r4 : ex_2 Z h0 x0) (r5 : fl_4 Z h0 x0 v_0) (r6 : Z.heap.size ≤ x0) (r7 : Arv Z h0 w1 kk2 .byte (34 : Int32) [v_115, v_116, v_97, v_116, v_117, v_115, v_32, v_45, (.int w3), (.int w4), (.int w5), (.int w6), (.int w7), (.int w8), (.int w9), (.int w10), (.int w11), (.int w12)] v_0) (r8 : w1 ≠ x0) (r9 : fl_5 Z h0 x0 .null) :
    MF hw GG l y_20 jdk_42_method_150_code 5 none ws ⟨3, 1, 18, 49⟩ h0 #[(.ref x0), (.ref x1), .null] (Q_a20_10 Z x0 w3 w4 w5 w6 w7 w8 w9 w10 w11 w12 h0) := by
  refine own_mF #[.val (.ref x0), .val (.ref x1), .val .null, .unset, .unset] (plainFor_of_name pn_20) (fun _ => rfl) ?_
  intro p e s m below meth c s₁ u hlk hret hZ hown hnm X0 e0 N0
  obtain ⟨hx, hby, hml⟩ := id u
  refine t_aN X0 u d20_0 rfl rfl ?_
  refine t_in 0 X0 u hZ hown (wd hw 119 rfl) (wd hw 19 rfl) (wd hw 20 rfl) e0 rfl d20_1 rfl (by decide) ?_
  intro T1 X1 e1
  refine t_aN X1 u d20_4 rfl rfl ?_
  refine pt_cV [] [] 0 X1 u hZ hown (wd hw 120 rfl) (m_15 hw) e1 r0 (rm_a21_0 l Z a0 hw [] G GG x1 w1 h0 O0 r1) rfl d20_5 rfl rfl (by decide) N0 ?_
  intro T2 L2 X2 e2 N2_
  refine t_asN X2 u d20_8 rfl (l' := #[.val (.ref x0), .val (.ref x1), .val .null, .val (.ref w1), .unset]) rfl ?_
  refine t_aN X2 u d20_9 rfl rfl ?_
  obtain ⟨cq3, kq3, q3a, q3b, q3c⟩ := isOf hZ e2 r0
  obtain ⟨_, _, ⟨T3, L3, k3, n3⟩, -, X3, ⟨Lc3, hQ3, l3, y3, z3⟩, st3⟩ := X2.virtualBack hx (y := (⟨"java/lang/AbstractStringBuilder", "length", "()I"⟩ : MethodName)) (z := (⟨"java/lang/StringBuilder", "length", "()I"⟩ : MethodName)) hown (mvT hZ (wd hw 125 rfl)) (mvT hZ (wd hw 126 rfl)) (own_nf (mvT hZ (wd hw 62 rfl)) rfl) (mvT hZ (wd hw 128 rfl)) (mvT hZ (wd hw 129 rfl)) (by decide) (backOf (W := 0) (rm_a22_0 l Z a0 hw [] G GG x1 (18 : Int32) h0 O0 r2 r0) hZ (wd hw 130 rfl) (wd hw 8 rfl) (by decide) (by decide)) q3a q3c (g := (mkF m 10 #[.val (.ref x0), .val (.ref x1), .val .null, .val (.ref w1), .unset] [(.ref x1)])) rfl (by rw [hml]; rfl) (Steps.refl _) (argsL := []) (rest := []) (lenOf pd_LRI rfl) rfl (by show 2 * 0 + _ ≤ _; exact Nat.le_of_eq rfl) (hb hby d20_10) (fun _ _ => ⟨rfl, e2, (by decide : 0 + 0 ≤ _), (by decide : 0 + 0 ≤ _)⟩)
  dsimp only [Pt.U, Pt.locs, Pt.cells, Pt.slots] at X3 l3 y3 z3 st3 hQ3
  subst y3 z3
  obtain ⟨rfl, Nq3, e3⟩ := hQ3
  have N3_ := frA l3 N2_ Nq3
  refine Go.trans st3 ?_
  refine t_isL X3 u d20_13 (l' := #[.val (.ref x0), .val (.ref x1), .val .null, .val (.ref w1), .val v_18]) rfl ?_
  refine t_aN X3 u d20_15 rfl rfl ?_
  refine pt_cV [] [] 0 X3 u hZ hown (wd hw 133 rfl) (m_11 hw) e3 r0 (rm_a16_0 l Z a0 hw [] G GG x1 (0 : Int32) h0 O0 r3 (by decide)) rfl d20_16 rfl rfl (by decide) N3_ ?_
  intro T4 L4 X4 e4 N4_
  refine t_ifN X4 u d20_19 ((if0 _ _).trans (feq (by decide : ¬ ((1 : Int32) = (0 : Int32)))).1) ?_
  refine t_aN X4 u d20_22 rfl rfl ?_
  refine t_iC X4 u d20_23  ?_
  refine t_pN X4 u hZ hown (wd hw 56 rfl) e4 r5 r4 (Or.inr ⟨(wd hw 31 rfl), rfl, hnm⟩) (wd hw 29 rfl) v_0 pf_B rfl rfl d20_24 ?_
  intro T5 h5 X5 e5 W5
  have N5_ := Fr.snoc X5 N4_ r6
  have O5_ := extWr O0 W5 r6
  have K5 := Keep.wr (Keep.refl h0 [x0]) W5 k0
  have F5 := Fld.same W5 r5
  refine t_aN X5 u d20_27 rfl rfl ?_
  refine t_aN X5 u d20_28 rfl rfl ?_
  refine t_iC X5 u d20_29  ?_
  refine t_iL X5 u d20_30 rfl ?_
  refine t_cS [(.ref w1), v_0, v_18] [(.ref x0)] 1 X5 u hZ hown (wd hw 134 rfl) (m_20 hw) e5 (rm_a24_10 l Z a0 hw [] G GG w1 kk2 w3 w4 w5 w6 w7 w8 w9 w10 w11 w12 h5 O5_ (r7.other W5 r8)) rfl d20_32 rfl rfl (by decide) ?_
  intro v6 T6 L6 Lc6 X6 hQ6 l6
  obtain ⟨b2q2q6, k2q2q6, rfl, Nq6, Kq6, p6_0, p6_1, p6_2⟩ := hQ6
  have O6_ := extKeep O5_ Kq6 all0
  have K6 := Keep.trans K5 Kq6 all0
  have N6_ := frA l6 N5_ Nq6
  have g_b2q2q6 := Nat.le_trans O5_.1 p6_0
  have sz_b2q2q6 := Nat.le_trans K5.1 p6_0
  refine t_pF X6 u hZ hown (wd hw 49 rfl) rfl ((fR W5 r9 (sn_12 hw)).keep Kq6 nin0) ((Exa.wr W5 r4).keep Kq6) (Or.inr ⟨(wd hw 30 rfl), rfl, hnm⟩) (wd hw 29 rfl) pf_AB rfl rfl d20_35 ?_
  intro T7 h7 X7 e7 W7
  have N7_ := Fr.snoc X7 N6_ r6
  have O7_ := extWr O6_ W7 r6
  have K7 := Keep.wr K6 W7 k0
  have F7 := Fld.same W7 ((fR W5 r9 (sn_12 hw)).keep Kq6 nin0)
  refine t_go 38 97 X7 u rfl d20_38 (by decide) ?_
  have f8 := (p6_2.other W7 (Ne.symm (neL (Exa.wr W5 r4).lt p6_0)))
  exact Go.retV X7 hx hret hlk (hb hby d20_97) (by decide) (by decide) (by show Q_a20_10 ..; rw [e7]; exact ⟨b2q2q6, k2q2q6, rfl, N7_, K7, (fS W7 (F5.keep Kq6 nin0) (sn_12 hw)), F7, sz_b2q2q6, (Exa.wr W7 p6_1), f8⟩)
def Q_a19_10 (Z : State) (x0 : Addr) (w3 w4 w5 w6 w7 w8 w9 w10 w11 w12 : Int32) (h0 : Heap) (v : Option Value) (h : Heap) (L : List Loc) : Prop := ∃ (b2q2q6q1 : Addr) (k2q2q6q1 : ClassId), v = none ∧ Fr Z.heap.size L ∧ Keep h0 h [x0] ∧ fl_4 Z h x0 v_0 ∧ fl_5 Z h x0 (.ref b2q2q6q1) ∧ h0.size ≤ b2q2q6q1 ∧ ex_0 Z h b2q2q6q1 ∧ Arv Z h b2q2q6q1 k2q2q6q1 .byte (18 : Int32) [v_115, v_116, v_97, v_116, v_117, v_115, v_32, v_45, (.int w3), (.int w4), (.int w5), (.int w6), (.int w7), (.int w8), (.int w9), (.int w10), (.int w11), (.int w12)] v_0
theorem rm_a19_10 (x0 x1 w1 : Addr) (kk2 : ClassId) (w3 w4 w5 w6 w7 w8 w9 w10 w11 w12 : Int32) (h0 : Heap) (O0 : Ext Z.heap h0) (r0 : ex_3 Z h0 x1) (r1 : fl_6 Z h0 x1 (.ref w1)) (r2 : fl_8 Z h0 x1 v_18) (r3 : fl_7 Z h0 x1 v_0) (r4 : ex_2 Z h0 x0) (r5 : fl_4 Z h0 x0 v_0) (r6 : Z.heap.size ≤ x0) (r7 : Arv Z h0 w1 kk2 .byte (34 : Int32) [v_115, v_116, v_97, v_116, v_117, v_115, v_32, v_45, (.int w3), (.int w4), (.int w5), (.int w6), (.int w7), (.int w8), (.int w9), (.int w10), (.int w11), (.int w12)] v_0) (r8 : w1 ≠ x0) (r9 : fl_5 Z h0 x0 .null) :
    MF hw GG l y_19 jdk_42_method_53_code 2 none ws ⟨4, 1, 18, 65⟩ h0 #[(.ref x0), (.ref x1)] (Q_a19_10 Z x0 w3 w4 w5 w6 w7 w8 w9 w10 w11 w12 h0) := by
  refine own_mF #[.val (.ref x0), .val (.ref x1)] (plainFor_of_name pn_19) (fun _ => rfl) ?_
  intro p e s m below meth c s₁ u hlk hret hZ hown hnm X0 e0 N0
  obtain ⟨hx, hby, hml⟩ := id u
  refine t_aN X0 u d19_0 rfl rfl ?_
  refine t_aN X0 u d19_1 rfl rfl ?_
  refine t_nl X0 u d19_2  ?_
  refine t_cN [(.ref x1), .null] [] 0 X0 u hZ hown rfl (wd hw 116 rfl) (m_21 hw) e0 (rm_a20_10 l Z a0 hw [] G GG x0 x1 w1 kk2 w3 w4 w5 w6 w7 w8 w9 w10 w11 w12 h0 O0 r0 r1 r2 r3 r4 r5 r6 r7 r8 r9) rfl d19_3 rfl rfl (by decide) ?_
  intro v1 T1 L1 Lc1 X1 hQ1 l1
  obtain ⟨b2q2q6q1, k2q2q6q1, rfl, Nq1, Kq1, p1_0, p1_1, p1_2, p1_3, p1_4⟩ := hQ1
  have O1_ := extKeep O0 Kq1 (allS r6 all0)
  have K1 := Keep.trans (Keep.refl h0 [x0]) Kq1 (allS k0 all0)
  have N1_ := frA l1 N0 Nq1
  have g_b2q2q6q1 := Nat.le_trans O0.1 p1_2
  have sz_b2q2q6q1 := Nat.le_trans (Keep.refl h0 [x0]).1 p1_2
  exact Go.retV X1 hx hret hlk (hb hby d19_6) (by decide) (by decide) ⟨b2q2q6q1, k2q2q6q1, rfl, N1_, K1, p1_0, p1_1, sz_b2q2q6q1, p1_3, p1_4⟩
def Q_a18_10 (Z : State) (w3 w4 w5 w6 w7 w8 w9 w10 w11 w12 : Int32) (h0 : Heap) (v : Option Value) (h : Heap) (L : List Loc) : Prop := ∃ (b1 : Addr) (b2q2q6q1q2 : Addr) (k2q2q6q1q2 : ClassId), v = some (.ref b1) ∧ Fr Z.heap.size L ∧ Keep h0 h [] ∧ h0.size ≤ b1 ∧ ex_2 Z h b1 ∧ fl_4 Z h b1 v_0 ∧ fl_5 Z h b1 (.ref b2q2q6q1q2) ∧ h0.size ≤ b2q2q6q1q2 ∧ ex_0 Z h b2q2q6q1q2 ∧ Arv Z h b2q2q6q1q2 k2q2q6q1q2 .byte (18 : Int32) [v_115, v_116, v_97, v_116, v_117, v_115, v_32, v_45, (.int w3), (.int w4), (.int w5), (.int w6), (.int w7), (.int w8), (.int w9), (.int w10), (.int w11), (.int w12)] v_0 ∧ b1 ≠ b2q2q6q1q2
theorem rm_a18_10 (x0 w1 : Addr) (kk2 : ClassId) (w3 w4 w5 w6 w7 w8 w9 w10 w11 w12 : Int32) (h0 : Heap) (O0 : Ext Z.heap h0) (r0 : ex_3 Z h0 x0) (r1 : fl_6 Z h0 x0 (.ref w1)) (r2 : fl_8 Z h0 x0 v_18) (r3 : fl_7 Z h0 x0 v_0) (r4 : Arv Z h0 w1 kk2 .byte (34 : Int32) [v_115, v_116, v_97, v_116, v_117, v_115, v_32, v_45, (.int w3), (.int w4), (.int w5), (.int w6), (.int w7), (.int w8), (.int w9), (.int w10), (.int w11), (.int w12)] v_0) :
    MF hw GG l y_18 jdk_67_method_42_code 1 (some (.object "java/lang/String")) ws ⟨5, 2, 22, 79⟩ h0 #[(.ref x0)] (Q_a18_10 Z w3 w4 w5 w6 w7 w8 w9 w10 w11 w12 h0) := by
  refine own_mF #[.val (.ref x0)] (plainFor_of_name pn_18) (fun _ => rfl) ?_
  intro p e s m below meth c s₁ u hlk hret hZ hown hnm X0 e0 N0
  obtain ⟨hx, hby, hml⟩ := id u
  refine t_new X0 u hZ hown (wd hw 111 rfl) (wd hw 29 rfl) (wd hw 22 rfl) e0 d18_0 (by decide) ?_
  intro T1 h1 b1 X1 e1 E1 hb1 A1 D1
  have g_b1 := leE O0.1 hb1
  have O1_ := extTr O0 E1
  have sz_b1 := leE (Keep.refl h0 []).1 hb1
  have K1 := Keep.ext (Keep.refl h0 []) E1
  have F1_value : fl_5 Z h1 b1 .null := D1 (Or.inr (wd hw 30 rfl)) (ty := (.array .byte)) pf_AB
  have F1_coder : fl_4 Z h1 b1 v_0 := D1 (Or.inr (wd hw 31 rfl)) (ty := .byte) pf_B
  refine t_dup X1 u d18_3 rfl ?_
  refine t_aN X1 u d18_4 rfl rfl ?_
  refine t_cN [(.ref x0)] [(.ref b1)] 1 X1 u hZ hown rfl (wd hw 112 rfl) (m_22 hw) e1 (rm_a19_10 l Z a0 hw [] G GG b1 x0 w1 kk2 w3 w4 w5 w6 w7 w8 w9 w10 w11 w12 h1 O1_ (Exa.ext E1 r0) (Fld.ext E1 r1) (Fld.ext E1 r2) (Fld.ext E1 r3) A1 F1_coder g_b1 (r4.ext E1) (neE r4.lt hb1) F1_value) rfl d18_5 rfl rfl (by decide) ?_
  intro v2 T2 L2 Lc2 X2 hQ2 l2
  obtain ⟨b2q2q6q1q2, k2q2q6q1q2, rfl, Nq2, Kq2, p2_0, p2_1, p2_2, p2_3, p2_4⟩ := hQ2
  have O2_ := extKeep O1_ Kq2 (allS g_b1 all0)
  have K2 := Keep.trans K1 Kq2 (allS (Or.inr sz_b1) all0)
  have N2_ := frA l2 N0 Nq2
  have g_b2q2q6q1q2 := Nat.le_trans O1_.1 p2_2
  have sz_b2q2q6q1q2 := Nat.le_trans K1.1 p2_2
  exact Go.retA X2 hx hret rfl rfl hlk (hb hby d18_8) (by decide) (by decide) ⟨b1, b2q2q6q1q2, k2q2q6q1q2, rfl, N2_, K2, sz_b1, (A1.keep Kq2), p2_0, p2_1, sz_b2q2q6q1q2, p2_3, p2_4, (neL A1.lt p2_2)⟩
theorem pn_1 : plainName "com/example/layout_to_rows/layouttorows/harvest/FetchException" = true := by first | (simp [plainName, overriddenIn]; done) | decide +kernel
def Q_st (Z : State) (x0 : Int32) (h0 : Heap) (v : Option Value) (h : Heap) (L : List Loc) : Prop := ∃ (r sm sb : Addr) (sk : ClassId) (n : Int32) (vs : List Value), v = some (.ref r) ∧ Fr Z.heap.size L ∧ Keep h0 h [] ∧ StQ Z h r sm sb sk n vs ∧ Tx x0 n vs
theorem rm_st (l : Launch) (Z : State) (a0 : Array Value) (hw : HW Z a0) (ws : List Jvm.Cond) (G : GT) (GG : GP Z G) (x0 : Int32) (h0 : Heap) (O0 : Ext Z.heap h0) (hl : l.stackTraces = true) :
    MetHK l y_1 prog_9_method_3_code 1 (some (.object "com/example/layout_to_rows/layouttorows/harvest/FetchException")) ws ⟨6, 9, 2867, 93⟩ Z consts_1 h0 #[(.int x0)] (Q_st Z x0 h0) := by
  refine own_metHK "com/example/layout_to_rows/layouttorows/harvest/FetchException" (plainFor_of_name pn_1) rfl #[.val (.int x0)] (fun _ => by first | (simp [entryFrame, mkF, argsToLocals, Value.category]; done) | rfl) ?_
  intro p e s m below meth c s₁ hx hby hlk hret hml hZ hown hnm X0 e0 S0 kk0 hh hCH hTK hBl
  have N0 := Fr.nil Z.heap.size
  have u : UB p c _ _ := ⟨hx, hby, hml⟩
  have wS := own_wS hw
  have hEL := own_EW hw
  have CR0 := CHr.refl hCH
  refine t_newU X0 u hZ hown (wd hw 4 rfl) (wd hw 5 rfl) (wd hw 2 rfl) e0 d1_0 (by decide) ?_
  intro T1 h1 b1 X1 e1 E1 hb1 A1 D1 U1
  have g_b1 := leE O0.1 hb1
  have O1_ := extTr O0 E1
  have sz_b1 := leE (Keep.refl h0 []).1 hb1
  have K1 := Keep.ext (Keep.refl h0 []) E1
  have CR1 := CHr.trans CR0 (CHr.ext E1 CR0.1)
  have F1_cause : fl_1 Z h1 b1 .null := D1 (Or.inl (wd hw 165 rfl)) (ty := (.object "java/lang/Throwable")) pf_Ljava_lang_Throwable_
  have F1_stackTrace : Fld Z h1 b1 "java/lang/Throwable" "stackTrace" "[Ljava/lang/StackTraceElement;" .null := D1 (Or.inl (wd hw 168 rfl)) (ty := (.array (.object "java/lang/StackTraceElement"))) pf_ALjava_lang_StackTraceElement_
  have F1_suppressedExceptions : Fld Z h1 b1 "java/lang/Throwable" "suppressedExceptions" "Ljava/util/List;" .null := D1 (Or.inl (wd hw 171 rfl)) (ty := (.object "java/util/List")) pf_Ljava_util_List_
  have F1_detailMessage : fl_0 Z h1 b1 .null := D1 (Or.inl (wd hw 195 rfl)) (ty := (.object "java/lang/String")) pf_Ljava_lang_String_
  have F1_backtrace : fl_2 Z h1 b1 .null := D1 (Or.inl (wd hw 196 rfl)) (ty := (.object "java/lang/Object")) pf_Ljava_lang_Object_
  have F1_depth : Fld Z h1 b1 "java/lang/Throwable" "depth" "I" v_0 := D1 (Or.inl (wd hw 197 rfl)) (ty := .int) pf_I
  have F1_attempted : fl_3 Z h1 b1 v_0 := D1 (Or.inr (wd hw 201 rfl)) (ty := .boolean) pf_Z
  refine t_dup X1 u d1_3 rfl ?_
  refine t_new X1 u hZ hown (wd hw 6 rfl) (wd hw 7 rfl) (wd hw 8 rfl) e1 d1_4 (by decide) ?_
  intro T2 h2 b2 X2 e2 E2 hb2 A2 D2
  have g_b2 := leE O1_.1 hb2
  have O2_ := extTr O1_ E2
  have sz_b2 := leE K1.1 hb2
  have K2 := Keep.ext K1 E2
  have CR2 := CHr.trans CR1 (CHr.ext E2 CR1.1)
  have F2_value : fl_6 Z h2 b2 .null := D2 (Or.inl (wd hw 25 rfl)) (ty := (.array .byte)) pf_AB
  have F2_coder : fl_7 Z h2 b2 v_0 := D2 (Or.inl (wd hw 27 rfl)) (ty := .byte) pf_B
  have F2_count : fl_8 Z h2 b2 v_0 := D2 (Or.inl (wd hw 58 rfl)) (ty := .int) pf_I
  refine t_dup X2 u d1_7 rfl ?_
  refine t_cN [] [(.ref b2), (.ref b1), (.ref b1)] 3 X2 u hZ hown rfl (wd hw 9 rfl) (m_1 hw) e2 (rm_a2_0 l Z a0 hw [] G GG b2 (0 : Int32) (0 : Int32) h2 O2_ A2 F2_value g_b2 F2_coder F2_count) rfl d1_8 rfl rfl (by decide) ?_
  intro v3 T3 L3 Lc3 X3 hQ3 l3
  obtain ⟨b3q1q3, k3q1q3, rfl, Nq3, Kq3, p3_0, p3_1, p3_2, p3_3, p3_4, p3_5⟩ := hQ3
  have O3_ := extKeep O2_ Kq3 (allS g_b2 all0)
  have sf4 := (Safe.ext E2 CR1.1 (Safe.new (Nat.le_of_eq hb2.symm)))
  have CR3 := CHr.trans CR2 (CHr.keep Kq3 (sfS sf4 sf0) CR2.1)
  have K3 := Keep.trans K2 Kq3 (allS (Or.inr sz_b2) all0)
  have N3_ := frA l3 N0 Nq3
  have g_b3q1q3 := Nat.le_trans O2_.1 p3_3
  have sz_b3q1q3 := Nat.le_trans K2.1 p3_3
  obtain ⟨a5, T5, h5, k5, b5, kb5, X5, e5, E5, S5, kq5, hZ5, hown5, A5, C5, V5, B5, -, -, hC5, -, nS5, st5⟩ := ldcCH X3 hx hZ hown (wd hw 28 rfl) wS rfl S0 (Nat.le_trans (Nat.le_trans (Nat.le_trans kk0 E1.1) E2.1) Kq3.1) hEL (List.mem_of_getElem? (i := 0) rfl) CR3.1 (vs := [v_115, v_116, v_97, v_116, v_117, v_115, v_32]) (z := (7 : Int32)) ⟨by decide, rfl⟩ (by decide) rfl (g := (mkF m 11 #[.val (.int x0)] [(.ref b2), (.ref b1), (.ref b1)])) rfl (hb hby d1_11) (n := 28) (by decide) (by decide) (by decide) (by decide)
  have CR5 := CHr.trans CR3 hC5
  have O5_ : Ext Z.heap h5 := extTr O3_ E5
  have K5 := Keep.ext K3 E5
  refine Go.step st5 ?_
  refine t_cV [(.ref a5)] [(.ref b1), (.ref b1)] 2 X5 u hZ5 hown5 (wd hw 34 rfl) (m_9 hw) e5 (Exa.ext E5 (A2.keep Kq3)) (rm_a5_0 l Z a0 hw [] G GG b2 a5 b5 kb5 b3q1q3 k3q1q3 h5 O5_ A5 V5 B5 C5 (Fld.ext E5 p3_2) (Fld.ext E5 p3_0) (p3_5.ext E5) (Fld.ext E5 p3_1) (Exa.ext E5 (A2.keep Kq3)) g_b3q1q3 (neL A2.lt p3_3) g_b2) rfl d1_13 rfl rfl (by decide) ?_
  intro v6 T6 L6 Lc6 X6 hQ6 l6
  obtain ⟨rfl, Nq6, Kq6, p6_0, p6_1, p6_2, p6_3⟩ := hQ6
  have O6_ := extKeep O5_ Kq6 (allS g_b2 (allS g_b3q1q3 all0))
  have sf7 := (Safe.keep Kq3 (sfS sf4 sf0) CR2.1 (Safe.new p3_3))
  have sf8 := (CHr.safe hC5 p3_4.lt sf7)
  have sf9 := (Safe.keep Kq3 (sfS sf4 sf0) CR2.1 sf4)
  have sf10 := (CHr.safe hC5 (A2.keep Kq3).lt sf9)
  have CR6 := CHr.trans CR5 (CHr.keep Kq6 (sfS sf10 (sfS sf8 sf0)) CR5.1)
  have K6 := Keep.trans K5 Kq6 (allS (Or.inr sz_b2) (allS (Or.inr sz_b3q1q3) all0))
  have N6_ := frA l6 N3_ Nq6
  show Go _ _ _ _ _ _ _ _ T6 (mkF m 16 #[.val (.int x0)] [(.ref b2), (.ref b1), (.ref b1)])
  rcases own_dall x0 with hD | hD | hD | hD | hD | hD | hD | hD | hD | hD | hD | hD | hD | hD | hD | hD | hD | hD | hD | hD
  · refine t_iN X6 u d1_16 rfl ?_
    refine t_cV [(.int x0)] [(.ref b1), (.ref b1)] 2 X6 u hZ5 hown5 (wd hw 84 rfl) (m_14 hw) rfl ((Exa.ext E5 (A2.keep Kq3)).keep Kq6) (rm_a13_0 l Z a0 hw [] G GG b2 x0 b3q1q3 k3q1q3 T6.heap O6_ p6_1 hD p6_2 p6_0 p6_3 ((Exa.ext E5 (A2.keep Kq3)).keep Kq6) g_b3q1q3 (neL A2.lt p3_3) g_b2) rfl d1_17 rfl rfl (by decide) ?_
    intro v11 T11 L11 Lc11 X11 hQ11 l11
    obtain ⟨rfl, Nq11, Kq11, p11_0, p11_1, p11_2, p11_3⟩ := hQ11
    have O11_ := extKeep O6_ Kq11 (allS g_b2 (allS g_b3q1q3 all0))
    have sf12 := (Safe.keep Kq6 (sfS sf10 (sfS sf8 sf0)) CR5.1 sf8)
    have sf13 := (Safe.keep Kq6 (sfS sf10 (sfS sf8 sf0)) CR5.1 sf10)
    have CR11 := CHr.trans CR6 (CHr.keep Kq11 (sfS sf13 (sfS sf12 sf0)) CR6.1)
    have K11 := Keep.trans K6 Kq11 (allS (Or.inr sz_b2) (allS (Or.inr sz_b3q1q3) all0))
    have N11_ := frA l11 N6_ Nq11
    have f14 := (((Exa.ext E5 (A2.keep Kq3)).keep Kq6).keep Kq11)
    refine t_cV [] [(.ref b1), (.ref b1)] 2 X11 u hZ5 hown5 (wd hw 106 rfl) (m_23 hw) rfl f14 (rm_a18_0 l Z a0 hw [] G GG b2 b3q1q3 k3q1q3 (bq x0 0) T11.heap O11_ f14 p11_2 p11_1 p11_3 p11_0) rfl d1_20 rfl rfl (by decide) ?_
    intro v15 T15 L15 Lc15 X15 hQ15 l15
    obtain ⟨b1q15, b2q2q6q1q2q15, k2q2q6q1q2q15, rfl, Nq15, Kq15, p15_0, p15_1, p15_2, p15_3, p15_4, p15_5, p15_6, p15_7⟩ := hQ15
    have O15_ := extKeep O11_ Kq15 all0
    have CR15 := CHr.trans CR11 (CHr.keep Kq15 sf0 CR11.1)
    have K15 := Keep.trans K11 Kq15 all0
    have N15_ := frA l15 N11_ Nq15
    have g_b1q15 := Nat.le_trans O11_.1 p15_0
    have sz_b1q15 := Nat.le_trans K11.1 p15_0
    have g_b2q2q6q1q2q15 := Nat.le_trans O11_.1 p15_4
    have sz_b2q2q6q1q2q15 := Nat.le_trans K11.1 p15_4
    refine t_iC X15 u d1_23  ?_
    refine t_nl X15 u d1_24  ?_
    have f16 := ((Exa.ext E5 ((Exa.ext E2 A1).keep Kq3)).keep Kq6)
    have f17 := (Unt.keep Kq6 (ninS (neE A1.lt hb2) (ninS (neL (Exa.ext E2 A1).lt p3_3) nin0)) (Unt.ext E5 (Unt.keep Kq3 (ninS (neE A1.lt hb2) nin0) (Unt.ext E2 U1))))
    have f18 := (Unt.keep Kq15 nin0 (Unt.keep Kq11 (ninS (neE A1.lt hb2) (ninS (neL (Exa.ext E2 A1).lt p3_3) nin0)) f17))
    have f19 := ((Fld.ext E5 ((Fld.ext E2 F1_backtrace).keep Kq3 (ninS (neE A1.lt hb2) nin0))).keep Kq6 (ninS (neE A1.lt hb2) (ninS (neL (Exa.ext E2 A1).lt p3_3) nin0)))
    have f20 := ((f19.keep Kq11 (ninS (neE A1.lt hb2) (ninS (neL (Exa.ext E2 A1).lt p3_3) nin0))).keep Kq15 nin0)
    obtain ⟨_, _, ⟨T21, L21, k21, n21⟩, -, X21, ⟨Lc21, hQ21, l21, y21, z21⟩, st21⟩ := X15.specialBack hx (y := (⟨"com/example/layout_to_rows/layouttorows/harvest/FetchException", "<init>", "(Ljava/lang/String;ZLjava/io/IOException;)V"⟩ : MethodName)) rfl hown5 (mvT hZ5 (wd hw 149 rfl)) (mvT hZ5 (wd hw 150 rfl)) (mvT hZ5 (wd hw 151 rfl)) (by decide) (backOfKL (W := 1) (rm_fi l Z a0 hw [] G GG b1 b1q15 T15.heap O15_ hl g_b1 ((f16.keep Kq11).keep Kq15) f18 f20) hZ5 (wd hw 151 rfl) (wd hw 2 rfl) (by decide) (by decide) (Vm.MethodsKnown.alikeC S5.1.alike hTK) (Vm.FramesKnown.alikeC S5.1.alike hBl)) (g := (mkF m 25 #[.val (.int x0)] [.null, v_1, (.ref b1q15), (.ref b1), (.ref b1)])) rfl (by rw [hml]; rfl) (Steps.refl _) (a := b1) (argsL := [(.ref b1q15), v_1, .null]) (rest := [(.ref b1)]) (lenOf pd_LLjava_lang_String_ZLjava_io_IOException_RV rfl) rfl (by show 2 * 0 + _ ≤ _; exact Nat.le_of_eq rfl) (hb hby d1_25) (fun _ _ => ⟨rfl, rfl, (by decide : 7 + 1 ≤ _), (by decide : 71 + 2752 ≤ _)⟩)
    dsimp only [Pt.U, Pt.locs, Pt.cells, Pt.slots] at X21 l21 y21 z21 st21 hQ21
    subst y21 z21
    obtain ⟨rfl, Nq21, Kq21, pE21, pU21, pM21, pC21, pA21⟩ := hQ21
    have O21_ := extKeep O15_ Kq21 (allS g_b1 all0)
    have sf22 := (Safe.ext E1 CR0.1 (Safe.new (Nat.le_of_eq hb1.symm)))
    have sf23 := (Safe.ext E2 CR1.1 sf22)
    have sf24 := (Safe.keep Kq3 (sfS sf4 sf0) CR2.1 sf23)
    have sf25 := (CHr.safe hC5 ((Exa.ext E2 A1).keep Kq3).lt sf24)
    have sf26 := (Safe.keep Kq6 (sfS sf10 (sfS sf8 sf0)) CR5.1 sf25)
    have sf27 := (Safe.keep Kq11 (sfS sf13 (sfS sf12 sf0)) CR6.1 sf26)
    have sf28 := (Safe.keep Kq15 sf0 CR11.1 sf27)
    have CR21 := CHr.trans CR15 (CHr.keep Kq21 (sfS sf28 sf0) CR15.1)
    have K21 := Keep.trans K15 Kq21 (allS (Or.inr sz_b1) all0)
    have N21_ := frA l21 N15_ Nq21
    refine Go.trans st21 ?_
    have f29 := (p15_3.keep Kq21 (ninS (Ne.symm (neL (((Exa.ext E5 ((Exa.ext E2 A1).keep Kq3)).keep Kq6).keep Kq11).lt p15_0)) nin0))
    have f30 := (p15_6.keep Kq21 (ninS (Ne.symm (neL (((Exa.ext E5 ((Exa.ext E2 A1).keep Kq3)).keep Kq6).keep Kq11).lt p15_4)) nin0))
    have f31 := (p15_2.keep Kq21 (ninS (Ne.symm (neL (((Exa.ext E5 ((Exa.ext E2 A1).keep Kq3)).keep Kq6).keep Kq11).lt p15_0)) nin0))
    exact Go.retAH (endH hh rfl X21 hZ5 hEL CR21) X21 S5 (Nat.le_trans (Nat.le_trans (Nat.le_trans (Nat.le_trans kq5 Kq6.1) Kq11.1) Kq15.1) Kq21.1) hx hret rfl rfl hlk (hb hby d1_28) (by decide) (by decide) ⟨b1, b1q15, b2q2q6q1q2q15, k2q2q6q1q2q15, (8 : Int32), [v_115, v_116, v_97, v_116, v_117, v_115, v_32, (.int (bq x0 0))], rfl, N21_, K21, ⟨pE21, pU21, pA21, pC21, pM21, (p15_1.keep Kq21), f31, f29, f30⟩, ⟨1, by decide, by decide, hD.2.2, Or.inl rfl, Or.inl ⟨hD.1, rfl, rfl⟩⟩⟩
  · refine t_iN X6 u d1_16 rfl ?_
    refine t_cV [(.int x0)] [(.ref b1), (.ref b1)] 2 X6 u hZ5 hown5 (wd hw 84 rfl) (m_14 hw) rfl ((Exa.ext E5 (A2.keep Kq3)).keep Kq6) (rm_a13_1 l Z a0 hw [] G GG b2 x0 b3q1q3 k3q1q3 T6.heap O6_ p6_1 hD p6_2 p6_0 p6_3 ((Exa.ext E5 (A2.keep Kq3)).keep Kq6) g_b3q1q3 (neL A2.lt p3_3) g_b2) rfl d1_17 rfl rfl (by decide) ?_
    intro v32 T32 L32 Lc32 X32 hQ32 l32
    obtain ⟨rfl, Nq32, Kq32, p32_0, p32_1, p32_2, p32_3⟩ := hQ32
    have O32_ := extKeep O6_ Kq32 (allS g_b2 (allS g_b3q1q3 all0))
    have sf33 := (Safe.keep Kq6 (sfS sf10 (sfS sf8 sf0)) CR5.1 sf8)
    have sf34 := (Safe.keep Kq6 (sfS sf10 (sfS sf8 sf0)) CR5.1 sf10)
    have CR32 := CHr.trans CR6 (CHr.keep Kq32 (sfS sf34 (sfS sf33 sf0)) CR6.1)
    have K32 := Keep.trans K6 Kq32 (allS (Or.inr sz_b2) (allS (Or.inr sz_b3q1q3) all0))
    have N32_ := frA l32 N6_ Nq32
    have f35 := (((Exa.ext E5 (A2.keep Kq3)).keep Kq6).keep Kq32)
    refine t_cV [] [(.ref b1), (.ref b1)] 2 X32 u hZ5 hown5 (wd hw 106 rfl) (m_23 hw) rfl f35 (rm_a18_1 l Z a0 hw [] G GG b2 b3q1q3 k3q1q3 (bq x0 1) (bq x0 0) T32.heap O32_ f35 p32_2 p32_1 p32_3 p32_0) rfl d1_20 rfl rfl (by decide) ?_
    intro v36 T36 L36 Lc36 X36 hQ36 l36
    obtain ⟨b1q36, b2q2q6q1q2q36, k2q2q6q1q2q36, rfl, Nq36, Kq36, p36_0, p36_1, p36_2, p36_3, p36_4, p36_5, p36_6, p36_7⟩ := hQ36
    have O36_ := extKeep O32_ Kq36 all0
    have CR36 := CHr.trans CR32 (CHr.keep Kq36 sf0 CR32.1)
    have K36 := Keep.trans K32 Kq36 all0
    have N36_ := frA l36 N32_ Nq36
    have g_b1q36 := Nat.le_trans O32_.1 p36_0
    have sz_b1q36 := Nat.le_trans K32.1 p36_0
    have g_b2q2q6q1q2q36 := Nat.le_trans O32_.1 p36_4
    have sz_b2q2q6q1q2q36 := Nat.le_trans K32.1 p36_4
    refine t_iC X36 u d1_23  ?_
    refine t_nl X36 u d1_24  ?_
    have f37 := ((Exa.ext E5 ((Exa.ext E2 A1).keep Kq3)).keep Kq6)
    have f38 := (Unt.keep Kq6 (ninS (neE A1.lt hb2) (ninS (neL (Exa.ext E2 A1).lt p3_3) nin0)) (Unt.ext E5 (Unt.keep Kq3 (ninS (neE A1.lt hb2) nin0) (Unt.ext E2 U1))))
    have f39 := (Unt.keep Kq36 nin0 (Unt.keep Kq32 (ninS (neE A1.lt hb2) (ninS (neL (Exa.ext E2 A1).lt p3_3) nin0)) f38))
    have f40 := ((Fld.ext E5 ((Fld.ext E2 F1_backtrace).keep Kq3 (ninS (neE A1.lt hb2) nin0))).keep Kq6 (ninS (neE A1.lt hb2) (ninS (neL (Exa.ext E2 A1).lt p3_3) nin0)))
    have f41 := ((f40.keep Kq32 (ninS (neE A1.lt hb2) (ninS (neL (Exa.ext E2 A1).lt p3_3) nin0))).keep Kq36 nin0)
    obtain ⟨_, _, ⟨T42, L42, k42, n42⟩, -, X42, ⟨Lc42, hQ42, l42, y42, z42⟩, st42⟩ := X36.specialBack hx (y := (⟨"com/example/layout_to_rows/layouttorows/harvest/FetchException", "<init>", "(Ljava/lang/String;ZLjava/io/IOException;)V"⟩ : MethodName)) rfl hown5 (mvT hZ5 (wd hw 149 rfl)) (mvT hZ5 (wd hw 150 rfl)) (mvT hZ5 (wd hw 151 rfl)) (by decide) (backOfKL (W := 1) (rm_fi l Z a0 hw [] G GG b1 b1q36 T36.heap O36_ hl g_b1 ((f37.keep Kq32).keep Kq36) f39 f41) hZ5 (wd hw 151 rfl) (wd hw 2 rfl) (by decide) (by decide) (Vm.MethodsKnown.alikeC S5.1.alike hTK) (Vm.FramesKnown.alikeC S5.1.alike hBl)) (g := (mkF m 25 #[.val (.int x0)] [.null, v_1, (.ref b1q36), (.ref b1), (.ref b1)])) rfl (by rw [hml]; rfl) (Steps.refl _) (a := b1) (argsL := [(.ref b1q36), v_1, .null]) (rest := [(.ref b1)]) (lenOf pd_LLjava_lang_String_ZLjava_io_IOException_RV rfl) rfl (by show 2 * 0 + _ ≤ _; exact Nat.le_of_eq rfl) (hb hby d1_25) (fun _ _ => ⟨rfl, rfl, (by decide : 7 + 1 ≤ _), (by decide : 72 + 2752 ≤ _)⟩)
    dsimp only [Pt.U, Pt.locs, Pt.cells, Pt.slots] at X42 l42 y42 z42 st42 hQ42
    subst y42 z42
    obtain ⟨rfl, Nq42, Kq42, pE42, pU42, pM42, pC42, pA42⟩ := hQ42
    have O42_ := extKeep O36_ Kq42 (allS g_b1 all0)
    have sf43 := (Safe.ext E1 CR0.1 (Safe.new (Nat.le_of_eq hb1.symm)))
    have sf44 := (Safe.ext E2 CR1.1 sf43)
    have sf45 := (Safe.keep Kq3 (sfS sf4 sf0) CR2.1 sf44)
    have sf46 := (CHr.safe hC5 ((Exa.ext E2 A1).keep Kq3).lt sf45)
    have sf47 := (Safe.keep Kq6 (sfS sf10 (sfS sf8 sf0)) CR5.1 sf46)
    have sf48 := (Safe.keep Kq32 (sfS sf34 (sfS sf33 sf0)) CR6.1 sf47)
    have sf49 := (Safe.keep Kq36 sf0 CR32.1 sf48)
    have CR42 := CHr.trans CR36 (CHr.keep Kq42 (sfS sf49 sf0) CR36.1)
    have K42 := Keep.trans K36 Kq42 (allS (Or.inr sz_b1) all0)
    have N42_ := frA l42 N36_ Nq42
    refine Go.trans st42 ?_
    have f50 := (p36_3.keep Kq42 (ninS (Ne.symm (neL (((Exa.ext E5 ((Exa.ext E2 A1).keep Kq3)).keep Kq6).keep Kq32).lt p36_0)) nin0))
    have f51 := (p36_6.keep Kq42 (ninS (Ne.symm (neL (((Exa.ext E5 ((Exa.ext E2 A1).keep Kq3)).keep Kq6).keep Kq32).lt p36_4)) nin0))
    have f52 := (p36_2.keep Kq42 (ninS (Ne.symm (neL (((Exa.ext E5 ((Exa.ext E2 A1).keep Kq3)).keep Kq6).keep Kq32).lt p36_0)) nin0))
    exact Go.retAH (endH hh rfl X42 hZ5 hEL CR42) X42 S5 (Nat.le_trans (Nat.le_trans (Nat.le_trans (Nat.le_trans kq5 Kq6.1) Kq32.1) Kq36.1) Kq42.1) hx hret rfl rfl hlk (hb hby d1_28) (by decide) (by decide) ⟨b1, b1q36, b2q2q6q1q2q36, k2q2q6q1q2q36, (9 : Int32), [v_115, v_116, v_97, v_116, v_117, v_115, v_32, (.int (bq x0 1)), (.int (bq x0 0))], rfl, N42_, K42, ⟨pE42, pU42, pA42, pC42, pM42, (p36_1.keep Kq42), f52, f50, f51⟩, ⟨2, by decide, by decide, hD.2.2, Or.inr hD.2.1, Or.inl ⟨hD.1, rfl, rfl⟩⟩⟩
  · refine t_iN X6 u d1_16 rfl ?_
    refine t_cV [(.int x0)] [(.ref b1), (.ref b1)] 2 X6 u hZ5 hown5 (wd hw 84 rfl) (m_14 hw) rfl ((Exa.ext E5 (A2.keep Kq3)).keep Kq6) (rm_a13_2 l Z a0 hw [] G GG b2 x0 b3q1q3 k3q1q3 T6.heap O6_ p6_1 hD p6_2 p6_0 p6_3 ((Exa.ext E5 (A2.keep Kq3)).keep Kq6) g_b3q1q3 (neL A2.lt p3_3) g_b2) rfl d1_17 rfl rfl (by decide) ?_
    intro v53 T53 L53 Lc53 X53 hQ53 l53
    obtain ⟨rfl, Nq53, Kq53, p53_0, p53_1, p53_2, p53_3⟩ := hQ53
    have O53_ := extKeep O6_ Kq53 (allS g_b2 (allS g_b3q1q3 all0))
    have sf54 := (Safe.keep Kq6 (sfS sf10 (sfS sf8 sf0)) CR5.1 sf8)
    have sf55 := (Safe.keep Kq6 (sfS sf10 (sfS sf8 sf0)) CR5.1 sf10)
    have CR53 := CHr.trans CR6 (CHr.keep Kq53 (sfS sf55 (sfS sf54 sf0)) CR6.1)
    have K53 := Keep.trans K6 Kq53 (allS (Or.inr sz_b2) (allS (Or.inr sz_b3q1q3) all0))
    have N53_ := frA l53 N6_ Nq53
    have f56 := (((Exa.ext E5 (A2.keep Kq3)).keep Kq6).keep Kq53)
    refine t_cV [] [(.ref b1), (.ref b1)] 2 X53 u hZ5 hown5 (wd hw 106 rfl) (m_23 hw) rfl f56 (rm_a18_2 l Z a0 hw [] G GG b2 b3q1q3 k3q1q3 (bq x0 2) (bq x0 1) (bq x0 0) T53.heap O53_ f56 p53_2 p53_1 p53_3 p53_0) rfl d1_20 rfl rfl (by decide) ?_
    intro v57 T57 L57 Lc57 X57 hQ57 l57
    obtain ⟨b1q57, b2q2q6q1q2q57, k2q2q6q1q2q57, rfl, Nq57, Kq57, p57_0, p57_1, p57_2, p57_3, p57_4, p57_5, p57_6, p57_7⟩ := hQ57
    have O57_ := extKeep O53_ Kq57 all0
    have CR57 := CHr.trans CR53 (CHr.keep Kq57 sf0 CR53.1)
    have K57 := Keep.trans K53 Kq57 all0
    have N57_ := frA l57 N53_ Nq57
    have g_b1q57 := Nat.le_trans O53_.1 p57_0
    have sz_b1q57 := Nat.le_trans K53.1 p57_0
    have g_b2q2q6q1q2q57 := Nat.le_trans O53_.1 p57_4
    have sz_b2q2q6q1q2q57 := Nat.le_trans K53.1 p57_4
    refine t_iC X57 u d1_23  ?_
    refine t_nl X57 u d1_24  ?_
    have f58 := ((Exa.ext E5 ((Exa.ext E2 A1).keep Kq3)).keep Kq6)
    have f59 := (Unt.keep Kq6 (ninS (neE A1.lt hb2) (ninS (neL (Exa.ext E2 A1).lt p3_3) nin0)) (Unt.ext E5 (Unt.keep Kq3 (ninS (neE A1.lt hb2) nin0) (Unt.ext E2 U1))))
    have f60 := (Unt.keep Kq57 nin0 (Unt.keep Kq53 (ninS (neE A1.lt hb2) (ninS (neL (Exa.ext E2 A1).lt p3_3) nin0)) f59))
    have f61 := ((Fld.ext E5 ((Fld.ext E2 F1_backtrace).keep Kq3 (ninS (neE A1.lt hb2) nin0))).keep Kq6 (ninS (neE A1.lt hb2) (ninS (neL (Exa.ext E2 A1).lt p3_3) nin0)))
    have f62 := ((f61.keep Kq53 (ninS (neE A1.lt hb2) (ninS (neL (Exa.ext E2 A1).lt p3_3) nin0))).keep Kq57 nin0)
    obtain ⟨_, _, ⟨T63, L63, k63, n63⟩, -, X63, ⟨Lc63, hQ63, l63, y63, z63⟩, st63⟩ := X57.specialBack hx (y := (⟨"com/example/layout_to_rows/layouttorows/harvest/FetchException", "<init>", "(Ljava/lang/String;ZLjava/io/IOException;)V"⟩ : MethodName)) rfl hown5 (mvT hZ5 (wd hw 149 rfl)) (mvT hZ5 (wd hw 150 rfl)) (mvT hZ5 (wd hw 151 rfl)) (by decide) (backOfKL (W := 1) (rm_fi l Z a0 hw [] G GG b1 b1q57 T57.heap O57_ hl g_b1 ((f58.keep Kq53).keep Kq57) f60 f62) hZ5 (wd hw 151 rfl) (wd hw 2 rfl) (by decide) (by decide) (Vm.MethodsKnown.alikeC S5.1.alike hTK) (Vm.FramesKnown.alikeC S5.1.alike hBl)) (g := (mkF m 25 #[.val (.int x0)] [.null, v_1, (.ref b1q57), (.ref b1), (.ref b1)])) rfl (by rw [hml]; rfl) (Steps.refl _) (a := b1) (argsL := [(.ref b1q57), v_1, .null]) (rest := [(.ref b1)]) (lenOf pd_LLjava_lang_String_ZLjava_io_IOException_RV rfl) rfl (by show 2 * 0 + _ ≤ _; exact Nat.le_of_eq rfl) (hb hby d1_25) (fun _ _ => ⟨rfl, rfl, (by decide : 7 + 1 ≤ _), (by decide : 73 + 2752 ≤ _)⟩)
    dsimp only [Pt.U, Pt.locs, Pt.cells, Pt.slots] at X63 l63 y63 z63 st63 hQ63
    subst y63 z63
    obtain ⟨rfl, Nq63, Kq63, pE63, pU63, pM63, pC63, pA63⟩ := hQ63
    have O63_ := extKeep O57_ Kq63 (allS g_b1 all0)
    have sf64 := (Safe.ext E1 CR0.1 (Safe.new (Nat.le_of_eq hb1.symm)))
    have sf65 := (Safe.ext E2 CR1.1 sf64)
    have sf66 := (Safe.keep Kq3 (sfS sf4 sf0) CR2.1 sf65)
    have sf67 := (CHr.safe hC5 ((Exa.ext E2 A1).keep Kq3).lt sf66)
    have sf68 := (Safe.keep Kq6 (sfS sf10 (sfS sf8 sf0)) CR5.1 sf67)
    have sf69 := (Safe.keep Kq53 (sfS sf55 (sfS sf54 sf0)) CR6.1 sf68)
    have sf70 := (Safe.keep Kq57 sf0 CR53.1 sf69)
    have CR63 := CHr.trans CR57 (CHr.keep Kq63 (sfS sf70 sf0) CR57.1)
    have K63 := Keep.trans K57 Kq63 (allS (Or.inr sz_b1) all0)
    have N63_ := frA l63 N57_ Nq63
    refine Go.trans st63 ?_
    have f71 := (p57_3.keep Kq63 (ninS (Ne.symm (neL (((Exa.ext E5 ((Exa.ext E2 A1).keep Kq3)).keep Kq6).keep Kq53).lt p57_0)) nin0))
    have f72 := (p57_6.keep Kq63 (ninS (Ne.symm (neL (((Exa.ext E5 ((Exa.ext E2 A1).keep Kq3)).keep Kq6).keep Kq53).lt p57_4)) nin0))
    have f73 := (p57_2.keep Kq63 (ninS (Ne.symm (neL (((Exa.ext E5 ((Exa.ext E2 A1).keep Kq3)).keep Kq6).keep Kq53).lt p57_0)) nin0))
    exact Go.retAH (endH hh rfl X63 hZ5 hEL CR63) X63 S5 (Nat.le_trans (Nat.le_trans (Nat.le_trans (Nat.le_trans kq5 Kq6.1) Kq53.1) Kq57.1) Kq63.1) hx hret rfl rfl hlk (hb hby d1_28) (by decide) (by decide) ⟨b1, b1q57, b2q2q6q1q2q57, k2q2q6q1q2q57, (10 : Int32), [v_115, v_116, v_97, v_116, v_117, v_115, v_32, (.int (bq x0 2)), (.int (bq x0 1)), (.int (bq x0 0))], rfl, N63_, K63, ⟨pE63, pU63, pA63, pC63, pM63, (p57_1.keep Kq63), f73, f71, f72⟩, ⟨3, by decide, by decide, hD.2.2, Or.inr hD.2.1, Or.inl ⟨hD.1, rfl, rfl⟩⟩⟩
  · refine t_iN X6 u d1_16 rfl ?_
    refine t_cV [(.int x0)] [(.ref b1), (.ref b1)] 2 X6 u hZ5 hown5 (wd hw 84 rfl) (m_14 hw) rfl ((Exa.ext E5 (A2.keep Kq3)).keep Kq6) (rm_a13_3 l Z a0 hw [] G GG b2 x0 b3q1q3 k3q1q3 T6.heap O6_ p6_1 hD p6_2 p6_0 p6_3 ((Exa.ext E5 (A2.keep Kq3)).keep Kq6) g_b3q1q3 (neL A2.lt p3_3) g_b2) rfl d1_17 rfl rfl (by decide) ?_
    intro v74 T74 L74 Lc74 X74 hQ74 l74
    obtain ⟨rfl, Nq74, Kq74, p74_0, p74_1, p74_2, p74_3⟩ := hQ74
    have O74_ := extKeep O6_ Kq74 (allS g_b2 (allS g_b3q1q3 all0))
    have sf75 := (Safe.keep Kq6 (sfS sf10 (sfS sf8 sf0)) CR5.1 sf8)
    have sf76 := (Safe.keep Kq6 (sfS sf10 (sfS sf8 sf0)) CR5.1 sf10)
    have CR74 := CHr.trans CR6 (CHr.keep Kq74 (sfS sf76 (sfS sf75 sf0)) CR6.1)
    have K74 := Keep.trans K6 Kq74 (allS (Or.inr sz_b2) (allS (Or.inr sz_b3q1q3) all0))
    have N74_ := frA l74 N6_ Nq74
    have f77 := (((Exa.ext E5 (A2.keep Kq3)).keep Kq6).keep Kq74)
    refine t_cV [] [(.ref b1), (.ref b1)] 2 X74 u hZ5 hown5 (wd hw 106 rfl) (m_23 hw) rfl f77 (rm_a18_3 l Z a0 hw [] G GG b2 b3q1q3 k3q1q3 (bq x0 3) (bq x0 2) (bq x0 1) (bq x0 0) T74.heap O74_ f77 p74_2 p74_1 p74_3 p74_0) rfl d1_20 rfl rfl (by decide) ?_
    intro v78 T78 L78 Lc78 X78 hQ78 l78
    obtain ⟨b1q78, b2q2q6q1q2q78, k2q2q6q1q2q78, rfl, Nq78, Kq78, p78_0, p78_1, p78_2, p78_3, p78_4, p78_5, p78_6, p78_7⟩ := hQ78
    have O78_ := extKeep O74_ Kq78 all0
    have CR78 := CHr.trans CR74 (CHr.keep Kq78 sf0 CR74.1)
    have K78 := Keep.trans K74 Kq78 all0
    have N78_ := frA l78 N74_ Nq78
    have g_b1q78 := Nat.le_trans O74_.1 p78_0
    have sz_b1q78 := Nat.le_trans K74.1 p78_0
    have g_b2q2q6q1q2q78 := Nat.le_trans O74_.1 p78_4
    have sz_b2q2q6q1q2q78 := Nat.le_trans K74.1 p78_4
    refine t_iC X78 u d1_23  ?_
    refine t_nl X78 u d1_24  ?_
    have f79 := ((Exa.ext E5 ((Exa.ext E2 A1).keep Kq3)).keep Kq6)
    have f80 := (Unt.keep Kq6 (ninS (neE A1.lt hb2) (ninS (neL (Exa.ext E2 A1).lt p3_3) nin0)) (Unt.ext E5 (Unt.keep Kq3 (ninS (neE A1.lt hb2) nin0) (Unt.ext E2 U1))))
    have f81 := (Unt.keep Kq78 nin0 (Unt.keep Kq74 (ninS (neE A1.lt hb2) (ninS (neL (Exa.ext E2 A1).lt p3_3) nin0)) f80))
    have f82 := ((Fld.ext E5 ((Fld.ext E2 F1_backtrace).keep Kq3 (ninS (neE A1.lt hb2) nin0))).keep Kq6 (ninS (neE A1.lt hb2) (ninS (neL (Exa.ext E2 A1).lt p3_3) nin0)))
    have f83 := ((f82.keep Kq74 (ninS (neE A1.lt hb2) (ninS (neL (Exa.ext E2 A1).lt p3_3) nin0))).keep Kq78 nin0)
    obtain ⟨_, _, ⟨T84, L84, k84, n84⟩, -, X84, ⟨Lc84, hQ84, l84, y84, z84⟩, st84⟩ := X78.specialBack hx (y := (⟨"com/example/layout_to_rows/layouttorows/harvest/FetchException", "<init>", "(Ljava/lang/String;ZLjava/io/IOException;)V"⟩ : MethodName)) rfl hown5 (mvT hZ5 (wd hw 149 rfl)) (mvT hZ5 (wd hw 150 rfl)) (mvT hZ5 (wd hw 151 rfl)) (by decide) (backOfKL (W := 1) (rm_fi l Z a0 hw [] G GG b1 b1q78 T78.heap O78_ hl g_b1 ((f79.keep Kq74).keep Kq78) f81 f83) hZ5 (wd hw 151 rfl) (wd hw 2 rfl) (by decide) (by decide) (Vm.MethodsKnown.alikeC S5.1.alike hTK) (Vm.FramesKnown.alikeC S5.1.alike hBl)) (g := (mkF m 25 #[.val (.int x0)] [.null, v_1, (.ref b1q78), (.ref b1), (.ref b1)])) rfl (by rw [hml]; rfl) (Steps.refl _) (a := b1) (argsL := [(.ref b1q78), v_1, .null]) (rest := [(.ref b1)]) (lenOf pd_LLjava_lang_String_ZLjava_io_IOException_RV rfl) rfl (by show 2 * 0 + _ ≤ _; exact Nat.le_of_eq rfl) (hb hby d1_25) (fun _ _ => ⟨rfl, rfl, (by decide : 7 + 1 ≤ _), (by decide : 74 + 2752 ≤ _)⟩)
    dsimp only [Pt.U, Pt.locs, Pt.cells, Pt.slots] at X84 l84 y84 z84 st84 hQ84
    subst y84 z84
    obtain ⟨rfl, Nq84, Kq84, pE84, pU84, pM84, pC84, pA84⟩ := hQ84
    have O84_ := extKeep O78_ Kq84 (allS g_b1 all0)
    have sf85 := (Safe.ext E1 CR0.1 (Safe.new (Nat.le_of_eq hb1.symm)))
    have sf86 := (Safe.ext E2 CR1.1 sf85)
    have sf87 := (Safe.keep Kq3 (sfS sf4 sf0) CR2.1 sf86)
    have sf88 := (CHr.safe hC5 ((Exa.ext E2 A1).keep Kq3).lt sf87)
    have sf89 := (Safe.keep Kq6 (sfS sf10 (sfS sf8 sf0)) CR5.1 sf88)
    have sf90 := (Safe.keep Kq74 (sfS sf76 (sfS sf75 sf0)) CR6.1 sf89)
    have sf91 := (Safe.keep Kq78 sf0 CR74.1 sf90)
    have CR84 := CHr.trans CR78 (CHr.keep Kq84 (sfS sf91 sf0) CR78.1)
    have K84 := Keep.trans K78 Kq84 (allS (Or.inr sz_b1) all0)
    have N84_ := frA l84 N78_ Nq84
    refine Go.trans st84 ?_
    have f92 := (p78_3.keep Kq84 (ninS (Ne.symm (neL (((Exa.ext E5 ((Exa.ext E2 A1).keep Kq3)).keep Kq6).keep Kq74).lt p78_0)) nin0))
    have f93 := (p78_6.keep Kq84 (ninS (Ne.symm (neL (((Exa.ext E5 ((Exa.ext E2 A1).keep Kq3)).keep Kq6).keep Kq74).lt p78_4)) nin0))
    have f94 := (p78_2.keep Kq84 (ninS (Ne.symm (neL (((Exa.ext E5 ((Exa.ext E2 A1).keep Kq3)).keep Kq6).keep Kq74).lt p78_0)) nin0))
    exact Go.retAH (endH hh rfl X84 hZ5 hEL CR84) X84 S5 (Nat.le_trans (Nat.le_trans (Nat.le_trans (Nat.le_trans kq5 Kq6.1) Kq74.1) Kq78.1) Kq84.1) hx hret rfl rfl hlk (hb hby d1_28) (by decide) (by decide) ⟨b1, b1q78, b2q2q6q1q2q78, k2q2q6q1q2q78, (11 : Int32), [v_115, v_116, v_97, v_116, v_117, v_115, v_32, (.int (bq x0 3)), (.int (bq x0 2)), (.int (bq x0 1)), (.int (bq x0 0))], rfl, N84_, K84, ⟨pE84, pU84, pA84, pC84, pM84, (p78_1.keep Kq84), f94, f92, f93⟩, ⟨4, by decide, by decide, hD.2.2, Or.inr hD.2.1, Or.inl ⟨hD.1, rfl, rfl⟩⟩⟩
  · refine t_iN X6 u d1_16 rfl ?_
    refine t_cV [(.int x0)] [(.ref b1), (.ref b1)] 2 X6 u hZ5 hown5 (wd hw 84 rfl) (m_14 hw) rfl ((Exa.ext E5 (A2.keep Kq3)).keep Kq6) (rm_a13_4 l Z a0 hw [] G GG b2 x0 b3q1q3 k3q1q3 T6.heap O6_ p6_1 hD p6_2 p6_0 p6_3 ((Exa.ext E5 (A2.keep Kq3)).keep Kq6) g_b3q1q3 (neL A2.lt p3_3) g_b2) rfl d1_17 rfl rfl (by decide) ?_
    intro v95 T95 L95 Lc95 X95 hQ95 l95
    obtain ⟨rfl, Nq95, Kq95, p95_0, p95_1, p95_2, p95_3⟩ := hQ95
    have O95_ := extKeep O6_ Kq95 (allS g_b2 (allS g_b3q1q3 all0))
    have sf96 := (Safe.keep Kq6 (sfS sf10 (sfS sf8 sf0)) CR5.1 sf8)
    have sf97 := (Safe.keep Kq6 (sfS sf10 (sfS sf8 sf0)) CR5.1 sf10)
    have CR95 := CHr.trans CR6 (CHr.keep Kq95 (sfS sf97 (sfS sf96 sf0)) CR6.1)
    have K95 := Keep.trans K6 Kq95 (allS (Or.inr sz_b2) (allS (Or.inr sz_b3q1q3) all0))
    have N95_ := frA l95 N6_ Nq95
    have f98 := (((Exa.ext E5 (A2.keep Kq3)).keep Kq6).keep Kq95)
    refine t_cV [] [(.ref b1), (.ref b1)] 2 X95 u hZ5 hown5 (wd hw 106 rfl) (m_23 hw) rfl f98 (rm_a18_4 l Z a0 hw [] G GG b2 b3q1q3 k3q1q3 (bq x0 4) (bq x0 3) (bq x0 2) (bq x0 1) (bq x0 0) T95.heap O95_ f98 p95_2 p95_1 p95_3 p95_0) rfl d1_20 rfl rfl (by decide) ?_
    intro v99 T99 L99 Lc99 X99 hQ99 l99
    obtain ⟨b1q99, b2q2q6q1q2q99, k2q2q6q1q2q99, rfl, Nq99, Kq99, p99_0, p99_1, p99_2, p99_3, p99_4, p99_5, p99_6, p99_7⟩ := hQ99
    have O99_ := extKeep O95_ Kq99 all0
    have CR99 := CHr.trans CR95 (CHr.keep Kq99 sf0 CR95.1)
    have K99 := Keep.trans K95 Kq99 all0
    have N99_ := frA l99 N95_ Nq99
    have g_b1q99 := Nat.le_trans O95_.1 p99_0
    have sz_b1q99 := Nat.le_trans K95.1 p99_0
    have g_b2q2q6q1q2q99 := Nat.le_trans O95_.1 p99_4
    have sz_b2q2q6q1q2q99 := Nat.le_trans K95.1 p99_4
    refine t_iC X99 u d1_23  ?_
    refine t_nl X99 u d1_24  ?_
    have f100 := ((Exa.ext E5 ((Exa.ext E2 A1).keep Kq3)).keep Kq6)
    have f101 := (Unt.keep Kq6 (ninS (neE A1.lt hb2) (ninS (neL (Exa.ext E2 A1).lt p3_3) nin0)) (Unt.ext E5 (Unt.keep Kq3 (ninS (neE A1.lt hb2) nin0) (Unt.ext E2 U1))))
    have f102 := (Unt.keep Kq99 nin0 (Unt.keep Kq95 (ninS (neE A1.lt hb2) (ninS (neL (Exa.ext E2 A1).lt p3_3) nin0)) f101))
    have f103 := ((Fld.ext E5 ((Fld.ext E2 F1_backtrace).keep Kq3 (ninS (neE A1.lt hb2) nin0))).keep Kq6 (ninS (neE A1.lt hb2) (ninS (neL (Exa.ext E2 A1).lt p3_3) nin0)))
    have f104 := ((f103.keep Kq95 (ninS (neE A1.lt hb2) (ninS (neL (Exa.ext E2 A1).lt p3_3) nin0))).keep Kq99 nin0)
    obtain ⟨_, _, ⟨T105, L105, k105, n105⟩, -, X105, ⟨Lc105, hQ105, l105, y105, z105⟩, st105⟩ := X99.specialBack hx (y := (⟨"com/example/layout_to_rows/layouttorows/harvest/FetchException", "<init>", "(Ljava/lang/String;ZLjava/io/IOException;)V"⟩ : MethodName)) rfl hown5 (mvT hZ5 (wd hw 149 rfl)) (mvT hZ5 (wd hw 150 rfl)) (mvT hZ5 (wd hw 151 rfl)) (by decide) (backOfKL (W := 1) (rm_fi l Z a0 hw [] G GG b1 b1q99 T99.heap O99_ hl g_b1 ((f100.keep Kq95).keep Kq99) f102 f104) hZ5 (wd hw 151 rfl) (wd hw 2 rfl) (by decide) (by decide) (Vm.MethodsKnown.alikeC S5.1.alike hTK) (Vm.FramesKnown.alikeC S5.1.alike hBl)) (g := (mkF m 25 #[.val (.int x0)] [.null, v_1, (.ref b1q99), (.ref b1), (.ref b1)])) rfl (by rw [hml]; rfl) (Steps.refl _) (a := b1) (argsL := [(.ref b1q99), v_1, .null]) (rest := [(.ref b1)]) (lenOf pd_LLjava_lang_String_ZLjava_io_IOException_RV rfl) rfl (by show 2 * 0 + _ ≤ _; exact Nat.le_of_eq rfl) (hb hby d1_25) (fun _ _ => ⟨rfl, rfl, (by decide : 7 + 1 ≤ _), (by decide : 75 + 2752 ≤ _)⟩)
    dsimp only [Pt.U, Pt.locs, Pt.cells, Pt.slots] at X105 l105 y105 z105 st105 hQ105
    subst y105 z105
    obtain ⟨rfl, Nq105, Kq105, pE105, pU105, pM105, pC105, pA105⟩ := hQ105
    have O105_ := extKeep O99_ Kq105 (allS g_b1 all0)
    have sf106 := (Safe.ext E1 CR0.1 (Safe.new (Nat.le_of_eq hb1.symm)))
    have sf107 := (Safe.ext E2 CR1.1 sf106)
    have sf108 := (Safe.keep Kq3 (sfS sf4 sf0) CR2.1 sf107)
    have sf109 := (CHr.safe hC5 ((Exa.ext E2 A1).keep Kq3).lt sf108)
    have sf110 := (Safe.keep Kq6 (sfS sf10 (sfS sf8 sf0)) CR5.1 sf109)
    have sf111 := (Safe.keep Kq95 (sfS sf97 (sfS sf96 sf0)) CR6.1 sf110)
    have sf112 := (Safe.keep Kq99 sf0 CR95.1 sf111)
    have CR105 := CHr.trans CR99 (CHr.keep Kq105 (sfS sf112 sf0) CR99.1)
    have K105 := Keep.trans K99 Kq105 (allS (Or.inr sz_b1) all0)
    have N105_ := frA l105 N99_ Nq105
    refine Go.trans st105 ?_
    have f113 := (p99_3.keep Kq105 (ninS (Ne.symm (neL (((Exa.ext E5 ((Exa.ext E2 A1).keep Kq3)).keep Kq6).keep Kq95).lt p99_0)) nin0))
    have f114 := (p99_6.keep Kq105 (ninS (Ne.symm (neL (((Exa.ext E5 ((Exa.ext E2 A1).keep Kq3)).keep Kq6).keep Kq95).lt p99_4)) nin0))
    have f115 := (p99_2.keep Kq105 (ninS (Ne.symm (neL (((Exa.ext E5 ((Exa.ext E2 A1).keep Kq3)).keep Kq6).keep Kq95).lt p99_0)) nin0))
    exact Go.retAH (endH hh rfl X105 hZ5 hEL CR105) X105 S5 (Nat.le_trans (Nat.le_trans (Nat.le_trans (Nat.le_trans kq5 Kq6.1) Kq95.1) Kq99.1) Kq105.1) hx hret rfl rfl hlk (hb hby d1_28) (by decide) (by decide) ⟨b1, b1q99, b2q2q6q1q2q99, k2q2q6q1q2q99, (12 : Int32), [v_115, v_116, v_97, v_116, v_117, v_115, v_32, (.int (bq x0 4)), (.int (bq x0 3)), (.int (bq x0 2)), (.int (bq x0 1)), (.int (bq x0 0))], rfl, N105_, K105, ⟨pE105, pU105, pA105, pC105, pM105, (p99_1.keep Kq105), f115, f113, f114⟩, ⟨5, by decide, by decide, hD.2.2, Or.inr hD.2.1, Or.inl ⟨hD.1, rfl, rfl⟩⟩⟩
  · refine t_iN X6 u d1_16 rfl ?_
    refine t_cV [(.int x0)] [(.ref b1), (.ref b1)] 2 X6 u hZ5 hown5 (wd hw 84 rfl) (m_14 hw) rfl ((Exa.ext E5 (A2.keep Kq3)).keep Kq6) (rm_a13_5 l Z a0 hw [] G GG b2 x0 b3q1q3 k3q1q3 T6.heap O6_ p6_1 hD p6_2 p6_0 p6_3 ((Exa.ext E5 (A2.keep Kq3)).keep Kq6) g_b3q1q3 (neL A2.lt p3_3) g_b2) rfl d1_17 rfl rfl (by decide) ?_
    intro v116 T116 L116 Lc116 X116 hQ116 l116
    obtain ⟨rfl, Nq116, Kq116, p116_0, p116_1, p116_2, p116_3⟩ := hQ116
    have O116_ := extKeep O6_ Kq116 (allS g_b2 (allS g_b3q1q3 all0))
    have sf117 := (Safe.keep Kq6 (sfS sf10 (sfS sf8 sf0)) CR5.1 sf8)
    have sf118 := (Safe.keep Kq6 (sfS sf10 (sfS sf8 sf0)) CR5.1 sf10)
    have CR116 := CHr.trans CR6 (CHr.keep Kq116 (sfS sf118 (sfS sf117 sf0)) CR6.1)
    have K116 := Keep.trans K6 Kq116 (allS (Or.inr sz_b2) (allS (Or.inr sz_b3q1q3) all0))
    have N116_ := frA l116 N6_ Nq116
    have f119 := (((Exa.ext E5 (A2.keep Kq3)).keep Kq6).keep Kq116)
    refine t_cV [] [(.ref b1), (.ref b1)] 2 X116 u hZ5 hown5 (wd hw 106 rfl) (m_23 hw) rfl f119 (rm_a18_5 l Z a0 hw [] G GG b2 b3q1q3 k3q1q3 (bq x0 5) (bq x0 4) (bq x0 3) (bq x0 2) (bq x0 1) (bq x0 0) T116.heap O116_ f119 p116_2 p116_1 p116_3 p116_0) rfl d1_20 rfl rfl (by decide) ?_
    intro v120 T120 L120 Lc120 X120 hQ120 l120
    obtain ⟨b1q120, b2q2q6q1q2q120, k2q2q6q1q2q120, rfl, Nq120, Kq120, p120_0, p120_1, p120_2, p120_3, p120_4, p120_5, p120_6, p120_7⟩ := hQ120
    have O120_ := extKeep O116_ Kq120 all0
    have CR120 := CHr.trans CR116 (CHr.keep Kq120 sf0 CR116.1)
    have K120 := Keep.trans K116 Kq120 all0
    have N120_ := frA l120 N116_ Nq120
    have g_b1q120 := Nat.le_trans O116_.1 p120_0
    have sz_b1q120 := Nat.le_trans K116.1 p120_0
    have g_b2q2q6q1q2q120 := Nat.le_trans O116_.1 p120_4
    have sz_b2q2q6q1q2q120 := Nat.le_trans K116.1 p120_4
    refine t_iC X120 u d1_23  ?_
    refine t_nl X120 u d1_24  ?_
    have f121 := ((Exa.ext E5 ((Exa.ext E2 A1).keep Kq3)).keep Kq6)
    have f122 := (Unt.keep Kq6 (ninS (neE A1.lt hb2) (ninS (neL (Exa.ext E2 A1).lt p3_3) nin0)) (Unt.ext E5 (Unt.keep Kq3 (ninS (neE A1.lt hb2) nin0) (Unt.ext E2 U1))))
    have f123 := (Unt.keep Kq120 nin0 (Unt.keep Kq116 (ninS (neE A1.lt hb2) (ninS (neL (Exa.ext E2 A1).lt p3_3) nin0)) f122))
    have f124 := ((Fld.ext E5 ((Fld.ext E2 F1_backtrace).keep Kq3 (ninS (neE A1.lt hb2) nin0))).keep Kq6 (ninS (neE A1.lt hb2) (ninS (neL (Exa.ext E2 A1).lt p3_3) nin0)))
    have f125 := ((f124.keep Kq116 (ninS (neE A1.lt hb2) (ninS (neL (Exa.ext E2 A1).lt p3_3) nin0))).keep Kq120 nin0)
    obtain ⟨_, _, ⟨T126, L126, k126, n126⟩, -, X126, ⟨Lc126, hQ126, l126, y126, z126⟩, st126⟩ := X120.specialBack hx (y := (⟨"com/example/layout_to_rows/layouttorows/harvest/FetchException", "<init>", "(Ljava/lang/String;ZLjava/io/IOException;)V"⟩ : MethodName)) rfl hown5 (mvT hZ5 (wd hw 149 rfl)) (mvT hZ5 (wd hw 150 rfl)) (mvT hZ5 (wd hw 151 rfl)) (by decide) (backOfKL (W := 1) (rm_fi l Z a0 hw [] G GG b1 b1q120 T120.heap O120_ hl g_b1 ((f121.keep Kq116).keep Kq120) f123 f125) hZ5 (wd hw 151 rfl) (wd hw 2 rfl) (by decide) (by decide) (Vm.MethodsKnown.alikeC S5.1.alike hTK) (Vm.FramesKnown.alikeC S5.1.alike hBl)) (g := (mkF m 25 #[.val (.int x0)] [.null, v_1, (.ref b1q120), (.ref b1), (.ref b1)])) rfl (by rw [hml]; rfl) (Steps.refl _) (a := b1) (argsL := [(.ref b1q120), v_1, .null]) (rest := [(.ref b1)]) (lenOf pd_LLjava_lang_String_ZLjava_io_IOException_RV rfl) rfl (by show 2 * 0 + _ ≤ _; exact Nat.le_of_eq rfl) (hb hby d1_25) (fun _ _ => ⟨rfl, rfl, (by decide : 7 + 1 ≤ _), (by decide : 76 + 2752 ≤ _)⟩)
    dsimp only [Pt.U, Pt.locs, Pt.cells, Pt.slots] at X126 l126 y126 z126 st126 hQ126
    subst y126 z126
    obtain ⟨rfl, Nq126, Kq126, pE126, pU126, pM126, pC126, pA126⟩ := hQ126
    have O126_ := extKeep O120_ Kq126 (allS g_b1 all0)
    have sf127 := (Safe.ext E1 CR0.1 (Safe.new (Nat.le_of_eq hb1.symm)))
    have sf128 := (Safe.ext E2 CR1.1 sf127)
    have sf129 := (Safe.keep Kq3 (sfS sf4 sf0) CR2.1 sf128)
    have sf130 := (CHr.safe hC5 ((Exa.ext E2 A1).keep Kq3).lt sf129)
    have sf131 := (Safe.keep Kq6 (sfS sf10 (sfS sf8 sf0)) CR5.1 sf130)
    have sf132 := (Safe.keep Kq116 (sfS sf118 (sfS sf117 sf0)) CR6.1 sf131)
    have sf133 := (Safe.keep Kq120 sf0 CR116.1 sf132)
    have CR126 := CHr.trans CR120 (CHr.keep Kq126 (sfS sf133 sf0) CR120.1)
    have K126 := Keep.trans K120 Kq126 (allS (Or.inr sz_b1) all0)
    have N126_ := frA l126 N120_ Nq126
    refine Go.trans st126 ?_
    have f134 := (p120_3.keep Kq126 (ninS (Ne.symm (neL (((Exa.ext E5 ((Exa.ext E2 A1).keep Kq3)).keep Kq6).keep Kq116).lt p120_0)) nin0))
    have f135 := (p120_6.keep Kq126 (ninS (Ne.symm (neL (((Exa.ext E5 ((Exa.ext E2 A1).keep Kq3)).keep Kq6).keep Kq116).lt p120_4)) nin0))
    have f136 := (p120_2.keep Kq126 (ninS (Ne.symm (neL (((Exa.ext E5 ((Exa.ext E2 A1).keep Kq3)).keep Kq6).keep Kq116).lt p120_0)) nin0))
    exact Go.retAH (endH hh rfl X126 hZ5 hEL CR126) X126 S5 (Nat.le_trans (Nat.le_trans (Nat.le_trans (Nat.le_trans kq5 Kq6.1) Kq116.1) Kq120.1) Kq126.1) hx hret rfl rfl hlk (hb hby d1_28) (by decide) (by decide) ⟨b1, b1q120, b2q2q6q1q2q120, k2q2q6q1q2q120, (13 : Int32), [v_115, v_116, v_97, v_116, v_117, v_115, v_32, (.int (bq x0 5)), (.int (bq x0 4)), (.int (bq x0 3)), (.int (bq x0 2)), (.int (bq x0 1)), (.int (bq x0 0))], rfl, N126_, K126, ⟨pE126, pU126, pA126, pC126, pM126, (p120_1.keep Kq126), f136, f134, f135⟩, ⟨6, by decide, by decide, hD.2.2, Or.inr hD.2.1, Or.inl ⟨hD.1, rfl, rfl⟩⟩⟩
  · refine t_iN X6 u d1_16 rfl ?_
    refine t_cV [(.int x0)] [(.ref b1), (.ref b1)] 2 X6 u hZ5 hown5 (wd hw 84 rfl) (m_14 hw) rfl ((Exa.ext E5 (A2.keep Kq3)).keep Kq6) (rm_a13_6 l Z a0 hw [] G GG b2 x0 b3q1q3 k3q1q3 T6.heap O6_ p6_1 hD p6_2 p6_0 p6_3 ((Exa.ext E5 (A2.keep Kq3)).keep Kq6) g_b3q1q3 (neL A2.lt p3_3) g_b2) rfl d1_17 rfl rfl (by decide) ?_
    intro v137 T137 L137 Lc137 X137 hQ137 l137
    obtain ⟨rfl, Nq137, Kq137, p137_0, p137_1, p137_2, p137_3⟩ := hQ137
    have O137_ := extKeep O6_ Kq137 (allS g_b2 (allS g_b3q1q3 all0))
    have sf138 := (Safe.keep Kq6 (sfS sf10 (sfS sf8 sf0)) CR5.1 sf8)
    have sf139 := (Safe.keep Kq6 (sfS sf10 (sfS sf8 sf0)) CR5.1 sf10)
    have CR137 := CHr.trans CR6 (CHr.keep Kq137 (sfS sf139 (sfS sf138 sf0)) CR6.1)
    have K137 := Keep.trans K6 Kq137 (allS (Or.inr sz_b2) (allS (Or.inr sz_b3q1q3) all0))
    have N137_ := frA l137 N6_ Nq137
    have f140 := (((Exa.ext E5 (A2.keep Kq3)).keep Kq6).keep Kq137)
    refine t_cV [] [(.ref b1), (.ref b1)] 2 X137 u hZ5 hown5 (wd hw 106 rfl) (m_23 hw) rfl f140 (rm_a18_6 l Z a0 hw [] G GG b2 b3q1q3 k3q1q3 (bq x0 6) (bq x0 5) (bq x0 4) (bq x0 3) (bq x0 2) (bq x0 1) (bq x0 0) T137.heap O137_ f140 p137_2 p137_1 p137_3 p137_0) rfl d1_20 rfl rfl (by decide) ?_
    intro v141 T141 L141 Lc141 X141 hQ141 l141
    obtain ⟨b1q141, b2q2q6q1q2q141, k2q2q6q1q2q141, rfl, Nq141, Kq141, p141_0, p141_1, p141_2, p141_3, p141_4, p141_5, p141_6, p141_7⟩ := hQ141
    have O141_ := extKeep O137_ Kq141 all0
    have CR141 := CHr.trans CR137 (CHr.keep Kq141 sf0 CR137.1)
    have K141 := Keep.trans K137 Kq141 all0
    have N141_ := frA l141 N137_ Nq141
    have g_b1q141 := Nat.le_trans O137_.1 p141_0
    have sz_b1q141 := Nat.le_trans K137.1 p141_0
    have g_b2q2q6q1q2q141 := Nat.le_trans O137_.1 p141_4
    have sz_b2q2q6q1q2q141 := Nat.le_trans K137.1 p141_4
    refine t_iC X141 u d1_23  ?_
    refine t_nl X141 u d1_24  ?_
    have f142 := ((Exa.ext E5 ((Exa.ext E2 A1).keep Kq3)).keep Kq6)
    have f143 := (Unt.keep Kq6 (ninS (neE A1.lt hb2) (ninS (neL (Exa.ext E2 A1).lt p3_3) nin0)) (Unt.ext E5 (Unt.keep Kq3 (ninS (neE A1.lt hb2) nin0) (Unt.ext E2 U1))))
    have f144 := (Unt.keep Kq141 nin0 (Unt.keep Kq137 (ninS (neE A1.lt hb2) (ninS (neL (Exa.ext E2 A1).lt p3_3) nin0)) f143))
    have f145 := ((Fld.ext E5 ((Fld.ext E2 F1_backtrace).keep Kq3 (ninS (neE A1.lt hb2) nin0))).keep Kq6 (ninS (neE A1.lt hb2) (ninS (neL (Exa.ext E2 A1).lt p3_3) nin0)))
    have f146 := ((f145.keep Kq137 (ninS (neE A1.lt hb2) (ninS (neL (Exa.ext E2 A1).lt p3_3) nin0))).keep Kq141 nin0)
    obtain ⟨_, _, ⟨T147, L147, k147, n147⟩, -, X147, ⟨Lc147, hQ147, l147, y147, z147⟩, st147⟩ := X141.specialBack hx (y := (⟨"com/example/layout_to_rows/layouttorows/harvest/FetchException", "<init>", "(Ljava/lang/String;ZLjava/io/IOException;)V"⟩ : MethodName)) rfl hown5 (mvT hZ5 (wd hw 149 rfl)) (mvT hZ5 (wd hw 150 rfl)) (mvT hZ5 (wd hw 151 rfl)) (by decide) (backOfKL (W := 1) (rm_fi l Z a0 hw [] G GG b1 b1q141 T141.heap O141_ hl g_b1 ((f142.keep Kq137).keep Kq141) f144 f146) hZ5 (wd hw 151 rfl) (wd hw 2 rfl) (by decide) (by decide) (Vm.MethodsKnown.alikeC S5.1.alike hTK) (Vm.FramesKnown.alikeC S5.1.alike hBl)) (g := (mkF m 25 #[.val (.int x0)] [.null, v_1, (.ref b1q141), (.ref b1), (.ref b1)])) rfl (by rw [hml]; rfl) (Steps.refl _) (a := b1) (argsL := [(.ref b1q141), v_1, .null]) (rest := [(.ref b1)]) (lenOf pd_LLjava_lang_String_ZLjava_io_IOException_RV rfl) rfl (by show 2 * 0 + _ ≤ _; exact Nat.le_of_eq rfl) (hb hby d1_25) (fun _ _ => ⟨rfl, rfl, (by decide : 7 + 1 ≤ _), (by decide : 77 + 2752 ≤ _)⟩)
    dsimp only [Pt.U, Pt.locs, Pt.cells, Pt.slots] at X147 l147 y147 z147 st147 hQ147
    subst y147 z147
    obtain ⟨rfl, Nq147, Kq147, pE147, pU147, pM147, pC147, pA147⟩ := hQ147
    have O147_ := extKeep O141_ Kq147 (allS g_b1 all0)
    have sf148 := (Safe.ext E1 CR0.1 (Safe.new (Nat.le_of_eq hb1.symm)))
    have sf149 := (Safe.ext E2 CR1.1 sf148)
    have sf150 := (Safe.keep Kq3 (sfS sf4 sf0) CR2.1 sf149)
    have sf151 := (CHr.safe hC5 ((Exa.ext E2 A1).keep Kq3).lt sf150)
    have sf152 := (Safe.keep Kq6 (sfS sf10 (sfS sf8 sf0)) CR5.1 sf151)
    have sf153 := (Safe.keep Kq137 (sfS sf139 (sfS sf138 sf0)) CR6.1 sf152)
    have sf154 := (Safe.keep Kq141 sf0 CR137.1 sf153)
    have CR147 := CHr.trans CR141 (CHr.keep Kq147 (sfS sf154 sf0) CR141.1)
    have K147 := Keep.trans K141 Kq147 (allS (Or.inr sz_b1) all0)
    have N147_ := frA l147 N141_ Nq147
    refine Go.trans st147 ?_
    have f155 := (p141_3.keep Kq147 (ninS (Ne.symm (neL (((Exa.ext E5 ((Exa.ext E2 A1).keep Kq3)).keep Kq6).keep Kq137).lt p141_0)) nin0))
    have f156 := (p141_6.keep Kq147 (ninS (Ne.symm (neL (((Exa.ext E5 ((Exa.ext E2 A1).keep Kq3)).keep Kq6).keep Kq137).lt p141_4)) nin0))
    have f157 := (p141_2.keep Kq147 (ninS (Ne.symm (neL (((Exa.ext E5 ((Exa.ext E2 A1).keep Kq3)).keep Kq6).keep Kq137).lt p141_0)) nin0))
    exact Go.retAH (endH hh rfl X147 hZ5 hEL CR147) X147 S5 (Nat.le_trans (Nat.le_trans (Nat.le_trans (Nat.le_trans kq5 Kq6.1) Kq137.1) Kq141.1) Kq147.1) hx hret rfl rfl hlk (hb hby d1_28) (by decide) (by decide) ⟨b1, b1q141, b2q2q6q1q2q141, k2q2q6q1q2q141, (14 : Int32), [v_115, v_116, v_97, v_116, v_117, v_115, v_32, (.int (bq x0 6)), (.int (bq x0 5)), (.int (bq x0 4)), (.int (bq x0 3)), (.int (bq x0 2)), (.int (bq x0 1)), (.int (bq x0 0))], rfl, N147_, K147, ⟨pE147, pU147, pA147, pC147, pM147, (p141_1.keep Kq147), f157, f155, f156⟩, ⟨7, by decide, by decide, hD.2.2, Or.inr hD.2.1, Or.inl ⟨hD.1, rfl, rfl⟩⟩⟩
  · refine t_iN X6 u d1_16 rfl ?_
    refine t_cV [(.int x0)] [(.ref b1), (.ref b1)] 2 X6 u hZ5 hown5 (wd hw 84 rfl) (m_14 hw) rfl ((Exa.ext E5 (A2.keep Kq3)).keep Kq6) (rm_a13_7 l Z a0 hw [] G GG b2 x0 b3q1q3 k3q1q3 T6.heap O6_ p6_1 hD p6_2 p6_0 p6_3 ((Exa.ext E5 (A2.keep Kq3)).keep Kq6) g_b3q1q3 (neL A2.lt p3_3) g_b2) rfl d1_17 rfl rfl (by decide) ?_
    intro v158 T158 L158 Lc158 X158 hQ158 l158
    obtain ⟨rfl, Nq158, Kq158, p158_0, p158_1, p158_2, p158_3⟩ := hQ158
    have O158_ := extKeep O6_ Kq158 (allS g_b2 (allS g_b3q1q3 all0))
    have sf159 := (Safe.keep Kq6 (sfS sf10 (sfS sf8 sf0)) CR5.1 sf8)
    have sf160 := (Safe.keep Kq6 (sfS sf10 (sfS sf8 sf0)) CR5.1 sf10)
    have CR158 := CHr.trans CR6 (CHr.keep Kq158 (sfS sf160 (sfS sf159 sf0)) CR6.1)
    have K158 := Keep.trans K6 Kq158 (allS (Or.inr sz_b2) (allS (Or.inr sz_b3q1q3) all0))
    have N158_ := frA l158 N6_ Nq158
    have f161 := (((Exa.ext E5 (A2.keep Kq3)).keep Kq6).keep Kq158)
    refine t_cV [] [(.ref b1), (.ref b1)] 2 X158 u hZ5 hown5 (wd hw 106 rfl) (m_23 hw) rfl f161 (rm_a18_7 l Z a0 hw [] G GG b2 b3q1q3 k3q1q3 (bq x0 7) (bq x0 6) (bq x0 5) (bq x0 4) (bq x0 3) (bq x0 2) (bq x0 1) (bq x0 0) T158.heap O158_ f161 p158_2 p158_1 p158_3 p158_0) rfl d1_20 rfl rfl (by decide) ?_
    intro v162 T162 L162 Lc162 X162 hQ162 l162
    obtain ⟨b1q162, b2q2q6q1q2q162, k2q2q6q1q2q162, rfl, Nq162, Kq162, p162_0, p162_1, p162_2, p162_3, p162_4, p162_5, p162_6, p162_7⟩ := hQ162
    have O162_ := extKeep O158_ Kq162 all0
    have CR162 := CHr.trans CR158 (CHr.keep Kq162 sf0 CR158.1)
    have K162 := Keep.trans K158 Kq162 all0
    have N162_ := frA l162 N158_ Nq162
    have g_b1q162 := Nat.le_trans O158_.1 p162_0
    have sz_b1q162 := Nat.le_trans K158.1 p162_0
    have g_b2q2q6q1q2q162 := Nat.le_trans O158_.1 p162_4
    have sz_b2q2q6q1q2q162 := Nat.le_trans K158.1 p162_4
    refine t_iC X162 u d1_23  ?_
    refine t_nl X162 u d1_24  ?_
    have f163 := ((Exa.ext E5 ((Exa.ext E2 A1).keep Kq3)).keep Kq6)
    have f164 := (Unt.keep Kq6 (ninS (neE A1.lt hb2) (ninS (neL (Exa.ext E2 A1).lt p3_3) nin0)) (Unt.ext E5 (Unt.keep Kq3 (ninS (neE A1.lt hb2) nin0) (Unt.ext E2 U1))))
    have f165 := (Unt.keep Kq162 nin0 (Unt.keep Kq158 (ninS (neE A1.lt hb2) (ninS (neL (Exa.ext E2 A1).lt p3_3) nin0)) f164))
    have f166 := ((Fld.ext E5 ((Fld.ext E2 F1_backtrace).keep Kq3 (ninS (neE A1.lt hb2) nin0))).keep Kq6 (ninS (neE A1.lt hb2) (ninS (neL (Exa.ext E2 A1).lt p3_3) nin0)))
    have f167 := ((f166.keep Kq158 (ninS (neE A1.lt hb2) (ninS (neL (Exa.ext E2 A1).lt p3_3) nin0))).keep Kq162 nin0)
    obtain ⟨_, _, ⟨T168, L168, k168, n168⟩, -, X168, ⟨Lc168, hQ168, l168, y168, z168⟩, st168⟩ := X162.specialBack hx (y := (⟨"com/example/layout_to_rows/layouttorows/harvest/FetchException", "<init>", "(Ljava/lang/String;ZLjava/io/IOException;)V"⟩ : MethodName)) rfl hown5 (mvT hZ5 (wd hw 149 rfl)) (mvT hZ5 (wd hw 150 rfl)) (mvT hZ5 (wd hw 151 rfl)) (by decide) (backOfKL (W := 1) (rm_fi l Z a0 hw [] G GG b1 b1q162 T162.heap O162_ hl g_b1 ((f163.keep Kq158).keep Kq162) f165 f167) hZ5 (wd hw 151 rfl) (wd hw 2 rfl) (by decide) (by decide) (Vm.MethodsKnown.alikeC S5.1.alike hTK) (Vm.FramesKnown.alikeC S5.1.alike hBl)) (g := (mkF m 25 #[.val (.int x0)] [.null, v_1, (.ref b1q162), (.ref b1), (.ref b1)])) rfl (by rw [hml]; rfl) (Steps.refl _) (a := b1) (argsL := [(.ref b1q162), v_1, .null]) (rest := [(.ref b1)]) (lenOf pd_LLjava_lang_String_ZLjava_io_IOException_RV rfl) rfl (by show 2 * 0 + _ ≤ _; exact Nat.le_of_eq rfl) (hb hby d1_25) (fun _ _ => ⟨rfl, rfl, (by decide : 7 + 1 ≤ _), (by decide : 78 + 2752 ≤ _)⟩)
    dsimp only [Pt.U, Pt.locs, Pt.cells, Pt.slots] at X168 l168 y168 z168 st168 hQ168
    subst y168 z168
    obtain ⟨rfl, Nq168, Kq168, pE168, pU168, pM168, pC168, pA168⟩ := hQ168
    have O168_ := extKeep O162_ Kq168 (allS g_b1 all0)
    have sf169 := (Safe.ext E1 CR0.1 (Safe.new (Nat.le_of_eq hb1.symm)))
    have sf170 := (Safe.ext E2 CR1.1 sf169)
    have sf171 := (Safe.keep Kq3 (sfS sf4 sf0) CR2.1 sf170)
    have sf172 := (CHr.safe hC5 ((Exa.ext E2 A1).keep Kq3).lt sf171)
    have sf173 := (Safe.keep Kq6 (sfS sf10 (sfS sf8 sf0)) CR5.1 sf172)
    have sf174 := (Safe.keep Kq158 (sfS sf160 (sfS sf159 sf0)) CR6.1 sf173)
    have sf175 := (Safe.keep Kq162 sf0 CR158.1 sf174)
    have CR168 := CHr.trans CR162 (CHr.keep Kq168 (sfS sf175 sf0) CR162.1)
    have K168 := Keep.trans K162 Kq168 (allS (Or.inr sz_b1) all0)
    have N168_ := frA l168 N162_ Nq168
    refine Go.trans st168 ?_
    have f176 := (p162_3.keep Kq168 (ninS (Ne.symm (neL (((Exa.ext E5 ((Exa.ext E2 A1).keep Kq3)).keep Kq6).keep Kq158).lt p162_0)) nin0))
    have f177 := (p162_6.keep Kq168 (ninS (Ne.symm (neL (((Exa.ext E5 ((Exa.ext E2 A1).keep Kq3)).keep Kq6).keep Kq158).lt p162_4)) nin0))
    have f178 := (p162_2.keep Kq168 (ninS (Ne.symm (neL (((Exa.ext E5 ((Exa.ext E2 A1).keep Kq3)).keep Kq6).keep Kq158).lt p162_0)) nin0))
    exact Go.retAH (endH hh rfl X168 hZ5 hEL CR168) X168 S5 (Nat.le_trans (Nat.le_trans (Nat.le_trans (Nat.le_trans kq5 Kq6.1) Kq158.1) Kq162.1) Kq168.1) hx hret rfl rfl hlk (hb hby d1_28) (by decide) (by decide) ⟨b1, b1q162, b2q2q6q1q2q162, k2q2q6q1q2q162, (15 : Int32), [v_115, v_116, v_97, v_116, v_117, v_115, v_32, (.int (bq x0 7)), (.int (bq x0 6)), (.int (bq x0 5)), (.int (bq x0 4)), (.int (bq x0 3)), (.int (bq x0 2)), (.int (bq x0 1)), (.int (bq x0 0))], rfl, N168_, K168, ⟨pE168, pU168, pA168, pC168, pM168, (p162_1.keep Kq168), f178, f176, f177⟩, ⟨8, by decide, by decide, hD.2.2, Or.inr hD.2.1, Or.inl ⟨hD.1, rfl, rfl⟩⟩⟩
  · refine t_iN X6 u d1_16 rfl ?_
    refine t_cV [(.int x0)] [(.ref b1), (.ref b1)] 2 X6 u hZ5 hown5 (wd hw 84 rfl) (m_14 hw) rfl ((Exa.ext E5 (A2.keep Kq3)).keep Kq6) (rm_a13_8 l Z a0 hw [] G GG b2 x0 b3q1q3 k3q1q3 T6.heap O6_ p6_1 hD p6_2 p6_0 p6_3 ((Exa.ext E5 (A2.keep Kq3)).keep Kq6) g_b3q1q3 (neL A2.lt p3_3) g_b2) rfl d1_17 rfl rfl (by decide) ?_
    intro v179 T179 L179 Lc179 X179 hQ179 l179
    obtain ⟨rfl, Nq179, Kq179, p179_0, p179_1, p179_2, p179_3⟩ := hQ179
    have O179_ := extKeep O6_ Kq179 (allS g_b2 (allS g_b3q1q3 all0))
    have sf180 := (Safe.keep Kq6 (sfS sf10 (sfS sf8 sf0)) CR5.1 sf8)
    have sf181 := (Safe.keep Kq6 (sfS sf10 (sfS sf8 sf0)) CR5.1 sf10)
    have CR179 := CHr.trans CR6 (CHr.keep Kq179 (sfS sf181 (sfS sf180 sf0)) CR6.1)
    have K179 := Keep.trans K6 Kq179 (allS (Or.inr sz_b2) (allS (Or.inr sz_b3q1q3) all0))
    have N179_ := frA l179 N6_ Nq179
    have f182 := (((Exa.ext E5 (A2.keep Kq3)).keep Kq6).keep Kq179)
    have f183 := (((Exa.ext E5 p3_4).keep Kq6).keep Kq179)
    have f184 := (((Exa.ext E5 p3_4).keep Kq6).keep Kq179)
    have f185 := (((Exa.ext E5 p3_4).keep Kq6).keep Kq179)
    refine t_cV [] [(.ref b1), (.ref b1)] 2 X179 u hZ5 hown5 (wd hw 106 rfl) (m_23 hw) rfl f182 (rm_a18_8 l Z a0 hw [] G GG b2 b3q1q3 (16 : Int32) (0 : Int32) k3q1q3 (115 : Int32) (116 : Int32) (97 : Int32) (116 : Int32) (117 : Int32) (115 : Int32) (32 : Int32) (bq x0 8) (bq x0 7) (bq x0 6) (bq x0 5) (bq x0 4) (bq x0 3) (bq x0 2) (bq x0 1) (bq x0 0) T179.heap O179_ f182 p179_2 p179_1 p179_3 (by decide) p179_0 (by decide) f185) rfl d1_20 rfl rfl (by decide) ?_
    intro v186 T186 L186 Lc186 X186 hQ186 l186
    obtain ⟨b1q186, b2q6q1q2q186, kk1q6q1q2q186, rfl, Nq186, Kq186, p186_0, p186_1, p186_2, p186_3, p186_4, p186_5, p186_6, p186_7⟩ := hQ186
    have O186_ := extKeep O179_ Kq186 all0
    have CR186 := CHr.trans CR179 (CHr.keep Kq186 sf0 CR179.1)
    have K186 := Keep.trans K179 Kq186 all0
    have N186_ := frA l186 N179_ Nq186
    have g_b1q186 := Nat.le_trans O179_.1 p186_0
    have sz_b1q186 := Nat.le_trans K179.1 p186_0
    have g_b2q6q1q2q186 := Nat.le_trans O179_.1 p186_4
    have sz_b2q6q1q2q186 := Nat.le_trans K179.1 p186_4
    refine t_iC X186 u d1_23  ?_
    refine t_nl X186 u d1_24  ?_
    have f187 := ((Exa.ext E5 ((Exa.ext E2 A1).keep Kq3)).keep Kq6)
    have f188 := (Unt.keep Kq6 (ninS (neE A1.lt hb2) (ninS (neL (Exa.ext E2 A1).lt p3_3) nin0)) (Unt.ext E5 (Unt.keep Kq3 (ninS (neE A1.lt hb2) nin0) (Unt.ext E2 U1))))
    have f189 := (Unt.keep Kq186 nin0 (Unt.keep Kq179 (ninS (neE A1.lt hb2) (ninS (neL (Exa.ext E2 A1).lt p3_3) nin0)) f188))
    have f190 := ((Fld.ext E5 ((Fld.ext E2 F1_backtrace).keep Kq3 (ninS (neE A1.lt hb2) nin0))).keep Kq6 (ninS (neE A1.lt hb2) (ninS (neL (Exa.ext E2 A1).lt p3_3) nin0)))
    have f191 := ((f190.keep Kq179 (ninS (neE A1.lt hb2) (ninS (neL (Exa.ext E2 A1).lt p3_3) nin0))).keep Kq186 nin0)
    obtain ⟨_, _, ⟨T192, L192, k192, n192⟩, -, X192, ⟨Lc192, hQ192, l192, y192, z192⟩, st192⟩ := X186.specialBack hx (y := (⟨"com/example/layout_to_rows/layouttorows/harvest/FetchException", "<init>", "(Ljava/lang/String;ZLjava/io/IOException;)V"⟩ : MethodName)) rfl hown5 (mvT hZ5 (wd hw 149 rfl)) (mvT hZ5 (wd hw 150 rfl)) (mvT hZ5 (wd hw 151 rfl)) (by decide) (backOfKL (W := 1) (rm_fi l Z a0 hw [] G GG b1 b1q186 T186.heap O186_ hl g_b1 ((f187.keep Kq179).keep Kq186) f189 f191) hZ5 (wd hw 151 rfl) (wd hw 2 rfl) (by decide) (by decide) (Vm.MethodsKnown.alikeC S5.1.alike hTK) (Vm.FramesKnown.alikeC S5.1.alike hBl)) (g := (mkF m 25 #[.val (.int x0)] [.null, v_1, (.ref b1q186), (.ref b1), (.ref b1)])) rfl (by rw [hml]; rfl) (Steps.refl _) (a := b1) (argsL := [(.ref b1q186), v_1, .null]) (rest := [(.ref b1)]) (lenOf pd_LLjava_lang_String_ZLjava_io_IOException_RV rfl) rfl (by show 2 * 0 + _ ≤ _; exact Nat.le_of_eq rfl) (hb hby d1_25) (fun _ _ => ⟨rfl, rfl, (by decide : 7 + 1 ≤ _), (by decide : 79 + 2752 ≤ _)⟩)
    dsimp only [Pt.U, Pt.locs, Pt.cells, Pt.slots] at X192 l192 y192 z192 st192 hQ192
    subst y192 z192
    obtain ⟨rfl, Nq192, Kq192, pE192, pU192, pM192, pC192, pA192⟩ := hQ192
    have O192_ := extKeep O186_ Kq192 (allS g_b1 all0)
    have sf193 := (Safe.ext E1 CR0.1 (Safe.new (Nat.le_of_eq hb1.symm)))
    have sf194 := (Safe.ext E2 CR1.1 sf193)
    have sf195 := (Safe.keep Kq3 (sfS sf4 sf0) CR2.1 sf194)
    have sf196 := (CHr.safe hC5 ((Exa.ext E2 A1).keep Kq3).lt sf195)
    have sf197 := (Safe.keep Kq6 (sfS sf10 (sfS sf8 sf0)) CR5.1 sf196)
    have sf198 := (Safe.keep Kq179 (sfS sf181 (sfS sf180 sf0)) CR6.1 sf197)
    have sf199 := (Safe.keep Kq186 sf0 CR179.1 sf198)
    have CR192 := CHr.trans CR186 (CHr.keep Kq192 (sfS sf199 sf0) CR186.1)
    have K192 := Keep.trans K186 Kq192 (allS (Or.inr sz_b1) all0)
    have N192_ := frA l192 N186_ Nq192
    refine Go.trans st192 ?_
    have f200 := (p186_3.keep Kq192 (ninS (Ne.symm (neL (((Exa.ext E5 ((Exa.ext E2 A1).keep Kq3)).keep Kq6).keep Kq179).lt p186_0)) nin0))
    have f201 := (p186_6.keep Kq192 (ninS (Ne.symm (neL (((Exa.ext E5 ((Exa.ext E2 A1).keep Kq3)).keep Kq6).keep Kq179).lt p186_4)) nin0))
    have f202 := (p186_2.keep Kq192 (ninS (Ne.symm (neL (((Exa.ext E5 ((Exa.ext E2 A1).keep Kq3)).keep Kq6).keep Kq179).lt p186_0)) nin0))
    exact Go.retAH (endH hh rfl X192 hZ5 hEL CR192) X192 S5 (Nat.le_trans (Nat.le_trans (Nat.le_trans (Nat.le_trans kq5 Kq6.1) Kq179.1) Kq186.1) Kq192.1) hx hret rfl rfl hlk (hb hby d1_28) (by decide) (by decide) ⟨b1, b1q186, b2q6q1q2q186, kk1q6q1q2q186, (16 : Int32), [v_115, v_116, v_97, v_116, v_117, v_115, v_32, (.int (bq x0 8)), (.int (bq x0 7)), (.int (bq x0 6)), (.int (bq x0 5)), (.int (bq x0 4)), (.int (bq x0 3)), (.int (bq x0 2)), (.int (bq x0 1)), (.int (bq x0 0))], rfl, N192_, K192, ⟨pE192, pU192, pA192, pC192, pM192, (p186_1.keep Kq192), f202, f200, f201⟩, ⟨9, by decide, by decide, hD.2.2, Or.inr hD.2.1, Or.inl ⟨hD.1, rfl, rfl⟩⟩⟩
  · refine t_iN X6 u d1_16 rfl ?_
    refine t_cV [(.int x0)] [(.ref b1), (.ref b1)] 2 X6 u hZ5 hown5 (wd hw 84 rfl) (m_14 hw) rfl ((Exa.ext E5 (A2.keep Kq3)).keep Kq6) (rm_a13_9 l Z a0 hw [] G GG b2 x0 b3q1q3 k3q1q3 T6.heap O6_ p6_1 hD p6_2 p6_0 p6_3 ((Exa.ext E5 (A2.keep Kq3)).keep Kq6) g_b2) rfl d1_17 rfl rfl (by decide) ?_
    intro v203 T203 L203 Lc203 X203 hQ203 l203
    obtain ⟨b2q7q3q1q203, k2q7q3q1q203, rfl, Nq203, Kq203, p203_0, p203_1, p203_2, p203_3, p203_4, p203_5⟩ := hQ203
    have O203_ := extKeep O6_ Kq203 (allS g_b2 all0)
    have sf204 := (Safe.keep Kq6 (sfS sf10 (sfS sf8 sf0)) CR5.1 sf10)
    have CR203 := CHr.trans CR6 (CHr.keep Kq203 (sfS sf204 sf0) CR6.1)
    have K203 := Keep.trans K6 Kq203 (allS (Or.inr sz_b2) all0)
    have N203_ := frA l203 N6_ Nq203
    have g_b2q7q3q1q203 := Nat.le_trans O6_.1 p203_3
    have sz_b2q7q3q1q203 := Nat.le_trans K6.1 p203_3
    have f205 := (((Exa.ext E5 (A2.keep Kq3)).keep Kq6).keep Kq203)
    refine t_cV [] [(.ref b1), (.ref b1)] 2 X203 u hZ5 hown5 (wd hw 106 rfl) (m_23 hw) rfl f205 (rm_a18_9 l Z a0 hw [] G GG b2 b2q7q3q1q203 k2q7q3q1q203 (bq x0 9) (bq x0 8) (bq x0 7) (bq x0 6) (bq x0 5) (bq x0 4) (bq x0 3) (bq x0 2) (bq x0 1) (bq x0 0) T203.heap O203_ f205 p203_0 p203_2 p203_1 p203_5) rfl d1_20 rfl rfl (by decide) ?_
    intro v206 T206 L206 Lc206 X206 hQ206 l206
    obtain ⟨b1q206, b2q2q6q1q2q206, k2q2q6q1q2q206, rfl, Nq206, Kq206, p206_0, p206_1, p206_2, p206_3, p206_4, p206_5, p206_6, p206_7⟩ := hQ206
    have O206_ := extKeep O203_ Kq206 all0
    have CR206 := CHr.trans CR203 (CHr.keep Kq206 sf0 CR203.1)
    have K206 := Keep.trans K203 Kq206 all0
    have N206_ := frA l206 N203_ Nq206
    have g_b1q206 := Nat.le_trans O203_.1 p206_0
    have sz_b1q206 := Nat.le_trans K203.1 p206_0
    have g_b2q2q6q1q2q206 := Nat.le_trans O203_.1 p206_4
    have sz_b2q2q6q1q2q206 := Nat.le_trans K203.1 p206_4
    refine t_iC X206 u d1_23  ?_
    refine t_nl X206 u d1_24  ?_
    have f207 := ((Exa.ext E5 ((Exa.ext E2 A1).keep Kq3)).keep Kq6)
    have f208 := (Unt.keep Kq6 (ninS (neE A1.lt hb2) (ninS (neL (Exa.ext E2 A1).lt p3_3) nin0)) (Unt.ext E5 (Unt.keep Kq3 (ninS (neE A1.lt hb2) nin0) (Unt.ext E2 U1))))
    have f209 := (Unt.keep Kq206 nin0 (Unt.keep Kq203 (ninS (neE A1.lt hb2) nin0) f208))
    have f210 := ((Fld.ext E5 ((Fld.ext E2 F1_backtrace).keep Kq3 (ninS (neE A1.lt hb2) nin0))).keep Kq6 (ninS (neE A1.lt hb2) (ninS (neL (Exa.ext E2 A1).lt p3_3) nin0)))
    have f211 := ((f210.keep Kq203 (ninS (neE A1.lt hb2) nin0)).keep Kq206 nin0)
    obtain ⟨_, _, ⟨T212, L212, k212, n212⟩, -, X212, ⟨Lc212, hQ212, l212, y212, z212⟩, st212⟩ := X206.specialBack hx (y := (⟨"com/example/layout_to_rows/layouttorows/harvest/FetchException", "<init>", "(Ljava/lang/String;ZLjava/io/IOException;)V"⟩ : MethodName)) rfl hown5 (mvT hZ5 (wd hw 149 rfl)) (mvT hZ5 (wd hw 150 rfl)) (mvT hZ5 (wd hw 151 rfl)) (by decide) (backOfKL (W := 1) (rm_fi l Z a0 hw [] G GG b1 b1q206 T206.heap O206_ hl g_b1 ((f207.keep Kq203).keep Kq206) f209 f211) hZ5 (wd hw 151 rfl) (wd hw 2 rfl) (by decide) (by decide) (Vm.MethodsKnown.alikeC S5.1.alike hTK) (Vm.FramesKnown.alikeC S5.1.alike hBl)) (g := (mkF m 25 #[.val (.int x0)] [.null, v_1, (.ref b1q206), (.ref b1), (.ref b1)])) rfl (by rw [hml]; rfl) (Steps.refl _) (a := b1) (argsL := [(.ref b1q206), v_1, .null]) (rest := [(.ref b1)]) (lenOf pd_LLjava_lang_String_ZLjava_io_IOException_RV rfl) rfl (by show 2 * 0 + _ ≤ _; exact Nat.le_of_eq rfl) (hb hby d1_25) (fun _ _ => ⟨rfl, rfl, (by decide : 8 + 1 ≤ _), (by decide : 114 + 2752 ≤ _)⟩)
    dsimp only [Pt.U, Pt.locs, Pt.cells, Pt.slots] at X212 l212 y212 z212 st212 hQ212
    subst y212 z212
    obtain ⟨rfl, Nq212, Kq212, pE212, pU212, pM212, pC212, pA212⟩ := hQ212
    have O212_ := extKeep O206_ Kq212 (allS g_b1 all0)
    have sf213 := (Safe.ext E1 CR0.1 (Safe.new (Nat.le_of_eq hb1.symm)))
    have sf214 := (Safe.ext E2 CR1.1 sf213)
    have sf215 := (Safe.keep Kq3 (sfS sf4 sf0) CR2.1 sf214)
    have sf216 := (CHr.safe hC5 ((Exa.ext E2 A1).keep Kq3).lt sf215)
    have sf217 := (Safe.keep Kq6 (sfS sf10 (sfS sf8 sf0)) CR5.1 sf216)
    have sf218 := (Safe.keep Kq203 (sfS sf204 sf0) CR6.1 sf217)
    have sf219 := (Safe.keep Kq206 sf0 CR203.1 sf218)
    have CR212 := CHr.trans CR206 (CHr.keep Kq212 (sfS sf219 sf0) CR206.1)
    have K212 := Keep.trans K206 Kq212 (allS (Or.inr sz_b1) all0)
    have N212_ := frA l212 N206_ Nq212
    refine Go.trans st212 ?_
    have f220 := (p206_3.keep Kq212 (ninS (Ne.symm (neL (((Exa.ext E5 ((Exa.ext E2 A1).keep Kq3)).keep Kq6).keep Kq203).lt p206_0)) nin0))
    have f221 := (p206_6.keep Kq212 (ninS (Ne.symm (neL (((Exa.ext E5 ((Exa.ext E2 A1).keep Kq3)).keep Kq6).keep Kq203).lt p206_4)) nin0))
    have f222 := (p206_2.keep Kq212 (ninS (Ne.symm (neL (((Exa.ext E5 ((Exa.ext E2 A1).keep Kq3)).keep Kq6).keep Kq203).lt p206_0)) nin0))
    exact Go.retAH (endH hh rfl X212 hZ5 hEL CR212) X212 S5 (Nat.le_trans (Nat.le_trans (Nat.le_trans (Nat.le_trans kq5 Kq6.1) Kq203.1) Kq206.1) Kq212.1) hx hret rfl rfl hlk (hb hby d1_28) (by decide) (by decide) ⟨b1, b1q206, b2q2q6q1q2q206, k2q2q6q1q2q206, (17 : Int32), [v_115, v_116, v_97, v_116, v_117, v_115, v_32, (.int (bq x0 9)), (.int (bq x0 8)), (.int (bq x0 7)), (.int (bq x0 6)), (.int (bq x0 5)), (.int (bq x0 4)), (.int (bq x0 3)), (.int (bq x0 2)), (.int (bq x0 1)), (.int (bq x0 0))], rfl, N212_, K212, ⟨pE212, pU212, pA212, pC212, pM212, (p206_1.keep Kq212), f222, f220, f221⟩, ⟨10, by decide, by decide, hD.2.2, Or.inr hD.2.1, Or.inl ⟨hD.1, rfl, rfl⟩⟩⟩
  · refine t_iN X6 u d1_16 rfl ?_
    refine t_cV [(.int x0)] [(.ref b1), (.ref b1)] 2 X6 u hZ5 hown5 (wd hw 84 rfl) (m_14 hw) rfl ((Exa.ext E5 (A2.keep Kq3)).keep Kq6) (rm_a13_10 l Z a0 hw [] G GG b2 x0 b3q1q3 k3q1q3 T6.heap O6_ p6_1 hD p6_2 p6_0 p6_3 ((Exa.ext E5 (A2.keep Kq3)).keep Kq6) g_b3q1q3 (neL A2.lt p3_3) g_b2) rfl d1_17 rfl rfl (by decide) ?_
    intro v223 T223 L223 Lc223 X223 hQ223 l223
    obtain ⟨rfl, Nq223, Kq223, p223_0, p223_1, p223_2, p223_3⟩ := hQ223
    have O223_ := extKeep O6_ Kq223 (allS g_b2 (allS g_b3q1q3 all0))
    have sf224 := (Safe.keep Kq6 (sfS sf10 (sfS sf8 sf0)) CR5.1 sf8)
    have sf225 := (Safe.keep Kq6 (sfS sf10 (sfS sf8 sf0)) CR5.1 sf10)
    have CR223 := CHr.trans CR6 (CHr.keep Kq223 (sfS sf225 (sfS sf224 sf0)) CR6.1)
    have K223 := Keep.trans K6 Kq223 (allS (Or.inr sz_b2) (allS (Or.inr sz_b3q1q3) all0))
    have N223_ := frA l223 N6_ Nq223
    have f226 := (((Exa.ext E5 (A2.keep Kq3)).keep Kq6).keep Kq223)
    refine t_cV [] [(.ref b1), (.ref b1)] 2 X223 u hZ5 hown5 (wd hw 106 rfl) (m_23 hw) rfl f226 (rm_a18_1 l Z a0 hw [] G GG b2 b3q1q3 k3q1q3 (45 : Int32) (bq x0 0) T223.heap O223_ f226 p223_2 p223_1 p223_3 p223_0) rfl d1_20 rfl rfl (by decide) ?_
    intro v227 T227 L227 Lc227 X227 hQ227 l227
    obtain ⟨b1q227, b2q2q6q1q2q227, k2q2q6q1q2q227, rfl, Nq227, Kq227, p227_0, p227_1, p227_2, p227_3, p227_4, p227_5, p227_6, p227_7⟩ := hQ227
    have O227_ := extKeep O223_ Kq227 all0
    have CR227 := CHr.trans CR223 (CHr.keep Kq227 sf0 CR223.1)
    have K227 := Keep.trans K223 Kq227 all0
    have N227_ := frA l227 N223_ Nq227
    have g_b1q227 := Nat.le_trans O223_.1 p227_0
    have sz_b1q227 := Nat.le_trans K223.1 p227_0
    have g_b2q2q6q1q2q227 := Nat.le_trans O223_.1 p227_4
    have sz_b2q2q6q1q2q227 := Nat.le_trans K223.1 p227_4
    refine t_iC X227 u d1_23  ?_
    refine t_nl X227 u d1_24  ?_
    have f228 := ((Exa.ext E5 ((Exa.ext E2 A1).keep Kq3)).keep Kq6)
    have f229 := (Unt.keep Kq6 (ninS (neE A1.lt hb2) (ninS (neL (Exa.ext E2 A1).lt p3_3) nin0)) (Unt.ext E5 (Unt.keep Kq3 (ninS (neE A1.lt hb2) nin0) (Unt.ext E2 U1))))
    have f230 := (Unt.keep Kq227 nin0 (Unt.keep Kq223 (ninS (neE A1.lt hb2) (ninS (neL (Exa.ext E2 A1).lt p3_3) nin0)) f229))
    have f231 := ((Fld.ext E5 ((Fld.ext E2 F1_backtrace).keep Kq3 (ninS (neE A1.lt hb2) nin0))).keep Kq6 (ninS (neE A1.lt hb2) (ninS (neL (Exa.ext E2 A1).lt p3_3) nin0)))
    have f232 := ((f231.keep Kq223 (ninS (neE A1.lt hb2) (ninS (neL (Exa.ext E2 A1).lt p3_3) nin0))).keep Kq227 nin0)
    obtain ⟨_, _, ⟨T233, L233, k233, n233⟩, -, X233, ⟨Lc233, hQ233, l233, y233, z233⟩, st233⟩ := X227.specialBack hx (y := (⟨"com/example/layout_to_rows/layouttorows/harvest/FetchException", "<init>", "(Ljava/lang/String;ZLjava/io/IOException;)V"⟩ : MethodName)) rfl hown5 (mvT hZ5 (wd hw 149 rfl)) (mvT hZ5 (wd hw 150 rfl)) (mvT hZ5 (wd hw 151 rfl)) (by decide) (backOfKL (W := 1) (rm_fi l Z a0 hw [] G GG b1 b1q227 T227.heap O227_ hl g_b1 ((f228.keep Kq223).keep Kq227) f230 f232) hZ5 (wd hw 151 rfl) (wd hw 2 rfl) (by decide) (by decide) (Vm.MethodsKnown.alikeC S5.1.alike hTK) (Vm.FramesKnown.alikeC S5.1.alike hBl)) (g := (mkF m 25 #[.val (.int x0)] [.null, v_1, (.ref b1q227), (.ref b1), (.ref b1)])) rfl (by rw [hml]; rfl) (Steps.refl _) (a := b1) (argsL := [(.ref b1q227), v_1, .null]) (rest := [(.ref b1)]) (lenOf pd_LLjava_lang_String_ZLjava_io_IOException_RV rfl) rfl (by show 2 * 0 + _ ≤ _; exact Nat.le_of_eq rfl) (hb hby d1_25) (fun _ _ => ⟨rfl, rfl, (by decide : 7 + 1 ≤ _), (by decide : 72 + 2752 ≤ _)⟩)
    dsimp only [Pt.U, Pt.locs, Pt.cells, Pt.slots] at X233 l233 y233 z233 st233 hQ233
    subst y233 z233
    obtain ⟨rfl, Nq233, Kq233, pE233, pU233, pM233, pC233, pA233⟩ := hQ233
    have O233_ := extKeep O227_ Kq233 (allS g_b1 all0)
    have sf234 := (Safe.ext E1 CR0.1 (Safe.new (Nat.le_of_eq hb1.symm)))
    have sf235 := (Safe.ext E2 CR1.1 sf234)
    have sf236 := (Safe.keep Kq3 (sfS sf4 sf0) CR2.1 sf235)
    have sf237 := (CHr.safe hC5 ((Exa.ext E2 A1).keep Kq3).lt sf236)
    have sf238 := (Safe.keep Kq6 (sfS sf10 (sfS sf8 sf0)) CR5.1 sf237)
    have sf239 := (Safe.keep Kq223 (sfS sf225 (sfS sf224 sf0)) CR6.1 sf238)
    have sf240 := (Safe.keep Kq227 sf0 CR223.1 sf239)
    have CR233 := CHr.trans CR227 (CHr.keep Kq233 (sfS sf240 sf0) CR227.1)
    have K233 := Keep.trans K227 Kq233 (allS (Or.inr sz_b1) all0)
    have N233_ := frA l233 N227_ Nq233
    refine Go.trans st233 ?_
    have f241 := (p227_3.keep Kq233 (ninS (Ne.symm (neL (((Exa.ext E5 ((Exa.ext E2 A1).keep Kq3)).keep Kq6).keep Kq223).lt p227_0)) nin0))
    have f242 := (p227_6.keep Kq233 (ninS (Ne.symm (neL (((Exa.ext E5 ((Exa.ext E2 A1).keep Kq3)).keep Kq6).keep Kq223).lt p227_4)) nin0))
    have f243 := (p227_2.keep Kq233 (ninS (Ne.symm (neL (((Exa.ext E5 ((Exa.ext E2 A1).keep Kq3)).keep Kq6).keep Kq223).lt p227_0)) nin0))
    exact Go.retAH (endH hh rfl X233 hZ5 hEL CR233) X233 S5 (Nat.le_trans (Nat.le_trans (Nat.le_trans (Nat.le_trans kq5 Kq6.1) Kq223.1) Kq227.1) Kq233.1) hx hret rfl rfl hlk (hb hby d1_28) (by decide) (by decide) ⟨b1, b1q227, b2q2q6q1q2q227, k2q2q6q1q2q227, (9 : Int32), [v_115, v_116, v_97, v_116, v_117, v_115, v_32, v_45, (.int (bq x0 0))], rfl, N233_, K233, ⟨pE233, pU233, pA233, pC233, pM233, (p227_1.keep Kq233), f243, f241, f242⟩, ⟨1, by decide, by decide, hD.2.2, Or.inl rfl, Or.inr ⟨hD.1, rfl, rfl⟩⟩⟩
  · refine t_iN X6 u d1_16 rfl ?_
    refine t_cV [(.int x0)] [(.ref b1), (.ref b1)] 2 X6 u hZ5 hown5 (wd hw 84 rfl) (m_14 hw) rfl ((Exa.ext E5 (A2.keep Kq3)).keep Kq6) (rm_a13_11 l Z a0 hw [] G GG b2 x0 b3q1q3 k3q1q3 T6.heap O6_ p6_1 hD p6_2 p6_0 p6_3 ((Exa.ext E5 (A2.keep Kq3)).keep Kq6) g_b3q1q3 (neL A2.lt p3_3) g_b2) rfl d1_17 rfl rfl (by decide) ?_
    intro v244 T244 L244 Lc244 X244 hQ244 l244
    obtain ⟨rfl, Nq244, Kq244, p244_0, p244_1, p244_2, p244_3⟩ := hQ244
    have O244_ := extKeep O6_ Kq244 (allS g_b2 (allS g_b3q1q3 all0))
    have sf245 := (Safe.keep Kq6 (sfS sf10 (sfS sf8 sf0)) CR5.1 sf8)
    have sf246 := (Safe.keep Kq6 (sfS sf10 (sfS sf8 sf0)) CR5.1 sf10)
    have CR244 := CHr.trans CR6 (CHr.keep Kq244 (sfS sf246 (sfS sf245 sf0)) CR6.1)
    have K244 := Keep.trans K6 Kq244 (allS (Or.inr sz_b2) (allS (Or.inr sz_b3q1q3) all0))
    have N244_ := frA l244 N6_ Nq244
    have f247 := (((Exa.ext E5 (A2.keep Kq3)).keep Kq6).keep Kq244)
    refine t_cV [] [(.ref b1), (.ref b1)] 2 X244 u hZ5 hown5 (wd hw 106 rfl) (m_23 hw) rfl f247 (rm_a18_2 l Z a0 hw [] G GG b2 b3q1q3 k3q1q3 (45 : Int32) (bq x0 1) (bq x0 0) T244.heap O244_ f247 p244_2 p244_1 p244_3 p244_0) rfl d1_20 rfl rfl (by decide) ?_
    intro v248 T248 L248 Lc248 X248 hQ248 l248
    obtain ⟨b1q248, b2q2q6q1q2q248, k2q2q6q1q2q248, rfl, Nq248, Kq248, p248_0, p248_1, p248_2, p248_3, p248_4, p248_5, p248_6, p248_7⟩ := hQ248
    have O248_ := extKeep O244_ Kq248 all0
    have CR248 := CHr.trans CR244 (CHr.keep Kq248 sf0 CR244.1)
    have K248 := Keep.trans K244 Kq248 all0
    have N248_ := frA l248 N244_ Nq248
    have g_b1q248 := Nat.le_trans O244_.1 p248_0
    have sz_b1q248 := Nat.le_trans K244.1 p248_0
    have g_b2q2q6q1q2q248 := Nat.le_trans O244_.1 p248_4
    have sz_b2q2q6q1q2q248 := Nat.le_trans K244.1 p248_4
    refine t_iC X248 u d1_23  ?_
    refine t_nl X248 u d1_24  ?_
    have f249 := ((Exa.ext E5 ((Exa.ext E2 A1).keep Kq3)).keep Kq6)
    have f250 := (Unt.keep Kq6 (ninS (neE A1.lt hb2) (ninS (neL (Exa.ext E2 A1).lt p3_3) nin0)) (Unt.ext E5 (Unt.keep Kq3 (ninS (neE A1.lt hb2) nin0) (Unt.ext E2 U1))))
    have f251 := (Unt.keep Kq248 nin0 (Unt.keep Kq244 (ninS (neE A1.lt hb2) (ninS (neL (Exa.ext E2 A1).lt p3_3) nin0)) f250))
    have f252 := ((Fld.ext E5 ((Fld.ext E2 F1_backtrace).keep Kq3 (ninS (neE A1.lt hb2) nin0))).keep Kq6 (ninS (neE A1.lt hb2) (ninS (neL (Exa.ext E2 A1).lt p3_3) nin0)))
    have f253 := ((f252.keep Kq244 (ninS (neE A1.lt hb2) (ninS (neL (Exa.ext E2 A1).lt p3_3) nin0))).keep Kq248 nin0)
    obtain ⟨_, _, ⟨T254, L254, k254, n254⟩, -, X254, ⟨Lc254, hQ254, l254, y254, z254⟩, st254⟩ := X248.specialBack hx (y := (⟨"com/example/layout_to_rows/layouttorows/harvest/FetchException", "<init>", "(Ljava/lang/String;ZLjava/io/IOException;)V"⟩ : MethodName)) rfl hown5 (mvT hZ5 (wd hw 149 rfl)) (mvT hZ5 (wd hw 150 rfl)) (mvT hZ5 (wd hw 151 rfl)) (by decide) (backOfKL (W := 1) (rm_fi l Z a0 hw [] G GG b1 b1q248 T248.heap O248_ hl g_b1 ((f249.keep Kq244).keep Kq248) f251 f253) hZ5 (wd hw 151 rfl) (wd hw 2 rfl) (by decide) (by decide) (Vm.MethodsKnown.alikeC S5.1.alike hTK) (Vm.FramesKnown.alikeC S5.1.alike hBl)) (g := (mkF m 25 #[.val (.int x0)] [.null, v_1, (.ref b1q248), (.ref b1), (.ref b1)])) rfl (by rw [hml]; rfl) (Steps.refl _) (a := b1) (argsL := [(.ref b1q248), v_1, .null]) (rest := [(.ref b1)]) (lenOf pd_LLjava_lang_String_ZLjava_io_IOException_RV rfl) rfl (by show 2 * 0 + _ ≤ _; exact Nat.le_of_eq rfl) (hb hby d1_25) (fun _ _ => ⟨rfl, rfl, (by decide : 7 + 1 ≤ _), (by decide : 73 + 2752 ≤ _)⟩)
    dsimp only [Pt.U, Pt.locs, Pt.cells, Pt.slots] at X254 l254 y254 z254 st254 hQ254
    subst y254 z254
    obtain ⟨rfl, Nq254, Kq254, pE254, pU254, pM254, pC254, pA254⟩ := hQ254
    have O254_ := extKeep O248_ Kq254 (allS g_b1 all0)
    have sf255 := (Safe.ext E1 CR0.1 (Safe.new (Nat.le_of_eq hb1.symm)))
    have sf256 := (Safe.ext E2 CR1.1 sf255)
    have sf257 := (Safe.keep Kq3 (sfS sf4 sf0) CR2.1 sf256)
    have sf258 := (CHr.safe hC5 ((Exa.ext E2 A1).keep Kq3).lt sf257)
    have sf259 := (Safe.keep Kq6 (sfS sf10 (sfS sf8 sf0)) CR5.1 sf258)
    have sf260 := (Safe.keep Kq244 (sfS sf246 (sfS sf245 sf0)) CR6.1 sf259)
    have sf261 := (Safe.keep Kq248 sf0 CR244.1 sf260)
    have CR254 := CHr.trans CR248 (CHr.keep Kq254 (sfS sf261 sf0) CR248.1)
    have K254 := Keep.trans K248 Kq254 (allS (Or.inr sz_b1) all0)
    have N254_ := frA l254 N248_ Nq254
    refine Go.trans st254 ?_
    have f262 := (p248_3.keep Kq254 (ninS (Ne.symm (neL (((Exa.ext E5 ((Exa.ext E2 A1).keep Kq3)).keep Kq6).keep Kq244).lt p248_0)) nin0))
    have f263 := (p248_6.keep Kq254 (ninS (Ne.symm (neL (((Exa.ext E5 ((Exa.ext E2 A1).keep Kq3)).keep Kq6).keep Kq244).lt p248_4)) nin0))
    have f264 := (p248_2.keep Kq254 (ninS (Ne.symm (neL (((Exa.ext E5 ((Exa.ext E2 A1).keep Kq3)).keep Kq6).keep Kq244).lt p248_0)) nin0))
    exact Go.retAH (endH hh rfl X254 hZ5 hEL CR254) X254 S5 (Nat.le_trans (Nat.le_trans (Nat.le_trans (Nat.le_trans kq5 Kq6.1) Kq244.1) Kq248.1) Kq254.1) hx hret rfl rfl hlk (hb hby d1_28) (by decide) (by decide) ⟨b1, b1q248, b2q2q6q1q2q248, k2q2q6q1q2q248, (10 : Int32), [v_115, v_116, v_97, v_116, v_117, v_115, v_32, v_45, (.int (bq x0 1)), (.int (bq x0 0))], rfl, N254_, K254, ⟨pE254, pU254, pA254, pC254, pM254, (p248_1.keep Kq254), f264, f262, f263⟩, ⟨2, by decide, by decide, hD.2.2, Or.inr hD.2.1, Or.inr ⟨hD.1, rfl, rfl⟩⟩⟩
  · refine t_iN X6 u d1_16 rfl ?_
    refine t_cV [(.int x0)] [(.ref b1), (.ref b1)] 2 X6 u hZ5 hown5 (wd hw 84 rfl) (m_14 hw) rfl ((Exa.ext E5 (A2.keep Kq3)).keep Kq6) (rm_a13_12 l Z a0 hw [] G GG b2 x0 b3q1q3 k3q1q3 T6.heap O6_ p6_1 hD p6_2 p6_0 p6_3 ((Exa.ext E5 (A2.keep Kq3)).keep Kq6) g_b3q1q3 (neL A2.lt p3_3) g_b2) rfl d1_17 rfl rfl (by decide) ?_
    intro v265 T265 L265 Lc265 X265 hQ265 l265
    obtain ⟨rfl, Nq265, Kq265, p265_0, p265_1, p265_2, p265_3⟩ := hQ265
    have O265_ := extKeep O6_ Kq265 (allS g_b2 (allS g_b3q1q3 all0))
    have sf266 := (Safe.keep Kq6 (sfS sf10 (sfS sf8 sf0)) CR5.1 sf8)
    have sf267 := (Safe.keep Kq6 (sfS sf10 (sfS sf8 sf0)) CR5.1 sf10)
    have CR265 := CHr.trans CR6 (CHr.keep Kq265 (sfS sf267 (sfS sf266 sf0)) CR6.1)
    have K265 := Keep.trans K6 Kq265 (allS (Or.inr sz_b2) (allS (Or.inr sz_b3q1q3) all0))
    have N265_ := frA l265 N6_ Nq265
    have f268 := (((Exa.ext E5 (A2.keep Kq3)).keep Kq6).keep Kq265)
    refine t_cV [] [(.ref b1), (.ref b1)] 2 X265 u hZ5 hown5 (wd hw 106 rfl) (m_23 hw) rfl f268 (rm_a18_3 l Z a0 hw [] G GG b2 b3q1q3 k3q1q3 (45 : Int32) (bq x0 2) (bq x0 1) (bq x0 0) T265.heap O265_ f268 p265_2 p265_1 p265_3 p265_0) rfl d1_20 rfl rfl (by decide) ?_
    intro v269 T269 L269 Lc269 X269 hQ269 l269
    obtain ⟨b1q269, b2q2q6q1q2q269, k2q2q6q1q2q269, rfl, Nq269, Kq269, p269_0, p269_1, p269_2, p269_3, p269_4, p269_5, p269_6, p269_7⟩ := hQ269
    have O269_ := extKeep O265_ Kq269 all0
    have CR269 := CHr.trans CR265 (CHr.keep Kq269 sf0 CR265.1)
    have K269 := Keep.trans K265 Kq269 all0
    have N269_ := frA l269 N265_ Nq269
    have g_b1q269 := Nat.le_trans O265_.1 p269_0
    have sz_b1q269 := Nat.le_trans K265.1 p269_0
    have g_b2q2q6q1q2q269 := Nat.le_trans O265_.1 p269_4
    have sz_b2q2q6q1q2q269 := Nat.le_trans K265.1 p269_4
    refine t_iC X269 u d1_23  ?_
    refine t_nl X269 u d1_24  ?_
    have f270 := ((Exa.ext E5 ((Exa.ext E2 A1).keep Kq3)).keep Kq6)
    have f271 := (Unt.keep Kq6 (ninS (neE A1.lt hb2) (ninS (neL (Exa.ext E2 A1).lt p3_3) nin0)) (Unt.ext E5 (Unt.keep Kq3 (ninS (neE A1.lt hb2) nin0) (Unt.ext E2 U1))))
    have f272 := (Unt.keep Kq269 nin0 (Unt.keep Kq265 (ninS (neE A1.lt hb2) (ninS (neL (Exa.ext E2 A1).lt p3_3) nin0)) f271))
    have f273 := ((Fld.ext E5 ((Fld.ext E2 F1_backtrace).keep Kq3 (ninS (neE A1.lt hb2) nin0))).keep Kq6 (ninS (neE A1.lt hb2) (ninS (neL (Exa.ext E2 A1).lt p3_3) nin0)))
    have f274 := ((f273.keep Kq265 (ninS (neE A1.lt hb2) (ninS (neL (Exa.ext E2 A1).lt p3_3) nin0))).keep Kq269 nin0)
    obtain ⟨_, _, ⟨T275, L275, k275, n275⟩, -, X275, ⟨Lc275, hQ275, l275, y275, z275⟩, st275⟩ := X269.specialBack hx (y := (⟨"com/example/layout_to_rows/layouttorows/harvest/FetchException", "<init>", "(Ljava/lang/String;ZLjava/io/IOException;)V"⟩ : MethodName)) rfl hown5 (mvT hZ5 (wd hw 149 rfl)) (mvT hZ5 (wd hw 150 rfl)) (mvT hZ5 (wd hw 151 rfl)) (by decide) (backOfKL (W := 1) (rm_fi l Z a0 hw [] G GG b1 b1q269 T269.heap O269_ hl g_b1 ((f270.keep Kq265).keep Kq269) f272 f274) hZ5 (wd hw 151 rfl) (wd hw 2 rfl) (by decide) (by decide) (Vm.MethodsKnown.alikeC S5.1.alike hTK) (Vm.FramesKnown.alikeC S5.1.alike hBl)) (g := (mkF m 25 #[.val (.int x0)] [.null, v_1, (.ref b1q269), (.ref b1), (.ref b1)])) rfl (by rw [hml]; rfl) (Steps.refl _) (a := b1) (argsL := [(.ref b1q269), v_1, .null]) (rest := [(.ref b1)]) (lenOf pd_LLjava_lang_String_ZLjava_io_IOException_RV rfl) rfl (by show 2 * 0 + _ ≤ _; exact Nat.le_of_eq rfl) (hb hby d1_25) (fun _ _ => ⟨rfl, rfl, (by decide : 7 + 1 ≤ _), (by decide : 74 + 2752 ≤ _)⟩)
    dsimp only [Pt.U, Pt.locs, Pt.cells, Pt.slots] at X275 l275 y275 z275 st275 hQ275
    subst y275 z275
    obtain ⟨rfl, Nq275, Kq275, pE275, pU275, pM275, pC275, pA275⟩ := hQ275
    have O275_ := extKeep O269_ Kq275 (allS g_b1 all0)
    have sf276 := (Safe.ext E1 CR0.1 (Safe.new (Nat.le_of_eq hb1.symm)))
    have sf277 := (Safe.ext E2 CR1.1 sf276)
    have sf278 := (Safe.keep Kq3 (sfS sf4 sf0) CR2.1 sf277)
    have sf279 := (CHr.safe hC5 ((Exa.ext E2 A1).keep Kq3).lt sf278)
    have sf280 := (Safe.keep Kq6 (sfS sf10 (sfS sf8 sf0)) CR5.1 sf279)
    have sf281 := (Safe.keep Kq265 (sfS sf267 (sfS sf266 sf0)) CR6.1 sf280)
    have sf282 := (Safe.keep Kq269 sf0 CR265.1 sf281)
    have CR275 := CHr.trans CR269 (CHr.keep Kq275 (sfS sf282 sf0) CR269.1)
    have K275 := Keep.trans K269 Kq275 (allS (Or.inr sz_b1) all0)
    have N275_ := frA l275 N269_ Nq275
    refine Go.trans st275 ?_
    have f283 := (p269_3.keep Kq275 (ninS (Ne.symm (neL (((Exa.ext E5 ((Exa.ext E2 A1).keep Kq3)).keep Kq6).keep Kq265).lt p269_0)) nin0))
    have f284 := (p269_6.keep Kq275 (ninS (Ne.symm (neL (((Exa.ext E5 ((Exa.ext E2 A1).keep Kq3)).keep Kq6).keep Kq265).lt p269_4)) nin0))
    have f285 := (p269_2.keep Kq275 (ninS (Ne.symm (neL (((Exa.ext E5 ((Exa.ext E2 A1).keep Kq3)).keep Kq6).keep Kq265).lt p269_0)) nin0))
    exact Go.retAH (endH hh rfl X275 hZ5 hEL CR275) X275 S5 (Nat.le_trans (Nat.le_trans (Nat.le_trans (Nat.le_trans kq5 Kq6.1) Kq265.1) Kq269.1) Kq275.1) hx hret rfl rfl hlk (hb hby d1_28) (by decide) (by decide) ⟨b1, b1q269, b2q2q6q1q2q269, k2q2q6q1q2q269, (11 : Int32), [v_115, v_116, v_97, v_116, v_117, v_115, v_32, v_45, (.int (bq x0 2)), (.int (bq x0 1)), (.int (bq x0 0))], rfl, N275_, K275, ⟨pE275, pU275, pA275, pC275, pM275, (p269_1.keep Kq275), f285, f283, f284⟩, ⟨3, by decide, by decide, hD.2.2, Or.inr hD.2.1, Or.inr ⟨hD.1, rfl, rfl⟩⟩⟩
  · refine t_iN X6 u d1_16 rfl ?_
    refine t_cV [(.int x0)] [(.ref b1), (.ref b1)] 2 X6 u hZ5 hown5 (wd hw 84 rfl) (m_14 hw) rfl ((Exa.ext E5 (A2.keep Kq3)).keep Kq6) (rm_a13_13 l Z a0 hw [] G GG b2 x0 b3q1q3 k3q1q3 T6.heap O6_ p6_1 hD p6_2 p6_0 p6_3 ((Exa.ext E5 (A2.keep Kq3)).keep Kq6) g_b3q1q3 (neL A2.lt p3_3) g_b2) rfl d1_17 rfl rfl (by decide) ?_
    intro v286 T286 L286 Lc286 X286 hQ286 l286
    obtain ⟨rfl, Nq286, Kq286, p286_0, p286_1, p286_2, p286_3⟩ := hQ286
    have O286_ := extKeep O6_ Kq286 (allS g_b2 (allS g_b3q1q3 all0))
    have sf287 := (Safe.keep Kq6 (sfS sf10 (sfS sf8 sf0)) CR5.1 sf8)
    have sf288 := (Safe.keep Kq6 (sfS sf10 (sfS sf8 sf0)) CR5.1 sf10)
    have CR286 := CHr.trans CR6 (CHr.keep Kq286 (sfS sf288 (sfS sf287 sf0)) CR6.1)
    have K286 := Keep.trans K6 Kq286 (allS (Or.inr sz_b2) (allS (Or.inr sz_b3q1q3) all0))
    have N286_ := frA l286 N6_ Nq286
    have f289 := (((Exa.ext E5 (A2.keep Kq3)).keep Kq6).keep Kq286)
    refine t_cV [] [(.ref b1), (.ref b1)] 2 X286 u hZ5 hown5 (wd hw 106 rfl) (m_23 hw) rfl f289 (rm_a18_4 l Z a0 hw [] G GG b2 b3q1q3 k3q1q3 (45 : Int32) (bq x0 3) (bq x0 2) (bq x0 1) (bq x0 0) T286.heap O286_ f289 p286_2 p286_1 p286_3 p286_0) rfl d1_20 rfl rfl (by decide) ?_
    intro v290 T290 L290 Lc290 X290 hQ290 l290
    obtain ⟨b1q290, b2q2q6q1q2q290, k2q2q6q1q2q290, rfl, Nq290, Kq290, p290_0, p290_1, p290_2, p290_3, p290_4, p290_5, p290_6, p290_7⟩ := hQ290
    have O290_ := extKeep O286_ Kq290 all0
    have CR290 := CHr.trans CR286 (CHr.keep Kq290 sf0 CR286.1)
    have K290 := Keep.trans K286 Kq290 all0
    have N290_ := frA l290 N286_ Nq290
    have g_b1q290 := Nat.le_trans O286_.1 p290_0
    have sz_b1q290 := Nat.le_trans K286.1 p290_0
    have g_b2q2q6q1q2q290 := Nat.le_trans O286_.1 p290_4
    have sz_b2q2q6q1q2q290 := Nat.le_trans K286.1 p290_4
    refine t_iC X290 u d1_23  ?_
    refine t_nl X290 u d1_24  ?_
    have f291 := ((Exa.ext E5 ((Exa.ext E2 A1).keep Kq3)).keep Kq6)
    have f292 := (Unt.keep Kq6 (ninS (neE A1.lt hb2) (ninS (neL (Exa.ext E2 A1).lt p3_3) nin0)) (Unt.ext E5 (Unt.keep Kq3 (ninS (neE A1.lt hb2) nin0) (Unt.ext E2 U1))))
    have f293 := (Unt.keep Kq290 nin0 (Unt.keep Kq286 (ninS (neE A1.lt hb2) (ninS (neL (Exa.ext E2 A1).lt p3_3) nin0)) f292))
    have f294 := ((Fld.ext E5 ((Fld.ext E2 F1_backtrace).keep Kq3 (ninS (neE A1.lt hb2) nin0))).keep Kq6 (ninS (neE A1.lt hb2) (ninS (neL (Exa.ext E2 A1).lt p3_3) nin0)))
    have f295 := ((f294.keep Kq286 (ninS (neE A1.lt hb2) (ninS (neL (Exa.ext E2 A1).lt p3_3) nin0))).keep Kq290 nin0)
    obtain ⟨_, _, ⟨T296, L296, k296, n296⟩, -, X296, ⟨Lc296, hQ296, l296, y296, z296⟩, st296⟩ := X290.specialBack hx (y := (⟨"com/example/layout_to_rows/layouttorows/harvest/FetchException", "<init>", "(Ljava/lang/String;ZLjava/io/IOException;)V"⟩ : MethodName)) rfl hown5 (mvT hZ5 (wd hw 149 rfl)) (mvT hZ5 (wd hw 150 rfl)) (mvT hZ5 (wd hw 151 rfl)) (by decide) (backOfKL (W := 1) (rm_fi l Z a0 hw [] G GG b1 b1q290 T290.heap O290_ hl g_b1 ((f291.keep Kq286).keep Kq290) f293 f295) hZ5 (wd hw 151 rfl) (wd hw 2 rfl) (by decide) (by decide) (Vm.MethodsKnown.alikeC S5.1.alike hTK) (Vm.FramesKnown.alikeC S5.1.alike hBl)) (g := (mkF m 25 #[.val (.int x0)] [.null, v_1, (.ref b1q290), (.ref b1), (.ref b1)])) rfl (by rw [hml]; rfl) (Steps.refl _) (a := b1) (argsL := [(.ref b1q290), v_1, .null]) (rest := [(.ref b1)]) (lenOf pd_LLjava_lang_String_ZLjava_io_IOException_RV rfl) rfl (by show 2 * 0 + _ ≤ _; exact Nat.le_of_eq rfl) (hb hby d1_25) (fun _ _ => ⟨rfl, rfl, (by decide : 7 + 1 ≤ _), (by decide : 75 + 2752 ≤ _)⟩)
    dsimp only [Pt.U, Pt.locs, Pt.cells, Pt.slots] at X296 l296 y296 z296 st296 hQ296
    subst y296 z296
    obtain ⟨rfl, Nq296, Kq296, pE296, pU296, pM296, pC296, pA296⟩ := hQ296
    have O296_ := extKeep O290_ Kq296 (allS g_b1 all0)
    have sf297 := (Safe.ext E1 CR0.1 (Safe.new (Nat.le_of_eq hb1.symm)))
    have sf298 := (Safe.ext E2 CR1.1 sf297)
    have sf299 := (Safe.keep Kq3 (sfS sf4 sf0) CR2.1 sf298)
    have sf300 := (CHr.safe hC5 ((Exa.ext E2 A1).keep Kq3).lt sf299)
    have sf301 := (Safe.keep Kq6 (sfS sf10 (sfS sf8 sf0)) CR5.1 sf300)
    have sf302 := (Safe.keep Kq286 (sfS sf288 (sfS sf287 sf0)) CR6.1 sf301)
    have sf303 := (Safe.keep Kq290 sf0 CR286.1 sf302)
    have CR296 := CHr.trans CR290 (CHr.keep Kq296 (sfS sf303 sf0) CR290.1)
    have K296 := Keep.trans K290 Kq296 (allS (Or.inr sz_b1) all0)
    have N296_ := frA l296 N290_ Nq296
    refine Go.trans st296 ?_
    have f304 := (p290_3.keep Kq296 (ninS (Ne.symm (neL (((Exa.ext E5 ((Exa.ext E2 A1).keep Kq3)).keep Kq6).keep Kq286).lt p290_0)) nin0))
    have f305 := (p290_6.keep Kq296 (ninS (Ne.symm (neL (((Exa.ext E5 ((Exa.ext E2 A1).keep Kq3)).keep Kq6).keep Kq286).lt p290_4)) nin0))
    have f306 := (p290_2.keep Kq296 (ninS (Ne.symm (neL (((Exa.ext E5 ((Exa.ext E2 A1).keep Kq3)).keep Kq6).keep Kq286).lt p290_0)) nin0))
    exact Go.retAH (endH hh rfl X296 hZ5 hEL CR296) X296 S5 (Nat.le_trans (Nat.le_trans (Nat.le_trans (Nat.le_trans kq5 Kq6.1) Kq286.1) Kq290.1) Kq296.1) hx hret rfl rfl hlk (hb hby d1_28) (by decide) (by decide) ⟨b1, b1q290, b2q2q6q1q2q290, k2q2q6q1q2q290, (12 : Int32), [v_115, v_116, v_97, v_116, v_117, v_115, v_32, v_45, (.int (bq x0 3)), (.int (bq x0 2)), (.int (bq x0 1)), (.int (bq x0 0))], rfl, N296_, K296, ⟨pE296, pU296, pA296, pC296, pM296, (p290_1.keep Kq296), f306, f304, f305⟩, ⟨4, by decide, by decide, hD.2.2, Or.inr hD.2.1, Or.inr ⟨hD.1, rfl, rfl⟩⟩⟩
  · refine t_iN X6 u d1_16 rfl ?_
    refine t_cV [(.int x0)] [(.ref b1), (.ref b1)] 2 X6 u hZ5 hown5 (wd hw 84 rfl) (m_14 hw) rfl ((Exa.ext E5 (A2.keep Kq3)).keep Kq6) (rm_a13_14 l Z a0 hw [] G GG b2 x0 b3q1q3 k3q1q3 T6.heap O6_ p6_1 hD p6_2 p6_0 p6_3 ((Exa.ext E5 (A2.keep Kq3)).keep Kq6) g_b3q1q3 (neL A2.lt p3_3) g_b2) rfl d1_17 rfl rfl (by decide) ?_
    intro v307 T307 L307 Lc307 X307 hQ307 l307
    obtain ⟨rfl, Nq307, Kq307, p307_0, p307_1, p307_2, p307_3⟩ := hQ307
    have O307_ := extKeep O6_ Kq307 (allS g_b2 (allS g_b3q1q3 all0))
    have sf308 := (Safe.keep Kq6 (sfS sf10 (sfS sf8 sf0)) CR5.1 sf8)
    have sf309 := (Safe.keep Kq6 (sfS sf10 (sfS sf8 sf0)) CR5.1 sf10)
    have CR307 := CHr.trans CR6 (CHr.keep Kq307 (sfS sf309 (sfS sf308 sf0)) CR6.1)
    have K307 := Keep.trans K6 Kq307 (allS (Or.inr sz_b2) (allS (Or.inr sz_b3q1q3) all0))
    have N307_ := frA l307 N6_ Nq307
    have f310 := (((Exa.ext E5 (A2.keep Kq3)).keep Kq6).keep Kq307)
    refine t_cV [] [(.ref b1), (.ref b1)] 2 X307 u hZ5 hown5 (wd hw 106 rfl) (m_23 hw) rfl f310 (rm_a18_5 l Z a0 hw [] G GG b2 b3q1q3 k3q1q3 (45 : Int32) (bq x0 4) (bq x0 3) (bq x0 2) (bq x0 1) (bq x0 0) T307.heap O307_ f310 p307_2 p307_1 p307_3 p307_0) rfl d1_20 rfl rfl (by decide) ?_
    intro v311 T311 L311 Lc311 X311 hQ311 l311
    obtain ⟨b1q311, b2q2q6q1q2q311, k2q2q6q1q2q311, rfl, Nq311, Kq311, p311_0, p311_1, p311_2, p311_3, p311_4, p311_5, p311_6, p311_7⟩ := hQ311
    have O311_ := extKeep O307_ Kq311 all0
    have CR311 := CHr.trans CR307 (CHr.keep Kq311 sf0 CR307.1)
    have K311 := Keep.trans K307 Kq311 all0
    have N311_ := frA l311 N307_ Nq311
    have g_b1q311 := Nat.le_trans O307_.1 p311_0
    have sz_b1q311 := Nat.le_trans K307.1 p311_0
    have g_b2q2q6q1q2q311 := Nat.le_trans O307_.1 p311_4
    have sz_b2q2q6q1q2q311 := Nat.le_trans K307.1 p311_4
    refine t_iC X311 u d1_23  ?_
    refine t_nl X311 u d1_24  ?_
    have f312 := ((Exa.ext E5 ((Exa.ext E2 A1).keep Kq3)).keep Kq6)
    have f313 := (Unt.keep Kq6 (ninS (neE A1.lt hb2) (ninS (neL (Exa.ext E2 A1).lt p3_3) nin0)) (Unt.ext E5 (Unt.keep Kq3 (ninS (neE A1.lt hb2) nin0) (Unt.ext E2 U1))))
    have f314 := (Unt.keep Kq311 nin0 (Unt.keep Kq307 (ninS (neE A1.lt hb2) (ninS (neL (Exa.ext E2 A1).lt p3_3) nin0)) f313))
    have f315 := ((Fld.ext E5 ((Fld.ext E2 F1_backtrace).keep Kq3 (ninS (neE A1.lt hb2) nin0))).keep Kq6 (ninS (neE A1.lt hb2) (ninS (neL (Exa.ext E2 A1).lt p3_3) nin0)))
    have f316 := ((f315.keep Kq307 (ninS (neE A1.lt hb2) (ninS (neL (Exa.ext E2 A1).lt p3_3) nin0))).keep Kq311 nin0)
    obtain ⟨_, _, ⟨T317, L317, k317, n317⟩, -, X317, ⟨Lc317, hQ317, l317, y317, z317⟩, st317⟩ := X311.specialBack hx (y := (⟨"com/example/layout_to_rows/layouttorows/harvest/FetchException", "<init>", "(Ljava/lang/String;ZLjava/io/IOException;)V"⟩ : MethodName)) rfl hown5 (mvT hZ5 (wd hw 149 rfl)) (mvT hZ5 (wd hw 150 rfl)) (mvT hZ5 (wd hw 151 rfl)) (by decide) (backOfKL (W := 1) (rm_fi l Z a0 hw [] G GG b1 b1q311 T311.heap O311_ hl g_b1 ((f312.keep Kq307).keep Kq311) f314 f316) hZ5 (wd hw 151 rfl) (wd hw 2 rfl) (by decide) (by decide) (Vm.MethodsKnown.alikeC S5.1.alike hTK) (Vm.FramesKnown.alikeC S5.1.alike hBl)) (g := (mkF m 25 #[.val (.int x0)] [.null, v_1, (.ref b1q311), (.ref b1), (.ref b1)])) rfl (by rw [hml]; rfl) (Steps.refl _) (a := b1) (argsL := [(.ref b1q311), v_1, .null]) (rest := [(.ref b1)]) (lenOf pd_LLjava_lang_String_ZLjava_io_IOException_RV rfl) rfl (by show 2 * 0 + _ ≤ _; exact Nat.le_of_eq rfl) (hb hby d1_25) (fun _ _ => ⟨rfl, rfl, (by decide : 7 + 1 ≤ _), (by decide : 76 + 2752 ≤ _)⟩)
    dsimp only [Pt.U, Pt.locs, Pt.cells, Pt.slots] at X317 l317 y317 z317 st317 hQ317
    subst y317 z317
    obtain ⟨rfl, Nq317, Kq317, pE317, pU317, pM317, pC317, pA317⟩ := hQ317
    have O317_ := extKeep O311_ Kq317 (allS g_b1 all0)
    have sf318 := (Safe.ext E1 CR0.1 (Safe.new (Nat.le_of_eq hb1.symm)))
    have sf319 := (Safe.ext E2 CR1.1 sf318)
    have sf320 := (Safe.keep Kq3 (sfS sf4 sf0) CR2.1 sf319)
    have sf321 := (CHr.safe hC5 ((Exa.ext E2 A1).keep Kq3).lt sf320)
    have sf322 := (Safe.keep Kq6 (sfS sf10 (sfS sf8 sf0)) CR5.1 sf321)
    have sf323 := (Safe.keep Kq307 (sfS sf309 (sfS sf308 sf0)) CR6.1 sf322)
    have sf324 := (Safe.keep Kq311 sf0 CR307.1 sf323)
    have CR317 := CHr.trans CR311 (CHr.keep Kq317 (sfS sf324 sf0) CR311.1)
    have K317 := Keep.trans K311 Kq317 (allS (Or.inr sz_b1) all0)
    have N317_ := frA l317 N311_ Nq317
    refine Go.trans st317 ?_
    have f325 := (p311_3.keep Kq317 (ninS (Ne.symm (neL (((Exa.ext E5 ((Exa.ext E2 A1).keep Kq3)).keep Kq6).keep Kq307).lt p311_0)) nin0))
    have f326 := (p311_6.keep Kq317 (ninS (Ne.symm (neL (((Exa.ext E5 ((Exa.ext E2 A1).keep Kq3)).keep Kq6).keep Kq307).lt p311_4)) nin0))
    have f327 := (p311_2.keep Kq317 (ninS (Ne.symm (neL (((Exa.ext E5 ((Exa.ext E2 A1).keep Kq3)).keep Kq6).keep Kq307).lt p311_0)) nin0))
    exact Go.retAH (endH hh rfl X317 hZ5 hEL CR317) X317 S5 (Nat.le_trans (Nat.le_trans (Nat.le_trans (Nat.le_trans kq5 Kq6.1) Kq307.1) Kq311.1) Kq317.1) hx hret rfl rfl hlk (hb hby d1_28) (by decide) (by decide) ⟨b1, b1q311, b2q2q6q1q2q311, k2q2q6q1q2q311, (13 : Int32), [v_115, v_116, v_97, v_116, v_117, v_115, v_32, v_45, (.int (bq x0 4)), (.int (bq x0 3)), (.int (bq x0 2)), (.int (bq x0 1)), (.int (bq x0 0))], rfl, N317_, K317, ⟨pE317, pU317, pA317, pC317, pM317, (p311_1.keep Kq317), f327, f325, f326⟩, ⟨5, by decide, by decide, hD.2.2, Or.inr hD.2.1, Or.inr ⟨hD.1, rfl, rfl⟩⟩⟩
  · refine t_iN X6 u d1_16 rfl ?_
    refine t_cV [(.int x0)] [(.ref b1), (.ref b1)] 2 X6 u hZ5 hown5 (wd hw 84 rfl) (m_14 hw) rfl ((Exa.ext E5 (A2.keep Kq3)).keep Kq6) (rm_a13_15 l Z a0 hw [] G GG b2 x0 b3q1q3 k3q1q3 T6.heap O6_ p6_1 hD p6_2 p6_0 p6_3 ((Exa.ext E5 (A2.keep Kq3)).keep Kq6) g_b3q1q3 (neL A2.lt p3_3) g_b2) rfl d1_17 rfl rfl (by decide) ?_
    intro v328 T328 L328 Lc328 X328 hQ328 l328
    obtain ⟨rfl, Nq328, Kq328, p328_0, p328_1, p328_2, p328_3⟩ := hQ328
    have O328_ := extKeep O6_ Kq328 (allS g_b2 (allS g_b3q1q3 all0))
    have sf329 := (Safe.keep Kq6 (sfS sf10 (sfS sf8 sf0)) CR5.1 sf8)
    have sf330 := (Safe.keep Kq6 (sfS sf10 (sfS sf8 sf0)) CR5.1 sf10)
    have CR328 := CHr.trans CR6 (CHr.keep Kq328 (sfS sf330 (sfS sf329 sf0)) CR6.1)
    have K328 := Keep.trans K6 Kq328 (allS (Or.inr sz_b2) (allS (Or.inr sz_b3q1q3) all0))
    have N328_ := frA l328 N6_ Nq328
    have f331 := (((Exa.ext E5 (A2.keep Kq3)).keep Kq6).keep Kq328)
    refine t_cV [] [(.ref b1), (.ref b1)] 2 X328 u hZ5 hown5 (wd hw 106 rfl) (m_23 hw) rfl f331 (rm_a18_6 l Z a0 hw [] G GG b2 b3q1q3 k3q1q3 (45 : Int32) (bq x0 5) (bq x0 4) (bq x0 3) (bq x0 2) (bq x0 1) (bq x0 0) T328.heap O328_ f331 p328_2 p328_1 p328_3 p328_0) rfl d1_20 rfl rfl (by decide) ?_
    intro v332 T332 L332 Lc332 X332 hQ332 l332
    obtain ⟨b1q332, b2q2q6q1q2q332, k2q2q6q1q2q332, rfl, Nq332, Kq332, p332_0, p332_1, p332_2, p332_3, p332_4, p332_5, p332_6, p332_7⟩ := hQ332
    have O332_ := extKeep O328_ Kq332 all0
    have CR332 := CHr.trans CR328 (CHr.keep Kq332 sf0 CR328.1)
    have K332 := Keep.trans K328 Kq332 all0
    have N332_ := frA l332 N328_ Nq332
    have g_b1q332 := Nat.le_trans O328_.1 p332_0
    have sz_b1q332 := Nat.le_trans K328.1 p332_0
    have g_b2q2q6q1q2q332 := Nat.le_trans O328_.1 p332_4
    have sz_b2q2q6q1q2q332 := Nat.le_trans K328.1 p332_4
    refine t_iC X332 u d1_23  ?_
    refine t_nl X332 u d1_24  ?_
    have f333 := ((Exa.ext E5 ((Exa.ext E2 A1).keep Kq3)).keep Kq6)
    have f334 := (Unt.keep Kq6 (ninS (neE A1.lt hb2) (ninS (neL (Exa.ext E2 A1).lt p3_3) nin0)) (Unt.ext E5 (Unt.keep Kq3 (ninS (neE A1.lt hb2) nin0) (Unt.ext E2 U1))))
    have f335 := (Unt.keep Kq332 nin0 (Unt.keep Kq328 (ninS (neE A1.lt hb2) (ninS (neL (Exa.ext E2 A1).lt p3_3) nin0)) f334))
    have f336 := ((Fld.ext E5 ((Fld.ext E2 F1_backtrace).keep Kq3 (ninS (neE A1.lt hb2) nin0))).keep Kq6 (ninS (neE A1.lt hb2) (ninS (neL (Exa.ext E2 A1).lt p3_3) nin0)))
    have f337 := ((f336.keep Kq328 (ninS (neE A1.lt hb2) (ninS (neL (Exa.ext E2 A1).lt p3_3) nin0))).keep Kq332 nin0)
    obtain ⟨_, _, ⟨T338, L338, k338, n338⟩, -, X338, ⟨Lc338, hQ338, l338, y338, z338⟩, st338⟩ := X332.specialBack hx (y := (⟨"com/example/layout_to_rows/layouttorows/harvest/FetchException", "<init>", "(Ljava/lang/String;ZLjava/io/IOException;)V"⟩ : MethodName)) rfl hown5 (mvT hZ5 (wd hw 149 rfl)) (mvT hZ5 (wd hw 150 rfl)) (mvT hZ5 (wd hw 151 rfl)) (by decide) (backOfKL (W := 1) (rm_fi l Z a0 hw [] G GG b1 b1q332 T332.heap O332_ hl g_b1 ((f333.keep Kq328).keep Kq332) f335 f337) hZ5 (wd hw 151 rfl) (wd hw 2 rfl) (by decide) (by decide) (Vm.MethodsKnown.alikeC S5.1.alike hTK) (Vm.FramesKnown.alikeC S5.1.alike hBl)) (g := (mkF m 25 #[.val (.int x0)] [.null, v_1, (.ref b1q332), (.ref b1), (.ref b1)])) rfl (by rw [hml]; rfl) (Steps.refl _) (a := b1) (argsL := [(.ref b1q332), v_1, .null]) (rest := [(.ref b1)]) (lenOf pd_LLjava_lang_String_ZLjava_io_IOException_RV rfl) rfl (by show 2 * 0 + _ ≤ _; exact Nat.le_of_eq rfl) (hb hby d1_25) (fun _ _ => ⟨rfl, rfl, (by decide : 7 + 1 ≤ _), (by decide : 77 + 2752 ≤ _)⟩)
    dsimp only [Pt.U, Pt.locs, Pt.cells, Pt.slots] at X338 l338 y338 z338 st338 hQ338
    subst y338 z338
    obtain ⟨rfl, Nq338, Kq338, pE338, pU338, pM338, pC338, pA338⟩ := hQ338
    have O338_ := extKeep O332_ Kq338 (allS g_b1 all0)
    have sf339 := (Safe.ext E1 CR0.1 (Safe.new (Nat.le_of_eq hb1.symm)))
    have sf340 := (Safe.ext E2 CR1.1 sf339)
    have sf341 := (Safe.keep Kq3 (sfS sf4 sf0) CR2.1 sf340)
    have sf342 := (CHr.safe hC5 ((Exa.ext E2 A1).keep Kq3).lt sf341)
    have sf343 := (Safe.keep Kq6 (sfS sf10 (sfS sf8 sf0)) CR5.1 sf342)
    have sf344 := (Safe.keep Kq328 (sfS sf330 (sfS sf329 sf0)) CR6.1 sf343)
    have sf345 := (Safe.keep Kq332 sf0 CR328.1 sf344)
    have CR338 := CHr.trans CR332 (CHr.keep Kq338 (sfS sf345 sf0) CR332.1)
    have K338 := Keep.trans K332 Kq338 (allS (Or.inr sz_b1) all0)
    have N338_ := frA l338 N332_ Nq338
    refine Go.trans st338 ?_
    have f346 := (p332_3.keep Kq338 (ninS (Ne.symm (neL (((Exa.ext E5 ((Exa.ext E2 A1).keep Kq3)).keep Kq6).keep Kq328).lt p332_0)) nin0))
    have f347 := (p332_6.keep Kq338 (ninS (Ne.symm (neL (((Exa.ext E5 ((Exa.ext E2 A1).keep Kq3)).keep Kq6).keep Kq328).lt p332_4)) nin0))
    have f348 := (p332_2.keep Kq338 (ninS (Ne.symm (neL (((Exa.ext E5 ((Exa.ext E2 A1).keep Kq3)).keep Kq6).keep Kq328).lt p332_0)) nin0))
    exact Go.retAH (endH hh rfl X338 hZ5 hEL CR338) X338 S5 (Nat.le_trans (Nat.le_trans (Nat.le_trans (Nat.le_trans kq5 Kq6.1) Kq328.1) Kq332.1) Kq338.1) hx hret rfl rfl hlk (hb hby d1_28) (by decide) (by decide) ⟨b1, b1q332, b2q2q6q1q2q332, k2q2q6q1q2q332, (14 : Int32), [v_115, v_116, v_97, v_116, v_117, v_115, v_32, v_45, (.int (bq x0 5)), (.int (bq x0 4)), (.int (bq x0 3)), (.int (bq x0 2)), (.int (bq x0 1)), (.int (bq x0 0))], rfl, N338_, K338, ⟨pE338, pU338, pA338, pC338, pM338, (p332_1.keep Kq338), f348, f346, f347⟩, ⟨6, by decide, by decide, hD.2.2, Or.inr hD.2.1, Or.inr ⟨hD.1, rfl, rfl⟩⟩⟩
  · refine t_iN X6 u d1_16 rfl ?_
    refine t_cV [(.int x0)] [(.ref b1), (.ref b1)] 2 X6 u hZ5 hown5 (wd hw 84 rfl) (m_14 hw) rfl ((Exa.ext E5 (A2.keep Kq3)).keep Kq6) (rm_a13_16 l Z a0 hw [] G GG b2 x0 b3q1q3 k3q1q3 T6.heap O6_ p6_1 hD p6_2 p6_0 p6_3 ((Exa.ext E5 (A2.keep Kq3)).keep Kq6) g_b3q1q3 (neL A2.lt p3_3) g_b2) rfl d1_17 rfl rfl (by decide) ?_
    intro v349 T349 L349 Lc349 X349 hQ349 l349
    obtain ⟨rfl, Nq349, Kq349, p349_0, p349_1, p349_2, p349_3⟩ := hQ349
    have O349_ := extKeep O6_ Kq349 (allS g_b2 (allS g_b3q1q3 all0))
    have sf350 := (Safe.keep Kq6 (sfS sf10 (sfS sf8 sf0)) CR5.1 sf8)
    have sf351 := (Safe.keep Kq6 (sfS sf10 (sfS sf8 sf0)) CR5.1 sf10)
    have CR349 := CHr.trans CR6 (CHr.keep Kq349 (sfS sf351 (sfS sf350 sf0)) CR6.1)
    have K349 := Keep.trans K6 Kq349 (allS (Or.inr sz_b2) (allS (Or.inr sz_b3q1q3) all0))
    have N349_ := frA l349 N6_ Nq349
    have f352 := (((Exa.ext E5 (A2.keep Kq3)).keep Kq6).keep Kq349)
    refine t_cV [] [(.ref b1), (.ref b1)] 2 X349 u hZ5 hown5 (wd hw 106 rfl) (m_23 hw) rfl f352 (rm_a18_7 l Z a0 hw [] G GG b2 b3q1q3 k3q1q3 (45 : Int32) (bq x0 6) (bq x0 5) (bq x0 4) (bq x0 3) (bq x0 2) (bq x0 1) (bq x0 0) T349.heap O349_ f352 p349_2 p349_1 p349_3 p349_0) rfl d1_20 rfl rfl (by decide) ?_
    intro v353 T353 L353 Lc353 X353 hQ353 l353
    obtain ⟨b1q353, b2q2q6q1q2q353, k2q2q6q1q2q353, rfl, Nq353, Kq353, p353_0, p353_1, p353_2, p353_3, p353_4, p353_5, p353_6, p353_7⟩ := hQ353
    have O353_ := extKeep O349_ Kq353 all0
    have CR353 := CHr.trans CR349 (CHr.keep Kq353 sf0 CR349.1)
    have K353 := Keep.trans K349 Kq353 all0
    have N353_ := frA l353 N349_ Nq353
    have g_b1q353 := Nat.le_trans O349_.1 p353_0
    have sz_b1q353 := Nat.le_trans K349.1 p353_0
    have g_b2q2q6q1q2q353 := Nat.le_trans O349_.1 p353_4
    have sz_b2q2q6q1q2q353 := Nat.le_trans K349.1 p353_4
    refine t_iC X353 u d1_23  ?_
    refine t_nl X353 u d1_24  ?_
    have f354 := ((Exa.ext E5 ((Exa.ext E2 A1).keep Kq3)).keep Kq6)
    have f355 := (Unt.keep Kq6 (ninS (neE A1.lt hb2) (ninS (neL (Exa.ext E2 A1).lt p3_3) nin0)) (Unt.ext E5 (Unt.keep Kq3 (ninS (neE A1.lt hb2) nin0) (Unt.ext E2 U1))))
    have f356 := (Unt.keep Kq353 nin0 (Unt.keep Kq349 (ninS (neE A1.lt hb2) (ninS (neL (Exa.ext E2 A1).lt p3_3) nin0)) f355))
    have f357 := ((Fld.ext E5 ((Fld.ext E2 F1_backtrace).keep Kq3 (ninS (neE A1.lt hb2) nin0))).keep Kq6 (ninS (neE A1.lt hb2) (ninS (neL (Exa.ext E2 A1).lt p3_3) nin0)))
    have f358 := ((f357.keep Kq349 (ninS (neE A1.lt hb2) (ninS (neL (Exa.ext E2 A1).lt p3_3) nin0))).keep Kq353 nin0)
    obtain ⟨_, _, ⟨T359, L359, k359, n359⟩, -, X359, ⟨Lc359, hQ359, l359, y359, z359⟩, st359⟩ := X353.specialBack hx (y := (⟨"com/example/layout_to_rows/layouttorows/harvest/FetchException", "<init>", "(Ljava/lang/String;ZLjava/io/IOException;)V"⟩ : MethodName)) rfl hown5 (mvT hZ5 (wd hw 149 rfl)) (mvT hZ5 (wd hw 150 rfl)) (mvT hZ5 (wd hw 151 rfl)) (by decide) (backOfKL (W := 1) (rm_fi l Z a0 hw [] G GG b1 b1q353 T353.heap O353_ hl g_b1 ((f354.keep Kq349).keep Kq353) f356 f358) hZ5 (wd hw 151 rfl) (wd hw 2 rfl) (by decide) (by decide) (Vm.MethodsKnown.alikeC S5.1.alike hTK) (Vm.FramesKnown.alikeC S5.1.alike hBl)) (g := (mkF m 25 #[.val (.int x0)] [.null, v_1, (.ref b1q353), (.ref b1), (.ref b1)])) rfl (by rw [hml]; rfl) (Steps.refl _) (a := b1) (argsL := [(.ref b1q353), v_1, .null]) (rest := [(.ref b1)]) (lenOf pd_LLjava_lang_String_ZLjava_io_IOException_RV rfl) rfl (by show 2 * 0 + _ ≤ _; exact Nat.le_of_eq rfl) (hb hby d1_25) (fun _ _ => ⟨rfl, rfl, (by decide : 7 + 1 ≤ _), (by decide : 78 + 2752 ≤ _)⟩)
    dsimp only [Pt.U, Pt.locs, Pt.cells, Pt.slots] at X359 l359 y359 z359 st359 hQ359
    subst y359 z359
    obtain ⟨rfl, Nq359, Kq359, pE359, pU359, pM359, pC359, pA359⟩ := hQ359
    have O359_ := extKeep O353_ Kq359 (allS g_b1 all0)
    have sf360 := (Safe.ext E1 CR0.1 (Safe.new (Nat.le_of_eq hb1.symm)))
    have sf361 := (Safe.ext E2 CR1.1 sf360)
    have sf362 := (Safe.keep Kq3 (sfS sf4 sf0) CR2.1 sf361)
    have sf363 := (CHr.safe hC5 ((Exa.ext E2 A1).keep Kq3).lt sf362)
    have sf364 := (Safe.keep Kq6 (sfS sf10 (sfS sf8 sf0)) CR5.1 sf363)
    have sf365 := (Safe.keep Kq349 (sfS sf351 (sfS sf350 sf0)) CR6.1 sf364)
    have sf366 := (Safe.keep Kq353 sf0 CR349.1 sf365)
    have CR359 := CHr.trans CR353 (CHr.keep Kq359 (sfS sf366 sf0) CR353.1)
    have K359 := Keep.trans K353 Kq359 (allS (Or.inr sz_b1) all0)
    have N359_ := frA l359 N353_ Nq359
    refine Go.trans st359 ?_
    have f367 := (p353_3.keep Kq359 (ninS (Ne.symm (neL (((Exa.ext E5 ((Exa.ext E2 A1).keep Kq3)).keep Kq6).keep Kq349).lt p353_0)) nin0))
    have f368 := (p353_6.keep Kq359 (ninS (Ne.symm (neL (((Exa.ext E5 ((Exa.ext E2 A1).keep Kq3)).keep Kq6).keep Kq349).lt p353_4)) nin0))
    have f369 := (p353_2.keep Kq359 (ninS (Ne.symm (neL (((Exa.ext E5 ((Exa.ext E2 A1).keep Kq3)).keep Kq6).keep Kq349).lt p353_0)) nin0))
    exact Go.retAH (endH hh rfl X359 hZ5 hEL CR359) X359 S5 (Nat.le_trans (Nat.le_trans (Nat.le_trans (Nat.le_trans kq5 Kq6.1) Kq349.1) Kq353.1) Kq359.1) hx hret rfl rfl hlk (hb hby d1_28) (by decide) (by decide) ⟨b1, b1q353, b2q2q6q1q2q353, k2q2q6q1q2q353, (15 : Int32), [v_115, v_116, v_97, v_116, v_117, v_115, v_32, v_45, (.int (bq x0 6)), (.int (bq x0 5)), (.int (bq x0 4)), (.int (bq x0 3)), (.int (bq x0 2)), (.int (bq x0 1)), (.int (bq x0 0))], rfl, N359_, K359, ⟨pE359, pU359, pA359, pC359, pM359, (p353_1.keep Kq359), f369, f367, f368⟩, ⟨7, by decide, by decide, hD.2.2, Or.inr hD.2.1, Or.inr ⟨hD.1, rfl, rfl⟩⟩⟩
  · refine t_iN X6 u d1_16 rfl ?_
    refine t_cV [(.int x0)] [(.ref b1), (.ref b1)] 2 X6 u hZ5 hown5 (wd hw 84 rfl) (m_14 hw) rfl ((Exa.ext E5 (A2.keep Kq3)).keep Kq6) (rm_a13_17 l Z a0 hw [] G GG b2 x0 b3q1q3 k3q1q3 T6.heap O6_ p6_1 hD p6_2 p6_0 p6_3 ((Exa.ext E5 (A2.keep Kq3)).keep Kq6) g_b3q1q3 (neL A2.lt p3_3) g_b2) rfl d1_17 rfl rfl (by decide) ?_
    intro v370 T370 L370 Lc370 X370 hQ370 l370
    obtain ⟨rfl, Nq370, Kq370, p370_0, p370_1, p370_2, p370_3⟩ := hQ370
    have O370_ := extKeep O6_ Kq370 (allS g_b2 (allS g_b3q1q3 all0))
    have sf371 := (Safe.keep Kq6 (sfS sf10 (sfS sf8 sf0)) CR5.1 sf8)
    have sf372 := (Safe.keep Kq6 (sfS sf10 (sfS sf8 sf0)) CR5.1 sf10)
    have CR370 := CHr.trans CR6 (CHr.keep Kq370 (sfS sf372 (sfS sf371 sf0)) CR6.1)
    have K370 := Keep.trans K6 Kq370 (allS (Or.inr sz_b2) (allS (Or.inr sz_b3q1q3) all0))
    have N370_ := frA l370 N6_ Nq370
    have f373 := (((Exa.ext E5 (A2.keep Kq3)).keep Kq6).keep Kq370)
    have f374 := (((Exa.ext E5 p3_4).keep Kq6).keep Kq370)
    refine t_cV [] [(.ref b1), (.ref b1)] 2 X370 u hZ5 hown5 (wd hw 106 rfl) (m_23 hw) rfl f373 (rm_a18_8 l Z a0 hw [] G GG b2 b3q1q3 (16 : Int32) (0 : Int32) k3q1q3 (115 : Int32) (116 : Int32) (97 : Int32) (116 : Int32) (117 : Int32) (115 : Int32) (32 : Int32) (45 : Int32) (bq x0 7) (bq x0 6) (bq x0 5) (bq x0 4) (bq x0 3) (bq x0 2) (bq x0 1) (bq x0 0) T370.heap O370_ f373 p370_2 p370_1 p370_3 (by decide) p370_0 (by decide) f374) rfl d1_20 rfl rfl (by decide) ?_
    intro v375 T375 L375 Lc375 X375 hQ375 l375
    obtain ⟨b1q375, b2q6q1q2q375, kk1q6q1q2q375, rfl, Nq375, Kq375, p375_0, p375_1, p375_2, p375_3, p375_4, p375_5, p375_6, p375_7⟩ := hQ375
    have O375_ := extKeep O370_ Kq375 all0
    have CR375 := CHr.trans CR370 (CHr.keep Kq375 sf0 CR370.1)
    have K375 := Keep.trans K370 Kq375 all0
    have N375_ := frA l375 N370_ Nq375
    have g_b1q375 := Nat.le_trans O370_.1 p375_0
    have sz_b1q375 := Nat.le_trans K370.1 p375_0
    have g_b2q6q1q2q375 := Nat.le_trans O370_.1 p375_4
    have sz_b2q6q1q2q375 := Nat.le_trans K370.1 p375_4
    refine t_iC X375 u d1_23  ?_
    refine t_nl X375 u d1_24  ?_
    have f376 := ((Exa.ext E5 ((Exa.ext E2 A1).keep Kq3)).keep Kq6)
    have f377 := (Unt.keep Kq6 (ninS (neE A1.lt hb2) (ninS (neL (Exa.ext E2 A1).lt p3_3) nin0)) (Unt.ext E5 (Unt.keep Kq3 (ninS (neE A1.lt hb2) nin0) (Unt.ext E2 U1))))
    have f378 := (Unt.keep Kq375 nin0 (Unt.keep Kq370 (ninS (neE A1.lt hb2) (ninS (neL (Exa.ext E2 A1).lt p3_3) nin0)) f377))
    have f379 := ((Fld.ext E5 ((Fld.ext E2 F1_backtrace).keep Kq3 (ninS (neE A1.lt hb2) nin0))).keep Kq6 (ninS (neE A1.lt hb2) (ninS (neL (Exa.ext E2 A1).lt p3_3) nin0)))
    have f380 := ((f379.keep Kq370 (ninS (neE A1.lt hb2) (ninS (neL (Exa.ext E2 A1).lt p3_3) nin0))).keep Kq375 nin0)
    obtain ⟨_, _, ⟨T381, L381, k381, n381⟩, -, X381, ⟨Lc381, hQ381, l381, y381, z381⟩, st381⟩ := X375.specialBack hx (y := (⟨"com/example/layout_to_rows/layouttorows/harvest/FetchException", "<init>", "(Ljava/lang/String;ZLjava/io/IOException;)V"⟩ : MethodName)) rfl hown5 (mvT hZ5 (wd hw 149 rfl)) (mvT hZ5 (wd hw 150 rfl)) (mvT hZ5 (wd hw 151 rfl)) (by decide) (backOfKL (W := 1) (rm_fi l Z a0 hw [] G GG b1 b1q375 T375.heap O375_ hl g_b1 ((f376.keep Kq370).keep Kq375) f378 f380) hZ5 (wd hw 151 rfl) (wd hw 2 rfl) (by decide) (by decide) (Vm.MethodsKnown.alikeC S5.1.alike hTK) (Vm.FramesKnown.alikeC S5.1.alike hBl)) (g := (mkF m 25 #[.val (.int x0)] [.null, v_1, (.ref b1q375), (.ref b1), (.ref b1)])) rfl (by rw [hml]; rfl) (Steps.refl _) (a := b1) (argsL := [(.ref b1q375), v_1, .null]) (rest := [(.ref b1)]) (lenOf pd_LLjava_lang_String_ZLjava_io_IOException_RV rfl) rfl (by show 2 * 0 + _ ≤ _; exact Nat.le_of_eq rfl) (hb hby d1_25) (fun _ _ => ⟨rfl, rfl, (by decide : 7 + 1 ≤ _), (by decide : 79 + 2752 ≤ _)⟩)
    dsimp only [Pt.U, Pt.locs, Pt.cells, Pt.slots] at X381 l381 y381 z381 st381 hQ381
    subst y381 z381
    obtain ⟨rfl, Nq381, Kq381, pE381, pU381, pM381, pC381, pA381⟩ := hQ381
    have O381_ := extKeep O375_ Kq381 (allS g_b1 all0)
    have sf382 := (Safe.ext E1 CR0.1 (Safe.new (Nat.le_of_eq hb1.symm)))
    have sf383 := (Safe.ext E2 CR1.1 sf382)
    have sf384 := (Safe.keep Kq3 (sfS sf4 sf0) CR2.1 sf383)
    have sf385 := (CHr.safe hC5 ((Exa.ext E2 A1).keep Kq3).lt sf384)
    have sf386 := (Safe.keep Kq6 (sfS sf10 (sfS sf8 sf0)) CR5.1 sf385)
    have sf387 := (Safe.keep Kq370 (sfS sf372 (sfS sf371 sf0)) CR6.1 sf386)
    have sf388 := (Safe.keep Kq375 sf0 CR370.1 sf387)
    have CR381 := CHr.trans CR375 (CHr.keep Kq381 (sfS sf388 sf0) CR375.1)
    have K381 := Keep.trans K375 Kq381 (allS (Or.inr sz_b1) all0)
    have N381_ := frA l381 N375_ Nq381
    refine Go.trans st381 ?_
    have f389 := (p375_3.keep Kq381 (ninS (Ne.symm (neL (((Exa.ext E5 ((Exa.ext E2 A1).keep Kq3)).keep Kq6).keep Kq370).lt p375_0)) nin0))
    have f390 := (p375_6.keep Kq381 (ninS (Ne.symm (neL (((Exa.ext E5 ((Exa.ext E2 A1).keep Kq3)).keep Kq6).keep Kq370).lt p375_4)) nin0))
    have f391 := (p375_2.keep Kq381 (ninS (Ne.symm (neL (((Exa.ext E5 ((Exa.ext E2 A1).keep Kq3)).keep Kq6).keep Kq370).lt p375_0)) nin0))
    exact Go.retAH (endH hh rfl X381 hZ5 hEL CR381) X381 S5 (Nat.le_trans (Nat.le_trans (Nat.le_trans (Nat.le_trans kq5 Kq6.1) Kq370.1) Kq375.1) Kq381.1) hx hret rfl rfl hlk (hb hby d1_28) (by decide) (by decide) ⟨b1, b1q375, b2q6q1q2q375, kk1q6q1q2q375, (16 : Int32), [v_115, v_116, v_97, v_116, v_117, v_115, v_32, v_45, (.int (bq x0 7)), (.int (bq x0 6)), (.int (bq x0 5)), (.int (bq x0 4)), (.int (bq x0 3)), (.int (bq x0 2)), (.int (bq x0 1)), (.int (bq x0 0))], rfl, N381_, K381, ⟨pE381, pU381, pA381, pC381, pM381, (p375_1.keep Kq381), f391, f389, f390⟩, ⟨8, by decide, by decide, hD.2.2, Or.inr hD.2.1, Or.inr ⟨hD.1, rfl, rfl⟩⟩⟩
  · refine t_iN X6 u d1_16 rfl ?_
    refine t_cV [(.int x0)] [(.ref b1), (.ref b1)] 2 X6 u hZ5 hown5 (wd hw 84 rfl) (m_14 hw) rfl ((Exa.ext E5 (A2.keep Kq3)).keep Kq6) (rm_a13_18 l Z a0 hw [] G GG b2 x0 b3q1q3 k3q1q3 T6.heap O6_ p6_1 hD p6_2 p6_0 p6_3 ((Exa.ext E5 (A2.keep Kq3)).keep Kq6) g_b2) rfl d1_17 rfl rfl (by decide) ?_
    intro v392 T392 L392 Lc392 X392 hQ392 l392
    obtain ⟨b2q7q3q1q392, k2q7q3q1q392, rfl, Nq392, Kq392, p392_0, p392_1, p392_2, p392_3, p392_4, p392_5⟩ := hQ392
    have O392_ := extKeep O6_ Kq392 (allS g_b2 all0)
    have sf393 := (Safe.keep Kq6 (sfS sf10 (sfS sf8 sf0)) CR5.1 sf10)
    have CR392 := CHr.trans CR6 (CHr.keep Kq392 (sfS sf393 sf0) CR6.1)
    have K392 := Keep.trans K6 Kq392 (allS (Or.inr sz_b2) all0)
    have N392_ := frA l392 N6_ Nq392
    have g_b2q7q3q1q392 := Nat.le_trans O6_.1 p392_3
    have sz_b2q7q3q1q392 := Nat.le_trans K6.1 p392_3
    have f394 := (((Exa.ext E5 (A2.keep Kq3)).keep Kq6).keep Kq392)
    refine t_cV [] [(.ref b1), (.ref b1)] 2 X392 u hZ5 hown5 (wd hw 106 rfl) (m_23 hw) rfl f394 (rm_a18_9 l Z a0 hw [] G GG b2 b2q7q3q1q392 k2q7q3q1q392 (45 : Int32) (bq x0 8) (bq x0 7) (bq x0 6) (bq x0 5) (bq x0 4) (bq x0 3) (bq x0 2) (bq x0 1) (bq x0 0) T392.heap O392_ f394 p392_0 p392_2 p392_1 p392_5) rfl d1_20 rfl rfl (by decide) ?_
    intro v395 T395 L395 Lc395 X395 hQ395 l395
    obtain ⟨b1q395, b2q2q6q1q2q395, k2q2q6q1q2q395, rfl, Nq395, Kq395, p395_0, p395_1, p395_2, p395_3, p395_4, p395_5, p395_6, p395_7⟩ := hQ395
    have O395_ := extKeep O392_ Kq395 all0
    have CR395 := CHr.trans CR392 (CHr.keep Kq395 sf0 CR392.1)
    have K395 := Keep.trans K392 Kq395 all0
    have N395_ := frA l395 N392_ Nq395
    have g_b1q395 := Nat.le_trans O392_.1 p395_0
    have sz_b1q395 := Nat.le_trans K392.1 p395_0
    have g_b2q2q6q1q2q395 := Nat.le_trans O392_.1 p395_4
    have sz_b2q2q6q1q2q395 := Nat.le_trans K392.1 p395_4
    refine t_iC X395 u d1_23  ?_
    refine t_nl X395 u d1_24  ?_
    have f396 := ((Exa.ext E5 ((Exa.ext E2 A1).keep Kq3)).keep Kq6)
    have f397 := (Unt.keep Kq6 (ninS (neE A1.lt hb2) (ninS (neL (Exa.ext E2 A1).lt p3_3) nin0)) (Unt.ext E5 (Unt.keep Kq3 (ninS (neE A1.lt hb2) nin0) (Unt.ext E2 U1))))
    have f398 := (Unt.keep Kq395 nin0 (Unt.keep Kq392 (ninS (neE A1.lt hb2) nin0) f397))
    have f399 := ((Fld.ext E5 ((Fld.ext E2 F1_backtrace).keep Kq3 (ninS (neE A1.lt hb2) nin0))).keep Kq6 (ninS (neE A1.lt hb2) (ninS (neL (Exa.ext E2 A1).lt p3_3) nin0)))
    have f400 := ((f399.keep Kq392 (ninS (neE A1.lt hb2) nin0)).keep Kq395 nin0)
    obtain ⟨_, _, ⟨T401, L401, k401, n401⟩, -, X401, ⟨Lc401, hQ401, l401, y401, z401⟩, st401⟩ := X395.specialBack hx (y := (⟨"com/example/layout_to_rows/layouttorows/harvest/FetchException", "<init>", "(Ljava/lang/String;ZLjava/io/IOException;)V"⟩ : MethodName)) rfl hown5 (mvT hZ5 (wd hw 149 rfl)) (mvT hZ5 (wd hw 150 rfl)) (mvT hZ5 (wd hw 151 rfl)) (by decide) (backOfKL (W := 1) (rm_fi l Z a0 hw [] G GG b1 b1q395 T395.heap O395_ hl g_b1 ((f396.keep Kq392).keep Kq395) f398 f400) hZ5 (wd hw 151 rfl) (wd hw 2 rfl) (by decide) (by decide) (Vm.MethodsKnown.alikeC S5.1.alike hTK) (Vm.FramesKnown.alikeC S5.1.alike hBl)) (g := (mkF m 25 #[.val (.int x0)] [.null, v_1, (.ref b1q395), (.ref b1), (.ref b1)])) rfl (by rw [hml]; rfl) (Steps.refl _) (a := b1) (argsL := [(.ref b1q395), v_1, .null]) (rest := [(.ref b1)]) (lenOf pd_LLjava_lang_String_ZLjava_io_IOException_RV rfl) rfl (by show 2 * 0 + _ ≤ _; exact Nat.le_of_eq rfl) (hb hby d1_25) (fun _ _ => ⟨rfl, rfl, (by decide : 8 + 1 ≤ _), (by decide : 114 + 2752 ≤ _)⟩)
    dsimp only [Pt.U, Pt.locs, Pt.cells, Pt.slots] at X401 l401 y401 z401 st401 hQ401
    subst y401 z401
    obtain ⟨rfl, Nq401, Kq401, pE401, pU401, pM401, pC401, pA401⟩ := hQ401
    have O401_ := extKeep O395_ Kq401 (allS g_b1 all0)
    have sf402 := (Safe.ext E1 CR0.1 (Safe.new (Nat.le_of_eq hb1.symm)))
    have sf403 := (Safe.ext E2 CR1.1 sf402)
    have sf404 := (Safe.keep Kq3 (sfS sf4 sf0) CR2.1 sf403)
    have sf405 := (CHr.safe hC5 ((Exa.ext E2 A1).keep Kq3).lt sf404)
    have sf406 := (Safe.keep Kq6 (sfS sf10 (sfS sf8 sf0)) CR5.1 sf405)
    have sf407 := (Safe.keep Kq392 (sfS sf393 sf0) CR6.1 sf406)
    have sf408 := (Safe.keep Kq395 sf0 CR392.1 sf407)
    have CR401 := CHr.trans CR395 (CHr.keep Kq401 (sfS sf408 sf0) CR395.1)
    have K401 := Keep.trans K395 Kq401 (allS (Or.inr sz_b1) all0)
    have N401_ := frA l401 N395_ Nq401
    refine Go.trans st401 ?_
    have f409 := (p395_3.keep Kq401 (ninS (Ne.symm (neL (((Exa.ext E5 ((Exa.ext E2 A1).keep Kq3)).keep Kq6).keep Kq392).lt p395_0)) nin0))
    have f410 := (p395_6.keep Kq401 (ninS (Ne.symm (neL (((Exa.ext E5 ((Exa.ext E2 A1).keep Kq3)).keep Kq6).keep Kq392).lt p395_4)) nin0))
    have f411 := (p395_2.keep Kq401 (ninS (Ne.symm (neL (((Exa.ext E5 ((Exa.ext E2 A1).keep Kq3)).keep Kq6).keep Kq392).lt p395_0)) nin0))
    exact Go.retAH (endH hh rfl X401 hZ5 hEL CR401) X401 S5 (Nat.le_trans (Nat.le_trans (Nat.le_trans (Nat.le_trans kq5 Kq6.1) Kq392.1) Kq395.1) Kq401.1) hx hret rfl rfl hlk (hb hby d1_28) (by decide) (by decide) ⟨b1, b1q395, b2q2q6q1q2q395, k2q2q6q1q2q395, (17 : Int32), [v_115, v_116, v_97, v_116, v_117, v_115, v_32, v_45, (.int (bq x0 8)), (.int (bq x0 7)), (.int (bq x0 6)), (.int (bq x0 5)), (.int (bq x0 4)), (.int (bq x0 3)), (.int (bq x0 2)), (.int (bq x0 1)), (.int (bq x0 0))], rfl, N401_, K401, ⟨pE401, pU401, pA401, pC401, pM401, (p395_1.keep Kq401), f411, f409, f410⟩, ⟨9, by decide, by decide, hD.2.2, Or.inr hD.2.1, Or.inr ⟨hD.1, rfl, rfl⟩⟩⟩
  · refine t_iN X6 u d1_16 rfl ?_
    refine t_cV [(.int x0)] [(.ref b1), (.ref b1)] 2 X6 u hZ5 hown5 (wd hw 84 rfl) (m_14 hw) rfl ((Exa.ext E5 (A2.keep Kq3)).keep Kq6) (rm_a13_19 l Z a0 hw [] G GG b2 x0 b3q1q3 k3q1q3 T6.heap O6_ p6_1 hD p6_2 p6_0 p6_3 ((Exa.ext E5 (A2.keep Kq3)).keep Kq6) g_b2) rfl d1_17 rfl rfl (by decide) ?_
    intro v412 T412 L412 Lc412 X412 hQ412 l412
    obtain ⟨b2q7q3q1q412, k2q7q3q1q412, rfl, Nq412, Kq412, p412_0, p412_1, p412_2, p412_3, p412_4, p412_5⟩ := hQ412
    have O412_ := extKeep O6_ Kq412 (allS g_b2 all0)
    have sf413 := (Safe.keep Kq6 (sfS sf10 (sfS sf8 sf0)) CR5.1 sf10)
    have CR412 := CHr.trans CR6 (CHr.keep Kq412 (sfS sf413 sf0) CR6.1)
    have K412 := Keep.trans K6 Kq412 (allS (Or.inr sz_b2) all0)
    have N412_ := frA l412 N6_ Nq412
    have g_b2q7q3q1q412 := Nat.le_trans O6_.1 p412_3
    have sz_b2q7q3q1q412 := Nat.le_trans K6.1 p412_3
    have f414 := (((Exa.ext E5 (A2.keep Kq3)).keep Kq6).keep Kq412)
    refine t_cV [] [(.ref b1), (.ref b1)] 2 X412 u hZ5 hown5 (wd hw 106 rfl) (m_23 hw) rfl f414 (rm_a18_10 l Z a0 hw [] G GG b2 b2q7q3q1q412 k2q7q3q1q412 (bq x0 9) (bq x0 8) (bq x0 7) (bq x0 6) (bq x0 5) (bq x0 4) (bq x0 3) (bq x0 2) (bq x0 1) (bq x0 0) T412.heap O412_ f414 p412_0 p412_2 p412_1 p412_5) rfl d1_20 rfl rfl (by decide) ?_
    intro v415 T415 L415 Lc415 X415 hQ415 l415
    obtain ⟨b1q415, b2q2q6q1q2q415, k2q2q6q1q2q415, rfl, Nq415, Kq415, p415_0, p415_1, p415_2, p415_3, p415_4, p415_5, p415_6, p415_7⟩ := hQ415
    have O415_ := extKeep O412_ Kq415 all0
    have CR415 := CHr.trans CR412 (CHr.keep Kq415 sf0 CR412.1)
    have K415 := Keep.trans K412 Kq415 all0
    have N415_ := frA l415 N412_ Nq415
    have g_b1q415 := Nat.le_trans O412_.1 p415_0
    have sz_b1q415 := Nat.le_trans K412.1 p415_0
    have g_b2q2q6q1q2q415 := Nat.le_trans O412_.1 p415_4
    have sz_b2q2q6q1q2q415 := Nat.le_trans K412.1 p415_4
    refine t_iC X415 u d1_23  ?_
    refine t_nl X415 u d1_24  ?_
    have f416 := ((Exa.ext E5 ((Exa.ext E2 A1).keep Kq3)).keep Kq6)
    have f417 := (Unt.keep Kq6 (ninS (neE A1.lt hb2) (ninS (neL (Exa.ext E2 A1).lt p3_3) nin0)) (Unt.ext E5 (Unt.keep Kq3 (ninS (neE A1.lt hb2) nin0) (Unt.ext E2 U1))))
    have f418 := (Unt.keep Kq415 nin0 (Unt.keep Kq412 (ninS (neE A1.lt hb2) nin0) f417))
    have f419 := ((Fld.ext E5 ((Fld.ext E2 F1_backtrace).keep Kq3 (ninS (neE A1.lt hb2) nin0))).keep Kq6 (ninS (neE A1.lt hb2) (ninS (neL (Exa.ext E2 A1).lt p3_3) nin0)))
    have f420 := ((f419.keep Kq412 (ninS (neE A1.lt hb2) nin0)).keep Kq415 nin0)
    obtain ⟨_, _, ⟨T421, L421, k421, n421⟩, -, X421, ⟨Lc421, hQ421, l421, y421, z421⟩, st421⟩ := X415.specialBack hx (y := (⟨"com/example/layout_to_rows/layouttorows/harvest/FetchException", "<init>", "(Ljava/lang/String;ZLjava/io/IOException;)V"⟩ : MethodName)) rfl hown5 (mvT hZ5 (wd hw 149 rfl)) (mvT hZ5 (wd hw 150 rfl)) (mvT hZ5 (wd hw 151 rfl)) (by decide) (backOfKL (W := 1) (rm_fi l Z a0 hw [] G GG b1 b1q415 T415.heap O415_ hl g_b1 ((f416.keep Kq412).keep Kq415) f418 f420) hZ5 (wd hw 151 rfl) (wd hw 2 rfl) (by decide) (by decide) (Vm.MethodsKnown.alikeC S5.1.alike hTK) (Vm.FramesKnown.alikeC S5.1.alike hBl)) (g := (mkF m 25 #[.val (.int x0)] [.null, v_1, (.ref b1q415), (.ref b1), (.ref b1)])) rfl (by rw [hml]; rfl) (Steps.refl _) (a := b1) (argsL := [(.ref b1q415), v_1, .null]) (rest := [(.ref b1)]) (lenOf pd_LLjava_lang_String_ZLjava_io_IOException_RV rfl) rfl (by show 2 * 0 + _ ≤ _; exact Nat.le_of_eq rfl) (hb hby d1_25) (fun _ _ => ⟨rfl, rfl, (by decide : 8 + 1 ≤ _), (by decide : 115 + 2752 ≤ _)⟩)
    dsimp only [Pt.U, Pt.locs, Pt.cells, Pt.slots] at X421 l421 y421 z421 st421 hQ421
    subst y421 z421
    obtain ⟨rfl, Nq421, Kq421, pE421, pU421, pM421, pC421, pA421⟩ := hQ421
    have O421_ := extKeep O415_ Kq421 (allS g_b1 all0)
    have sf422 := (Safe.ext E1 CR0.1 (Safe.new (Nat.le_of_eq hb1.symm)))
    have sf423 := (Safe.ext E2 CR1.1 sf422)
    have sf424 := (Safe.keep Kq3 (sfS sf4 sf0) CR2.1 sf423)
    have sf425 := (CHr.safe hC5 ((Exa.ext E2 A1).keep Kq3).lt sf424)
    have sf426 := (Safe.keep Kq6 (sfS sf10 (sfS sf8 sf0)) CR5.1 sf425)
    have sf427 := (Safe.keep Kq412 (sfS sf413 sf0) CR6.1 sf426)
    have sf428 := (Safe.keep Kq415 sf0 CR412.1 sf427)
    have CR421 := CHr.trans CR415 (CHr.keep Kq421 (sfS sf428 sf0) CR415.1)
    have K421 := Keep.trans K415 Kq421 (allS (Or.inr sz_b1) all0)
    have N421_ := frA l421 N415_ Nq421
    refine Go.trans st421 ?_
    have f429 := (p415_3.keep Kq421 (ninS (Ne.symm (neL (((Exa.ext E5 ((Exa.ext E2 A1).keep Kq3)).keep Kq6).keep Kq412).lt p415_0)) nin0))
    have f430 := (p415_6.keep Kq421 (ninS (Ne.symm (neL (((Exa.ext E5 ((Exa.ext E2 A1).keep Kq3)).keep Kq6).keep Kq412).lt p415_4)) nin0))
    have f431 := (p415_2.keep Kq421 (ninS (Ne.symm (neL (((Exa.ext E5 ((Exa.ext E2 A1).keep Kq3)).keep Kq6).keep Kq412).lt p415_0)) nin0))
    exact Go.retAH (endH hh rfl X421 hZ5 hEL CR421) X421 S5 (Nat.le_trans (Nat.le_trans (Nat.le_trans (Nat.le_trans kq5 Kq6.1) Kq412.1) Kq415.1) Kq421.1) hx hret rfl rfl hlk (hb hby d1_28) (by decide) (by decide) ⟨b1, b1q415, b2q2q6q1q2q415, k2q2q6q1q2q415, (18 : Int32), [v_115, v_116, v_97, v_116, v_117, v_115, v_32, v_45, (.int (bq x0 9)), (.int (bq x0 8)), (.int (bq x0 7)), (.int (bq x0 6)), (.int (bq x0 5)), (.int (bq x0 4)), (.int (bq x0 3)), (.int (bq x0 2)), (.int (bq x0 1)), (.int (bq x0 0))], rfl, N421_, K421, ⟨pE421, pU421, pA421, pC421, pM421, (p415_1.keep Kq421), f431, f429, f430⟩, ⟨10, by decide, by decide, hD.2.2, Or.inr hD.2.1, Or.inr ⟨hD.1, rfl, rfl⟩⟩⟩
theorem rm_sl (x0 b : Addr) (kb : ClassId) (n : Int32) (vs : List Value) (h0 : Heap) (O0 : Ext Z.heap h0) (A0 : ex_2 Z h0 x0) (FV : fl_5 Z h0 x0 (.ref b)) (FC : fl_4 Z h0 x0 v_0) (V0 : Arv Z h0 b kb .byte n vs v_0) :
    MF hw GG l y_7 jdk_42_method_54_code 1 (some .int) ws ⟨1, 0, 0, 13⟩ h0 #[(.ref x0)] (Qp (some (.int n)) Z h0) := by
  refine own_mF #[.val (.ref x0)] (plainFor_of_name pn_7) (fun _ => rfl) ?_
  intro p e s m below meth c s₁ u hlk hret hZ hown hnm X0 e0 N0
  obtain ⟨hx, hby, hml⟩ := id u
  refine t_aN X0 u d7_0 rfl rfl ?_
  refine t_gF X0 u hZ hown (wd hw 49 rfl) e0 FV d7_1 ?_
  intro T1 X1 e1
  obtain ⟨cl2, Ar2, -, S2, N2, -, -⟩ := id V0
  refine Go.step (X1.arraylength hx (by rw [e1]; exact Ar2.1) (State.isArrayOf_alike hZ.alike Ar2.2.1) (g := (mkF m 4 #[.val (.ref x0)] [(.ref b)])) rfl rfl (hb hby d7_4)) ?_
  rw [len_of S2 N2]
  show Go _ _ _ _ _ _ _ _ T1 (mkF m 5 #[.val (.ref x0)] [(.int n)])
  refine t_aN X1 u d7_5 rfl rfl ?_
  refine pt_cV [] [(.int n)] 1 X1 u hZ hown (wd hw 50 rfl) (m_2 hw) e1 A0 (rm_a8_0 l Z a0 hw [] G GG x0 (0 : Int32) h0 O0 FC) rfl d7_6 rfl rfl (by decide) N0 ?_
  intro T3 L3 X3 e3 N3_
  refine Go.step (fun _ kt_ => XS.ishr X3.here hx rfl (hb hby d7_9) rfl kt_) ?_
  show Go _ _ _ _ _ _ _ _ T3 (mkF m 10 #[.val (.ref x0)] [(.int (n >>> ((0 : Int32) &&& 31)))])
  rw [own_sh0]
  show Go _ _ _ _ _ _ _ _ T3 (mkF m 10 #[.val (.ref x0)] [(.int n)])
  exact t_rI X3 u hret hlk d7_10 e3 N3_ (by decide)
theorem pn_42 : plainName "jdk/internal/util/Preconditions" = true := by first | (simp [plainName, overriddenIn]; done) | decide +kernel
theorem rm_a42_0 (x0 x1 : Int32) (h0 : Heap) (O0 : Ext Z.heap h0) (r0 : ¬ (x0 < (0 : Int32))) (r1 : x0 < x1) :
    MF hw GG l y_42 jdk_41_method_11_code 3 (some .int) ws ⟨0, 0, 0, 0⟩ h0 #[(.int x0), (.int x1), .null] (Qp (some (.int x0)) Z h0) := by
  refine own_mF #[.val (.int x0), .val (.int x1), .val .null] (plainFor_of_name pn_42) (fun _ => rfl) ?_
  intro p e s m below meth c s₁ u hlk hret hZ hown hnm X0 e0 N0
  refine t_iN X0 u d42_0 rfl ?_
  refine t_ifN X0 u d42_1 ((if0 _ _).trans (flt r0).1) ?_
  refine t_iN X0 u d42_4 rfl ?_
  refine t_iN X0 u d42_5 rfl ?_
  refine t_icY 6 16 X0 u rfl d42_6 (tlt r1).1 (by decide) ?_
  refine t_iN X0 u d42_16 rfl ?_
  exact t_rI X0 u hret hlk d42_17 e0 N0 (by decide)
theorem rm_a42_1 (x0 x1 : Int32) (x2 : Addr) (h0 : Heap) (O0 : Ext Z.heap h0) (r0 : ¬ (x0 < (0 : Int32))) (r1 : x0 < x1) :
    MF hw GG l y_42 jdk_41_method_11_code 3 (some .int) ws ⟨0, 0, 0, 0⟩ h0 #[(.int x0), (.int x1), (.ref x2)] (Qp (some (.int x0)) Z h0) := by
  refine own_mF #[.val (.int x0), .val (.int x1), .val (.ref x2)] (plainFor_of_name pn_42) (fun _ => rfl) ?_
  intro p e s m below meth c s₁ u hlk hret hZ hown hnm X0 e0 N0
  refine t_iN X0 u d42_0 rfl ?_
  refine t_ifN X0 u d42_1 ((if0 _ _).trans (flt r0).1) ?_
  refine t_iN X0 u d42_4 rfl ?_
  refine t_iN X0 u d42_5 rfl ?_
  refine t_icY 6 16 X0 u rfl d42_6 (tlt r1).1 (by decide) ?_
  refine t_iN X0 u d42_16 rfl ?_
  exact t_rI X0 u hret hlk d42_17 e0 N0 (by decide)
theorem pn_41 : plainName "java/lang/String" = true := by first | (simp [plainName, overriddenIn]; done) | decide +kernel
theorem rm_ck (x0 x1 : Int32) (h0 : Heap) (O0 : Ext Z.heap h0) (h1 : ¬ (x0 < (0 : Int32))) (h2 : x0 < x1) :
    MF hw GG l y_41 jdk_42_method_155_code 2 none ws ⟨1, 0, 0, 14⟩ h0 #[(.int x0), (.int x1)] (Qp (none) Z h0) := by
  refine own_mF #[.val (.int x0), .val (.int x1)] (plainFor_of_name pn_41) (fun _ => rfl) ?_
  intro p e s m below meth c s₁ u hlk hret hZ hown hnm X0 e0 N0
  refine t_iN X0 u d41_0 rfl ?_
  refine t_iN X0 u d41_1 rfl ?_
  show Go _ _ _ _ _ _ _ _ s₁ (mkF m 2 #[.val (.int x0), .val (.int x1)] [(.int x1), (.int x0)])
  rcases GG.H_sv with hsv | ⟨fa, hsv⟩
  · have S_s2 : Sta Z Z.heap "jdk/internal/util/Preconditions" "SIOOBE_FORMATTER" "Ljava/util/function/BiFunction;" .null := hsv ▸ GG.S_sv
    show Go _ _ _ _ _ _ _ _ s₁ (mkF m 2 #[.val (.int x0), .val (.int x1)] [(.int x1), (.int x0)])
    refine t_gS X0 u hZ hown (wd hw 245 rfl) e0 (Sta.ext O0 S_s2) d41_2 ?_
    intro T1 X1 e1
    refine pt_cS [(.int x0), (.int x1), .null] [] 0 X1 u hZ hown (wd hw 247 rfl) (m_28 hw) e1 (rm_a42_0 l Z a0 hw [] G GG x0 x1 h0 O0 h1 h2) rfl d41_5 rfl rfl (by decide) N0 ?_
    intro T2 L2 X2 e2 N2_
    refine t_pop X2 u d41_8 rfl ?_
    exact t_rV X2 u hret hlk d41_9 e2 N2_ (by decide)
  · have S_s2 : Sta Z Z.heap "jdk/internal/util/Preconditions" "SIOOBE_FORMATTER" "Ljava/util/function/BiFunction;" (.ref fa) := hsv ▸ GG.S_sv
    show Go _ _ _ _ _ _ _ _ s₁ (mkF m 2 #[.val (.int x0), .val (.int x1)] [(.int x1), (.int x0)])
    refine t_gS X0 u hZ hown (wd hw 245 rfl) e0 (Sta.ext O0 S_s2) d41_2 ?_
    intro T3 X3 e3
    refine pt_cS [(.int x0), (.int x1), (.ref fa)] [] 0 X3 u hZ hown (wd hw 247 rfl) (m_28 hw) e3 (rm_a42_1 l Z a0 hw [] G GG x0 x1 fa h0 O0 h1 h2) rfl d41_5 rfl rfl (by decide) N0 ?_
    intro T4 L4 X4 e4 N4_
    refine t_pop X4 u d41_8 rfl ?_
    exact t_rV X4 u hret hlk d41_9 e4 N4_ (by decide)
theorem pn_40 : plainName "java/lang/StringLatin1" = true := by first | (simp [plainName, overriddenIn]; done) | decide +kernel
theorem rm_lc (x0 : Addr) (x1 : Int32) (kb : ClassId) (n : Int32) (vs : List Value) (w : Int32) (h0 : Heap) (O0 : Ext Z.heap h0) (V0 : Arv Z h0 x0 kb .byte n vs v_0) (hj : ¬ (x1 < (0 : Int32))) (hn : x1 < n) (hv : vs.getD x1.toNatClampNeg v_0 = (.int w)) :
    MF hw GG l y_40 jdk_43_method_2_code 2 (some .char) ws ⟨2, 0, 0, 27⟩ h0 #[(.ref x0), (.int x1)] (Qp (some (.int (((w &&& (255 : Int32)).toUInt32.toUInt16.toUInt32.toInt32).toUInt32.toUInt16.toUInt32.toInt32))) Z h0) := by
  refine own_mF #[.val (.ref x0), .val (.int x1)] (plainFor_of_name pn_40) (fun _ => rfl) ?_
  intro p e s m below meth c s₁ u hlk hret hZ hown hnm X0 e0 N0
  obtain ⟨hx, hby, hml⟩ := id u
  refine t_iN X0 u d40_0 rfl ?_
  refine t_aN X0 u d40_1 rfl rfl ?_
  obtain ⟨cl1, Ar1, -, S1, N1, -, -⟩ := id V0
  refine Go.step (X0.arraylength hx (by rw [e0]; exact Ar1.1) (State.isArrayOf_alike hZ.alike Ar1.2.1) (g := (mkF m 2 #[.val (.ref x0), .val (.int x1)] [(.ref x0), (.int x1)])) rfl rfl (hb hby d40_2)) ?_
  rw [len_of S1 N1]
  show Go _ _ _ _ _ _ _ _ s₁ (mkF m 3 #[.val (.ref x0), .val (.int x1)] [(.int n), (.int x1)])
  refine pt_cS [(.int x1), (.int n)] [] 0 X0 u hZ hown (wd hw 242 rfl) (m_29 hw) e0 (rm_ck l Z a0 hw [] G GG x1 n h0 O0 hj hn) rfl d40_3 rfl rfl (by decide) N0 ?_
  intro T2 L2 X2 e2 N2_
  refine t_aN X2 u d40_6 rfl rfl ?_
  refine t_iN X2 u d40_7 rfl ?_
  obtain ⟨cl3, Ar3, q3, S3, N3, H3, G3⟩ := id V0
  have hin3 : ¬ (x1 < 0 ∨ cl3.slots.size ≤ (x1).toNatClampNeg) := inb_of S3 ⟨hj, hn⟩
  refine Go.step (X2.baloadBytes hx (j := x1) (v := (.int w)) (by rw [e2]; exact Ar3.1) (State.isArrayOf_alike hZ.alike Ar3.2.1) Ar3.2.2 hin3 (Has.at H3 hin3 hv) (g := (mkF m 8 #[.val (.ref x0), .val (.int x1)] [(.int x1), (.ref x0)])) rfl rfl (hb hby d40_8)) ?_
  refine Go.step (fun _ kt_ => XS.sipush X2.here hx rfl (hb hby d40_9)  kt_) ?_
  refine t_iand X2 u d40_12  ?_
  refine Go.step (fun _ kt_ => XS.i2c X2.here hx rfl (hb hby d40_13) rfl kt_) ?_
  show Go _ _ _ _ _ _ _ _ T2 (mkF m 14 #[.val (.ref x0), .val (.int x1)] [(.int ((w &&& (255 : Int32)).toUInt32.toUInt16.toUInt32.toInt32))])
  exact t_rN X2 u hret hlk (by simp) rfl d40_14 e2 N2_ (by decide)
theorem pn_39 : plainName "java/lang/String" = true := by first | (simp [plainName, overriddenIn]; done) | decide +kernel
theorem rm_a39_0 (x0 : Addr) (w1 : Int32) (h0 : Heap) (O0 : Ext Z.heap h0) (r0 : fl_4 Z h0 x0 (.int w1)) (r1 : w1 = (0 : Int32)) :
    MF hw GG l y_39 jdk_42_method_154_code 1 (some .boolean) ws ⟨0, 0, 0, 0⟩ h0 #[(.ref x0)] (Qp (some v_1) Z h0) := by
  refine own_mF #[.val (.ref x0)] (plainFor_of_name pn_39) (fun _ => rfl) ?_
  intro p e s m below meth c s₁ u hlk hret hZ hown hnm X0 e0 N0
  refine t_gS X0 u hZ hown (wd hw 55 rfl) e0 (Sta.ext O0 GG.S_cs) d39_0 ?_
  intro T1 X1 e1
  refine t_ifN X1 u d39_3 ((if0 _ _).trans (feq GG.H_cs).1) ?_
  refine t_aN X1 u d39_6 rfl rfl ?_
  refine t_gF X1 u hZ hown (wd hw 56 rfl) e1 r0 d39_7 ?_
  intro T2 X2 e2
  refine t_ifN X2 u d39_10 ((if0 _ _).trans (teq r1).2) ?_
  refine t_iC X2 u d39_13  ?_
  refine t_go 14 18 X2 u rfl d39_14 (by decide) ?_
  exact t_rN X2 u hret hlk (by simp) rfl d39_18 e2 N0 (by decide)
theorem pn_38 : plainName "java/lang/String" = true := by first | (simp [plainName, overriddenIn]; done) | decide +kernel
theorem rm_sc (x0 : Addr) (x1 : Int32) (b : Addr) (kb : ClassId) (n : Int32) (vs : List Value) (w r : Int32) (h0 : Heap) (O0 : Ext Z.heap h0) (A0 : ex_2 Z h0 x0) (FV : fl_5 Z h0 x0 (.ref b)) (FC : fl_4 Z h0 x0 v_0) (V0 : Arv Z h0 b kb .byte n vs v_0) (hj : ¬ (x1 < (0 : Int32))) (hn : x1 < n) (hv : vs.getD x1.toNatClampNeg v_0 = (.int w)) (hr : (((w &&& (255 : Int32)).toUInt32.toUInt16.toUInt32.toInt32).toUInt32.toUInt16.toUInt32.toInt32) = r) :
    MF hw GG l y_38 jdk_42_method_56_code 2 (some .char) ws ⟨3, 0, 0, 40⟩ h0 #[(.ref x0), (.int x1)] (Qp (some (.int (r.toUInt32.toUInt16.toUInt32.toInt32))) Z h0) := by
  refine own_mF #[.val (.ref x0), .val (.int x1)] (plainFor_of_name pn_38) (fun _ => rfl) ?_
  intro p e s m below meth c s₁ u hlk hret hZ hown hnm X0 e0 N0
  refine t_aN X0 u d38_0 rfl rfl ?_
  refine pt_cV [] [] 0 X0 u hZ hown (wd hw 233 rfl) (m_30 hw) e0 A0 (rm_a39_0 l Z a0 hw [] G GG x0 (0 : Int32) h0 O0 FC (by decide)) rfl d38_1 rfl rfl (by decide) N0 ?_
  intro T1 L1 X1 e1 N1_
  refine t_ifN X1 u d38_4 ((if0 _ _).trans (feq (by decide : ¬ ((1 : Int32) = (0 : Int32)))).1) ?_
  refine t_aN X1 u d38_7 rfl rfl ?_
  refine t_gF X1 u hZ hown (wd hw 49 rfl) e1 FV d38_8 ?_
  intro T2 X2 e2
  refine t_iN X2 u d38_11 rfl ?_
  refine pt_cS [(.ref b), (.int x1)] [] 0 X2 u hZ hown (wd hw 238 rfl) (m_31 hw) e2 (rm_lc l Z a0 hw [] G GG b x1 kb n vs w h0 O0 V0 hj hn hv) rfl d38_12 rfl rfl (by decide) N1_ ?_
  intro T3 L3 X3 e3 N3_
  show Go _ _ _ _ _ _ _ _ T3 (mkF m 15 #[.val (.ref x0), .val (.int x1)] [(.int (((w &&& (255 : Int32)).toUInt32.toUInt16.toUInt32.toInt32).toUInt32.toUInt16.toUInt32.toInt32))])
  rw [hr]
  show Go _ _ _ _ _ _ _ _ T3 (mkF m 15 #[.val (.ref x0), .val (.int x1)] [(.int r)])
  exact t_rN X3 u hret hlk (by simp) rfl d38_15 e3 N3_ (by decide)
theorem rm_ab (x0 r : Int64) (h0 : Heap) (O0 : Ext Z.heap h0) (hr : r = if (lcmpW x0 (0 : Int64)) < (0 : Int32) then -x0 else x0) :
    MF hw GG l y_36 jdk_29_method_61_code 2 (some .long) ws ⟨0, 0, 0, 0⟩ h0 #[(.long x0)] (Qp (some (.long r)) Z h0) := by
  refine own_mF #[.val (.long x0), .second] (Jvm.Free.JP.mathPlain rfl (by decide +kernel)) (fun _ => rfl) ?_
  intro p e s m below meth c s₁ u hlk hret hZ hown hnm X0 e0 N0
  obtain ⟨hx, hby, hml⟩ := id u
  refine t_lN X0 u d36_0 rfl ?_
  refine Go.step (fun _ kt_ => XS.lconst X0.here hx rfl (hb hby d36_1)  kt_) ?_
  refine Go.step (fun _ kt_ => XS.lcmp X0.here hx rfl (hb hby d36_2) rfl kt_) ?_
  by_cases hc3_1 : (lcmpW x0 (0 : Int64)) < (0 : Int32)
  · refine t_ifN X0 u d36_3 ((if0 _ _).trans (tlt hc3_1).2.1) ?_
    refine t_lN X0 u d36_6 rfl ?_
    refine Go.step (fun _ kt_ => XS.lneg X0.here hx rfl (hb hby d36_7) rfl kt_) ?_
    show Go _ _ _ _ _ _ _ _ s₁ (mkF m 8 #[.val (.long x0), .second] [(.long (-x0))])
    refine t_go 8 12 X0 u rfl d36_8 (by decide) ?_
    exact Go.retJ X0 hx hret hlk (hb hby d36_12) (by decide) (by decide) (by show _ ∧ _ ∧ _; rw [e0]; refine ⟨congrArg (fun z => some (Value.long z)) ?_, N0, rfl⟩; rw [hr]; ((try simp only [lw_lt, lw_gt, lw_eq] at hc3_1); simp only [hc3_1, lw_lt, if_true, if_false, ite_self, eq_self, not_false_eq_true, true_or, or_true, false_or, or_false, or_self]); try rfl)
  · refine t_ifY 3 11 X0 u rfl d36_3 ((if0 _ _).trans (flt hc3_1).2.1) (by decide) ?_
    refine t_lN X0 u d36_11 rfl ?_
    exact Go.retJ X0 hx hret hlk (hb hby d36_12) (by decide) (by decide) (by show _ ∧ _ ∧ _; rw [e0]; refine ⟨congrArg (fun z => some (Value.long z)) ?_, N0, rfl⟩; rw [hr]; ((try simp only [lw_lt, lw_gt, lw_eq] at hc3_1); simp only [hc3_1, lw_lt, if_true, if_false, ite_self, eq_self, not_false_eq_true, true_or, or_true, false_or, or_false, or_self]); try rfl)
theorem pn_37 : plainName "com/example/layout_to_rows/layouttorows/harvest/FetchExceptionStatusPinLaw" = true := by first | (simp [plainName, overriddenIn]; done) | decide +kernel
theorem rm_dg (x0 : Int64) (r : Int32) (h0 : Heap) (O0 : Ext Z.heap h0) (hr : r = digF x0) :
    MF hw GG l y_37 method_3_code 2 (some .int) ws ⟨0, 0, 0, 0⟩ h0 #[(.long x0)] (Qp (some (.int r)) Z h0) := by
  refine own_mF #[.val (.long x0), .second] (plainFor_of_name pn_37) (fun _ => rfl) ?_
  intro p e s m below meth c s₁ u hlk hret hZ hown hnm X0 e0 N0
  obtain ⟨hx, hby, hml⟩ := id u
  refine t_lN X0 u d37_0 rfl ?_
  refine Go.step (X0.ldc2Long hx hown (mvT hZ (wd hw 226 rfl)) (g := (mkF m 1 #[.val (.long x0), .second] [(.long x0)])) rfl (hb hby d37_1)) ?_
  refine Go.step (fun _ kt_ => XS.lcmp X0.here hx rfl (hb hby d37_4) rfl kt_) ?_
  by_cases hc5_1 : (lcmpW x0 (10 : Int64)) < (0 : Int32)
  · refine t_ifN X0 u d37_5 ((if0 _ _).trans (tlt hc5_1).2.1) ?_
    refine t_iC X0 u d37_8  ?_
    exact Go.retI X0 hx hret hlk (hb hby d37_9) (by decide) (by decide) (by show _ ∧ _ ∧ _; rw [e0]; refine ⟨congrArg (fun z => some (Value.int z)) ?_, N0, rfl⟩; rw [hr]; ((try simp only [lw_lt, lw_gt, lw_eq] at hc5_1); simp only [hc5_1, digF, lw_lt, if_true, if_false, ite_self, eq_self, not_false_eq_true, true_or, or_true, false_or, or_false, or_self]); try rfl)
  · refine t_ifY 5 10 X0 u rfl d37_5 ((if0 _ _).trans (flt hc5_1).2.1) (by decide) ?_
    refine t_lN X0 u d37_10 rfl ?_
    refine Go.step (X0.ldc2Long hx hown (mvT hZ (wd hw 257 rfl)) (g := (mkF m 11 #[.val (.long x0), .second] [(.long x0)])) rfl (hb hby d37_11)) ?_
    refine Go.step (fun _ kt_ => XS.lcmp X0.here hx rfl (hb hby d37_14) rfl kt_) ?_
    by_cases hc15_2 : (lcmpW x0 (100 : Int64)) < (0 : Int32)
    · refine t_ifN X0 u d37_15 ((if0 _ _).trans (tlt hc15_2).2.1) ?_
      refine t_iC X0 u d37_18  ?_
      exact Go.retI X0 hx hret hlk (hb hby d37_19) (by decide) (by decide) (by show _ ∧ _ ∧ _; rw [e0]; refine ⟨congrArg (fun z => some (Value.int z)) ?_, N0, rfl⟩; rw [hr]; ((try simp only [lw_lt, lw_gt, lw_eq] at hc5_1 hc15_2); simp only [hc5_1, hc15_2, digF, lw_lt, if_true, if_false, ite_self, eq_self, not_false_eq_true, true_or, or_true, false_or, or_false, or_self]); try rfl)
    · refine t_ifY 15 20 X0 u rfl d37_15 ((if0 _ _).trans (flt hc15_2).2.1) (by decide) ?_
      refine t_lN X0 u d37_20 rfl ?_
      refine Go.step (X0.ldc2Long hx hown (mvT hZ (wd hw 258 rfl)) (g := (mkF m 21 #[.val (.long x0), .second] [(.long x0)])) rfl (hb hby d37_21)) ?_
      refine Go.step (fun _ kt_ => XS.lcmp X0.here hx rfl (hb hby d37_24) rfl kt_) ?_
      by_cases hc25_3 : (lcmpW x0 (1000 : Int64)) < (0 : Int32)
      · refine t_ifN X0 u d37_25 ((if0 _ _).trans (tlt hc25_3).2.1) ?_
        refine t_iC X0 u d37_28  ?_
        exact Go.retI X0 hx hret hlk (hb hby d37_29) (by decide) (by decide) (by show _ ∧ _ ∧ _; rw [e0]; refine ⟨congrArg (fun z => some (Value.int z)) ?_, N0, rfl⟩; rw [hr]; ((try simp only [lw_lt, lw_gt, lw_eq] at hc5_1 hc15_2 hc25_3); simp only [hc5_1, hc15_2, hc25_3, digF, lw_lt, if_true, if_false, ite_self, eq_self, not_false_eq_true, true_or, or_true, false_or, or_false, or_self]); try rfl)
      · refine t_ifY 25 30 X0 u rfl d37_25 ((if0 _ _).trans (flt hc25_3).2.1) (by decide) ?_
        refine t_lN X0 u d37_30 rfl ?_
        refine Go.step (X0.ldc2Long hx hown (mvT hZ (wd hw 259 rfl)) (g := (mkF m 31 #[.val (.long x0), .second] [(.long x0)])) rfl (hb hby d37_31)) ?_
        refine Go.step (fun _ kt_ => XS.lcmp X0.here hx rfl (hb hby d37_34) rfl kt_) ?_
        by_cases hc35_4 : (lcmpW x0 (10000 : Int64)) < (0 : Int32)
        · refine t_ifN X0 u d37_35 ((if0 _ _).trans (tlt hc35_4).2.1) ?_
          refine t_iC X0 u d37_38  ?_
          exact Go.retI X0 hx hret hlk (hb hby d37_39) (by decide) (by decide) (by show _ ∧ _ ∧ _; rw [e0]; refine ⟨congrArg (fun z => some (Value.int z)) ?_, N0, rfl⟩; rw [hr]; ((try simp only [lw_lt, lw_gt, lw_eq] at hc5_1 hc15_2 hc25_3 hc35_4); simp only [hc5_1, hc15_2, hc25_3, hc35_4, digF, lw_lt, if_true, if_false, ite_self, eq_self, not_false_eq_true, true_or, or_true, false_or, or_false, or_self]); try rfl)
        · refine t_ifY 35 40 X0 u rfl d37_35 ((if0 _ _).trans (flt hc35_4).2.1) (by decide) ?_
          refine t_lN X0 u d37_40 rfl ?_
          refine Go.step (X0.ldc2Long hx hown (mvT hZ (wd hw 260 rfl)) (g := (mkF m 41 #[.val (.long x0), .second] [(.long x0)])) rfl (hb hby d37_41)) ?_
          refine Go.step (fun _ kt_ => XS.lcmp X0.here hx rfl (hb hby d37_44) rfl kt_) ?_
          by_cases hc45_5 : (lcmpW x0 (100000 : Int64)) < (0 : Int32)
          · refine t_ifN X0 u d37_45 ((if0 _ _).trans (tlt hc45_5).2.1) ?_
            refine t_iC X0 u d37_48  ?_
            exact Go.retI X0 hx hret hlk (hb hby d37_49) (by decide) (by decide) (by show _ ∧ _ ∧ _; rw [e0]; refine ⟨congrArg (fun z => some (Value.int z)) ?_, N0, rfl⟩; rw [hr]; ((try simp only [lw_lt, lw_gt, lw_eq] at hc5_1 hc15_2 hc25_3 hc35_4 hc45_5); simp only [hc5_1, hc15_2, hc25_3, hc35_4, hc45_5, digF, lw_lt, if_true, if_false, ite_self, eq_self, not_false_eq_true, true_or, or_true, false_or, or_false, or_self]); try rfl)
          · refine t_ifY 45 50 X0 u rfl d37_45 ((if0 _ _).trans (flt hc45_5).2.1) (by decide) ?_
            refine t_lN X0 u d37_50 rfl ?_
            refine Go.step (X0.ldc2Long hx hown (mvT hZ (wd hw 261 rfl)) (g := (mkF m 51 #[.val (.long x0), .second] [(.long x0)])) rfl (hb hby d37_51)) ?_
            refine Go.step (fun _ kt_ => XS.lcmp X0.here hx rfl (hb hby d37_54) rfl kt_) ?_
            by_cases hc55_6 : (lcmpW x0 (1000000 : Int64)) < (0 : Int32)
            · refine t_ifN X0 u d37_55 ((if0 _ _).trans (tlt hc55_6).2.1) ?_
              refine t_bP X0 u d37_58  ?_
              exact Go.retI X0 hx hret hlk (hb hby d37_60) (by decide) (by decide) (by show _ ∧ _ ∧ _; rw [e0]; refine ⟨congrArg (fun z => some (Value.int z)) ?_, N0, rfl⟩; rw [hr]; ((try simp only [lw_lt, lw_gt, lw_eq] at hc5_1 hc15_2 hc25_3 hc35_4 hc45_5 hc55_6); simp only [hc5_1, hc15_2, hc25_3, hc35_4, hc45_5, hc55_6, digF, lw_lt, if_true, if_false, ite_self, eq_self, not_false_eq_true, true_or, or_true, false_or, or_false, or_self]); try rfl)
            · refine t_ifY 55 61 X0 u rfl d37_55 ((if0 _ _).trans (flt hc55_6).2.1) (by decide) ?_
              refine t_lN X0 u d37_61 rfl ?_
              refine Go.step (X0.ldc2Long hx hown (mvT hZ (wd hw 262 rfl)) (g := (mkF m 62 #[.val (.long x0), .second] [(.long x0)])) rfl (hb hby d37_62)) ?_
              refine Go.step (fun _ kt_ => XS.lcmp X0.here hx rfl (hb hby d37_65) rfl kt_) ?_
              by_cases hc66_7 : (lcmpW x0 (10000000 : Int64)) < (0 : Int32)
              · refine t_ifN X0 u d37_66 ((if0 _ _).trans (tlt hc66_7).2.1) ?_
                refine t_bP X0 u d37_69  ?_
                exact Go.retI X0 hx hret hlk (hb hby d37_71) (by decide) (by decide) (by show _ ∧ _ ∧ _; rw [e0]; refine ⟨congrArg (fun z => some (Value.int z)) ?_, N0, rfl⟩; rw [hr]; ((try simp only [lw_lt, lw_gt, lw_eq] at hc5_1 hc15_2 hc25_3 hc35_4 hc45_5 hc55_6 hc66_7); simp only [hc5_1, hc15_2, hc25_3, hc35_4, hc45_5, hc55_6, hc66_7, digF, lw_lt, if_true, if_false, ite_self, eq_self, not_false_eq_true, true_or, or_true, false_or, or_false, or_self]); try rfl)
              · refine t_ifY 66 72 X0 u rfl d37_66 ((if0 _ _).trans (flt hc66_7).2.1) (by decide) ?_
                refine t_lN X0 u d37_72 rfl ?_
                refine Go.step (X0.ldc2Long hx hown (mvT hZ (wd hw 263 rfl)) (g := (mkF m 73 #[.val (.long x0), .second] [(.long x0)])) rfl (hb hby d37_73)) ?_
                refine Go.step (fun _ kt_ => XS.lcmp X0.here hx rfl (hb hby d37_76) rfl kt_) ?_
                by_cases hc77_8 : (lcmpW x0 (100000000 : Int64)) < (0 : Int32)
                · refine t_ifN X0 u d37_77 ((if0 _ _).trans (tlt hc77_8).2.1) ?_
                  refine t_bP X0 u d37_80  ?_
                  exact Go.retI X0 hx hret hlk (hb hby d37_82) (by decide) (by decide) (by show _ ∧ _ ∧ _; rw [e0]; refine ⟨congrArg (fun z => some (Value.int z)) ?_, N0, rfl⟩; rw [hr]; ((try simp only [lw_lt, lw_gt, lw_eq] at hc5_1 hc15_2 hc25_3 hc35_4 hc45_5 hc55_6 hc66_7 hc77_8); simp only [hc5_1, hc15_2, hc25_3, hc35_4, hc45_5, hc55_6, hc66_7, hc77_8, digF, lw_lt, if_true, if_false, ite_self, eq_self, not_false_eq_true, true_or, or_true, false_or, or_false, or_self]); try rfl)
                · refine t_ifY 77 83 X0 u rfl d37_77 ((if0 _ _).trans (flt hc77_8).2.1) (by decide) ?_
                  refine t_lN X0 u d37_83 rfl ?_
                  refine Go.step (X0.ldc2Long hx hown (mvT hZ (wd hw 264 rfl)) (g := (mkF m 84 #[.val (.long x0), .second] [(.long x0)])) rfl (hb hby d37_84)) ?_
                  refine Go.step (fun _ kt_ => XS.lcmp X0.here hx rfl (hb hby d37_87) rfl kt_) ?_
                  by_cases hc88_9 : (lcmpW x0 (1000000000 : Int64)) < (0 : Int32)
                  · refine t_ifN X0 u d37_88 ((if0 _ _).trans (tlt hc88_9).2.1) ?_
                    refine t_bP X0 u d37_91  ?_
                    exact Go.retI X0 hx hret hlk (hb hby d37_93) (by decide) (by decide) (by show _ ∧ _ ∧ _; rw [e0]; refine ⟨congrArg (fun z => some (Value.int z)) ?_, N0, rfl⟩; rw [hr]; ((try simp only [lw_lt, lw_gt, lw_eq] at hc5_1 hc15_2 hc25_3 hc35_4 hc45_5 hc55_6 hc66_7 hc77_8 hc88_9); simp only [hc5_1, hc15_2, hc25_3, hc35_4, hc45_5, hc55_6, hc66_7, hc77_8, hc88_9, digF, lw_lt, if_true, if_false, ite_self, eq_self, not_false_eq_true, true_or, or_true, false_or, or_false, or_self]); try rfl)
                  · refine t_ifY 88 94 X0 u rfl d37_88 ((if0 _ _).trans (flt hc88_9).2.1) (by decide) ?_
                    refine t_bP X0 u d37_94  ?_
                    exact Go.retI X0 hx hret hlk (hb hby d37_96) (by decide) (by decide) (by show _ ∧ _ ∧ _; rw [e0]; refine ⟨congrArg (fun z => some (Value.int z)) ?_, N0, rfl⟩; rw [hr]; ((try simp only [lw_lt, lw_gt, lw_eq] at hc5_1 hc15_2 hc25_3 hc35_4 hc45_5 hc55_6 hc66_7 hc77_8 hc88_9); simp only [hc5_1, hc15_2, hc25_3, hc35_4, hc45_5, hc55_6, hc66_7, hc77_8, hc88_9, digF, lw_lt, if_true, if_false, ite_self, eq_self, not_false_eq_true, true_or, or_true, false_or, or_false, or_self]); try rfl)
theorem pn_44 : plainName "com/example/layout_to_rows/layouttorows/harvest/FetchExceptionStatusPinLaw" = true := by first | (simp [plainName, overriddenIn]; done) | decide +kernel
def Q_pw (Z : State) (x0 : Int32) (h0 : Heap) (v : Option Value) (h : Heap) (L : List Loc) : Prop := v = some (.long (p10 x0)) ∧ Fr Z.heap.size L ∧ Keep h0 h []
theorem rm_pw (x0 : Int32) (h0 : Heap) (O0 : Ext Z.heap h0) (hp1 : ¬ (x0 < (0 : Int32))) (hp2 : ¬ ((9 : Int32) < x0)) :
    MF hw GG l y_44 method_4_code 2 (some .long) ws ⟨0, 1, 10, 0⟩ h0 #[(.int x0)] (Q_pw Z x0 h0) := by
  refine own_mF #[.val (.int x0), .unset] (plainFor_of_name pn_44) (fun _ => rfl) ?_
  intro p e s m below meth c s₁ u hlk hret hZ hown hnm X0 e0 N0
  obtain ⟨hx, hby, hml⟩ := id u
  refine t_bP X0 u d44_0  ?_
  obtain ⟨T1, h1, k1, X1, e1, E1, A1, st1⟩ := newP X0 hx hZ (wd hw 256 rfl) e0 (g := (mkF m 2 #[.val (.int x0), .unset] [v_10])) rfl (hb hby d44_2) rfl (by decide) (cap := 10) (by decide) (by decide) (by decide) (by decide)
  obtain ⟨b1, hb1⟩ : ∃ z, z = h0.size := ⟨_, rfl⟩
  rw [← hb1] at A1 st1
  refine Go.step st1 ?_
  have g_b1 := leE O0.1 hb1
  have O1_ := extTr O0 E1
  have sz_b1 := leE (Keep.refl h0 []).1 hb1
  have K1 := Keep.ext (Keep.refl h0 []) E1
  have V1 : Arv Z h1 b1 k1 .long (10 : Int32) [(.long (0 : Int64)), (.long (0 : Int64)), (.long (0 : Int64)), (.long (0 : Int64)), (.long (0 : Int64)), (.long (0 : Int64)), (.long (0 : Int64)), (.long (0 : Int64)), (.long (0 : Int64)), (.long (0 : Int64))] (.long (0 : Int64)) := (Arv.new A1 (by decide)).pad (pad_rep [] (.long (0 : Int64)) 10)
  refine t_dup X1 u d44_4 rfl ?_
  refine t_iC X1 u d44_5  ?_
  refine Go.step (fun _ kt_ => XS.lconst X1.here hx rfl (hb hby d44_6)  kt_) ?_
  obtain ⟨cl2, Ar2, q2, S2, N2, H2, G2⟩ := id V1
  have hin2 : ¬ ((0 : Int32) < 0 ∨ cl2.slots.size ≤ ((0 : Int32)).toNatClampNeg) := inb_of S2 ⟨by decide, by decide⟩
  obtain ⟨T2, h2, X2, e2, W2, st2⟩ := stJ X1 hx hZ e1 Ar2 (j := (0 : Int32)) hin2 (g := (mkF m 7 #[.val (.int x0), .unset] [(.long (1 : Int64)), v_0, (.ref b1), (.ref b1)])) rfl rfl (hb hby d44_7)
  refine Go.step st2 ?_
  have V2 : Arv Z h2 b1 k1 .long (10 : Int32) [(.long (1 : Int64)), (.long (0 : Int64)), (.long (0 : Int64)), (.long (0 : Int64)), (.long (0 : Int64)), (.long (0 : Int64)), (.long (0 : Int64)), (.long (0 : Int64)), (.long (0 : Int64)), (.long (0 : Int64))] (.long (0 : Int64)) := Arv.set Ar2 q2 S2 N2 H2 G2 rfl W2 0 rfl (Nat.le_of_ble_eq_true rfl)
  have N2_ := Fr.snoc X2 N0 g_b1
  have O2_ := extWr O1_ W2 g_b1
  have K2 := Keep.wr K1 W2 (Or.inr sz_b1)
  refine t_dup X2 u d44_8 rfl ?_
  refine t_iC X2 u d44_9  ?_
  refine Go.step (X2.ldc2Long hx hown (mvT hZ (wd hw 226 rfl)) (g := (mkF m 10 #[.val (.int x0), .unset] [v_1, (.ref b1), (.ref b1)])) rfl (hb hby d44_10)) ?_
  obtain ⟨cl3, Ar3, q3, S3, N3, H3, G3⟩ := id V2
  have hin3 : ¬ ((1 : Int32) < 0 ∨ cl3.slots.size ≤ ((1 : Int32)).toNatClampNeg) := inb_of S3 ⟨by decide, by decide⟩
  obtain ⟨T3, h3, X3, e3, W3, st3⟩ := stJ X2 hx hZ e2 Ar3 (j := (1 : Int32)) hin3 (g := (mkF m 13 #[.val (.int x0), .unset] [(.long (10 : Int64)), v_1, (.ref b1), (.ref b1)])) rfl rfl (hb hby d44_13)
  refine Go.step st3 ?_
  have V3 : Arv Z h3 b1 k1 .long (10 : Int32) [(.long (1 : Int64)), (.long (10 : Int64)), (.long (0 : Int64)), (.long (0 : Int64)), (.long (0 : Int64)), (.long (0 : Int64)), (.long (0 : Int64)), (.long (0 : Int64)), (.long (0 : Int64)), (.long (0 : Int64))] (.long (0 : Int64)) := Arv.set Ar3 q3 S3 N3 H3 G3 rfl W3 1 rfl (Nat.le_of_ble_eq_true rfl)
  have N3_ := Fr.snoc X3 N2_ g_b1
  have O3_ := extWr O2_ W3 g_b1
  have K3 := Keep.wr K2 W3 (Or.inr sz_b1)
  refine t_dup X3 u d44_14 rfl ?_
  refine t_iC X3 u d44_15  ?_
  refine Go.step (X3.ldc2Long hx hown (mvT hZ (wd hw 257 rfl)) (g := (mkF m 16 #[.val (.int x0), .unset] [(.int (2 : Int32)), (.ref b1), (.ref b1)])) rfl (hb hby d44_16)) ?_
  obtain ⟨cl4, Ar4, q4, S4, N4, H4, G4⟩ := id V3
  have hin4 : ¬ ((2 : Int32) < 0 ∨ cl4.slots.size ≤ ((2 : Int32)).toNatClampNeg) := inb_of S4 ⟨by decide, by decide⟩
  obtain ⟨T4, h4, X4, e4, W4, st4⟩ := stJ X3 hx hZ e3 Ar4 (j := (2 : Int32)) hin4 (g := (mkF m 19 #[.val (.int x0), .unset] [(.long (100 : Int64)), (.int (2 : Int32)), (.ref b1), (.ref b1)])) rfl rfl (hb hby d44_19)
  refine Go.step st4 ?_
  have V4 : Arv Z h4 b1 k1 .long (10 : Int32) [(.long (1 : Int64)), (.long (10 : Int64)), (.long (100 : Int64)), (.long (0 : Int64)), (.long (0 : Int64)), (.long (0 : Int64)), (.long (0 : Int64)), (.long (0 : Int64)), (.long (0 : Int64)), (.long (0 : Int64))] (.long (0 : Int64)) := Arv.set Ar4 q4 S4 N4 H4 G4 rfl W4 2 rfl (Nat.le_of_ble_eq_true rfl)
  have N4_ := Fr.snoc X4 N3_ g_b1
  have O4_ := extWr O3_ W4 g_b1
  have K4 := Keep.wr K3 W4 (Or.inr sz_b1)
  refine t_dup X4 u d44_20 rfl ?_
  refine t_iC X4 u d44_21  ?_
  refine Go.step (X4.ldc2Long hx hown (mvT hZ (wd hw 258 rfl)) (g := (mkF m 22 #[.val (.int x0), .unset] [(.int (3 : Int32)), (.ref b1), (.ref b1)])) rfl (hb hby d44_22)) ?_
  obtain ⟨cl5, Ar5, q5, S5, N5, H5, G5⟩ := id V4
  have hin5 : ¬ ((3 : Int32) < 0 ∨ cl5.slots.size ≤ ((3 : Int32)).toNatClampNeg) := inb_of S5 ⟨by decide, by decide⟩
  obtain ⟨T5, h5, X5, e5, W5, st5⟩ := stJ X4 hx hZ e4 Ar5 (j := (3 : Int32)) hin5 (g := (mkF m 25 #[.val (.int x0), .unset] [(.long (1000 : Int64)), (.int (3 : Int32)), (.ref b1), (.ref b1)])) rfl rfl (hb hby d44_25)
  refine Go.step st5 ?_
  have V5 : Arv Z h5 b1 k1 .long (10 : Int32) [(.long (1 : Int64)), (.long (10 : Int64)), (.long (100 : Int64)), (.long (1000 : Int64)), (.long (0 : Int64)), (.long (0 : Int64)), (.long (0 : Int64)), (.long (0 : Int64)), (.long (0 : Int64)), (.long (0 : Int64))] (.long (0 : Int64)) := Arv.set Ar5 q5 S5 N5 H5 G5 rfl W5 3 rfl (Nat.le_of_ble_eq_true rfl)
  have N5_ := Fr.snoc X5 N4_ g_b1
  have O5_ := extWr O4_ W5 g_b1
  have K5 := Keep.wr K4 W5 (Or.inr sz_b1)
  refine t_dup X5 u d44_26 rfl ?_
  refine t_iC X5 u d44_27  ?_
  refine Go.step (X5.ldc2Long hx hown (mvT hZ (wd hw 259 rfl)) (g := (mkF m 28 #[.val (.int x0), .unset] [(.int (4 : Int32)), (.ref b1), (.ref b1)])) rfl (hb hby d44_28)) ?_
  obtain ⟨cl6, Ar6, q6, S6, N6, H6, G6⟩ := id V5
  have hin6 : ¬ ((4 : Int32) < 0 ∨ cl6.slots.size ≤ ((4 : Int32)).toNatClampNeg) := inb_of S6 ⟨by decide, by decide⟩
  obtain ⟨T6, h6, X6, e6, W6, st6⟩ := stJ X5 hx hZ e5 Ar6 (j := (4 : Int32)) hin6 (g := (mkF m 31 #[.val (.int x0), .unset] [(.long (10000 : Int64)), (.int (4 : Int32)), (.ref b1), (.ref b1)])) rfl rfl (hb hby d44_31)
  refine Go.step st6 ?_
  have V6 : Arv Z h6 b1 k1 .long (10 : Int32) [(.long (1 : Int64)), (.long (10 : Int64)), (.long (100 : Int64)), (.long (1000 : Int64)), (.long (10000 : Int64)), (.long (0 : Int64)), (.long (0 : Int64)), (.long (0 : Int64)), (.long (0 : Int64)), (.long (0 : Int64))] (.long (0 : Int64)) := Arv.set Ar6 q6 S6 N6 H6 G6 rfl W6 4 rfl (Nat.le_of_ble_eq_true rfl)
  have N6_ := Fr.snoc X6 N5_ g_b1
  have O6_ := extWr O5_ W6 g_b1
  have K6 := Keep.wr K5 W6 (Or.inr sz_b1)
  refine t_dup X6 u d44_32 rfl ?_
  refine t_iC X6 u d44_33  ?_
  refine Go.step (X6.ldc2Long hx hown (mvT hZ (wd hw 260 rfl)) (g := (mkF m 34 #[.val (.int x0), .unset] [(.int (5 : Int32)), (.ref b1), (.ref b1)])) rfl (hb hby d44_34)) ?_
  obtain ⟨cl7, Ar7, q7, S7, N7, H7, G7⟩ := id V6
  have hin7 : ¬ ((5 : Int32) < 0 ∨ cl7.slots.size ≤ ((5 : Int32)).toNatClampNeg) := inb_of S7 ⟨by decide, by decide⟩
  obtain ⟨T7, h7, X7, e7, W7, st7⟩ := stJ X6 hx hZ e6 Ar7 (j := (5 : Int32)) hin7 (g := (mkF m 37 #[.val (.int x0), .unset] [(.long (100000 : Int64)), (.int (5 : Int32)), (.ref b1), (.ref b1)])) rfl rfl (hb hby d44_37)
  refine Go.step st7 ?_
  have V7 : Arv Z h7 b1 k1 .long (10 : Int32) [(.long (1 : Int64)), (.long (10 : Int64)), (.long (100 : Int64)), (.long (1000 : Int64)), (.long (10000 : Int64)), (.long (100000 : Int64)), (.long (0 : Int64)), (.long (0 : Int64)), (.long (0 : Int64)), (.long (0 : Int64))] (.long (0 : Int64)) := Arv.set Ar7 q7 S7 N7 H7 G7 rfl W7 5 rfl (Nat.le_of_ble_eq_true rfl)
  have N7_ := Fr.snoc X7 N6_ g_b1
  have O7_ := extWr O6_ W7 g_b1
  have K7 := Keep.wr K6 W7 (Or.inr sz_b1)
  refine t_dup X7 u d44_38 rfl ?_
  refine t_bP X7 u d44_39  ?_
  refine Go.step (X7.ldc2Long hx hown (mvT hZ (wd hw 261 rfl)) (g := (mkF m 41 #[.val (.int x0), .unset] [(.int (6 : Int32)), (.ref b1), (.ref b1)])) rfl (hb hby d44_41)) ?_
  obtain ⟨cl8, Ar8, q8, S8, N8, H8, G8⟩ := id V7
  have hin8 : ¬ ((6 : Int32) < 0 ∨ cl8.slots.size ≤ ((6 : Int32)).toNatClampNeg) := inb_of S8 ⟨by decide, by decide⟩
  obtain ⟨T8, h8, X8, e8, W8, st8⟩ := stJ X7 hx hZ e7 Ar8 (j := (6 : Int32)) hin8 (g := (mkF m 44 #[.val (.int x0), .unset] [(.long (1000000 : Int64)), (.int (6 : Int32)), (.ref b1), (.ref b1)])) rfl rfl (hb hby d44_44)
  refine Go.step st8 ?_
  have V8 : Arv Z h8 b1 k1 .long (10 : Int32) [(.long (1 : Int64)), (.long (10 : Int64)), (.long (100 : Int64)), (.long (1000 : Int64)), (.long (10000 : Int64)), (.long (100000 : Int64)), (.long (1000000 : Int64)), (.long (0 : Int64)), (.long (0 : Int64)), (.long (0 : Int64))] (.long (0 : Int64)) := Arv.set Ar8 q8 S8 N8 H8 G8 rfl W8 6 rfl (Nat.le_of_ble_eq_true rfl)
  have N8_ := Fr.snoc X8 N7_ g_b1
  have O8_ := extWr O7_ W8 g_b1
  have K8 := Keep.wr K7 W8 (Or.inr sz_b1)
  refine t_dup X8 u d44_45 rfl ?_
  refine t_bP X8 u d44_46  ?_
  refine Go.step (X8.ldc2Long hx hown (mvT hZ (wd hw 262 rfl)) (g := (mkF m 48 #[.val (.int x0), .unset] [v_7, (.ref b1), (.ref b1)])) rfl (hb hby d44_48)) ?_
  obtain ⟨cl9, Ar9, q9, S9, N9, H9, G9⟩ := id V8
  have hin9 : ¬ ((7 : Int32) < 0 ∨ cl9.slots.size ≤ ((7 : Int32)).toNatClampNeg) := inb_of S9 ⟨by decide, by decide⟩
  obtain ⟨T9, h9, X9, e9, W9, st9⟩ := stJ X8 hx hZ e8 Ar9 (j := (7 : Int32)) hin9 (g := (mkF m 51 #[.val (.int x0), .unset] [(.long (10000000 : Int64)), v_7, (.ref b1), (.ref b1)])) rfl rfl (hb hby d44_51)
  refine Go.step st9 ?_
  have V9 : Arv Z h9 b1 k1 .long (10 : Int32) [(.long (1 : Int64)), (.long (10 : Int64)), (.long (100 : Int64)), (.long (1000 : Int64)), (.long (10000 : Int64)), (.long (100000 : Int64)), (.long (1000000 : Int64)), (.long (10000000 : Int64)), (.long (0 : Int64)), (.long (0 : Int64))] (.long (0 : Int64)) := Arv.set Ar9 q9 S9 N9 H9 G9 rfl W9 7 rfl (Nat.le_of_ble_eq_true rfl)
  have N9_ := Fr.snoc X9 N8_ g_b1
  have O9_ := extWr O8_ W9 g_b1
  have K9 := Keep.wr K8 W9 (Or.inr sz_b1)
  refine t_dup X9 u d44_52 rfl ?_
  refine t_bP X9 u d44_53  ?_
  refine Go.step (X9.ldc2Long hx hown (mvT hZ (wd hw 263 rfl)) (g := (mkF m 55 #[.val (.int x0), .unset] [v_8, (.ref b1), (.ref b1)])) rfl (hb hby d44_55)) ?_
  obtain ⟨cl10, Ar10, q10, S10, N10, H10, G10⟩ := id V9
  have hin10 : ¬ ((8 : Int32) < 0 ∨ cl10.slots.size ≤ ((8 : Int32)).toNatClampNeg) := inb_of S10 ⟨by decide, by decide⟩
  obtain ⟨T10, h10, X10, e10, W10, st10⟩ := stJ X9 hx hZ e9 Ar10 (j := (8 : Int32)) hin10 (g := (mkF m 58 #[.val (.int x0), .unset] [(.long (100000000 : Int64)), v_8, (.ref b1), (.ref b1)])) rfl rfl (hb hby d44_58)
  refine Go.step st10 ?_
  have V10 : Arv Z h10 b1 k1 .long (10 : Int32) [(.long (1 : Int64)), (.long (10 : Int64)), (.long (100 : Int64)), (.long (1000 : Int64)), (.long (10000 : Int64)), (.long (100000 : Int64)), (.long (1000000 : Int64)), (.long (10000000 : Int64)), (.long (100000000 : Int64)), (.long (0 : Int64))] (.long (0 : Int64)) := Arv.set Ar10 q10 S10 N10 H10 G10 rfl W10 8 rfl (Nat.le_of_ble_eq_true rfl)
  have N10_ := Fr.snoc X10 N9_ g_b1
  have O10_ := extWr O9_ W10 g_b1
  have K10 := Keep.wr K9 W10 (Or.inr sz_b1)
  refine t_dup X10 u d44_59 rfl ?_
  refine t_bP X10 u d44_60  ?_
  refine Go.step (X10.ldc2Long hx hown (mvT hZ (wd hw 264 rfl)) (g := (mkF m 62 #[.val (.int x0), .unset] [v_9, (.ref b1), (.ref b1)])) rfl (hb hby d44_62)) ?_
  obtain ⟨cl11, Ar11, q11, S11, N11, H11, G11⟩ := id V10
  have hin11 : ¬ ((9 : Int32) < 0 ∨ cl11.slots.size ≤ ((9 : Int32)).toNatClampNeg) := inb_of S11 ⟨by decide, by decide⟩
  obtain ⟨T11, h11, X11, e11, W11, st11⟩ := stJ X10 hx hZ e10 Ar11 (j := (9 : Int32)) hin11 (g := (mkF m 65 #[.val (.int x0), .unset] [(.long (1000000000 : Int64)), v_9, (.ref b1), (.ref b1)])) rfl rfl (hb hby d44_65)
  refine Go.step st11 ?_
  have V11 : Arv Z h11 b1 k1 .long (10 : Int32) [(.long (1 : Int64)), (.long (10 : Int64)), (.long (100 : Int64)), (.long (1000 : Int64)), (.long (10000 : Int64)), (.long (100000 : Int64)), (.long (1000000 : Int64)), (.long (10000000 : Int64)), (.long (100000000 : Int64)), (.long (1000000000 : Int64))] (.long (0 : Int64)) := Arv.set Ar11 q11 S11 N11 H11 G11 rfl W11 9 rfl (Nat.le_of_ble_eq_true rfl)
  have N11_ := Fr.snoc X11 N10_ g_b1
  have O11_ := extWr O10_ W11 g_b1
  have K11 := Keep.wr K10 W11 (Or.inr sz_b1)
  refine t_asN X11 u d44_66 rfl (l' := #[.val (.int x0), .val (.ref b1)]) rfl ?_
  refine t_iN X11 u d44_67 rfl ?_
  refine t_ifN X11 u d44_68 ((if0 _ _).trans (flt hp1).1) ?_
  refine t_iN X11 u d44_71 rfl ?_
  refine t_bP X11 u d44_72  ?_
  refine t_icY 74 79 X11 u rfl d44_74 (flt hp2).2.2.2 (by decide) ?_
  refine t_aN X11 u d44_79 rfl rfl ?_
  refine t_iN X11 u d44_80 rfl ?_
  show Go _ _ _ _ _ _ _ _ T11 (mkF m 81 #[.val (.int x0), .val (.ref b1)] [(.int x0), (.ref b1)])
  obtain ⟨cl12, Ar12, q12, S12, N12, H12, G12⟩ := id V11
  have hin12 : ¬ (x0 < 0 ∨ cl12.slots.size ≤ (x0).toNatClampNeg) := inb_of S12 (own_p10b hp1 hp2)
  refine Go.step (X11.laload hx (j := x0) (v := (.long (p10 x0))) (by rw [e11]; exact Ar12.1) (State.isArrayOf_alike hZ.alike Ar12.2.1) Ar12.2.2 hin12 (Has.at H12 hin12 (own_p10 hp1 hp2)) (g := (mkF m 81 #[.val (.int x0), .val (.ref b1)] [(.int x0), (.ref b1)])) rfl rfl (hb hby d44_81)) ?_
  exact Go.retJ X11 hx hret hlk (hb hby d44_82) (by decide) (by decide) (by show _ ∧ _ ∧ _; rw [e11]; exact ⟨rfl, N11_, K11⟩)
theorem pn_43 : plainName "com/example/layout_to_rows/layouttorows/harvest/FetchExceptionStatusPinLaw" = true := by first | (simp [plainName, overriddenIn]; done) | decide +kernel
def Q_dd (Z : State)  (h0 : Heap) (v : Option Value) (h : Heap) (L : List Loc) : Prop := v = some v_1 ∧ Fr Z.heap.size L ∧ Keep h0 h []
theorem rm_dd (x0 : Addr) (x1 : Int32) (x2 : Int64) (x3 x4 : Int32) (b : Addr) (kb : ClassId) (n : Int32) (vs : List Value) (h0 : Heap) (O0 : Ext Z.heap h0) (A0 : ex_2 Z h0 x0) (FV : fl_5 Z h0 x0 (.ref b)) (FC : fl_4 Z h0 x0 v_0) (V0 : Arv Z h0 b kb .byte n vs v_0) (hd : DOK vs n x1 x2 x3 x4) :
    MF hw GG l y_43 method_5_code 9 (some .boolean) ws ⟨4, 1, 10, 53⟩ h0 #[(.ref x0), (.int x1), (.long x2), (.int x3), (.int x4)] (Q_dd Z  h0) := by
  refine own_mF #[.val (.ref x0), .val (.int x1), .val (.long x2), .second, .val (.int x3), .val (.int x4), .unset, .unset, .unset] (plainFor_of_name pn_43) (fun _ => rfl) ?_
  intro p e s m below meth c s₁ u hlk hret hZ hown hnm X0 e0 N0
  obtain ⟨hx, hby, hml⟩ := id u
  refine t_iL X0 u d43_0 rfl ?_
  refine t_iL X0 u d43_2 rfl ?_
  by_cases hc4_1 : x4 < x3
  · refine t_icY 4 9 X0 u rfl d43_4 (tlt hc4_1).1 (by decide) ?_
    show Go _ _ _ _ _ _ _ _ s₁ (mkF m 9 #[.val (.ref x0), .val (.int x1), .val (.long x2), .second, .val (.int x3), .val (.int x4), .unset, .unset, .unset] [])
    obtain ⟨w, ⟨q1, q2⟩, q3, q4, q5, q6⟩ := hd hc4_1
    refine t_iL X0 u d43_9 rfl ?_
    refine t_iC X0 u d43_11  ?_
    refine t_isub X0 u d43_12  ?_
    refine t_iL X0 u d43_13 rfl ?_
    refine t_isub X0 u d43_15  ?_
    refine t_cS [(.int ((x3 - (1 : Int32)) - x4))] [] 0 X0 u hZ hown (wd hw 253 rfl) (m_32 hw) e0 (rm_pw l Z a0 hw [] G GG ((x3 - (1 : Int32)) - x4) h0 O0 q1 q2) rfl d43_16 rfl rfl (by decide) ?_
    intro v2 T2 L2 Lc2 X2 hQ2 l2
    obtain ⟨rfl, Nq2, Kq2⟩ := hQ2
    have O2_ := extKeep O0 Kq2 all0
    have K2 := Keep.trans (Keep.refl h0 []) Kq2 all0
    have N2_ := frA l2 N0 Nq2
    refine Go.step (fun _ kt_ => XS.lstore X2.here hx rfl (hb hby d43_19) rfl (l' := #[.val (.ref x0), .val (.int x1), .val (.long x2), .second, .val (.int x3), .val (.int x4), .val (.long (p10 ((x3 - (1 : Int32)) - x4))), .second, .unset]) rfl kt_) ?_
    refine t_lN X2 u d43_21 rfl ?_
    refine t_lL X2 u d43_22 rfl ?_
    refine Go.step (fun _ kt_ => XS.ldiv X2.here hx rfl (hb hby d43_24) rfl (own_p10z q1 q2) kt_) ?_
    show Go _ _ _ _ _ _ _ _ T2 (mkF m 25 #[.val (.ref x0), .val (.int x1), .val (.long x2), .second, .val (.int x3), .val (.int x4), .val (.long (p10 ((x3 - (1 : Int32)) - x4))), .second, .unset] [(.long (x2 / (p10 ((x3 - (1 : Int32)) - x4))))])
    refine Go.step (X2.ldc2Long hx hown (mvT hZ (wd hw 226 rfl)) (g := (mkF m 25 #[.val (.ref x0), .val (.int x1), .val (.long x2), .second, .val (.int x3), .val (.int x4), .val (.long (p10 ((x3 - (1 : Int32)) - x4))), .second, .unset] [(.long (x2 / (p10 ((x3 - (1 : Int32)) - x4))))])) rfl (hb hby d43_25)) ?_
    refine Go.step (fun _ kt_ => XS.lrem X2.here hx rfl (hb hby d43_28) rfl (by decide) kt_) ?_
    show Go _ _ _ _ _ _ _ _ T2 (mkF m 29 #[.val (.ref x0), .val (.int x1), .val (.long x2), .second, .val (.int x3), .val (.int x4), .val (.long (p10 ((x3 - (1 : Int32)) - x4))), .second, .unset] [(.long ((x2 / (p10 ((x3 - (1 : Int32)) - x4))) - (x2 / (p10 ((x3 - (1 : Int32)) - x4))) / (10 : Int64) * (10 : Int64)))])
    refine Go.step (fun _ kt_ => XS.l2i X2.here hx rfl (hb hby d43_29) rfl kt_) ?_
    refine t_isL X2 u d43_30 (l' := #[.val (.ref x0), .val (.int x1), .val (.long x2), .second, .val (.int x3), .val (.int x4), .val (.long (p10 ((x3 - (1 : Int32)) - x4))), .second, .val (.int (((x2 / (p10 ((x3 - (1 : Int32)) - x4))) - (x2 / (p10 ((x3 - (1 : Int32)) - x4))) / (10 : Int64) * (10 : Int64)).toInt32))]) rfl ?_
    refine t_aN X2 u d43_32 rfl rfl ?_
    refine t_iN X2 u d43_33 rfl ?_
    refine t_iL X2 u d43_34 rfl ?_
    refine t_iadd X2 u d43_36  ?_
    refine pt_cV [(.int (x1 + x4))] [] 0 X2 u hZ hown (wd hw 228 rfl) (m_33 hw) rfl (A0.keep Kq2) (rm_sc l Z a0 hw [] G GG x0 (x1 + x4) b kb n vs w (((48 : Int32) + (((x2 / (p10 ((x3 - (1 : Int32)) - x4))) - (x2 / (p10 ((x3 - (1 : Int32)) - x4))) / (10 : Int64) * (10 : Int64)).toInt32)).toUInt32.toUInt16.toUInt32.toInt32) T2.heap O2_ (A0.keep Kq2) (FV.keep Kq2 nin0) (FC.keep Kq2 nin0) (V0.keep Kq2 nin0) q3 q4 q5 q6) rfl d43_37 rfl rfl (by decide) N2_ ?_
    intro T3 L3 X3 e3 N3_
    refine t_bP X3 u d43_40  ?_
    refine t_iL X3 u d43_42 rfl ?_
    refine t_iadd X3 u d43_44  ?_
    refine Go.step (fun _ kt_ => XS.i2c X3.here hx rfl (hb hby d43_45) rfl kt_) ?_
    show Go _ _ _ _ _ _ _ _ T3 (mkF m 46 #[.val (.ref x0), .val (.int x1), .val (.long x2), .second, .val (.int x3), .val (.int x4), .val (.long (p10 ((x3 - (1 : Int32)) - x4))), .second, .val (.int (((x2 / (p10 ((x3 - (1 : Int32)) - x4))) - (x2 / (p10 ((x3 - (1 : Int32)) - x4))) / (10 : Int64) * (10 : Int64)).toInt32))] [(.int (((48 : Int32) + (((x2 / (p10 ((x3 - (1 : Int32)) - x4))) - (x2 / (p10 ((x3 - (1 : Int32)) - x4))) / (10 : Int64) * (10 : Int64)).toInt32)).toUInt32.toUInt16.toUInt32.toInt32)), (.int ((((48 : Int32) + (((x2 / (p10 ((x3 - (1 : Int32)) - x4))) - (x2 / (p10 ((x3 - (1 : Int32)) - x4))) / (10 : Int64) * (10 : Int64)).toInt32)).toUInt32.toUInt16.toUInt32.toInt32).toUInt32.toUInt16.toUInt32.toInt32))])
    refine t_icN X3 u d43_46 (teq (own_ncnc _)).2 ?_
    refine t_iC X3 u d43_49  ?_
    refine t_go 50 54 X3 u rfl d43_50 (by decide) ?_
    exact Go.retN X3 hx (t := .boolean) hret (by simp) hlk (hb hby d43_54) (by decide) (by decide) (by show _ ∧ _ ∧ _; rw [e3]; exact ⟨rfl, N3_, K2⟩)
  · refine t_icN X0 u d43_4 (flt hc4_1).1 ?_
    refine t_iC X0 u d43_7  ?_
    exact Go.retN X0 hx (t := .boolean) hret (by simp) hlk (hb hby d43_8) (by decide) (by decide) (by show _ ∧ _ ∧ _; rw [e0]; exact ⟨rfl, N0, (Keep.refl h0 [])⟩)
theorem pn_33 : plainName "com/example/layout_to_rows/layouttorows/harvest/FetchException" = true := by first | (simp [plainName, overriddenIn]; done) | decide +kernel
theorem rm_a33_0 (x0 : Addr) (w1 : Int32) (h0 : Heap) (O0 : Ext Z.heap h0) (r0 : fl_3 Z h0 x0 (.int w1)) :
    MF hw GG l y_33 prog_9_method_5_code 1 (some .boolean) ws ⟨0, 0, 0, 0⟩ h0 #[(.ref x0)] (Qp (some (.int (w1 &&& (1 : Int32)))) Z h0) := by
  refine own_mF #[.val (.ref x0)] (plainFor_of_name pn_33) (fun _ => rfl) ?_
  intro p e s m below meth c s₁ u hlk hret hZ hown hnm X0 e0 N0
  refine t_aN X0 u d33_0 rfl rfl ?_
  refine t_gF X0 u hZ hown (wd hw 200 rfl) e0 r0 d33_1 ?_
  intro T1 X1 e1
  exact t_rN X1 u hret hlk (by simp) rfl d33_4 e1 N0 (by decide)
theorem pn_35 : plainName "java/lang/Throwable" = true := by first | (simp [plainName, overriddenIn]; done) | decide +kernel
theorem rm_a35_0 (x0 w1 : Addr) (h0 : Heap) (O0 : Ext Z.heap h0) (r0 : fl_0 Z h0 x0 (.ref w1)) :
    MF hw GG l y_35 jdk_78_method_6_code 1 (some (.object "java/lang/String")) ws ⟨0, 0, 0, 0⟩ h0 #[(.ref x0)] (Qp (some (.ref w1)) Z h0) := by
  refine own_mF #[.val (.ref x0)] (plainFor_of_name pn_35) (fun _ => rfl) ?_
  intro p e s m below meth c s₁ u hlk hret hZ hown hnm X0 e0 N0
  refine t_aN X0 u d35_0 rfl rfl ?_
  refine t_gF X0 u hZ hown (wd hw 199 rfl) e0 r0 d35_1 ?_
  intro T1 X1 e1
  exact t_rA X1 u hret hlk rfl rfl d35_4 e1 N0 (by decide)
theorem lw_0 (l : Launch) (Z : State) (a0 : Array Value) (hw : HW Z a0) (G : GT) (GG : GP Z G) {p : Program} {e : Env} {s : State} {m : MethodId} {below : List Frame} {meth : Method} {c : Code} {h0 : Heap} {Q : Option Value → Heap → List Loc → Prop} (hx : p.tables.exec = Jvm.exec) (hby : c.code = code) (hml : c.maxLocals = maxLocals) (hlk : meth.locks = false) (hret : meth.sig.returnType = ret) (hh : s.heap = h0) (x0 : Int32) {r sm sb : Addr} {sk : ClassId} {n : Int32} {vs : List Value} {T0 : State} {L0 : List Loc} {vm0 : Vm} {hq : Heap} {k0 : Nat} (X0 : Stand p l e room_1 (s.setVm vm0) m #[(.int x0)] below meth c T0 L0 9 2867) (e0 : T0.heap = hq) (O0 : Ext Z.heap hq) (N0 : Fr Z.heap.size L0) (hZ0 : Z.Warmed39 (s.setVm vm0).vm) (hown0 : (s.setVm vm0).vm.findClass "com/example/layout_to_rows/layouttorows/harvest/FetchExceptionStatusPinLaw" = some m.cls) (S0 : s.Since vm0 k0) (kk0 : k0 ≤ hq.size) (CR0 : CHr Z consts_1 s.vm h0 vm0 hq) (hQ : ∀ h L, Fr Z.heap.size L → Q (some v_1) h L) (sq : StQ Z hq r sm sb sk n vs) {k : Nat} (k1 : 1 ≤ k) (k2 : k ≤ 10) (k3 : x0.toInt.natAbs < 10 ^ k) (k4 : k = 1 ∨ 10 ^ (k - 1) ≤ x0.toInt.natAbs) (hsg : ¬ (x0 < (0 : Int32))) (en : n = Int32.ofNat (7 + k)) (ev : vs = hd7 ++ dgs x0 k) : Go (ENH Z consts_1) p e below s room_1.cells room_1.slots Q T0 (mkF m 5 #[.val (.int x0), .val (.ref r), .unset, .unset, .unset, .unset, .unset, .unset] []) := by
  obtain ⟨qE, qU, qA, qC, qM, qS, qc, qv, qV⟩ := sq
  have u : UB p c _ _ := ⟨hx, hby, hml⟩
  have hEL := own_EW hw
  have hlen := own_len (o := (7 : Int32)) (by decide) k2 rfl en
  have hb7 := own_b7n (by decide) ⟨k1, k2⟩ en
  have hv := own_hv ev
  have hdg := own_dig k1 k2 k3 k4
  have hd := own_dok (off := (7 : Int32)) k1 k2 (by decide) rfl rfl en ev
  refine t_aN X0 u at_5 rfl rfl ?_
  refine pt_cV [] [] 0 X0 u hZ0 hown0 (wd hw 202 rfl) (m_34 hw) e0 qE (rm_a33_0 l Z a0 hw [] G GG r (1 : Int32) hq O0 qA) rfl at_6 rfl rfl (by decide) N0 ?_
  intro T1 L1 X1 e1 N1_
  refine t_ifY 9 14 X1 u rfl at_9 ((if0 _ _).trans (feq (by decide : ¬ ((1 : Int32) = (0 : Int32)))).2) (by decide) ?_
  refine t_aN X1 u at_14 rfl rfl ?_
  obtain ⟨cq2, kq2, q2a, q2b, q2c⟩ := isOf hZ0 e1 qE
  obtain ⟨_, _, ⟨T2, L2, k2, n2⟩, -, X2, ⟨rfl, e2, l2, y2, z2⟩, st2⟩ := X1.virtualBackUp hx (x := (⟨"com/example/layout_to_rows/layouttorows/harvest/FetchException", "getCause", "()Ljava/lang/Throwable;"⟩ : MethodName)) (y := (⟨"java/lang/Throwable", "getCause", "()Ljava/lang/Throwable;"⟩ : MethodName)) hown0 (mvT hZ0 (wd hw 207 rfl)) (mvT hZ0 (wd hw 208 rfl)) (mvT hZ0 (wd hw 209 rfl)) (by decide) (mvT hZ0 (wd hw 211 rfl)) (mvT hZ0 (wd hw 210 rfl)) (gcBackPure (rm := ⟨0, 0, 0, 0⟩) (W := 0) hZ0 (wd hw 212 rfl) (wd hw 210 rfl) (wd hw 161 rfl) (wd hw 164 rfl) qU qC rfl (by decide) (by decide)) q2a q2c (g := (mkF m 15 #[.val (.int x0), .val (.ref r), .unset, .unset, .unset, .unset, .unset, .unset] [(.ref r)])) rfl (by rw [hml]; rfl) (Steps.refl _) (argsL := []) (rest := []) (lenOf pd_LRLjava_lang_Throwable_ rfl) rfl (by show 2 * 0 + _ ≤ _; exact Nat.le_of_eq rfl) (hb hby at_15) (fun _ _ => ⟨rfl, e1, (by decide : 9 + 0 ≤ _), (by decide : 2867 + 0 ≤ _)⟩)
  dsimp only [Pt.U, Pt.locs, Pt.cells, Pt.slots] at X2 e2 l2 y2 z2 st2
  subst l2 y2 z2
  rw [gcv_null] at st2
  refine Go.trans st2 ?_
  refine Go.step (fun _ kt_ => XS.ifnullYes X2.here hx rfl (pc0 := 18) (pc' := 23) rfl (hb hby at_18) rfl (by decide) (by decide) kt_) ?_
  refine t_aN X2 u at_23 rfl rfl ?_
  refine pt_cU [] [] 0 X2 u hZ0 hown0 (wd hw 213 rfl) (m_35 hw) e2 qE (rm_a35_0 l Z a0 hw [] G GG r sm hq O0 qM) rfl at_24 rfl rfl (by decide) N1_ ?_
  intro T3 L3 X3 e3 N3_
  refine t_asN X3 u at_27 rfl (l' := #[.val (.int x0), .val (.ref r), .val (.ref sm), .unset, .unset, .unset, .unset, .unset]) rfl ?_
  refine t_aN X3 u at_28 rfl rfl ?_
  refine Go.step (fun _ kt_ => XS.ifnonnullYes X3.here hx rfl (pc0 := 29) (pc' := 34) rfl (hb hby at_29) rfl (by decide) (by decide) kt_) ?_
  refine t_iN X3 u at_34 rfl ?_
  refine Go.step (fun _ kt_ => XS.i2l X3.here hx rfl (hb hby at_35) rfl kt_) ?_
  refine pt_cS [(.long (x0.toInt64))] [] 0 X3 u hZ0 hown0 (wd hw 219 rfl) (m_36 hw) e3 (rm_ab l Z a0 hw [] G GG (x0.toInt64) (aL x0) hq O0 rfl) rfl at_36 rfl rfl (by decide) N3_ ?_
  intro T4 L4 X4 e4 N4_
  refine Go.step (fun _ kt_ => XS.lstoreN X4.here hx rfl (hb hby at_39) rfl (l' := #[.val (.int x0), .val (.ref r), .val (.ref sm), .val (.long (aL x0)), .second, .unset, .unset, .unset]) rfl kt_) ?_
  refine t_iN X4 u at_40 rfl ?_
  refine t_ifY 41 48 X4 u rfl at_41 ((if0 _ _).trans (flt hsg).2.1) (by decide) ?_
  refine t_iC X4 u at_48  ?_
  refine t_isL X4 u at_49 (l' := #[.val (.int x0), .val (.ref r), .val (.ref sm), .val (.long (aL x0)), .second, .val v_0, .unset, .unset]) rfl ?_
  refine t_lN X4 u at_51 rfl ?_
  refine pt_cS [(.long (aL x0))] [] 0 X4 u hZ0 hown0 (wd hw 222 rfl) (m_37 hw) e4 (rm_dg l Z a0 hw [] G GG (aL x0) (Int32.ofNat k) hq O0 hdg) rfl at_52 rfl rfl (by decide) N4_ ?_
  intro T5 L5 X5 e5 N5_
  refine t_isL X5 u at_55 (l' := #[.val (.int x0), .val (.ref r), .val (.ref sm), .val (.long (aL x0)), .second, .val v_0, .val (.int (Int32.ofNat k)), .unset]) rfl ?_
  refine t_aN X5 u at_57 rfl rfl ?_
  refine pt_cV [] [] 0 X5 u hZ0 hown0 (wd hw 227 rfl) (m_3 hw) e5 qS (rm_sl l Z a0 hw [] G GG sm sb sk n vs hq O0 qS qv qc qV) rfl at_58 rfl rfl (by decide) N5_ ?_
  intro T6 L6 X6 e6 N6_
  refine t_bP X6 u at_61  ?_
  refine t_iL X6 u at_63 rfl ?_
  refine t_iadd X6 u at_65  ?_
  refine t_iL X6 u at_66 rfl ?_
  refine t_iadd X6 u at_68  ?_
  refine t_icY 69 74 X6 u rfl at_69 (teq hlen).1 (by decide) ?_
  refine t_aN X6 u at_74 rfl rfl ?_
  refine t_iC X6 u at_75  ?_
  refine pt_cV [v_0] [] 0 X6 u hZ0 hown0 (wd hw 228 rfl) (m_33 hw) e6 qS (rm_sc l Z a0 hw [] G GG sm (0 : Int32) sb sk n vs (115 : Int32) (115 : Int32) hq O0 qS qv qc qV (by decide) (own_b7 hb7 (by decide)) (hv 0 (by decide)) (by decide)) rfl at_76 rfl rfl (by decide) N6_ ?_
  intro T7 L7 X7 e7 N7_
  refine t_bP X7 u at_79  ?_
  refine t_icN X7 u at_81 (teq (by decide : (115 : Int32) = (115 : Int32))).2 ?_
  refine t_aN X7 u at_84 rfl rfl ?_
  refine t_iC X7 u at_85  ?_
  refine pt_cV [v_1] [] 0 X7 u hZ0 hown0 (wd hw 228 rfl) (m_33 hw) e7 qS (rm_sc l Z a0 hw [] G GG sm (1 : Int32) sb sk n vs (116 : Int32) (116 : Int32) hq O0 qS qv qc qV (by decide) (own_b7 hb7 (by decide)) (hv 1 (by decide)) (by decide)) rfl at_86 rfl rfl (by decide) N7_ ?_
  intro T8 L8 X8 e8 N8_
  refine t_bP X8 u at_89  ?_
  refine t_icN X8 u at_91 (teq (by decide : (116 : Int32) = (116 : Int32))).2 ?_
  refine t_aN X8 u at_94 rfl rfl ?_
  refine t_iC X8 u at_95  ?_
  refine pt_cV [(.int (2 : Int32))] [] 0 X8 u hZ0 hown0 (wd hw 228 rfl) (m_33 hw) e8 qS (rm_sc l Z a0 hw [] G GG sm (2 : Int32) sb sk n vs (97 : Int32) (97 : Int32) hq O0 qS qv qc qV (by decide) (own_b7 hb7 (by decide)) (hv 2 (by decide)) (by decide)) rfl at_96 rfl rfl (by decide) N8_ ?_
  intro T9 L9 X9 e9 N9_
  refine t_bP X9 u at_99  ?_
  refine t_icN X9 u at_101 (teq (by decide : (97 : Int32) = (97 : Int32))).2 ?_
  show Go _ _ _ _ _ _ _ _ T9 (mkF m 104 #[.val (.int x0), .val (.ref r), .val (.ref sm), .val (.long (aL x0)), .second, .val v_0, .val (.int (Int32.ofNat k)), .unset] [])
  refine t_aN X9 u at_104 rfl rfl ?_
  refine t_iC X9 u at_105  ?_
  refine pt_cV [(.int (3 : Int32))] [] 0 X9 u hZ0 hown0 (wd hw 228 rfl) (m_33 hw) e9 qS (rm_sc l Z a0 hw [] G GG sm (3 : Int32) sb sk n vs (116 : Int32) (116 : Int32) hq O0 qS qv qc qV (by decide) (own_b7 hb7 (by decide)) (hv 3 (by decide)) (by decide)) rfl at_106 rfl rfl (by decide) N9_ ?_
  intro T10 L10 X10 e10 N10_
  refine t_bP X10 u at_109  ?_
  refine t_icN X10 u at_111 (teq (by decide : (116 : Int32) = (116 : Int32))).2 ?_
  refine t_aN X10 u at_114 rfl rfl ?_
  refine t_iC X10 u at_115  ?_
  refine pt_cV [(.int (4 : Int32))] [] 0 X10 u hZ0 hown0 (wd hw 228 rfl) (m_33 hw) e10 qS (rm_sc l Z a0 hw [] G GG sm (4 : Int32) sb sk n vs (117 : Int32) (117 : Int32) hq O0 qS qv qc qV (by decide) (own_b7 hb7 (by decide)) (hv 4 (by decide)) (by decide)) rfl at_116 rfl rfl (by decide) N10_ ?_
  intro T11 L11 X11 e11 N11_
  refine t_bP X11 u at_119  ?_
  refine t_icN X11 u at_121 (teq (by decide : (117 : Int32) = (117 : Int32))).2 ?_
  refine t_aN X11 u at_124 rfl rfl ?_
  refine t_iC X11 u at_125  ?_
  refine pt_cV [(.int (5 : Int32))] [] 0 X11 u hZ0 hown0 (wd hw 228 rfl) (m_33 hw) e11 qS (rm_sc l Z a0 hw [] G GG sm (5 : Int32) sb sk n vs (115 : Int32) (115 : Int32) hq O0 qS qv qc qV (by decide) (own_b7 hb7 (by decide)) (hv 5 (by decide)) (by decide)) rfl at_126 rfl rfl (by decide) N11_ ?_
  intro T12 L12 X12 e12 N12_
  refine t_bP X12 u at_129  ?_
  refine t_icN X12 u at_131 (teq (by decide : (115 : Int32) = (115 : Int32))).2 ?_
  refine t_aN X12 u at_134 rfl rfl ?_
  refine t_bP X12 u at_135  ?_
  refine pt_cV [(.int (6 : Int32))] [] 0 X12 u hZ0 hown0 (wd hw 228 rfl) (m_33 hw) e12 qS (rm_sc l Z a0 hw [] G GG sm (6 : Int32) sb sk n vs (32 : Int32) (32 : Int32) hq O0 qS qv qc qV (by decide) (own_b7 hb7 (by decide)) (hv 6 (by decide)) (by decide)) rfl at_137 rfl rfl (by decide) N12_ ?_
  intro T13 L13 X13 e13 N13_
  refine t_bP X13 u at_140  ?_
  refine t_icY 142 147 X13 u rfl at_142 (teq (by decide : (32 : Int32) = (32 : Int32))).1 (by decide) ?_
  refine t_iL X13 u at_147 rfl ?_
  refine t_iC X13 u at_149  ?_
  refine t_icY 150 166 X13 u rfl at_150 (feq (by decide : ¬ ((0 : Int32) = (1 : Int32)))).2 (by decide) ?_
  refine t_bP X13 u at_166  ?_
  refine t_iL X13 u at_168 rfl ?_
  refine t_iadd X13 u at_170  ?_
  refine t_isL X13 u at_171 (l' := #[.val (.int x0), .val (.ref r), .val (.ref sm), .val (.long (aL x0)), .second, .val v_0, .val (.int (Int32.ofNat k)), .val v_7]) rfl ?_
  refine t_aN X13 u at_173 rfl rfl ?_
  refine t_iL X13 u at_174 rfl ?_
  refine t_lN X13 u at_176 rfl ?_
  refine t_iL X13 u at_177 rfl ?_
  refine t_iC X13 u at_179  ?_
  refine t_cS [(.ref sm), v_7, (.long (aL x0)), (.int (Int32.ofNat k)), v_0] [] 0 X13 u hZ0 hown0 (wd hw 250 rfl) (m_38 hw) e13 (rm_dd l Z a0 hw [] G GG sm (7 : Int32) (aL x0) (Int32.ofNat k) (0 : Int32) sb sk n vs hq O0 qS qv qc qV (hd (0 : Int32) (by decide))) rfl at_180 rfl rfl (by decide) ?_
  intro v14 T14 L14 Lc14 X14 hQ14 l14
  obtain ⟨rfl, Nq14, Kq14⟩ := hQ14
  have O14_ := extKeep O0 Kq14 all0
  have CR14 := CHr.trans CR0 (CHr.keep Kq14 sf0 CR0.1)
  have N14_ := frA l14 N13_ Nq14
  refine t_ifN X14 u at_183 ((if0 _ _).trans (feq (by decide : ¬ ((1 : Int32) = (0 : Int32)))).1) ?_
  refine t_aN X14 u at_186 rfl rfl ?_
  refine t_iL X14 u at_187 rfl ?_
  refine t_lN X14 u at_189 rfl ?_
  refine t_iL X14 u at_190 rfl ?_
  refine t_iC X14 u at_192  ?_
  refine t_cS [(.ref sm), v_7, (.long (aL x0)), (.int (Int32.ofNat k)), v_1] [] 0 X14 u hZ0 hown0 (wd hw 250 rfl) (m_38 hw) rfl (rm_dd l Z a0 hw [] G GG sm (7 : Int32) (aL x0) (Int32.ofNat k) (1 : Int32) sb sk n vs T14.heap O14_ (qS.keep Kq14) (qv.keep Kq14 nin0) (qc.keep Kq14 nin0) (qV.keep Kq14 nin0) (hd (1 : Int32) (by decide))) rfl at_193 rfl rfl (by decide) ?_
  intro v15 T15 L15 Lc15 X15 hQ15 l15
  obtain ⟨rfl, Nq15, Kq15⟩ := hQ15
  have O15_ := extKeep O14_ Kq15 all0
  have CR15 := CHr.trans CR14 (CHr.keep Kq15 sf0 CR14.1)
  have N15_ := frA l15 N14_ Nq15
  refine t_ifN X15 u at_196 ((if0 _ _).trans (feq (by decide : ¬ ((1 : Int32) = (0 : Int32)))).1) ?_
  show Go _ _ _ _ _ _ _ _ T15 (mkF m 199 #[.val (.int x0), .val (.ref r), .val (.ref sm), .val (.long (aL x0)), .second, .val v_0, .val (.int (Int32.ofNat k)), .val v_7] [])
  refine t_aN X15 u at_199 rfl rfl ?_
  refine t_iL X15 u at_200 rfl ?_
  refine t_lN X15 u at_202 rfl ?_
  refine t_iL X15 u at_203 rfl ?_
  refine t_iC X15 u at_205  ?_
  refine t_cS [(.ref sm), v_7, (.long (aL x0)), (.int (Int32.ofNat k)), (.int (2 : Int32))] [] 0 X15 u hZ0 hown0 (wd hw 250 rfl) (m_38 hw) rfl (rm_dd l Z a0 hw [] G GG sm (7 : Int32) (aL x0) (Int32.ofNat k) (2 : Int32) sb sk n vs T15.heap O15_ ((qS.keep Kq14).keep Kq15) ((qv.keep Kq14 nin0).keep Kq15 nin0) ((qc.keep Kq14 nin0).keep Kq15 nin0) ((qV.keep Kq14 nin0).keep Kq15 nin0) (hd (2 : Int32) (by decide))) rfl at_206 rfl rfl (by decide) ?_
  intro v16 T16 L16 Lc16 X16 hQ16 l16
  obtain ⟨rfl, Nq16, Kq16⟩ := hQ16
  have O16_ := extKeep O15_ Kq16 all0
  have CR16 := CHr.trans CR15 (CHr.keep Kq16 sf0 CR15.1)
  have N16_ := frA l16 N15_ Nq16
  refine t_ifN X16 u at_209 ((if0 _ _).trans (feq (by decide : ¬ ((1 : Int32) = (0 : Int32)))).1) ?_
  refine t_aN X16 u at_212 rfl rfl ?_
  refine t_iL X16 u at_213 rfl ?_
  refine t_lN X16 u at_215 rfl ?_
  refine t_iL X16 u at_216 rfl ?_
  refine t_iC X16 u at_218  ?_
  have f17 := (((qv.keep Kq14 nin0).keep Kq15 nin0).keep Kq16 nin0)
  have f18 := (((qc.keep Kq14 nin0).keep Kq15 nin0).keep Kq16 nin0)
  have f19 := (((qV.keep Kq14 nin0).keep Kq15 nin0).keep Kq16 nin0)
  refine t_cS [(.ref sm), v_7, (.long (aL x0)), (.int (Int32.ofNat k)), (.int (3 : Int32))] [] 0 X16 u hZ0 hown0 (wd hw 250 rfl) (m_38 hw) rfl (rm_dd l Z a0 hw [] G GG sm (7 : Int32) (aL x0) (Int32.ofNat k) (3 : Int32) sb sk n vs T16.heap O16_ (((qS.keep Kq14).keep Kq15).keep Kq16) f17 f18 f19 (hd (3 : Int32) (by decide))) rfl at_219 rfl rfl (by decide) ?_
  intro v20 T20 L20 Lc20 X20 hQ20 l20
  obtain ⟨rfl, Nq20, Kq20⟩ := hQ20
  have O20_ := extKeep O16_ Kq20 all0
  have CR20 := CHr.trans CR16 (CHr.keep Kq20 sf0 CR16.1)
  have N20_ := frA l20 N16_ Nq20
  refine t_ifN X20 u at_222 ((if0 _ _).trans (feq (by decide : ¬ ((1 : Int32) = (0 : Int32)))).1) ?_
  refine t_aN X20 u at_225 rfl rfl ?_
  refine t_iL X20 u at_226 rfl ?_
  refine t_lN X20 u at_228 rfl ?_
  refine t_iL X20 u at_229 rfl ?_
  refine t_iC X20 u at_231  ?_
  have f21 := ((((qS.keep Kq14).keep Kq15).keep Kq16).keep Kq20)
  refine t_cS [(.ref sm), v_7, (.long (aL x0)), (.int (Int32.ofNat k)), (.int (4 : Int32))] [] 0 X20 u hZ0 hown0 (wd hw 250 rfl) (m_38 hw) rfl (rm_dd l Z a0 hw [] G GG sm (7 : Int32) (aL x0) (Int32.ofNat k) (4 : Int32) sb sk n vs T20.heap O20_ f21 (f17.keep Kq20 nin0) (f18.keep Kq20 nin0) (f19.keep Kq20 nin0) (hd (4 : Int32) (by decide))) rfl at_232 rfl rfl (by decide) ?_
  intro v22 T22 L22 Lc22 X22 hQ22 l22
  obtain ⟨rfl, Nq22, Kq22⟩ := hQ22
  have O22_ := extKeep O20_ Kq22 all0
  have CR22 := CHr.trans CR20 (CHr.keep Kq22 sf0 CR20.1)
  have N22_ := frA l22 N20_ Nq22
  refine t_ifN X22 u at_235 ((if0 _ _).trans (feq (by decide : ¬ ((1 : Int32) = (0 : Int32)))).1) ?_
  refine t_aN X22 u at_238 rfl rfl ?_
  refine t_iL X22 u at_239 rfl ?_
  refine t_lN X22 u at_241 rfl ?_
  refine t_iL X22 u at_242 rfl ?_
  refine t_iC X22 u at_244  ?_
  refine t_cS [(.ref sm), v_7, (.long (aL x0)), (.int (Int32.ofNat k)), (.int (5 : Int32))] [] 0 X22 u hZ0 hown0 (wd hw 250 rfl) (m_38 hw) rfl (rm_dd l Z a0 hw [] G GG sm (7 : Int32) (aL x0) (Int32.ofNat k) (5 : Int32) sb sk n vs T22.heap O22_ (f21.keep Kq22) ((f17.keep Kq20 nin0).keep Kq22 nin0) ((f18.keep Kq20 nin0).keep Kq22 nin0) ((f19.keep Kq20 nin0).keep Kq22 nin0) (hd (5 : Int32) (by decide))) rfl at_245 rfl rfl (by decide) ?_
  intro v23 T23 L23 Lc23 X23 hQ23 l23
  obtain ⟨rfl, Nq23, Kq23⟩ := hQ23
  have O23_ := extKeep O22_ Kq23 all0
  have CR23 := CHr.trans CR22 (CHr.keep Kq23 sf0 CR22.1)
  have N23_ := frA l23 N22_ Nq23
  refine t_ifN X23 u at_248 ((if0 _ _).trans (feq (by decide : ¬ ((1 : Int32) = (0 : Int32)))).1) ?_
  refine t_aN X23 u at_251 rfl rfl ?_
  refine t_iL X23 u at_252 rfl ?_
  refine t_lN X23 u at_254 rfl ?_
  refine t_iL X23 u at_255 rfl ?_
  refine t_bP X23 u at_257  ?_
  have f24 := (((f17.keep Kq20 nin0).keep Kq22 nin0).keep Kq23 nin0)
  have f25 := (((f18.keep Kq20 nin0).keep Kq22 nin0).keep Kq23 nin0)
  have f26 := (((f19.keep Kq20 nin0).keep Kq22 nin0).keep Kq23 nin0)
  refine t_cS [(.ref sm), v_7, (.long (aL x0)), (.int (Int32.ofNat k)), (.int (6 : Int32))] [] 0 X23 u hZ0 hown0 (wd hw 250 rfl) (m_38 hw) rfl (rm_dd l Z a0 hw [] G GG sm (7 : Int32) (aL x0) (Int32.ofNat k) (6 : Int32) sb sk n vs T23.heap O23_ ((f21.keep Kq22).keep Kq23) f24 f25 f26 (hd (6 : Int32) (by decide))) rfl at_259 rfl rfl (by decide) ?_
  intro v27 T27 L27 Lc27 X27 hQ27 l27
  obtain ⟨rfl, Nq27, Kq27⟩ := hQ27
  have O27_ := extKeep O23_ Kq27 all0
  have CR27 := CHr.trans CR23 (CHr.keep Kq27 sf0 CR23.1)
  have N27_ := frA l27 N23_ Nq27
  refine t_ifN X27 u at_262 ((if0 _ _).trans (feq (by decide : ¬ ((1 : Int32) = (0 : Int32)))).1) ?_
  refine t_aN X27 u at_265 rfl rfl ?_
  refine t_iL X27 u at_266 rfl ?_
  refine t_lN X27 u at_268 rfl ?_
  refine t_iL X27 u at_269 rfl ?_
  refine t_bP X27 u at_271  ?_
  refine t_cS [(.ref sm), v_7, (.long (aL x0)), (.int (Int32.ofNat k)), v_7] [] 0 X27 u hZ0 hown0 (wd hw 250 rfl) (m_38 hw) rfl (rm_dd l Z a0 hw [] G GG sm (7 : Int32) (aL x0) (Int32.ofNat k) (7 : Int32) sb sk n vs T27.heap O27_ (((f21.keep Kq22).keep Kq23).keep Kq27) (f24.keep Kq27 nin0) (f25.keep Kq27 nin0) (f26.keep Kq27 nin0) (hd (7 : Int32) (by decide))) rfl at_273 rfl rfl (by decide) ?_
  intro v28 T28 L28 Lc28 X28 hQ28 l28
  obtain ⟨rfl, Nq28, Kq28⟩ := hQ28
  have O28_ := extKeep O27_ Kq28 all0
  have CR28 := CHr.trans CR27 (CHr.keep Kq28 sf0 CR27.1)
  have N28_ := frA l28 N27_ Nq28
  show Go _ _ _ _ _ _ _ _ T28 (mkF m 276 #[.val (.int x0), .val (.ref r), .val (.ref sm), .val (.long (aL x0)), .second, .val v_0, .val (.int (Int32.ofNat k)), .val v_7] [v_1])
  refine t_ifN X28 u at_276 ((if0 _ _).trans (feq (by decide : ¬ ((1 : Int32) = (0 : Int32)))).1) ?_
  refine t_aN X28 u at_279 rfl rfl ?_
  refine t_iL X28 u at_280 rfl ?_
  refine t_lN X28 u at_282 rfl ?_
  refine t_iL X28 u at_283 rfl ?_
  refine t_bP X28 u at_285  ?_
  have f29 := ((((f21.keep Kq22).keep Kq23).keep Kq27).keep Kq28)
  refine t_cS [(.ref sm), v_7, (.long (aL x0)), (.int (Int32.ofNat k)), v_8] [] 0 X28 u hZ0 hown0 (wd hw 250 rfl) (m_38 hw) rfl (rm_dd l Z a0 hw [] G GG sm (7 : Int32) (aL x0) (Int32.ofNat k) (8 : Int32) sb sk n vs T28.heap O28_ f29 ((f24.keep Kq27 nin0).keep Kq28 nin0) ((f25.keep Kq27 nin0).keep Kq28 nin0) ((f26.keep Kq27 nin0).keep Kq28 nin0) (hd (8 : Int32) (by decide))) rfl at_287 rfl rfl (by decide) ?_
  intro v30 T30 L30 Lc30 X30 hQ30 l30
  obtain ⟨rfl, Nq30, Kq30⟩ := hQ30
  have O30_ := extKeep O28_ Kq30 all0
  have CR30 := CHr.trans CR28 (CHr.keep Kq30 sf0 CR28.1)
  have N30_ := frA l30 N28_ Nq30
  refine t_ifN X30 u at_290 ((if0 _ _).trans (feq (by decide : ¬ ((1 : Int32) = (0 : Int32)))).1) ?_
  refine t_aN X30 u at_293 rfl rfl ?_
  refine t_iL X30 u at_294 rfl ?_
  refine t_lN X30 u at_296 rfl ?_
  refine t_iL X30 u at_297 rfl ?_
  refine t_bP X30 u at_299  ?_
  have f31 := (((f24.keep Kq27 nin0).keep Kq28 nin0).keep Kq30 nin0)
  have f32 := (((f25.keep Kq27 nin0).keep Kq28 nin0).keep Kq30 nin0)
  have f33 := (((f26.keep Kq27 nin0).keep Kq28 nin0).keep Kq30 nin0)
  refine t_cS [(.ref sm), v_7, (.long (aL x0)), (.int (Int32.ofNat k)), v_9] [] 0 X30 u hZ0 hown0 (wd hw 250 rfl) (m_38 hw) rfl (rm_dd l Z a0 hw [] G GG sm (7 : Int32) (aL x0) (Int32.ofNat k) (9 : Int32) sb sk n vs T30.heap O30_ (f29.keep Kq30) f31 f32 f33 (hd (9 : Int32) (by decide))) rfl at_301 rfl rfl (by decide) ?_
  intro v34 T34 L34 Lc34 X34 hQ34 l34
  obtain ⟨rfl, Nq34, Kq34⟩ := hQ34
  have O34_ := extKeep O30_ Kq34 all0
  have CR34 := CHr.trans CR30 (CHr.keep Kq34 sf0 CR30.1)
  have N34_ := frA l34 N30_ Nq34
  refine t_ifN X34 u at_304 ((if0 _ _).trans (feq (by decide : ¬ ((1 : Int32) = (0 : Int32)))).1) ?_
  refine t_iC X34 u at_307  ?_
  refine t_go 308 312 X34 u rfl at_308 (by decide) ?_
  exact Go.retNH (endH hh rfl X34 hZ0 hEL CR34) X34 S0 (Nat.le_trans (Nat.le_trans (Nat.le_trans (Nat.le_trans (Nat.le_trans (Nat.le_trans (Nat.le_trans (Nat.le_trans (Nat.le_trans (Nat.le_trans kk0 Kq14.1) Kq15.1) Kq16.1) Kq20.1) Kq22.1) Kq23.1) Kq27.1) Kq28.1) Kq30.1) Kq34.1) hx (t := .boolean) hret (by simp) hlk (hb hby at_312) (by decide) (by decide) (hQ _ _ N34_)
theorem lw_1 (l : Launch) (Z : State) (a0 : Array Value) (hw : HW Z a0) (G : GT) (GG : GP Z G) {p : Program} {e : Env} {s : State} {m : MethodId} {below : List Frame} {meth : Method} {c : Code} {h0 : Heap} {Q : Option Value → Heap → List Loc → Prop} (hx : p.tables.exec = Jvm.exec) (hby : c.code = code) (hml : c.maxLocals = maxLocals) (hlk : meth.locks = false) (hret : meth.sig.returnType = ret) (hh : s.heap = h0) (x0 : Int32) {r sm sb : Addr} {sk : ClassId} {n : Int32} {vs : List Value} {T0 : State} {L0 : List Loc} {vm0 : Vm} {hq : Heap} {k0 : Nat} (X0 : Stand p l e room_1 (s.setVm vm0) m #[(.int x0)] below meth c T0 L0 9 2867) (e0 : T0.heap = hq) (O0 : Ext Z.heap hq) (N0 : Fr Z.heap.size L0) (hZ0 : Z.Warmed39 (s.setVm vm0).vm) (hown0 : (s.setVm vm0).vm.findClass "com/example/layout_to_rows/layouttorows/harvest/FetchExceptionStatusPinLaw" = some m.cls) (S0 : s.Since vm0 k0) (kk0 : k0 ≤ hq.size) (CR0 : CHr Z consts_1 s.vm h0 vm0 hq) (hQ : ∀ h L, Fr Z.heap.size L → Q (some v_1) h L) (sq : StQ Z hq r sm sb sk n vs) {k : Nat} (k1 : 1 ≤ k) (k2 : k ≤ 10) (k3 : x0.toInt.natAbs < 10 ^ k) (k4 : k = 1 ∨ 10 ^ (k - 1) ≤ x0.toInt.natAbs) (hsg : x0 < (0 : Int32)) (en : n = Int32.ofNat (8 + k)) (ev : vs = (hd7 ++ [v_45]) ++ dgs x0 k) : Go (ENH Z consts_1) p e below s room_1.cells room_1.slots Q T0 (mkF m 5 #[.val (.int x0), .val (.ref r), .unset, .unset, .unset, .unset, .unset, .unset] []) := by
  obtain ⟨qE, qU, qA, qC, qM, qS, qc, qv, qV⟩ := sq
  have u : UB p c _ _ := ⟨hx, hby, hml⟩
  have hEL := own_EW hw
  have hlen := own_len (o := (8 : Int32)) (by decide) k2 rfl en
  have hb7 := own_b7n (by decide) ⟨k1, k2⟩ en
  have hv := own_hv ev
  have hdg := own_dig k1 k2 k3 k4
  have hd := own_dok (off := (8 : Int32)) k1 k2 (by decide) rfl rfl en ev
  refine t_aN X0 u at_5 rfl rfl ?_
  refine pt_cV [] [] 0 X0 u hZ0 hown0 (wd hw 202 rfl) (m_34 hw) e0 qE (rm_a33_0 l Z a0 hw [] G GG r (1 : Int32) hq O0 qA) rfl at_6 rfl rfl (by decide) N0 ?_
  intro T1 L1 X1 e1 N1_
  refine t_ifY 9 14 X1 u rfl at_9 ((if0 _ _).trans (feq (by decide : ¬ ((1 : Int32) = (0 : Int32)))).2) (by decide) ?_
  refine t_aN X1 u at_14 rfl rfl ?_
  obtain ⟨cq2, kq2, q2a, q2b, q2c⟩ := isOf hZ0 e1 qE
  obtain ⟨_, _, ⟨T2, L2, k2, n2⟩, -, X2, ⟨rfl, e2, l2, y2, z2⟩, st2⟩ := X1.virtualBackUp hx (x := (⟨"com/example/layout_to_rows/layouttorows/harvest/FetchException", "getCause", "()Ljava/lang/Throwable;"⟩ : MethodName)) (y := (⟨"java/lang/Throwable", "getCause", "()Ljava/lang/Throwable;"⟩ : MethodName)) hown0 (mvT hZ0 (wd hw 207 rfl)) (mvT hZ0 (wd hw 208 rfl)) (mvT hZ0 (wd hw 209 rfl)) (by decide) (mvT hZ0 (wd hw 211 rfl)) (mvT hZ0 (wd hw 210 rfl)) (gcBackPure (rm := ⟨0, 0, 0, 0⟩) (W := 0) hZ0 (wd hw 212 rfl) (wd hw 210 rfl) (wd hw 161 rfl) (wd hw 164 rfl) qU qC rfl (by decide) (by decide)) q2a q2c (g := (mkF m 15 #[.val (.int x0), .val (.ref r), .unset, .unset, .unset, .unset, .unset, .unset] [(.ref r)])) rfl (by rw [hml]; rfl) (Steps.refl _) (argsL := []) (rest := []) (lenOf pd_LRLjava_lang_Throwable_ rfl) rfl (by show 2 * 0 + _ ≤ _; exact Nat.le_of_eq rfl) (hb hby at_15) (fun _ _ => ⟨rfl, e1, (by decide : 9 + 0 ≤ _), (by decide : 2867 + 0 ≤ _)⟩)
  dsimp only [Pt.U, Pt.locs, Pt.cells, Pt.slots] at X2 e2 l2 y2 z2 st2
  subst l2 y2 z2
  rw [gcv_null] at st2
  refine Go.trans st2 ?_
  refine Go.step (fun _ kt_ => XS.ifnullYes X2.here hx rfl (pc0 := 18) (pc' := 23) rfl (hb hby at_18) rfl (by decide) (by decide) kt_) ?_
  refine t_aN X2 u at_23 rfl rfl ?_
  refine pt_cU [] [] 0 X2 u hZ0 hown0 (wd hw 213 rfl) (m_35 hw) e2 qE (rm_a35_0 l Z a0 hw [] G GG r sm hq O0 qM) rfl at_24 rfl rfl (by decide) N1_ ?_
  intro T3 L3 X3 e3 N3_
  refine t_asN X3 u at_27 rfl (l' := #[.val (.int x0), .val (.ref r), .val (.ref sm), .unset, .unset, .unset, .unset, .unset]) rfl ?_
  refine t_aN X3 u at_28 rfl rfl ?_
  refine Go.step (fun _ kt_ => XS.ifnonnullYes X3.here hx rfl (pc0 := 29) (pc' := 34) rfl (hb hby at_29) rfl (by decide) (by decide) kt_) ?_
  refine t_iN X3 u at_34 rfl ?_
  refine Go.step (fun _ kt_ => XS.i2l X3.here hx rfl (hb hby at_35) rfl kt_) ?_
  refine pt_cS [(.long (x0.toInt64))] [] 0 X3 u hZ0 hown0 (wd hw 219 rfl) (m_36 hw) e3 (rm_ab l Z a0 hw [] G GG (x0.toInt64) (aL x0) hq O0 rfl) rfl at_36 rfl rfl (by decide) N3_ ?_
  intro T4 L4 X4 e4 N4_
  refine Go.step (fun _ kt_ => XS.lstoreN X4.here hx rfl (hb hby at_39) rfl (l' := #[.val (.int x0), .val (.ref r), .val (.ref sm), .val (.long (aL x0)), .second, .unset, .unset, .unset]) rfl kt_) ?_
  refine t_iN X4 u at_40 rfl ?_
  refine t_ifN X4 u at_41 ((if0 _ _).trans (tlt hsg).2.1) ?_
  refine t_iC X4 u at_44  ?_
  refine t_go 45 49 X4 u rfl at_45 (by decide) ?_
  refine t_isL X4 u at_49 (l' := #[.val (.int x0), .val (.ref r), .val (.ref sm), .val (.long (aL x0)), .second, .val v_1, .unset, .unset]) rfl ?_
  refine t_lN X4 u at_51 rfl ?_
  refine pt_cS [(.long (aL x0))] [] 0 X4 u hZ0 hown0 (wd hw 222 rfl) (m_37 hw) e4 (rm_dg l Z a0 hw [] G GG (aL x0) (Int32.ofNat k) hq O0 hdg) rfl at_52 rfl rfl (by decide) N4_ ?_
  intro T5 L5 X5 e5 N5_
  refine t_isL X5 u at_55 (l' := #[.val (.int x0), .val (.ref r), .val (.ref sm), .val (.long (aL x0)), .second, .val v_1, .val (.int (Int32.ofNat k)), .unset]) rfl ?_
  refine t_aN X5 u at_57 rfl rfl ?_
  refine pt_cV [] [] 0 X5 u hZ0 hown0 (wd hw 227 rfl) (m_3 hw) e5 qS (rm_sl l Z a0 hw [] G GG sm sb sk n vs hq O0 qS qv qc qV) rfl at_58 rfl rfl (by decide) N5_ ?_
  intro T6 L6 X6 e6 N6_
  refine t_bP X6 u at_61  ?_
  refine t_iL X6 u at_63 rfl ?_
  refine t_iadd X6 u at_65  ?_
  refine t_iL X6 u at_66 rfl ?_
  refine t_iadd X6 u at_68  ?_
  refine t_icY 69 74 X6 u rfl at_69 (teq hlen).1 (by decide) ?_
  refine t_aN X6 u at_74 rfl rfl ?_
  refine t_iC X6 u at_75  ?_
  refine pt_cV [v_0] [] 0 X6 u hZ0 hown0 (wd hw 228 rfl) (m_33 hw) e6 qS (rm_sc l Z a0 hw [] G GG sm (0 : Int32) sb sk n vs (115 : Int32) (115 : Int32) hq O0 qS qv qc qV (by decide) (own_b7 hb7 (by decide)) (hv 0 (by decide)) (by decide)) rfl at_76 rfl rfl (by decide) N6_ ?_
  intro T7 L7 X7 e7 N7_
  refine t_bP X7 u at_79  ?_
  refine t_icN X7 u at_81 (teq (by decide : (115 : Int32) = (115 : Int32))).2 ?_
  refine t_aN X7 u at_84 rfl rfl ?_
  refine t_iC X7 u at_85  ?_
  refine pt_cV [v_1] [] 0 X7 u hZ0 hown0 (wd hw 228 rfl) (m_33 hw) e7 qS (rm_sc l Z a0 hw [] G GG sm (1 : Int32) sb sk n vs (116 : Int32) (116 : Int32) hq O0 qS qv qc qV (by decide) (own_b7 hb7 (by decide)) (hv 1 (by decide)) (by decide)) rfl at_86 rfl rfl (by decide) N7_ ?_
  intro T8 L8 X8 e8 N8_
  refine t_bP X8 u at_89  ?_
  refine t_icN X8 u at_91 (teq (by decide : (116 : Int32) = (116 : Int32))).2 ?_
  refine t_aN X8 u at_94 rfl rfl ?_
  refine t_iC X8 u at_95  ?_
  refine pt_cV [(.int (2 : Int32))] [] 0 X8 u hZ0 hown0 (wd hw 228 rfl) (m_33 hw) e8 qS (rm_sc l Z a0 hw [] G GG sm (2 : Int32) sb sk n vs (97 : Int32) (97 : Int32) hq O0 qS qv qc qV (by decide) (own_b7 hb7 (by decide)) (hv 2 (by decide)) (by decide)) rfl at_96 rfl rfl (by decide) N8_ ?_
  intro T9 L9 X9 e9 N9_
  refine t_bP X9 u at_99  ?_
  show Go _ _ _ _ _ _ _ _ T9 (mkF m 101 #[.val (.int x0), .val (.ref r), .val (.ref sm), .val (.long (aL x0)), .second, .val v_1, .val (.int (Int32.ofNat k)), .unset] [v_97, v_97])
  refine t_icN X9 u at_101 (teq (by decide : (97 : Int32) = (97 : Int32))).2 ?_
  refine t_aN X9 u at_104 rfl rfl ?_
  refine t_iC X9 u at_105  ?_
  refine pt_cV [(.int (3 : Int32))] [] 0 X9 u hZ0 hown0 (wd hw 228 rfl) (m_33 hw) e9 qS (rm_sc l Z a0 hw [] G GG sm (3 : Int32) sb sk n vs (116 : Int32) (116 : Int32) hq O0 qS qv qc qV (by decide) (own_b7 hb7 (by decide)) (hv 3 (by decide)) (by decide)) rfl at_106 rfl rfl (by decide) N9_ ?_
  intro T10 L10 X10 e10 N10_
  refine t_bP X10 u at_109  ?_
  refine t_icN X10 u at_111 (teq (by decide : (116 : Int32) = (116 : Int32))).2 ?_
  refine t_aN X10 u at_114 rfl rfl ?_
  refine t_iC X10 u at_115  ?_
  refine pt_cV [(.int (4 : Int32))] [] 0 X10 u hZ0 hown0 (wd hw 228 rfl) (m_33 hw) e10 qS (rm_sc l Z a0 hw [] G GG sm (4 : Int32) sb sk n vs (117 : Int32) (117 : Int32) hq O0 qS qv qc qV (by decide) (own_b7 hb7 (by decide)) (hv 4 (by decide)) (by decide)) rfl at_116 rfl rfl (by decide) N10_ ?_
  intro T11 L11 X11 e11 N11_
  refine t_bP X11 u at_119  ?_
  refine t_icN X11 u at_121 (teq (by decide : (117 : Int32) = (117 : Int32))).2 ?_
  refine t_aN X11 u at_124 rfl rfl ?_
  refine t_iC X11 u at_125  ?_
  refine pt_cV [(.int (5 : Int32))] [] 0 X11 u hZ0 hown0 (wd hw 228 rfl) (m_33 hw) e11 qS (rm_sc l Z a0 hw [] G GG sm (5 : Int32) sb sk n vs (115 : Int32) (115 : Int32) hq O0 qS qv qc qV (by decide) (own_b7 hb7 (by decide)) (hv 5 (by decide)) (by decide)) rfl at_126 rfl rfl (by decide) N11_ ?_
  intro T12 L12 X12 e12 N12_
  refine t_bP X12 u at_129  ?_
  refine t_icN X12 u at_131 (teq (by decide : (115 : Int32) = (115 : Int32))).2 ?_
  refine t_aN X12 u at_134 rfl rfl ?_
  refine t_bP X12 u at_135  ?_
  refine pt_cV [(.int (6 : Int32))] [] 0 X12 u hZ0 hown0 (wd hw 228 rfl) (m_33 hw) e12 qS (rm_sc l Z a0 hw [] G GG sm (6 : Int32) sb sk n vs (32 : Int32) (32 : Int32) hq O0 qS qv qc qV (by decide) (own_b7 hb7 (by decide)) (hv 6 (by decide)) (by decide)) rfl at_137 rfl rfl (by decide) N12_ ?_
  intro T13 L13 X13 e13 N13_
  refine t_bP X13 u at_140  ?_
  refine t_icY 142 147 X13 u rfl at_142 (teq (by decide : (32 : Int32) = (32 : Int32))).1 (by decide) ?_
  refine t_iL X13 u at_147 rfl ?_
  refine t_iC X13 u at_149  ?_
  refine t_icN X13 u at_150 (teq (by decide : (1 : Int32) = (1 : Int32))).2 ?_
  refine t_aN X13 u at_153 rfl rfl ?_
  refine t_bP X13 u at_154  ?_
  refine pt_cV [v_7] [] 0 X13 u hZ0 hown0 (wd hw 228 rfl) (m_33 hw) e13 qS (rm_sc l Z a0 hw [] G GG sm (7 : Int32) sb sk n vs (45 : Int32) (45 : Int32) hq O0 qS qv qc qV (by decide) (own_b7 hb7 (by decide)) (hv 7 (by decide)) (by decide)) rfl at_156 rfl rfl (by decide) N13_ ?_
  intro T14 L14 X14 e14 N14_
  refine t_bP X14 u at_159  ?_
  refine t_icY 161 166 X14 u rfl at_161 (teq (by decide : (45 : Int32) = (45 : Int32))).1 (by decide) ?_
  refine t_bP X14 u at_166  ?_
  refine t_iL X14 u at_168 rfl ?_
  refine t_iadd X14 u at_170  ?_
  refine t_isL X14 u at_171 (l' := #[.val (.int x0), .val (.ref r), .val (.ref sm), .val (.long (aL x0)), .second, .val v_1, .val (.int (Int32.ofNat k)), .val v_8]) rfl ?_
  refine t_aN X14 u at_173 rfl rfl ?_
  refine t_iL X14 u at_174 rfl ?_
  refine t_lN X14 u at_176 rfl ?_
  refine t_iL X14 u at_177 rfl ?_
  refine t_iC X14 u at_179  ?_
  refine t_cS [(.ref sm), v_8, (.long (aL x0)), (.int (Int32.ofNat k)), v_0] [] 0 X14 u hZ0 hown0 (wd hw 250 rfl) (m_38 hw) e14 (rm_dd l Z a0 hw [] G GG sm (8 : Int32) (aL x0) (Int32.ofNat k) (0 : Int32) sb sk n vs hq O0 qS qv qc qV (hd (0 : Int32) (by decide))) rfl at_180 rfl rfl (by decide) ?_
  intro v15 T15 L15 Lc15 X15 hQ15 l15
  obtain ⟨rfl, Nq15, Kq15⟩ := hQ15
  have O15_ := extKeep O0 Kq15 all0
  have CR15 := CHr.trans CR0 (CHr.keep Kq15 sf0 CR0.1)
  have N15_ := frA l15 N14_ Nq15
  refine t_ifN X15 u at_183 ((if0 _ _).trans (feq (by decide : ¬ ((1 : Int32) = (0 : Int32)))).1) ?_
  refine t_aN X15 u at_186 rfl rfl ?_
  show Go _ _ _ _ _ _ _ _ T15 (mkF m 187 #[.val (.int x0), .val (.ref r), .val (.ref sm), .val (.long (aL x0)), .second, .val v_1, .val (.int (Int32.ofNat k)), .val v_8] [(.ref sm)])
  refine t_iL X15 u at_187 rfl ?_
  refine t_lN X15 u at_189 rfl ?_
  refine t_iL X15 u at_190 rfl ?_
  refine t_iC X15 u at_192  ?_
  refine t_cS [(.ref sm), v_8, (.long (aL x0)), (.int (Int32.ofNat k)), v_1] [] 0 X15 u hZ0 hown0 (wd hw 250 rfl) (m_38 hw) rfl (rm_dd l Z a0 hw [] G GG sm (8 : Int32) (aL x0) (Int32.ofNat k) (1 : Int32) sb sk n vs T15.heap O15_ (qS.keep Kq15) (qv.keep Kq15 nin0) (qc.keep Kq15 nin0) (qV.keep Kq15 nin0) (hd (1 : Int32) (by decide))) rfl at_193 rfl rfl (by decide) ?_
  intro v16 T16 L16 Lc16 X16 hQ16 l16
  obtain ⟨rfl, Nq16, Kq16⟩ := hQ16
  have O16_ := extKeep O15_ Kq16 all0
  have CR16 := CHr.trans CR15 (CHr.keep Kq16 sf0 CR15.1)
  have N16_ := frA l16 N15_ Nq16
  refine t_ifN X16 u at_196 ((if0 _ _).trans (feq (by decide : ¬ ((1 : Int32) = (0 : Int32)))).1) ?_
  refine t_aN X16 u at_199 rfl rfl ?_
  refine t_iL X16 u at_200 rfl ?_
  refine t_lN X16 u at_202 rfl ?_
  refine t_iL X16 u at_203 rfl ?_
  refine t_iC X16 u at_205  ?_
  refine t_cS [(.ref sm), v_8, (.long (aL x0)), (.int (Int32.ofNat k)), (.int (2 : Int32))] [] 0 X16 u hZ0 hown0 (wd hw 250 rfl) (m_38 hw) rfl (rm_dd l Z a0 hw [] G GG sm (8 : Int32) (aL x0) (Int32.ofNat k) (2 : Int32) sb sk n vs T16.heap O16_ ((qS.keep Kq15).keep Kq16) ((qv.keep Kq15 nin0).keep Kq16 nin0) ((qc.keep Kq15 nin0).keep Kq16 nin0) ((qV.keep Kq15 nin0).keep Kq16 nin0) (hd (2 : Int32) (by decide))) rfl at_206 rfl rfl (by decide) ?_
  intro v17 T17 L17 Lc17 X17 hQ17 l17
  obtain ⟨rfl, Nq17, Kq17⟩ := hQ17
  have O17_ := extKeep O16_ Kq17 all0
  have CR17 := CHr.trans CR16 (CHr.keep Kq17 sf0 CR16.1)
  have N17_ := frA l17 N16_ Nq17
  refine t_ifN X17 u at_209 ((if0 _ _).trans (feq (by decide : ¬ ((1 : Int32) = (0 : Int32)))).1) ?_
  refine t_aN X17 u at_212 rfl rfl ?_
  refine t_iL X17 u at_213 rfl ?_
  refine t_lN X17 u at_215 rfl ?_
  refine t_iL X17 u at_216 rfl ?_
  refine t_iC X17 u at_218  ?_
  have f18 := (((qv.keep Kq15 nin0).keep Kq16 nin0).keep Kq17 nin0)
  have f19 := (((qc.keep Kq15 nin0).keep Kq16 nin0).keep Kq17 nin0)
  have f20 := (((qV.keep Kq15 nin0).keep Kq16 nin0).keep Kq17 nin0)
  refine t_cS [(.ref sm), v_8, (.long (aL x0)), (.int (Int32.ofNat k)), (.int (3 : Int32))] [] 0 X17 u hZ0 hown0 (wd hw 250 rfl) (m_38 hw) rfl (rm_dd l Z a0 hw [] G GG sm (8 : Int32) (aL x0) (Int32.ofNat k) (3 : Int32) sb sk n vs T17.heap O17_ (((qS.keep Kq15).keep Kq16).keep Kq17) f18 f19 f20 (hd (3 : Int32) (by decide))) rfl at_219 rfl rfl (by decide) ?_
  intro v21 T21 L21 Lc21 X21 hQ21 l21
  obtain ⟨rfl, Nq21, Kq21⟩ := hQ21
  have O21_ := extKeep O17_ Kq21 all0
  have CR21 := CHr.trans CR17 (CHr.keep Kq21 sf0 CR17.1)
  have N21_ := frA l21 N17_ Nq21
  refine t_ifN X21 u at_222 ((if0 _ _).trans (feq (by decide : ¬ ((1 : Int32) = (0 : Int32)))).1) ?_
  refine t_aN X21 u at_225 rfl rfl ?_
  refine t_iL X21 u at_226 rfl ?_
  refine t_lN X21 u at_228 rfl ?_
  refine t_iL X21 u at_229 rfl ?_
  refine t_iC X21 u at_231  ?_
  have f22 := ((((qS.keep Kq15).keep Kq16).keep Kq17).keep Kq21)
  refine t_cS [(.ref sm), v_8, (.long (aL x0)), (.int (Int32.ofNat k)), (.int (4 : Int32))] [] 0 X21 u hZ0 hown0 (wd hw 250 rfl) (m_38 hw) rfl (rm_dd l Z a0 hw [] G GG sm (8 : Int32) (aL x0) (Int32.ofNat k) (4 : Int32) sb sk n vs T21.heap O21_ f22 (f18.keep Kq21 nin0) (f19.keep Kq21 nin0) (f20.keep Kq21 nin0) (hd (4 : Int32) (by decide))) rfl at_232 rfl rfl (by decide) ?_
  intro v23 T23 L23 Lc23 X23 hQ23 l23
  obtain ⟨rfl, Nq23, Kq23⟩ := hQ23
  have O23_ := extKeep O21_ Kq23 all0
  have CR23 := CHr.trans CR21 (CHr.keep Kq23 sf0 CR21.1)
  have N23_ := frA l23 N21_ Nq23
  refine t_ifN X23 u at_235 ((if0 _ _).trans (feq (by decide : ¬ ((1 : Int32) = (0 : Int32)))).1) ?_
  refine t_aN X23 u at_238 rfl rfl ?_
  refine t_iL X23 u at_239 rfl ?_
  refine t_lN X23 u at_241 rfl ?_
  refine t_iL X23 u at_242 rfl ?_
  refine t_iC X23 u at_244  ?_
  refine t_cS [(.ref sm), v_8, (.long (aL x0)), (.int (Int32.ofNat k)), (.int (5 : Int32))] [] 0 X23 u hZ0 hown0 (wd hw 250 rfl) (m_38 hw) rfl (rm_dd l Z a0 hw [] G GG sm (8 : Int32) (aL x0) (Int32.ofNat k) (5 : Int32) sb sk n vs T23.heap O23_ (f22.keep Kq23) ((f18.keep Kq21 nin0).keep Kq23 nin0) ((f19.keep Kq21 nin0).keep Kq23 nin0) ((f20.keep Kq21 nin0).keep Kq23 nin0) (hd (5 : Int32) (by decide))) rfl at_245 rfl rfl (by decide) ?_
  intro v24 T24 L24 Lc24 X24 hQ24 l24
  obtain ⟨rfl, Nq24, Kq24⟩ := hQ24
  have O24_ := extKeep O23_ Kq24 all0
  have CR24 := CHr.trans CR23 (CHr.keep Kq24 sf0 CR23.1)
  have N24_ := frA l24 N23_ Nq24
  refine t_ifN X24 u at_248 ((if0 _ _).trans (feq (by decide : ¬ ((1 : Int32) = (0 : Int32)))).1) ?_
  refine t_aN X24 u at_251 rfl rfl ?_
  refine t_iL X24 u at_252 rfl ?_
  refine t_lN X24 u at_254 rfl ?_
  refine t_iL X24 u at_255 rfl ?_
  refine t_bP X24 u at_257  ?_
  have f25 := (((f18.keep Kq21 nin0).keep Kq23 nin0).keep Kq24 nin0)
  have f26 := (((f19.keep Kq21 nin0).keep Kq23 nin0).keep Kq24 nin0)
  have f27 := (((f20.keep Kq21 nin0).keep Kq23 nin0).keep Kq24 nin0)
  refine t_cS [(.ref sm), v_8, (.long (aL x0)), (.int (Int32.ofNat k)), (.int (6 : Int32))] [] 0 X24 u hZ0 hown0 (wd hw 250 rfl) (m_38 hw) rfl (rm_dd l Z a0 hw [] G GG sm (8 : Int32) (aL x0) (Int32.ofNat k) (6 : Int32) sb sk n vs T24.heap O24_ ((f22.keep Kq23).keep Kq24) f25 f26 f27 (hd (6 : Int32) (by decide))) rfl at_259 rfl rfl (by decide) ?_
  intro v28 T28 L28 Lc28 X28 hQ28 l28
  obtain ⟨rfl, Nq28, Kq28⟩ := hQ28
  have O28_ := extKeep O24_ Kq28 all0
  have CR28 := CHr.trans CR24 (CHr.keep Kq28 sf0 CR24.1)
  have N28_ := frA l28 N24_ Nq28
  refine t_ifN X28 u at_262 ((if0 _ _).trans (feq (by decide : ¬ ((1 : Int32) = (0 : Int32)))).1) ?_
  show Go _ _ _ _ _ _ _ _ T28 (mkF m 265 #[.val (.int x0), .val (.ref r), .val (.ref sm), .val (.long (aL x0)), .second, .val v_1, .val (.int (Int32.ofNat k)), .val v_8] [])
  refine t_aN X28 u at_265 rfl rfl ?_
  refine t_iL X28 u at_266 rfl ?_
  refine t_lN X28 u at_268 rfl ?_
  refine t_iL X28 u at_269 rfl ?_
  refine t_bP X28 u at_271  ?_
  refine t_cS [(.ref sm), v_8, (.long (aL x0)), (.int (Int32.ofNat k)), v_7] [] 0 X28 u hZ0 hown0 (wd hw 250 rfl) (m_38 hw) rfl (rm_dd l Z a0 hw [] G GG sm (8 : Int32) (aL x0) (Int32.ofNat k) (7 : Int32) sb sk n vs T28.heap O28_ (((f22.keep Kq23).keep Kq24).keep Kq28) (f25.keep Kq28 nin0) (f26.keep Kq28 nin0) (f27.keep Kq28 nin0) (hd (7 : Int32) (by decide))) rfl at_273 rfl rfl (by decide) ?_
  intro v29 T29 L29 Lc29 X29 hQ29 l29
  obtain ⟨rfl, Nq29, Kq29⟩ := hQ29
  have O29_ := extKeep O28_ Kq29 all0
  have CR29 := CHr.trans CR28 (CHr.keep Kq29 sf0 CR28.1)
  have N29_ := frA l29 N28_ Nq29
  refine t_ifN X29 u at_276 ((if0 _ _).trans (feq (by decide : ¬ ((1 : Int32) = (0 : Int32)))).1) ?_
  refine t_aN X29 u at_279 rfl rfl ?_
  refine t_iL X29 u at_280 rfl ?_
  refine t_lN X29 u at_282 rfl ?_
  refine t_iL X29 u at_283 rfl ?_
  refine t_bP X29 u at_285  ?_
  have f30 := ((((f22.keep Kq23).keep Kq24).keep Kq28).keep Kq29)
  refine t_cS [(.ref sm), v_8, (.long (aL x0)), (.int (Int32.ofNat k)), v_8] [] 0 X29 u hZ0 hown0 (wd hw 250 rfl) (m_38 hw) rfl (rm_dd l Z a0 hw [] G GG sm (8 : Int32) (aL x0) (Int32.ofNat k) (8 : Int32) sb sk n vs T29.heap O29_ f30 ((f25.keep Kq28 nin0).keep Kq29 nin0) ((f26.keep Kq28 nin0).keep Kq29 nin0) ((f27.keep Kq28 nin0).keep Kq29 nin0) (hd (8 : Int32) (by decide))) rfl at_287 rfl rfl (by decide) ?_
  intro v31 T31 L31 Lc31 X31 hQ31 l31
  obtain ⟨rfl, Nq31, Kq31⟩ := hQ31
  have O31_ := extKeep O29_ Kq31 all0
  have CR31 := CHr.trans CR29 (CHr.keep Kq31 sf0 CR29.1)
  have N31_ := frA l31 N29_ Nq31
  refine t_ifN X31 u at_290 ((if0 _ _).trans (feq (by decide : ¬ ((1 : Int32) = (0 : Int32)))).1) ?_
  refine t_aN X31 u at_293 rfl rfl ?_
  refine t_iL X31 u at_294 rfl ?_
  refine t_lN X31 u at_296 rfl ?_
  refine t_iL X31 u at_297 rfl ?_
  refine t_bP X31 u at_299  ?_
  have f32 := (((f25.keep Kq28 nin0).keep Kq29 nin0).keep Kq31 nin0)
  have f33 := (((f26.keep Kq28 nin0).keep Kq29 nin0).keep Kq31 nin0)
  have f34 := (((f27.keep Kq28 nin0).keep Kq29 nin0).keep Kq31 nin0)
  refine t_cS [(.ref sm), v_8, (.long (aL x0)), (.int (Int32.ofNat k)), v_9] [] 0 X31 u hZ0 hown0 (wd hw 250 rfl) (m_38 hw) rfl (rm_dd l Z a0 hw [] G GG sm (8 : Int32) (aL x0) (Int32.ofNat k) (9 : Int32) sb sk n vs T31.heap O31_ (f30.keep Kq31) f32 f33 f34 (hd (9 : Int32) (by decide))) rfl at_301 rfl rfl (by decide) ?_
  intro v35 T35 L35 Lc35 X35 hQ35 l35
  obtain ⟨rfl, Nq35, Kq35⟩ := hQ35
  have O35_ := extKeep O31_ Kq35 all0
  have CR35 := CHr.trans CR31 (CHr.keep Kq35 sf0 CR31.1)
  have N35_ := frA l35 N31_ Nq35
  refine t_ifN X35 u at_304 ((if0 _ _).trans (feq (by decide : ¬ ((1 : Int32) = (0 : Int32)))).1) ?_
  refine t_iC X35 u at_307  ?_
  refine t_go 308 312 X35 u rfl at_308 (by decide) ?_
  exact Go.retNH (endH hh rfl X35 hZ0 hEL CR35) X35 S0 (Nat.le_trans (Nat.le_trans (Nat.le_trans (Nat.le_trans (Nat.le_trans (Nat.le_trans (Nat.le_trans (Nat.le_trans (Nat.le_trans (Nat.le_trans kk0 Kq15.1) Kq16.1) Kq17.1) Kq21.1) Kq23.1) Kq24.1) Kq28.1) Kq29.1) Kq31.1) Kq35.1) hx (t := .boolean) hret (by simp) hlk (hb hby at_312) (by decide) (by decide) (hQ _ _ N35_)
theorem pn_0 : plainName "com/example/layout_to_rows/layouttorows/harvest/FetchExceptionStatusPinLaw" = true := by first | (simp [plainName, overriddenIn]; done) | decide +kernel
def Q_lw (Z : State)  (h0 : Heap) (v : Option Value) (h : Heap) (L : List Loc) : Prop := v = some (.int 1) ∧ Fr Z.heap.size L ∧ True
theorem rm_lw (l : Launch) (Z : State) (a0 : Array Value) (hw : HW Z a0) (ws : List Jvm.Cond) (G : GT) (GG : GP Z G) (x0 : Int32) (h0 : Heap) (O0 : Ext Z.heap h0) (hl : l.stackTraces = true) :
    MetHK l x code maxLocals ret ws room_1 Z consts_1 h0 #[(.int x0)] (Q_lw Z  h0) := by
  refine own_metHK "com/example/layout_to_rows/layouttorows/harvest/FetchExceptionStatusPinLaw" (plainFor_of_name pn_0) rfl #[.val (.int x0), .unset, .unset, .unset, .unset, .unset, .unset, .unset] (fun _ => by first | (simp [entryFrame, mkF, argsToLocals, Value.category, maxLocals]; done) | rfl) ?_
  intro p e s m below meth c s₁ hx hby hlk hret hml hZ hown hnm X0 e0 S0 kk0 hh hCH hTK hBl
  have N0 := Fr.nil Z.heap.size
  have u : UB p c _ _ := ⟨hx, hby, hml⟩
  have wS := own_wS hw
  have hEL := own_EW hw
  have CR0 := CHr.refl hCH
  refine t_iN X0 u at_0 rfl ?_
  obtain ⟨_, _, ⟨T1, L1, k1, n1⟩, -, X1, Sq1, gq1, ⟨Lc1, hQ1, l1, y1, z1, cr1⟩, st1⟩ := callSS X0 hx (y := (⟨"com/example/layout_to_rows/layouttorows/harvest/FetchException", "status", "(I)Lcom/example/layout_to_rows/layouttorows/harvest/FetchException;"⟩ : MethodName)) hown (mvT hZ (wd hw 0 rfl)) (mvT hZ (wd hw 1 rfl)) (mvT hZ (wd hw 2 rfl)) (mvT hZ (wd hw 3 rfl)) (by decide) (backOfSKH (W := 0) (rm_st l Z a0 hw [] G GG x0 h0 O0 hl) hZ (wd hw 3 rfl) (wd hw 2 rfl) (by decide) (by decide) hEL CR0.1 (Vm.MethodsKnown.alikeC S0.1.alike hTK) (Vm.FramesKnown.alikeC S0.1.alike hBl)) (g := (mkF m 1 #[.val (.int x0), .unset, .unset, .unset, .unset, .unset, .unset, .unset] [(.int x0)])) rfl (by rw [hml]; rfl) (argsL := [(.int x0)]) (rest := []) (lenOf pd_LIRLcom_example_layout_to_rows_layouttorows_harvest_FetchException_ rfl) rfl (by show 2 * 0 + _ ≤ _; exact Nat.le_of_eq rfl) (hb hby at_1) (fun _ _ => ⟨rfl, e0, (by decide : 0 + 9 ≤ _), (by decide : 0 + 2867 ≤ _)⟩)
  dsimp only [Pt.U, Pt.locs, Pt.cells, Pt.slots] at X1 l1 y1 z1 st1 hQ1 Sq1 gq1 cr1
  subst y1 z1
  obtain ⟨X1, S1, hZ1, hown1⟩ := rebS S0 ((congrArg Array.size e0).symm ▸ kk0) X1 Sq1 gq1 hZ hown
  obtain ⟨r1, sm1, sb1, sk1, n1, vs1, rfl, Nq1, Kq1, pS1, pT1⟩ := hQ1
  have O1_ := extKeep O0 Kq1 all0
  have CR1 := CHr.trans CR0 cr1
  have N1_ := frA l1 N0 Nq1
  refine Go.trans st1 ?_
  refine t_asN X1 u at_4 rfl (l' := #[.val (.int x0), .val (.ref r1), .unset, .unset, .unset, .unset, .unset, .unset]) rfl ?_
  show Go _ _ _ _ _ _ _ _ T1 (mkF m 5 #[.val (.int x0), .val (.ref r1), .unset, .unset, .unset, .unset, .unset, .unset] [])
  obtain ⟨kd, k1, k2, k3, k4, ⟨hsg, en, ev⟩ | ⟨hsg, en, ev⟩⟩ := pT1
  · exact lw_0 l Z a0 hw G GG hx hby hml hlk hret hh x0 X1 rfl O1_ N1_ hZ1 hown1 S1 (Nat.le_refl _) CR1 (fun _ _ q => ⟨rfl, q, trivial⟩) pS1 k1 k2 k3 k4 hsg en ev
  · exact lw_1 l Z a0 hw G GG hx hby hml hlk hret hh x0 X1 rfl O1_ N1_ hZ1 hown1 S1 (Nat.le_refl _) CR1 (fun _ _ q => ⟨rfl, q, trivial⟩) pS1 k1 k2 k3 k4 hsg en ev
theorem own_dgs {Z : State} {args : Array Value} {t B : Jvm.Term} {a : Addr} {f : Int32 → Int32} (ev : ∀ idx : List Nat, t.eval args Z none idx Z = some (.ref a)) (e1 : (Jvm.Cond.exactly t "[B").value args Z none Z [] = some true) (e2 : (Jvm.Cond.eq (.length t) (.int 100)).value args Z none Z [] = some true) (e3 : (Jvm.Cond.all t (.eq (.elem t (.index 0)) B)).value args Z none Z [] = some true) (w : (Jvm.Cond.arrayClass .byte).before args Z = true) (hB : ∀ j : Int32, ¬ j < 0 → B.eval args Z none [j.toNatClampNeg] Z = some (.int (f j))) : ∃ c, Dgs Z a c f := by
  obtain ⟨cell, k, h1, h2, h3, h4, -⟩ := Exa.start (ev []) e1
  obtain ⟨c', hA, hsz⟩ : ∃ c' : Cell, Z.arrayAt? a = some c' ∧ c'.slots.size = 100 := by
    cases hA : Z.arrayAt? a with
    | none => simp [Cond.value, Term.eval, ev, hA] at e2
    | some c' =>
      refine ⟨c', rfl, ?_⟩
      by_cases hlt : c'.slots.size < 2147483648
      · have q : (Jvm.Term.length t).eval args Z none [] Z = some (.int c'.slots.size.toInt32) := by simp [Term.eval, ev, hA, hlt]
        have r := gotT (Cond.eq_ints q (Term.int_eval 100)) e2
        have r2 := congrArg Int32.toInt r
        rw [show c'.slots.size.toInt32 = Int32.ofNat c'.slots.size from rfl, Int32.toInt_ofNat_of_lt hlt] at r2
        have e : (100 : Int32).toInt = 100 := rfl
        omega
      · simp [Cond.value, Term.eval, ev, hA, hlt] at e2
  obtain ⟨g1, g2, -⟩ := State.arrayAt?_spec hA
  cases h1.symm.trans g1
  have w' := w
  simp only [Cond.before, Cond.holds, Cond.value] at w'
  rw [show ("[" ++ FieldType.byte.toString) = "[B" from rfl, h2] at w'
  simp only [Option.bind_some, h3, Option.map_some] at w'
  have hk : ∃ comp, k.kind = .array comp .byte := by
    cases hq : k.kind with
    | array comp ty => rw [hq] at w'; exact ⟨comp, by simpa using w'⟩
    | _ => rw [hq] at w'; simp at w'
  refine ⟨cell, ⟨h1, ⟨fun z q => (by rw [q] at h4; cases h4), k, h3, hk⟩, g2⟩, fun j hj0 hj => ?_⟩
  have hn : ¬ j < 0 := by rw [Int32.lt_iff_toInt_lt]; have e : (0 : Int32).toInt = 0 := rfl; omega
  have hjn : j.toNatClampNeg < 100 := by show j.toInt.toNat < 100; omega
  refine ⟨fun q => q.elim hn fun q => by omega, ?_⟩
  have q := Cond.all_elim (ev []) hA e3 j.toNatClampNeg (by rw [hsz]; exact hjn)
  obtain ⟨v, hv⟩ : ∃ v, cell.slots[j.toNatClampNeg]? = some v := ⟨_, Array.getElem?_eq_getElem (by rw [hsz]; exact hjn)⟩
  have el : (Jvm.Term.elem t (.index 0)).eval args Z none [j.toNatClampNeg] Z = some v := by
    have b := (back32 hn).1
    simp only [Term.eval, ev, List.getElem?_cons_zero, Option.map_some, b]
    simp [hn, hA, hv]
  rw [hv]
  cases v <;> simp [Cond.value, el, hB j hn] at q ⊢
  exact q
theorem own_dB1 {Z : State} {args : Array Value} (j : Int32) (hj : ¬ j < 0) : (Jvm.Term.add (.int 48) (.rem (.index 0) (.int 10))).eval args Z none [j.toNatClampNeg] Z = some (.int (48 + j % 10)) := by
  have b := (back32 hj).1
  simp [Term.eval, b]
theorem own_dB2 {Z : State} {args : Array Value} (j : Int32) (hj : ¬ j < 0) : (Jvm.Term.add (.int 48) (.div (.index 0) (.int 10))).eval args Z none [j.toNatClampNeg] Z = some (.int (48 + j / 10)) := by
  have b := (back32 hj).1
  simp [Term.eval, b]
end Contracts
set_option maxRecDepth 65536 in
set_option maxHeartbeats 40000000 in
theorem comes_1 {Post : Tables → Env → Array Value → State → Outcome → State → Prop} (hpost : ∀ tb e args s v u, (limb_1_1.after args s (.returned v) u = true ∧ limb_1_2.after args s (.returned v) u = true ∧ True) → ReturnedEndW s (.returned v) u (Jvm.fieldLocs frame_1_writes args s ++ Jvm.arrayLocs frame_1_arrays args s ++ Jvm.staticLocs frame_1_statics s) 48 6976 → Post tb e args s (.returned v) u) :
    ArmFor flags0 classFile x code maxLocals ret World_1 tables_1 room_1 Calls_1 rest_1 Pre_1 Post := by
  intro l hfl _ _ p e ha hc hk s m args below hf hA hF happ hP
  obtain ⟨hcalls, hrest, hpre⟩ := hP
  obtain ⟨-, -, -, hnamed, -, -, -, hat⟩ := (Spec.applies_iff hf).mp happ
  obtain ⟨hg, hn⟩ := and_e (Cond.before_iff.mp (show (Jvm.Cond.and given_1 narrow_1).before args s = true from hpre))
  obtain ⟨hcount, gr0⟩ := and_e hg
  have ga0 := gr0
  obtain ⟨w0, rfl⟩ : ∃ w0 : Value, args = #[w0] := by
    have hs : args.size = 1 := by simpa [Cond.value, given_1] using hcount
    obtain ⟨L⟩ := args
    match L, hs with
    | [w0], _ => exact ⟨w0, rfl⟩
  have hw := fun d (hd : d ∈ tables_1) => atoms_spec (ws := Jvm.Cond.code x code maxLocals ret :: tables_1) hat d (List.mem_cons_of_mem _ hd)
  have hfit : Fit s := fun {y c} hc i hi => by
    obtain ⟨ha, rfl⟩ := Array.getElem?_eq_some_iff.mp hc
    have q := List.all_eq_true.mp ((Array.all_eq_true_iff_forall_mem.mp hF) _ (Array.getElem_mem ha)) i (List.mem_range.mpr hi)
    simpa [Array.getElem?_eq_getElem hi] using q
  obtain ⟨hsets, hown0⟩ := atoms_of _ (rest_1_c_eq ▸ (show rest_1_c.before _ s = true from hrest))
  have hr0 := Cond.before_iff.mp hown0
  obtain ⟨i0, ei0⟩ := is_v ga0
  obtain rfl : w0 = (.int i0) := Option.some.inj ei0
  have hl : l.stackTraces = true := by unfold Launch.stackTraces; rw [hfl]; decide
  obtain ⟨cs, evcs⟩ := is_v (Cond.before_iff.mp (hsets _ (List.mem_of_getElem? (i := 1) rfl)))
  have S_cs : Sta s s.heap "java/lang/String" "COMPACT_STRINGS" "Z" (.int cs) := Sta.start evcs (Or.inl (hsets _ (List.mem_of_getElem? (i := 0) rfl)))
  have H_cs : ¬ (cs = (0 : Int32)) := gotF (Cond.eq_ints evcs (Term.int_eval (0))) (not_v (Cond.before_iff.mp (hsets _ (List.mem_of_getElem? (i := 2) rfl))))
  obtain ⟨sv, evsv, rsv⟩ := isR_v (Cond.before_iff.mp (hsets _ (List.mem_of_getElem? (i := 8) rfl)))
  have S_sv : Sta s s.heap "jdk/internal/util/Preconditions" "SIOOBE_FORMATTER" "Ljava/util/function/BiFunction;" sv := Sta.start evsv (Or.inl (hsets _ (List.mem_of_getElem? (i := 7) rfl)))
  obtain ⟨d1, evd1⟩ := exa_v (Cond.before_iff.mp (hsets _ (List.mem_of_getElem? (i := 12) rfl)))
  have S_d1 : Sta s s.heap "java/lang/Integer" "DigitOnes" "[B" (.ref d1) := Sta.start evd1 (Or.inl (hsets _ (List.mem_of_getElem? (i := 11) rfl)))
  obtain ⟨c1, T_d1⟩ := own_dgs (f := fun j => 48 + j % 10) (fun _ => evd1) (Cond.before_iff.mp (hsets _ (List.mem_of_getElem? (i := 12) rfl))) (Cond.before_iff.mp (hsets _ (List.mem_of_getElem? (i := 13) rfl))) (Cond.before_iff.mp (hsets _ (List.mem_of_getElem? (i := 14) rfl))) (wd hw 23 rfl) own_dB1
  obtain ⟨d2, evd2⟩ := exa_v (Cond.before_iff.mp (hsets _ (List.mem_of_getElem? (i := 17) rfl)))
  have S_d2 : Sta s s.heap "java/lang/Integer" "DigitTens" "[B" (.ref d2) := Sta.start evd2 (Or.inl (hsets _ (List.mem_of_getElem? (i := 16) rfl)))
  obtain ⟨c2, T_d2⟩ := own_dgs (f := fun j => 48 + j / 10) (fun _ => evd2) (Cond.before_iff.mp (hsets _ (List.mem_of_getElem? (i := 17) rfl))) (Cond.before_iff.mp (hsets _ (List.mem_of_getElem? (i := 18) rfl))) (Cond.before_iff.mp (hsets _ (List.mem_of_getElem? (i := 19) rfl))) (wd hw 23 rfl) own_dB2
  obtain ⟨us, evus⟩ := arr_v (Cond.before_iff.mp (hsets _ (List.mem_of_getElem? (i := 28) rfl)))
  have S_us : Sta s s.heap "java/lang/Throwable" "UNASSIGNED_STACK" "[Ljava/lang/StackTraceElement;" (.ref us) := Sta.start evus (Or.inl (hsets _ (List.mem_of_getElem? (i := 26) rfl)))
  obtain ⟨ss, evss⟩ := exa_v (Cond.before_iff.mp (hsets _ (List.mem_of_getElem? (i := 33) rfl)))
  have S_ss : Sta s s.heap "java/lang/Throwable" "SUPPRESSED_SENTINEL" "Ljava/util/List;" (.ref ss) := Sta.start evss (Or.inl (hsets _ (List.mem_of_getElem? (i := 31) rfl)))
  have GG : GP s (cs, sv, d1, d2, c1, c2, us, ss) := ⟨S_cs, H_cs, S_sv, Jvm.RoadKit.ref_cases rsv, S_d1, T_d1, S_d2, T_d2, S_us, S_ss⟩
  have hCH : CHv s consts_1 s.vm s.heap := CHv.start (own_EW hw) hcalls.2.2.1 (hsets _ (List.mem_of_getElem? (i := 2) rfl)) (wd hw 23 rfl) (wd hw 29 rfl)
  obtain ⟨n, o, h1, h2, h3, _, L, rfl, ⟨rfl, N, -⟩, -, hq⟩ := rm_lw l s _ hw tables_1 (cs, sv, d1, d2, c1, c2, us, ss) GG i0  s.heap (extRfl _) hl p e ha hc hk s m _ below hf ((Spec.applies_iff_loose hf).mp happ).1 ⟨rfl, State.Warmed39.refl s, rfl, hCH⟩ ⟨MethodsKnown_of_tablesKnown hcalls.2.1, FramesKnown_of_framesKnown hcalls.1 hf⟩
  refine ⟨n, _, h1, h2, h3, hpost _ _ _ _ _ _ ⟨Cond.after_iff.mpr rfl, Cond.after_iff.mpr (eq_i res_at (Term.int_eval (1)) rfl), trivial⟩ ⟨hq.1, hq.2.1, hq.2.2.1, (hq.2.2.2.sift fun y hy => Or.inr (N y hy)).mono (by decide) (by decide)⟩⟩
theorem main_1_1 : Claimed_1_1 := comes_1 fun _ _ _ _ _ _ h hF => ⟨h.1, hF⟩
theorem main_1_2 : Claimed_1_2 := comes_1 fun _ _ _ _ _ _ h hF => ⟨h.2.1, hF⟩
end Jvm.Pilot.@@N@@
namespace Jvm.Pilot.@@N@@
open Jvm Jvm.ClassFile Sem Op Lib Jvm.Free Jvm.Stand Jvm.Pilot.@@N@@.Jvm.D
abbrev cd_ (a b : Nat) (c : ByteArray) : Code := { maxStack := a, maxLocals := b, code := c, exceptionTable := #[], attributes := #[] }
abbrev mi_ (a b c : Nat) : MethodInfo := { accessFlags := a, nameIndex := b, descriptorIndex := c, attributes := #[] }
abbrev fi_ (a b c : Nat) : FieldInfo := { accessFlags := a, nameIndex := b, descriptorIndex := c, attributes := #[] }
abbrev mt_ (n d : String) (ps : List FieldType) (r : Option FieldType) (f : Nat) (c : Option Code) : Method := { name := n, desc := d, sig := { parameters := ps, returnType := r }, accessFlags := f, code := c }
abbrev fd_ (n : String) (t : FieldType) (f s : Nat) : Field := { name := n, type := t, accessFlags := f, slot := s, constantValue := 0 }
/-! MADE BY PROGRAM (witnessworld.py) out of the Statement's table words and the real class files: 42 classes; the members and pool entries that the words name. The judged class is class 1, her method 1. -/
namespace start1
open Jvm.ClassFile
def u (s : String) : CpInfo := .utf8 (stringToUtf16 s)
/-- a pool by its gaps: so many unusable entries, then the entry; so many at the end -/
def gap : Nat → List CpInfo → List CpInfo
  | 0, r => r
  | n + 1, r => .unusable :: gap n r
def poolList (es : List (Nat × CpInfo)) (last : Nat) : List CpInfo := es.foldr (fun e r => gap e.1 (e.2 :: r)) (gap last [])
def pool (es : List (Nat × CpInfo)) (last : Nat) : Array CpInfo := ⟨poolList es last⟩
def fileOf (pool : Array CpInfo) (this : Nat) (attrs : Array Attribute := #[]) (ms : Array MethodInfo := #[]) (fl : Nat := 33) (sup : Nat := 0) (ifs : Array Nat := #[]) (fds : Array FieldInfo := #[]) : ClassFile where
  minorVersion := 0
  majorVersion := 65
  constantPool := pool
  accessFlags := fl
  thisClass := this
  superClass := sup
  interfaces := ifs
  fields := fds
  methods := ms
  attributes := attrs
def plain (name : String) (sup : Option ClassId) : Class where
  name := name
  kind := .ordinary
  loader := none
  accessFlags := 33
  super := sup
  interfaces := #[]
  cf := none
  fields := #[]
  methods := #[]
  instanceTypes := #[]
  staticTypes := #[]
  resolved := #[]
  callSites := []
  init := .initialized
  statics := none
  mirror := none

def pool0 : Array CpInfo := pool [(5, u "<init>"), (0, u "()V"), (1, .class_ 10), (1, u "java/lang/Object"), (85, u "clone"), (0, u "()Ljava/lang/Object;")] 26

def k0c0 : Code := cd_ 0 1 object_method_1_code
def k0m0 : Method := mt_ "<init>" "()V" [] (none) 1 (some k0c0)
def k0m1 : Method := mt_ "clone" "()Ljava/lang/Object;" [] (some (.object "java/lang/Object")) 260 (none)
/-- java/lang/Object -/
def k0 : Class := { plain "java/lang/Object" none with
  accessFlags := 33
  interfaces := #[]
  cf := some (fileOf pool0 8 #[] #[mi_ 1 5 6, mi_ 260 96 97] 33 0 #[] #[])
  fields := #[]
  methods := #[k0m0, k0m1]
  instanceTypes := #[]
  staticTypes := #[]
  resolved := Array.replicate 124 none
  statics := none }

def pool1 : Array CpInfo := pool [(2, .class_ 4), (1, u "java/lang/Object"), (0, u "<init>"), (0, u "()V"), (0, .methodref 8 9), (0, .class_ 10), (0, .nameAndType 11 12), (0, u "com/example/layout_to_rows/layouttorows/harvest/FetchException"), (0, u "status"), (0, u "(I)Lcom/example/layout_to_rows/layouttorows/harvest/FetchException;"), (0, .methodref 8 14), (0, .nameAndType 15 16), (0, u "attempted"), (0, u "()Z"), (0, .methodref 8 18), (0, .nameAndType 19 20), (0, u "getCause"), (0, u "()Ljava/lang/Throwable;"), (0, .methodref 8 22), (0, .nameAndType 23 24), (0, u "getMessage"), (0, u "()Ljava/lang/String;"), (0, .methodref 26 27), (0, .class_ 28), (0, .nameAndType 29 30), (0, u "java/lang/Math"), (0, u "abs"), (0, u "(J)J"), (0, .methodref 32 33), (0, .class_ 34), (0, .nameAndType 35 36), (0, u "com/example/layout_to_rows/layouttorows/harvest/FetchExceptionStatusPinLaw"), (0, u "digits"), (0, u "(J)I"), (0, .methodref 38 39), (0, .class_ 40), (0, .nameAndType 41 42), (0, u "java/lang/String"), (0, u "length"), (0, u "()I"), (0, .methodref 38 44), (0, .nameAndType 45 46), (0, u "charAt"), (0, u "(I)C"), (0, .methodref 32 48), (0, .nameAndType 49 50), (0, u "d"), (0, u "(Ljava/lang/String;IJII)Z"), (0, .long 10), (1, .long 100), (1, .long 1000), (1, .long 10000), (1, .long 100000), (1, .long 1000000), (1, .long 10000000), (1, .long 100000000), (1, .long 1000000000), (1, .methodref 32 70), (0, .nameAndType 71 72), (0, u "pow10"), (0, u "(I)J"), (2, u "law"), (0, u "(I)Z")] 5

def k1m0 : Method := mt_ "<init>" "()V" [] (none) 1 (none)
def k1c1 : Code := cd_ 6 8 code
def k1m1 : Method := mt_ "law" "(I)Z" [.int] (some .boolean) 9 (some k1c1)
def k1c2 : Code := cd_ 4 2 method_3_code
def k1m2 : Method := mt_ "digits" "(J)I" [.long] (some .int) 10 (some k1c2)
def k1c3 : Code := cd_ 5 2 method_4_code
def k1m3 : Method := mt_ "pow10" "(I)J" [.int] (some .long) 10 (some k1c3)
def k1c4 : Code := cd_ 4 9 method_5_code
def k1m4 : Method := mt_ "d" "(Ljava/lang/String;IJII)Z" [(.object "java/lang/String"), .int, .long, .int, .int] (some .boolean) 10 (some k1c4)
/-- com/example/layout_to_rows/layouttorows/harvest/FetchExceptionStatusPinLaw -/
def k1 : Class := { plain "com/example/layout_to_rows/layouttorows/harvest/FetchExceptionStatusPinLaw" (some 0) with
  accessFlags := 49
  interfaces := #[]
  cf := some (fileOf pool1 32 #[] #[mi_ 1 5 6, mi_ 9 75 76, mi_ 10 35 36, mi_ 10 71 72, mi_ 10 49 50] 49 2 #[] #[])
  fields := #[]
  methods := #[k1m0, k1m1, k1m2, k1m3, k1m4]
  instanceTypes := #[]
  staticTypes := #[]
  resolved := Array.replicate 82 none
  statics := none }

def pool2 : Array CpInfo := pool [(1, .class_ 2), (0, u "java/io/Serializable"), (0, .class_ 4), (0, u "java/lang/Object")] 2

/-- java/io/Serializable -/
def k2 : Class := { plain "java/io/Serializable" (some 0) with
  accessFlags := 1537
  interfaces := #[]
  cf := some (fileOf pool2 1 #[] #[] 1537 3 #[] #[])
  fields := #[]
  methods := #[]
  instanceTypes := #[]
  staticTypes := #[]
  resolved := Array.replicate 7 none
  statics := none }

def pool3 : Array CpInfo := pool [(1, .methodref 2 3), (0, .class_ 4), (0, .nameAndType 5 6), (0, u "java/lang/Object"), (0, u "<init>"), (0, u "()V"), (0, .fieldref 8 9), (0, .class_ 10), (0, .nameAndType 11 12), (0, u "java/lang/Throwable"), (0, u "cause"), (0, u "Ljava/lang/Throwable;"), (0, .fieldref 8 14), (0, .nameAndType 15 16), (0, u "UNASSIGNED_STACK"), (0, u "[Ljava/lang/StackTraceElement;"), (0, .fieldref 8 18), (0, .nameAndType 19 16), (0, u "stackTrace"), (0, .fieldref 8 21), (0, .nameAndType 22 23), (0, u "SUPPRESSED_SENTINEL"), (0, u "Ljava/util/List;"), (0, .fieldref 8 25), (0, .nameAndType 26 23), (0, u "suppressedExceptions"), (0, .methodref 8 28), (0, .nameAndType 29 30), (0, u "fillInStackTrace"), (0, u "()Ljava/lang/Throwable;"), (0, .fieldref 8 32), (0, .nameAndType 33 34), (0, u "detailMessage"), (0, u "Ljava/lang/String;"), (3, u "()Ljava/lang/String;"), (2, u "getMessage"), (21, u "(Ljava/lang/String;Ljava/lang/Throwable;)V"), (29, .class_ 94), (0, u "java/lang/Throwable$WrappedPrintStream"), (6, .class_ 103), (1, u "java/lang/Throwable$PrintStreamOrWriter"), (54, u "getCause"), (6, u "$assertionsDisabled"), (0, u "Z"), (26, .class_ 194), (0, u "java/lang/Throwable$WrappedPrintWriter"), (3, .fieldref 8 199), (0, .nameAndType 200 201), (0, u "backtrace"), (0, u "Ljava/lang/Object;"), (0, .methodref 8 203), (0, .nameAndType 29 204), (0, u "(I)Ljava/lang/Throwable;"), (6, u "depth"), (0, u "I"), (56, .class_ 271), (1, u "java/lang/Throwable$SentinelHolder"), (32, u "EMPTY_THROWABLE_ARRAY"), (0, u "[Ljava/lang/Throwable;"), (12, .class_ 319), (0, u "java/io/Serializable"), (0, u "serialVersionUID"), (0, u "J"), (5, u "NULL_CAUSE_MESSAGE"), (0, u "SELF_SUPPRESSION_MESSAGE"), (0, u "CAUSE_CAPTION"), (0, u "SUPPRESSED_CAPTION")] 73

def k3c0 : Code := cd_ 2 1 jdk_78_method_1_code
def k3m0 : Method := mt_ "<init>" "()V" [] (none) 1 (some k3c0)
def k3c1 : Code := cd_ 2 3 jdk_78_method_3_code
def k3m1 : Method := mt_ "<init>" "(Ljava/lang/String;Ljava/lang/Throwable;)V" [(.object "java/lang/String"), (.object "java/lang/Throwable")] (none) 1 (some k3c1)
def k3c2 : Code := cd_ 1 1 jdk_78_method_6_code
def k3m2 : Method := mt_ "getMessage" "()Ljava/lang/String;" [] (some (.object "java/lang/String")) 1 (some k3c2)
def k3c3 : Code := cd_ 2 1 jdk_78_method_8_code
def k3m3 : Method := mt_ "getCause" "()Ljava/lang/Throwable;" [] (some (.object "java/lang/Throwable")) 33 (some k3c3)
def k3c4 : Code := cd_ 2 1 jdk_78_method_18_code
def k3m4 : Method := mt_ "fillInStackTrace" "()Ljava/lang/Throwable;" [] (some (.object "java/lang/Throwable")) 33 (some k3c4)
def k3m5 : Method := mt_ "fillInStackTrace" "(I)Ljava/lang/Throwable;" [.int] (some (.object "java/lang/Throwable")) 258 (none)
/-- java/lang/Throwable -/
def k3 : Class := { plain "java/lang/Throwable" (some 0) with
  accessFlags := 33
  interfaces := #[2]
  cf := some (fileOf pool3 8 #[.nestMembers #[193, 93, 101, 269]] #[mi_ 1 5 6, mi_ 1 5 63, mi_ 1 41 38, mi_ 33 158 30, mi_ 33 29 30, mi_ 258 29 204] 33 2 #[318] #[fi_ 26 320 321, fi_ 130 200 201, fi_ 2 33 34, fi_ 26 15 16, fi_ 2 11 12, fi_ 2 19 16, fi_ 130 211 212, fi_ 26 22 23, fi_ 2 26 23, fi_ 26 327 34, fi_ 26 328 34, fi_ 26 329 34, fi_ 26 330 34, fi_ 26 304 305, fi_ 4120 165 166])
  fields := #[fd_ "serialVersionUID" .long 26 0, fd_ "backtrace" (.object "java/lang/Object") 130 0, fd_ "detailMessage" (.object "java/lang/String") 2 1, fd_ "UNASSIGNED_STACK" (.array (.object "java/lang/StackTraceElement")) 26 1, fd_ "cause" (.object "java/lang/Throwable") 2 2, fd_ "stackTrace" (.array (.object "java/lang/StackTraceElement")) 2 3, fd_ "depth" .int 130 4, fd_ "SUPPRESSED_SENTINEL" (.object "java/util/List") 26 2, fd_ "suppressedExceptions" (.object "java/util/List") 2 5, fd_ "NULL_CAUSE_MESSAGE" (.object "java/lang/String") 26 3, fd_ "SELF_SUPPRESSION_MESSAGE" (.object "java/lang/String") 26 4, fd_ "CAUSE_CAPTION" (.object "java/lang/String") 26 5, fd_ "SUPPRESSED_CAPTION" (.object "java/lang/String") 26 6, fd_ "EMPTY_THROWABLE_ARRAY" (.array (.object "java/lang/Throwable")) 26 7, fd_ "$assertionsDisabled" .boolean 4120 8]
  methods := #[k3m0, k3m1, k3m2, k3m3, k3m4, k3m5]
  instanceTypes := #[(.object "java/lang/Object"), (.object "java/lang/String"), (.object "java/lang/Throwable"), (.array (.object "java/lang/StackTraceElement")), .int, (.object "java/util/List")]
  staticTypes := #[.long, (.array (.object "java/lang/StackTraceElement")), (.object "java/util/List"), (.object "java/lang/String"), (.object "java/lang/String"), (.object "java/lang/String"), (.object "java/lang/String"), (.array (.object "java/lang/Throwable")), .boolean]
  resolved := Array.replicate 404 none
  statics := some 0 }

def pool4 : Array CpInfo := pool [(2, .class_ 4), (1, u "java/lang/Throwable"), (0, u "<init>"), (0, u "()V"), (3, .methodref 2 11), (0, .nameAndType 5 12), (0, u "(Ljava/lang/String;Ljava/lang/Throwable;)V"), (6, .class_ 20), (0, u "java/lang/Exception"), (0, u "serialVersionUID"), (0, u "J")] 17

def k4m0 : Method := mt_ "<init>" "()V" [] (none) 1 (none)
def k4c1 : Code := cd_ 3 3 jdk_59_method_3_code
def k4m1 : Method := mt_ "<init>" "(Ljava/lang/String;Ljava/lang/Throwable;)V" [(.object "java/lang/String"), (.object "java/lang/Throwable")] (none) 1 (some k4c1)
/-- java/lang/Exception -/
def k4 : Class := { plain "java/lang/Exception" (some 3) with
  accessFlags := 33
  interfaces := #[]
  cf := some (fileOf pool4 19 #[] #[mi_ 1 5 6, mi_ 1 5 12] 33 2 #[] #[fi_ 24 21 22])
  fields := #[fd_ "serialVersionUID" .long 24 0]
  methods := #[k4m0, k4m1]
  instanceTypes := #[(.object "java/lang/Object"), (.object "java/lang/String"), (.object "java/lang/Throwable"), (.array (.object "java/lang/StackTraceElement")), .int, (.object "java/util/List")]
  staticTypes := #[.long]
  resolved := Array.replicate 40 none
  statics := none }

def pool5 : Array CpInfo := pool [(1, .methodref 2 3), (0, .class_ 4), (0, .nameAndType 5 6), (0, u "java/lang/Exception"), (0, u "<init>"), (0, u "(Ljava/lang/String;Ljava/lang/Throwable;)V"), (0, .fieldref 8 9), (0, .class_ 10), (0, .nameAndType 11 12), (0, u "com/example/layout_to_rows/layouttorows/harvest/FetchException"), (0, u "attempted"), (0, u "Z"), (2, .methodref 8 16), (0, .nameAndType 5 17), (0, u "(Ljava/lang/String;ZLjava/io/IOException;)V"), (0, .class_ 19), (0, u "java/lang/StringBuilder"), (0, .methodref 18 21), (0, .nameAndType 5 22), (0, u "()V"), (0, .string 24), (0, u "status "), (0, .methodref 18 26), (0, .nameAndType 27 28), (0, u "append"), (0, u "(Ljava/lang/String;)Ljava/lang/StringBuilder;"), (0, .methodref 18 30), (0, .nameAndType 27 31), (0, u "(I)Ljava/lang/StringBuilder;"), (0, .methodref 18 33), (0, .nameAndType 34 35), (0, u "toString"), (0, u "()Ljava/lang/String;"), (6, u "serialVersionUID"), (0, u "J"), (6, u "status"), (0, u "(I)Lcom/example/layout_to_rows/layouttorows/harvest/FetchException;"), (7, u "()Z")] 2

def k5c0 : Code := cd_ 3 4 prog_9_method_1_code
def k5m0 : Method := mt_ "<init>" "(Ljava/lang/String;ZLjava/io/IOException;)V" [(.object "java/lang/String"), .boolean, (.object "java/io/IOException")] (none) 2 (some k5c0)
def k5c1 : Code := cd_ 5 1 prog_9_method_3_code
def k5m1 : Method := mt_ "status" "(I)Lcom/example/layout_to_rows/layouttorows/harvest/FetchException;" [.int] (some (.object "com/example/layout_to_rows/layouttorows/harvest/FetchException")) 8 (some k5c1)
def k5c2 : Code := cd_ 1 1 prog_9_method_5_code
def k5m2 : Method := mt_ "attempted" "()Z" [] (some .boolean) 1 (some k5c2)
/-- com/example/layout_to_rows/layouttorows/harvest/FetchException -/
def k5 : Class := { plain "com/example/layout_to_rows/layouttorows/harvest/FetchException" (some 4) with
  accessFlags := 49
  interfaces := #[]
  cf := some (fileOf pool5 8 #[] #[mi_ 2 5 17, mi_ 8 50 51, mi_ 1 11 59] 49 2 #[] #[fi_ 26 42 43, fi_ 18 11 12])
  fields := #[fd_ "serialVersionUID" .long 26 0, fd_ "attempted" .boolean 18 6]
  methods := #[k5m0, k5m1, k5m2]
  instanceTypes := #[(.object "java/lang/Object"), (.object "java/lang/String"), (.object "java/lang/Throwable"), (.array (.object "java/lang/StackTraceElement")), .int, (.object "java/util/List"), .boolean]
  staticTypes := #[.long]
  resolved := Array.replicate 62 none
  statics := none }

def pool6 : Array CpInfo := pool [(1, .class_ 2), (0, u "java/lang/Appendable"), (0, .class_ 4), (0, u "java/lang/Object")] 9

/-- java/lang/Appendable -/
def k6 : Class := { plain "java/lang/Appendable" (some 0) with
  accessFlags := 1537
  interfaces := #[]
  cf := some (fileOf pool6 1 #[] #[] 1537 3 #[] #[])
  fields := #[]
  methods := #[]
  instanceTypes := #[]
  staticTypes := #[]
  resolved := Array.replicate 14 none
  statics := none }

def pool7 : Array CpInfo := pool [(2, .class_ 4), (1, u "java/lang/CharSequence"), (42, .class_ 48), (0, u "java/lang/CharSequence$1CodePointIterator"), (10, .class_ 60), (0, u "java/lang/CharSequence$1CharIterator"), (5, .class_ 67), (0, u "java/lang/Object")] 63

/-- java/lang/CharSequence -/
def k7 : Class := { plain "java/lang/CharSequence" (some 0) with
  accessFlags := 1537
  interfaces := #[]
  cf := some (fileOf pool7 2 #[.nestMembers #[47, 59]] #[] 1537 66 #[] #[])
  fields := #[]
  methods := #[]
  instanceTypes := #[]
  staticTypes := #[]
  resolved := Array.replicate 131 none
  statics := none }

def pool8 : Array CpInfo := pool [(1, .class_ 2), (0, u "java/lang/String"), (0, .methodref 4 5), (0, .class_ 6), (0, .nameAndType 7 8), (0, u "java/lang/Object"), (0, u "<init>"), (0, u "()V"), (1, .class_ 12), (1, u "java/lang/AbstractStringBuilder"), (0, u "EMPTYVALUE"), (0, u "[B"), (0, .fieldref 10 16), (0, .nameAndType 17 14), (0, u "value"), (0, .fieldref 1 19), (0, .nameAndType 20 21), (0, u "COMPACT_STRINGS"), (0, u "Z"), (0, .fieldref 10 23), (0, .nameAndType 24 25), (0, u "coder"), (0, u "B"), (6, .methodref 1 33), (0, .nameAndType 34 35), (0, u "length"), (0, u "()I"), (0, .class_ 37), (0, u "java/lang/Integer"), (1, .integer 2147483647), (0, .methodref 1 41), (0, .nameAndType 24 42), (0, u "()B"), (2, u "append"), (0, u "(Ljava/lang/String;)Ljava/lang/AbstractStringBuilder;"), (1, .class_ 49), (0, u "java/lang/CharSequence"), (19, u "(Ljava/lang/String;)V"), (5, u "maybeLatin1"), (3, .fieldref 10 80), (0, .nameAndType 81 82), (0, u "count"), (0, u "I"), (0, .methodref 10 84), (0, .nameAndType 85 86), (0, u "isLatin1"), (0, u "()Z"), (13, .methodref 10 101), (0, .nameAndType 102 103), (0, u "ensureCapacityInternal"), (0, u "(I)V"), (0, .methodref 10 105), (0, .nameAndType 106 107), (0, u "newCapacity"), (0, u "(I)I"), (0, .methodref 109 110), (0, .class_ 111), (0, .nameAndType 112 113), (0, u "java/util/Arrays"), (0, u "copyOf"), (0, u "([BI)[B"), (0, .methodref 115 116), (0, .class_ 117), (0, .nameAndType 118 119), (0, u "jdk/internal/util/ArraysSupport"), (0, u "newLength"), (0, u "(III)I"), (68, u "getChars"), (19, .methodref 10 209), (0, .nameAndType 210 211), (0, u "putStringAt"), (0, u "(ILjava/lang/String;)V"), (5, u "inflateIfNeededFor"), (2, .nameAndType 221 222), (0, u "getBytes"), (0, u "([BIB)V"), (22, .methodref 36 246), (0, .nameAndType 247 107), (0, u "stringSize"), (0, .methodref 36 249), (0, .nameAndType 188 250), (0, u "(II[B)I"), (146, .methodref 10 398), (0, .nameAndType 217 69), (0, .methodref 1 220), (3, u "()[B"), (40, .class_ 445), (0, u "java/lang/Appendable"), (65, u "(I)Ljava/lang/AbstractStringBuilder;"), (40, u "getValue")] 56

def k8m0 : Method := mt_ "<init>" "()V" [] (none) 0 (none)
def k8c1 : Code := cd_ 2 2 jdk_68_method_2_code
def k8m1 : Method := mt_ "<init>" "(I)V" [.int] (none) 0 (some k8c1)
def k8c2 : Code := cd_ 1 1 jdk_68_method_6_code
def k8m2 : Method := mt_ "length" "()I" [] (some .int) 1 (some k8c2)
def k8c3 : Code := cd_ 4 3 jdk_68_method_9_code
def k8m3 : Method := mt_ "ensureCapacityInternal" "(I)V" [.int] (none) 2 (some k8c3)
def k8c4 : Code := cd_ 5 6 jdk_68_method_10_code
def k8m4 : Method := mt_ "newCapacity" "(I)I" [.int] (some .int) 2 (some k8c4)
def k8c5 : Code := cd_ 3 3 jdk_68_method_22_code
def k8m5 : Method := mt_ "append" "(Ljava/lang/String;)Ljava/lang/AbstractStringBuilder;" [(.object "java/lang/String")] (some (.object "java/lang/AbstractStringBuilder")) 1 (some k8c5)
def k8c6 : Code := cd_ 4 4 jdk_68_method_32_code
def k8m6 : Method := mt_ "append" "(I)Ljava/lang/AbstractStringBuilder;" [.int] (some (.object "java/lang/AbstractStringBuilder")) 1 (some k8c6)
def k8c7 : Code := cd_ 1 1 jdk_68_method_64_code
def k8m7 : Method := mt_ "getValue" "()[B" [] (some (.array .byte)) 16 (some k8c7)
def k8c8 : Code := cd_ 1 1 jdk_68_method_68_code
def k8m8 : Method := mt_ "isLatin1" "()Z" [] (some .boolean) 16 (some k8c8)
def k8c9 : Code := cd_ 2 2 jdk_68_method_71_code
def k8m9 : Method := mt_ "inflateIfNeededFor" "(Ljava/lang/String;)V" [(.object "java/lang/String")] (none) 2 (some k8c9)
def k8c10 : Code := cd_ 4 3 jdk_68_method_73_code
def k8m10 : Method := mt_ "putStringAt" "(ILjava/lang/String;)V" [.int, (.object "java/lang/String")] (none) 2 (some k8c10)
/-- java/lang/AbstractStringBuilder -/
def k8 : Class := { plain "java/lang/AbstractStringBuilder" (some 0) with
  accessFlags := 1056
  interfaces := #[6, 7]
  cf := some (fileOf pool8 10 #[] #[mi_ 0 7 8, mi_ 0 7 103, mi_ 1 34 35, mi_ 2 102 103, mi_ 2 106 107, mi_ 1 45 46, mi_ 1 45 511, mi_ 16 552 403, mi_ 16 85 86, mi_ 2 217 69, mi_ 2 210 211] 1056 4 #[444, 48] #[fi_ 0 17 14, fi_ 0 24 25, fi_ 0 75 21, fi_ 0 81 82, fi_ 26 13 14])
  fields := #[fd_ "value" (.array .byte) 0 0, fd_ "coder" .byte 0 1, fd_ "maybeLatin1" .boolean 0 2, fd_ "count" .int 0 3, fd_ "EMPTYVALUE" (.array .byte) 26 0]
  methods := #[k8m0, k8m1, k8m2, k8m3, k8m4, k8m5, k8m6, k8m7, k8m8, k8m9, k8m10]
  instanceTypes := #[(.array .byte), .byte, .boolean, .int]
  staticTypes := #[(.array .byte)]
  resolved := Array.replicate 609 none
  statics := none }

def pool9 : Array CpInfo := pool [(1, .class_ 2), (0, u "java/lang/Comparable"), (0, .class_ 4), (0, u "java/lang/Object")] 7

/-- java/lang/Comparable -/
def k9 : Class := { plain "java/lang/Comparable" (some 0) with
  accessFlags := 1537
  interfaces := #[]
  cf := some (fileOf pool9 1 #[] #[] 1537 3 #[] #[])
  fields := #[]
  methods := #[]
  instanceTypes := #[]
  staticTypes := #[]
  resolved := Array.replicate 12 none
  statics := none }

def pool10 : Array CpInfo := pool [(1, .methodref 2 3), (0, .class_ 4), (0, .nameAndType 5 6), (0, u "java/lang/AbstractStringBuilder"), (0, u "<init>"), (0, u "(I)V"), (11, .class_ 20), (1, u "java/lang/String"), (3, .class_ 26), (1, u "java/lang/StringBuilder"), (0, u "append"), (0, u "(Ljava/lang/String;)Ljava/lang/StringBuilder;"), (0, .methodref 2 30), (0, .nameAndType 27 31), (0, u "(Ljava/lang/String;)Ljava/lang/AbstractStringBuilder;"), (21, .methodref 2 54), (0, .nameAndType 27 55), (0, u "(I)Ljava/lang/AbstractStringBuilder;"), (81, .methodref 18 138), (0, .nameAndType 5 139), (0, u "(Ljava/lang/StringBuilder;)V"), (5, u "()V"), (10, u "()I"), (111, u "(I)Ljava/lang/StringBuilder;"), (74, .methodref 2 344), (0, .nameAndType 345 156), (0, u "length"), (3, .class_ 350), (0, u "java/lang/Appendable"), (0, .class_ 352), (0, u "java/io/Serializable"), (0, .class_ 354), (0, u "java/lang/Comparable"), (0, .class_ 356), (0, u "java/lang/CharSequence"), (0, u "serialVersionUID"), (0, u "J"), (40, u "toString"), (0, u "()Ljava/lang/String;")] 21

def k10c0 : Code := cd_ 2 1 jdk_67_method_1_code
def k10m0 : Method := mt_ "<init>" "()V" [] (none) 1 (some k10c0)
def k10c1 : Code := cd_ 2 2 jdk_67_method_7_code
def k10m1 : Method := mt_ "append" "(Ljava/lang/String;)Ljava/lang/StringBuilder;" [(.object "java/lang/String")] (some (.object "java/lang/StringBuilder")) 1 (some k10c1)
def k10c2 : Code := cd_ 2 2 jdk_67_method_15_code
def k10m2 : Method := mt_ "append" "(I)Ljava/lang/StringBuilder;" [.int] (some (.object "java/lang/StringBuilder")) 1 (some k10c2)
def k10c3 : Code := cd_ 3 1 jdk_67_method_42_code
def k10m3 : Method := mt_ "toString" "()Ljava/lang/String;" [] (some (.object "java/lang/String")) 1 (some k10c3)
def k10c4 : Code := cd_ 1 1 jdk_67_method_93_code
def k10m4 : Method := mt_ "length" "()I" [] (some .int) 4161 (some k10c4)
/-- java/lang/StringBuilder -/
def k10 : Class := { plain "java/lang/StringBuilder" (some 8) with
  accessFlags := 49
  interfaces := #[6, 2, 9, 7]
  cf := some (fileOf pool10 24 #[] #[mi_ 1 5 145, mi_ 1 27 28, mi_ 1 27 268, mi_ 1 399 400, mi_ 4161 345 156] 49 2 #[349, 351, 353, 355] #[fi_ 24 357 358])
  fields := #[fd_ "serialVersionUID" .long 24 0]
  methods := #[k10m0, k10m1, k10m2, k10m3, k10m4]
  instanceTypes := #[(.array .byte), .byte, .boolean, .int]
  staticTypes := #[.long]
  resolved := Array.replicate 422 none
  statics := none }

def pool11 : Array CpInfo := pool [(1, .class_ 2), (0, u "java/lang/constant/Constable"), (0, .class_ 4), (0, u "java/lang/Object")] 6

/-- java/lang/constant/Constable -/
def k11 : Class := { plain "java/lang/constant/Constable" (some 0) with
  accessFlags := 1537
  interfaces := #[]
  cf := some (fileOf pool11 1 #[] #[] 1537 3 #[] #[])
  fields := #[]
  methods := #[]
  instanceTypes := #[]
  staticTypes := #[]
  resolved := Array.replicate 11 none
  statics := none }

def pool12 : Array CpInfo := pool [(1, .class_ 2), (0, u "java/lang/constant/ConstantDesc"), (0, .class_ 4), (0, u "java/lang/Object")] 32

/-- java/lang/constant/ConstantDesc -/
def k12 : Class := { plain "java/lang/constant/ConstantDesc" (some 0) with
  accessFlags := 1537
  interfaces := #[]
  cf := some (fileOf pool12 1 #[] #[] 1537 3 #[] #[])
  fields := #[]
  methods := #[]
  instanceTypes := #[]
  staticTypes := #[]
  resolved := Array.replicate 37 none
  statics := none }

def pool13 : Array CpInfo := pool [(1, .methodref 2 3), (0, .class_ 4), (0, .nameAndType 5 6), (0, u "java/lang/Object"), (0, u "<init>"), (0, u "()V"), (2, .fieldref 10 11), (0, .class_ 12), (0, .nameAndType 13 14), (0, u "java/lang/String"), (0, u "value"), (0, u "[B"), (0, .fieldref 10 16), (0, .nameAndType 17 18), (0, u "coder"), (0, u "B"), (2, u "hash"), (0, u "I"), (2, u "hashIsZero"), (0, u "Z"), (11, .fieldref 10 39), (0, .nameAndType 40 26), (0, u "COMPACT_STRINGS"), (13, .methodref 55 56), (0, .class_ 57), (0, .nameAndType 58 59), (0, u "java/util/Arrays"), (0, u "copyOfRange"), (0, u "([BII)[B"), (47, .class_ 109), (1, u "java/lang/StringLatin1"), (32, u "()Z"), (50, .class_ 195), (1, u "java/lang/System"), (16, .methodref 193 213), (0, .nameAndType 214 215), (0, u "arraycopy"), (0, u "(Ljava/lang/Object;ILjava/lang/Object;II)V"), (118, u "()I"), (0, .methodref 10 336), (0, .nameAndType 17 337), (0, u "()B"), (2, u "()[B"), (22, u "([BI)C"), (27, u "(II)V"), (35, u "(I)C"), (61, .methodref 10 490), (0, .nameAndType 5 491), (0, u "(Ljava/lang/AbstractStringBuilder;Ljava/lang/Void;)V"), (0, .methodref 10 493), (0, .nameAndType 494 142), (0, u "isLatin1"), (0, .methodref 107 496), (0, .nameAndType 497 363), (0, u "charAt"), (3, u "checkIndex"), (4, .nameAndType 507 334), (0, u "length"), (24, u "getBytes"), (16, .methodref 550 506), (0, .class_ 551), (0, u "java/lang/AbstractStringBuilder"), (0, .methodref 550 553), (0, .nameAndType 554 340), (0, u "getValue"), (20, .class_ 576), (0, u "java/lang/CharSequence"), (22, u "CASE_INSENSITIVE_ORDER"), (0, u "Ljava/util/Comparator;"), (220, u "([BIB)V"), (225, .methodref 550 493), (5, .fieldref 1054 1055), (0, .class_ 1056), (0, .nameAndType 1057 1058), (0, u "jdk/internal/util/Preconditions"), (0, u "SIOOBE_FORMATTER"), (0, u "Ljava/util/function/BiFunction;"), (0, .methodref 1054 1060), (0, .nameAndType 501 1061), (0, u "(IILjava/util/function/BiFunction;)I"), (39, u "serialPersistentFields"), (0, u "[Ljava/io/ObjectStreamField;"), (0, .class_ 1104), (0, u "java/lang/String$CaseInsensitiveComparator"), (1, .class_ 1107), (0, u "java/io/Serializable"), (0, .class_ 1109), (0, u "java/lang/Comparable"), (0, .class_ 1111), (0, u "java/lang/constant/Constable"), (0, .class_ 1113), (0, u "java/lang/constant/ConstantDesc"), (2, u "serialVersionUID"), (0, u "J"), (3, u "REPL"), (0, u "C"), (2, u "LATIN1"), (1, u "UTF16"), (105, u "(Ljava/lang/StringBuilder;)V")] 217

def k13m0 : Method := mt_ "<init>" "()V" [] (none) 1 (none)
def k13c1 : Code := cd_ 3 2 jdk_42_method_53_code
def k13m1 : Method := mt_ "<init>" "(Ljava/lang/StringBuilder;)V" [(.object "java/lang/StringBuilder")] (none) 1 (some k13c1)
def k13c2 : Code := cd_ 2 1 jdk_42_method_54_code
def k13m2 : Method := mt_ "length" "()I" [] (some .int) 1 (some k13c2)
def k13c3 : Code := cd_ 2 2 jdk_42_method_56_code
def k13m3 : Method := mt_ "charAt" "(I)C" [.int] (some .char) 1 (some k13c3)
def k13c4 : Code := cd_ 5 4 jdk_42_method_147_code
def k13m4 : Method := mt_ "getBytes" "([BIB)V" [(.array .byte), .int, .byte] (none) 0 (some k13c4)
def k13c5 : Code := cd_ 5 5 jdk_42_method_150_code
def k13m5 : Method := mt_ "<init>" "(Ljava/lang/AbstractStringBuilder;Ljava/lang/Void;)V" [(.object "java/lang/AbstractStringBuilder"), (.object "java/lang/Void")] (none) 0 (some k13c5)
def k13c6 : Code := cd_ 1 1 jdk_42_method_152_code
def k13m6 : Method := mt_ "coder" "()B" [] (some .byte) 0 (some k13c6)
def k13c7 : Code := cd_ 1 1 jdk_42_method_154_code
def k13m7 : Method := mt_ "isLatin1" "()Z" [] (some .boolean) 0 (some k13c7)
def k13c8 : Code := cd_ 3 2 jdk_42_method_155_code
def k13m8 : Method := mt_ "checkIndex" "(II)V" [.int, .int] (none) 8 (some k13c8)
/-- java/lang/String -/
def k13 : Class := { plain "java/lang/String" (some 0) with
  accessFlags := 49
  interfaces := #[2, 9, 7, 11, 12]
  cf := some (fileOf pool13 10 #[.nestMembers #[1103]] #[mi_ 1 5 6, mi_ 1 5 1233, mi_ 1 507 334, mi_ 1 497 427, mi_ 0 532 821, mi_ 0 5 491, mi_ 0 17 337, mi_ 0 494 142, mi_ 8 501 391] 49 2 #[1106, 1108, 575, 1110, 1112] #[fi_ 18 13 14, fi_ 18 17 18, fi_ 2 21 22, fi_ 2 25 26, fi_ 26 1116 1117, fi_ 24 40 26, fi_ 26 1101 1102, fi_ 26 1121 1122, fi_ 25 599 600, fi_ 24 1125 18, fi_ 24 1127 18])
  fields := #[fd_ "value" (.array .byte) 18 0, fd_ "coder" .byte 18 1, fd_ "hash" .int 2 2, fd_ "hashIsZero" .boolean 2 3, fd_ "serialVersionUID" .long 26 0, fd_ "COMPACT_STRINGS" .boolean 24 1, fd_ "serialPersistentFields" (.array (.object "java/io/ObjectStreamField")) 26 2, fd_ "REPL" .char 26 3, fd_ "CASE_INSENSITIVE_ORDER" (.object "java/util/Comparator") 25 4, fd_ "LATIN1" .byte 24 5, fd_ "UTF16" .byte 24 6]
  methods := #[k13m0, k13m1, k13m2, k13m3, k13m4, k13m5, k13m6, k13m7, k13m8]
  instanceTypes := #[(.array .byte), .byte, .int, .boolean]
  staticTypes := #[.long, .boolean, (.array (.object "java/io/ObjectStreamField")), .char, (.object "java/util/Comparator"), .byte, .byte]
  resolved := Array.replicate 1451 none
  statics := some 1 }

def pool14 : Array CpInfo := pool [(2, .class_ 4), (1, u "java/lang/Object"), (0, u "<init>"), (0, u "()V"), (1, .class_ 10), (1, u "java/lang/System"), (0, u "allowSecurityManager"), (0, u "I"), (16, u "cons"), (0, u "Ljava/io/Console;"), (77, .class_ 110), (1, u "java/lang/System$CallersHolder"), (43, u "initialErrStream"), (0, u "Ljava/io/PrintStream;"), (19, u "security"), (0, u "Ljava/lang/SecurityManager;"), (31, .class_ 209), (0, u "java/lang/System$1"), (7, u "props"), (0, u "Ljava/util/Properties;"), (2, u "lineSeparator"), (0, u "Ljava/lang/String;"), (96, .class_ 321), (1, u "java/lang/System$LoggerFinder"), (5, .class_ 328), (0, u "java/lang/System$Logger"), (67, u "err"), (2, u "out"), (91, u "notSupportedJnuEncoding"), (15, u "in"), (17, u "initialIn"), (0, u "Ljava/io/InputStream;"), (35, u "bootLayer"), (0, u "Ljava/lang/ModuleLayer;"), (99, .class_ 664), (0, u "java/lang/System$2"), (9, u "NEVER"), (2, u "MAYBE"), (49, u "arraycopy"), (0, u "(Ljava/lang/Object;ILjava/lang/Object;II)V"), (72, .class_ 802), (0, u "java/lang/System$Logger$Level")] 31

def k14m0 : Method := mt_ "<init>" "()V" [] (none) 2 (none)
def k14m1 : Method := mt_ "arraycopy" "(Ljava/lang/Object;ILjava/lang/Object;II)V" [(.object "java/lang/Object"), .int, (.object "java/lang/Object"), .int, .int] (none) 265 (none)
/-- java/lang/System -/
def k14 : Class := { plain "java/lang/System" (some 0) with
  accessFlags := 49
  interfaces := #[]
  cf := some (fileOf pool14 8 #[.nestMembers #[319, 327, 801, 108, 663, 208]] #[mi_ 2 5 6, mi_ 265 727 728] 49 2 #[] #[fi_ 25 507 526, fi_ 25 399 155, fi_ 25 396 155, fi_ 10 525 526, fi_ 26 674 12, fi_ 26 677 12, fi_ 10 11 12, fi_ 74 175 176, fi_ 10 491 222, fi_ 74 29 30, fi_ 74 154 155, fi_ 10 217 218, fi_ 10 221 222, fi_ 8 562 563])
  fields := #[fd_ "in" (.object "java/io/InputStream") 25 0, fd_ "out" (.object "java/io/PrintStream") 25 1, fd_ "err" (.object "java/io/PrintStream") 25 2, fd_ "initialIn" (.object "java/io/InputStream") 10 3, fd_ "NEVER" .int 26 4, fd_ "MAYBE" .int 26 5, fd_ "allowSecurityManager" .int 10 6, fd_ "security" (.object "java/lang/SecurityManager") 74 7, fd_ "notSupportedJnuEncoding" (.object "java/lang/String") 10 8, fd_ "cons" (.object "java/io/Console") 74 9, fd_ "initialErrStream" (.object "java/io/PrintStream") 74 10, fd_ "props" (.object "java/util/Properties") 10 11, fd_ "lineSeparator" (.object "java/lang/String") 10 12, fd_ "bootLayer" (.object "java/lang/ModuleLayer") 8 13]
  methods := #[k14m0, k14m1]
  instanceTypes := #[]
  staticTypes := #[(.object "java/io/InputStream"), (.object "java/io/PrintStream"), (.object "java/io/PrintStream"), (.object "java/io/InputStream"), .int, .int, .int, (.object "java/lang/SecurityManager"), (.object "java/lang/String"), (.object "java/io/Console"), (.object "java/io/PrintStream"), (.object "java/util/Properties"), (.object "java/lang/String"), (.object "java/lang/ModuleLayer")]
  resolved := Array.replicate 834 none
  statics := none }

def pool15 : Array CpInfo := pool [(2, .class_ 4), (1, u "java/lang/Object"), (0, u "<init>"), (0, u "()V"), (1, .class_ 10), (1, u "java/lang/Number"), (2, .class_ 14), (0, u "java/io/Serializable"), (0, u "serialVersionUID"), (0, u "J")] 20

def k15m0 : Method := mt_ "<init>" "()V" [] (none) 1 (none)
/-- java/lang/Number -/
def k15 : Class := { plain "java/lang/Number" (some 0) with
  accessFlags := 1057
  interfaces := #[2]
  cf := some (fileOf pool15 8 #[] #[mi_ 1 5 6] 1057 2 #[13] #[fi_ 26 15 16])
  fields := #[fd_ "serialVersionUID" .long 26 0]
  methods := #[k15m0]
  instanceTypes := #[]
  staticTypes := #[.long]
  resolved := Array.replicate 37 none
  statics := none }

def pool16 : Array CpInfo := pool [(1, .class_ 2), (0, u "java/lang/Integer"), (16, u "digits"), (0, u "[C"), (33, u "(I)I"), (19, u "stringSize"), (2, u "getChars"), (0, u "(II[B)I"), (4, .fieldref 1 84), (0, .nameAndType 85 86), (0, u "DigitOnes"), (0, u "[B"), (0, .fieldref 1 88), (0, .nameAndType 89 86), (0, u "DigitTens"), (99, .class_ 190), (0, u "java/lang/Integer$IntegerCache"), (3, u "I"), (8, .class_ 204), (0, u "java/lang/Number"), (2, u "value"), (94, u "TYPE"), (0, u "Ljava/lang/Class;"), (0, .class_ 305), (0, u "java/lang/Comparable"), (0, .class_ 307), (0, u "java/lang/constant/Constable"), (0, .class_ 309), (0, u "java/lang/constant/ConstantDesc"), (0, u "MIN_VALUE"), (1, u "MAX_VALUE"), (3, u "SIZE"), (1, u "BYTES"), (1, u "serialVersionUID"), (0, u "J")] 131

def k16c0 : Code := cd_ 4 7 jdk_33_method_12_code
def k16m0 : Method := mt_ "getChars" "(II[B)I" [.int, .int, (.array .byte)] (some .int) 8 (some k16c0)
def k16c1 : Code := cd_ 2 4 jdk_33_method_13_code
def k16m1 : Method := mt_ "stringSize" "(I)I" [.int] (some .int) 8 (some k16c1)
/-- java/lang/Integer -/
def k16 : Class := { plain "java/lang/Integer" (some 15) with
  accessFlags := 49
  interfaces := #[9, 11, 12]
  cf := some (fileOf pool16 1 #[.nestMembers #[189]] #[mi_ 8 77 78, mi_ 8 74 54] 49 203 #[304, 306, 308] #[fi_ 25 310 194, fi_ 25 312 194, fi_ 25 302 303, fi_ 24 19 20, fi_ 24 89 86, fi_ 24 85 86, fi_ 18 207 194, fi_ 25 316 194, fi_ 25 318 194, fi_ 26 320 321])
  fields := #[fd_ "MIN_VALUE" .int 25 0, fd_ "MAX_VALUE" .int 25 1, fd_ "TYPE" (.object "java/lang/Class") 25 2, fd_ "digits" (.array .char) 24 3, fd_ "DigitTens" (.array .byte) 24 4, fd_ "DigitOnes" (.array .byte) 24 5, fd_ "value" .int 18 0, fd_ "SIZE" .int 25 6, fd_ "BYTES" .int 25 7, fd_ "serialVersionUID" .long 26 8]
  methods := #[k16m0, k16m1]
  instanceTypes := #[.int]
  staticTypes := #[.int, .int, (.object "java/lang/Class"), (.array .char), (.array .byte), (.array .byte), .int, .int, .long]
  resolved := Array.replicate 453 none
  statics := some 2 }

def pool17 : Array CpInfo := pool [(2, .class_ 4), (1, u "java/lang/Object"), (0, u "<init>"), (0, u "()V"), (7, .class_ 16), (1, u "java/util/Arrays"), (57, .class_ 76), (1, u "java/util/Arrays$NaturalOrder"), (32, u "()Ljava/lang/Object;"), (3, .class_ 115), (1, u "java/util/Arrays$LegacyMergeSort"), (1, u "Z"), (10, .nameAndType 129 109), (0, u "clone"), (9, u "copyOfRange"), (10, .methodref 151 152), (0, .class_ 153), (0, .nameAndType 154 155), (0, u "java/lang/System"), (0, u "arraycopy"), (0, u "(Ljava/lang/Object;ILjava/lang/Object;II)V"), (146, u "copyOf"), (1, .methodref 305 306), (0, .class_ 307), (0, .nameAndType 308 309), (0, u "java/lang/Math"), (0, u "min"), (0, u "(II)I"), (0, .methodref 311 128), (0, .class_ 312), (0, u "[B"), (26, .methodref 14 340), (0, .nameAndType 341 342), (0, u "copyOfRangeByte"), (0, u "([BII)[B"), (0, .methodref 14 344), (0, .nameAndType 345 346), (0, u "checkLength"), (0, u "(II)V"), (28, .class_ 376), (0, u "java/util/Arrays$ArrayList"), (68, u "$assertionsDisabled"), (269, u "MIN_ARRAY_SORT_GRAN"), (0, u "I"), (2, u "INSERTIONSORT_THRESHOLD"), (149, u "([BI)[B"), (105, .class_ 976), (0, u "java/util/Arrays$ArrayItr")] 52

def k17m0 : Method := mt_ "<init>" "()V" [] (none) 2 (none)
def k17c1 : Code := cd_ 6 3 jdk_65_method_121_code
def k17m1 : Method := mt_ "copyOf" "([BI)[B" [(.array .byte), .int] (some (.array .byte)) 9 (some k17c1)
def k17c2 : Code := cd_ 4 2 jdk_65_method_131_code
def k17m2 : Method := mt_ "checkLength" "(II)V" [.int, .int] (none) 10 (some k17c2)
def k17c3 : Code := cd_ 3 3 jdk_65_method_132_code
def k17m3 : Method := mt_ "copyOfRange" "([BII)[B" [(.array .byte), .int, .int] (some (.array .byte)) 9 (some k17c3)
def k17c4 : Code := cd_ 6 5 jdk_65_method_133_code
def k17m4 : Method := mt_ "copyOfRangeByte" "([BII)[B" [(.array .byte), .int, .int] (some (.array .byte)) 10 (some k17c4)
/-- java/util/Arrays -/
def k17 : Class := { plain "java/util/Arrays" (some 0) with
  accessFlags := 49
  interfaces := #[]
  cf := some (fileOf pool17 14 #[.nestMembers #[975, 375, 113, 74]] #[mi_ 2 5 6, mi_ 9 302 869, mi_ 10 345 346, mi_ 9 139 342, mi_ 10 341 342] 49 2 #[] #[fi_ 26 715 716, fi_ 26 719 716, fi_ 4120 445 117])
  fields := #[fd_ "MIN_ARRAY_SORT_GRAN" .int 26 0, fd_ "INSERTIONSORT_THRESHOLD" .int 26 1, fd_ "$assertionsDisabled" .boolean 4120 2]
  methods := #[k17m0, k17m1, k17m2, k17m3, k17m4]
  instanceTypes := #[]
  staticTypes := #[.int, .int, .boolean]
  resolved := Array.replicate 1029 none
  statics := none }

def pool18 : Array CpInfo := pool [(1, .class_ 2), (0, u "java/lang/Math"), (1, .class_ 6), (1, u "java/lang/Object"), (0, u "<init>"), (0, u "()V"), (89, .class_ 100), (1, u "java/lang/Math$RandomNumberGeneratorHolder"), (23, u "abs"), (0, u "(J)J"), (46, u "negativeZeroFloatBits"), (0, u "J"), (2, u "negativeZeroDoubleBits"), (21, u "max"), (2, u "min"), (43, u "$assertionsDisabled"), (0, u "Z"), (88, u "(II)I"), (2, u "twoToTheDoubleScaleDown"), (0, u "D"), (4, u "twoToTheDoubleScaleUp"), (9, u "E"), (3, u "PI"), (2, u "TAU"), (2, u "DEGREES_TO_RADIANS"), (0, u "RADIANS_TO_DEGREES")] 94

def k18m0 : Method := mt_ "<init>" "()V" [] (none) 2 (none)
def k18c1 : Code := cd_ 4 2 jdk_29_method_61_code
def k18m1 : Method := mt_ "abs" "(J)J" [.long] (some .long) 9 (some k18c1)
def k18c2 : Code := cd_ 2 2 jdk_29_method_65_code
def k18m2 : Method := mt_ "max" "(II)I" [.int, .int] (some .int) 9 (some k18c2)
def k18c3 : Code := cd_ 2 2 jdk_29_method_69_code
def k18m3 : Method := mt_ "min" "(II)I" [.int, .int] (some .int) 9 (some k18c3)
/-- java/lang/Math -/
def k18 : Class := { plain "java/lang/Math" (some 0) with
  accessFlags := 49
  interfaces := #[]
  cf := some (fileOf pool18 1 #[.nestMembers #[98]] #[mi_ 2 7 8, mi_ 9 124 125, mi_ 9 198 335, mi_ 9 201 335] 49 4 #[] #[fi_ 25 354 339, fi_ 25 358 339, fi_ 25 361 339, fi_ 26 364 339, fi_ 26 365 339, fi_ 26 172 173, fi_ 26 176 173, fi_ 8 344 339, fi_ 8 338 339, fi_ 4120 245 246])
  fields := #[fd_ "E" .double 25 0, fd_ "PI" .double 25 1, fd_ "TAU" .double 25 2, fd_ "DEGREES_TO_RADIANS" .double 26 3, fd_ "RADIANS_TO_DEGREES" .double 26 4, fd_ "negativeZeroFloatBits" .long 26 5, fd_ "negativeZeroDoubleBits" .long 26 6, fd_ "twoToTheDoubleScaleUp" .double 8 7, fd_ "twoToTheDoubleScaleDown" .double 8 8, fd_ "$assertionsDisabled" .boolean 4120 9]
  methods := #[k18m0, k18m1, k18m2, k18m3]
  instanceTypes := #[]
  staticTypes := #[.double, .double, .double, .double, .double, .long, .long, .double, .double, .boolean]
  resolved := Array.replicate 460 none
  statics := none }

def pool19 : Array CpInfo := pool [(1, .class_ 2), (0, u "java/lang/String"), (1, .class_ 6), (1, u "java/lang/Object"), (0, u "<init>"), (0, u "()V"), (0, .methodref 1 10), (0, .nameAndType 11 12), (0, u "checkIndex"), (0, u "(II)V"), (1, .class_ 16), (1, u "java/lang/StringLatin1"), (36, u "([BI)C"), (67, u "$assertionsDisabled"), (0, u "Z"), (98, .class_ 223), (1, u "java/lang/StringLatin1$LinesSpliterator"), (28, u "charAt"), (137, .class_ 391), (0, u "java/lang/StringLatin1$CharsSpliterator")] 3

def k19m0 : Method := mt_ "<init>" "()V" [] (none) 0 (none)
def k19c1 : Code := cd_ 2 2 jdk_43_method_2_code
def k19m1 : Method := mt_ "charAt" "([BI)C" [(.array .byte), .int] (some .char) 9 (some k19c1)
/-- java/lang/StringLatin1 -/
def k19 : Class := { plain "java/lang/StringLatin1" (some 0) with
  accessFlags := 48
  interfaces := #[]
  cf := some (fileOf pool19 14 #[.nestMembers #[390, 221]] #[mi_ 0 7 8, mi_ 9 252 53] 48 4 #[] #[fi_ 4120 121 122])
  fields := #[fd_ "$assertionsDisabled" .boolean 4120 0]
  methods := #[k19m0, k19m1]
  instanceTypes := #[]
  staticTypes := #[.boolean]
  resolved := Array.replicate 395 none
  statics := none }

def pool20 : Array CpInfo := pool [(2, .class_ 4), (1, u "java/lang/Object"), (0, u "<init>"), (0, u "()V"), (17, .class_ 26), (1, u "jdk/internal/util/Preconditions"), (6, u "checkIndex"), (21, .class_ 56), (0, u "jdk/internal/util/Preconditions$4"), (57, .class_ 115), (0, u "jdk/internal/util/Preconditions$1"), (7, u "SIOOBE_FORMATTER"), (0, u "Ljava/util/function/BiFunction;"), (0, .class_ 126), (0, u "jdk/internal/util/Preconditions$2"), (3, u "AIOOBE_FORMATTER"), (0, .class_ 132), (0, u "jdk/internal/util/Preconditions$3"), (3, u "IOOBE_FORMATTER"), (41, u "(IILjava/util/function/BiFunction;)I")] 15

def k20m0 : Method := mt_ "<init>" "()V" [] (none) 1 (none)
def k20c1 : Code := cd_ 3 3 jdk_41_method_11_code
def k20m1 : Method := mt_ "checkIndex" "(IILjava/util/function/BiFunction;)I" [.int, .int, (.object "java/util/function/BiFunction")] (some .int) 9 (some k20c1)
/-- jdk/internal/util/Preconditions -/
def k20 : Class := { plain "jdk/internal/util/Preconditions" (some 0) with
  accessFlags := 33
  interfaces := #[]
  cf := some (fileOf pool20 24 #[.nestMembers #[55, 131, 125, 114]] #[mi_ 1 5 6, mi_ 9 33 178] 33 2 #[] #[fi_ 25 123 124, fi_ 25 130 124, fi_ 25 136 124])
  fields := #[fd_ "SIOOBE_FORMATTER" (.object "java/util/function/BiFunction") 25 0, fd_ "AIOOBE_FORMATTER" (.object "java/util/function/BiFunction") 25 1, fd_ "IOOBE_FORMATTER" (.object "java/util/function/BiFunction") 25 2]
  methods := #[k20m0, k20m1]
  instanceTypes := #[]
  staticTypes := #[(.object "java/util/function/BiFunction"), (.object "java/util/function/BiFunction"), (.object "java/util/function/BiFunction")]
  resolved := Array.replicate 194 none
  statics := some 3 }

def pool21 : Array CpInfo := pool [(1, .class_ 2), (0, u "java/lang/Cloneable"), (0, .class_ 4), (0, u "java/lang/Object")] 2

/-- java/lang/Cloneable -/
def k21 : Class := { plain "java/lang/Cloneable" (some 0) with
  accessFlags := 1537
  interfaces := #[]
  cf := some (fileOf pool21 1 #[] #[] 1537 3 #[] #[])
  fields := #[]
  methods := #[]
  instanceTypes := #[]
  staticTypes := #[]
  resolved := Array.replicate 7 none
  statics := none }

def pool22 : Array CpInfo := pool [(9, u "<init>"), (6, .class_ 18), (1, u "java/lang/Object"), (0, u "()V"), (1, .class_ 23), (1, u "jdk/internal/util/ArraysSupport"), (0, u "LOG2_ARRAY_LONG_INDEX_SCALE"), (0, u "I"), (2, u "U"), (0, u "Ljdk/internal/misc/Unsafe;"), (8, u "BIG_ENDIAN"), (0, u "Z"), (8, u "LOG2_BYTE_BIT_SIZE"), (4, u "LOG2_ARRAY_INT_INDEX_SCALE"), (54, u "JLA"), (0, u "Ljdk/internal/access/JavaLangAccess;"), (11, u "LOG2_ARRAY_BOOLEAN_INDEX_SCALE"), (9, u "LOG2_ARRAY_BYTE_INDEX_SCALE"), (5, u "LOG2_ARRAY_CHAR_INDEX_SCALE"), (5, u "LOG2_ARRAY_SHORT_INDEX_SCALE"), (18, u "LOG2_ARRAY_FLOAT_INDEX_SCALE"), (24, u "LOG2_ARRAY_DOUBLE_INDEX_SCALE"), (6, .methodref 195 196), (0, .class_ 197), (0, .nameAndType 198 199), (0, u "java/lang/Math"), (0, u "max"), (0, u "(II)I"), (0, .integer 2147483639), (76, u "T_BOOLEAN"), (2, u "T_CHAR"), (1, u "T_FLOAT"), (1, u "T_DOUBLE"), (1, u "T_BYTE"), (1, u "T_SHORT"), (1, u "T_INT"), (1, u "T_LONG"), (1, u "SOFT_MAX_ARRAY_LENGTH"), (56, u "newLength"), (0, u "(III)I")] 25

def k22m0 : Method := mt_ "<init>" "()V" [] (none) 2 (none)
def k22c1 : Code := cd_ 3 4 jdk_48_method_27_code
def k22m1 : Method := mt_ "newLength" "(III)I" [.int, .int, .int] (some .int) 9 (some k22c1)
/-- jdk/internal/util/ArraysSupport -/
def k22 : Class := { plain "jdk/internal/util/ArraysSupport" (some 0) with
  accessFlags := 33
  interfaces := #[]
  cf := some (fileOf pool22 21 #[] #[mi_ 2 9 19, mi_ 9 351 352] 33 16 #[] #[fi_ 24 28 29, fi_ 26 38 39, fi_ 25 121 25, fi_ 25 131 25, fi_ 25 137 25, fi_ 25 143 25, fi_ 25 53 25, fi_ 25 24 25, fi_ 25 162 25, fi_ 25 187 25, fi_ 26 48 25, fi_ 25 277 25, fi_ 25 280 25, fi_ 25 282 25, fi_ 25 284 25, fi_ 25 286 25, fi_ 25 288 25, fi_ 25 290 25, fi_ 25 292 25, fi_ 26 108 109, fi_ 25 294 25])
  fields := #[fd_ "U" (.object "jdk/internal/misc/Unsafe") 24 0, fd_ "BIG_ENDIAN" .boolean 26 1, fd_ "LOG2_ARRAY_BOOLEAN_INDEX_SCALE" .int 25 2, fd_ "LOG2_ARRAY_BYTE_INDEX_SCALE" .int 25 3, fd_ "LOG2_ARRAY_CHAR_INDEX_SCALE" .int 25 4, fd_ "LOG2_ARRAY_SHORT_INDEX_SCALE" .int 25 5, fd_ "LOG2_ARRAY_INT_INDEX_SCALE" .int 25 6, fd_ "LOG2_ARRAY_LONG_INDEX_SCALE" .int 25 7, fd_ "LOG2_ARRAY_FLOAT_INDEX_SCALE" .int 25 8, fd_ "LOG2_ARRAY_DOUBLE_INDEX_SCALE" .int 25 9, fd_ "LOG2_BYTE_BIT_SIZE" .int 26 10, fd_ "T_BOOLEAN" .int 25 11, fd_ "T_CHAR" .int 25 12, fd_ "T_FLOAT" .int 25 13, fd_ "T_DOUBLE" .int 25 14, fd_ "T_BYTE" .int 25 15, fd_ "T_SHORT" .int 25 16, fd_ "T_INT" .int 25 17, fd_ "T_LONG" .int 25 18, fd_ "JLA" (.object "jdk/internal/access/JavaLangAccess") 26 19, fd_ "SOFT_MAX_ARRAY_LENGTH" .int 25 20]
  methods := #[k22m0, k22m1]
  instanceTypes := #[]
  staticTypes := #[(.object "jdk/internal/misc/Unsafe"), .boolean, .int, .int, .int, .int, .int, .int, .int, .int, .int, .int, .int, .int, .int, .int, .int, .int, .int, (.object "jdk/internal/access/JavaLangAccess"), .int]
  resolved := Array.replicate 378 none
  statics := none }

def pool23 : Array CpInfo := pool [(2, .class_ 4), (1, u "java/lang/Object"), (0, u "<init>"), (0, u "()V"), (12, .class_ 20), (0, u "java/util/Collections"), (63, u "r"), (0, u "Ljava/util/Random;"), (80, .class_ 167), (0, u "java/util/Collections$UnmodifiableCollection"), (6, .class_ 175), (0, u "java/util/Collections$UnmodifiableSequencedCollection"), (6, .class_ 183), (0, u "java/util/Collections$UnmodifiableSet"), (6, .class_ 191), (0, u "java/util/Collections$UnmodifiableSequencedSet"), (6, .class_ 199), (0, u "java/util/Collections$UnmodifiableSortedSet"), (6, .class_ 207), (0, u "java/util/Collections$UnmodifiableNavigableSet"), (4, .class_ 213), (0, u "java/util/Collections$UnmodifiableList"), (1, .class_ 216), (0, u "java/util/Collections$UnmodifiableRandomAccessList"), (6, .class_ 224), (0, u "java/util/Collections$UnmodifiableMap"), (6, .class_ 232), (0, u "java/util/Collections$UnmodifiableSequencedMap"), (4, .class_ 238), (0, u "java/util/Collections$UnmodifiableSortedMap"), (6, .class_ 246), (0, u "java/util/Collections$UnmodifiableNavigableMap"), (3, .class_ 251), (0, u "java/util/Collections$SynchronizedCollection"), (4, .class_ 257), (0, u "java/util/Collections$SynchronizedSet"), (4, .class_ 263), (0, u "java/util/Collections$SynchronizedSortedSet"), (1, .class_ 266), (0, u "java/util/Collections$SynchronizedNavigableSet"), (1, .class_ 269), (0, u "java/util/Collections$SynchronizedRandomAccessList"), (1, .class_ 272), (0, u "java/util/Collections$SynchronizedList"), (5, .class_ 279), (0, u "java/util/Collections$SynchronizedMap"), (1, .class_ 282), (0, u "java/util/Collections$SynchronizedSortedMap"), (1, .class_ 285), (0, u "java/util/Collections$SynchronizedNavigableMap"), (1, .class_ 288), (0, u "java/util/Collections$CheckedCollection"), (11, .class_ 301), (0, u "java/util/Collections$CheckedQueue"), (3, .class_ 306), (0, u "java/util/Collections$CheckedSet"), (3, .class_ 311), (0, u "java/util/Collections$CheckedSortedSet"), (3, .class_ 316), (0, u "java/util/Collections$CheckedNavigableSet"), (3, .class_ 321), (0, u "java/util/Collections$CheckedRandomAccessList"), (3, .class_ 326), (0, u "java/util/Collections$CheckedList"), (1, .class_ 329), (0, u "java/util/Collections$CheckedMap"), (3, .class_ 334), (0, u "java/util/Collections$CheckedSortedMap"), (3, .class_ 339), (0, u "java/util/Collections$CheckedNavigableMap"), (4, .class_ 346), (1, u "java/util/Collections$EmptyIterator"), (3, .class_ 352), (1, u "java/util/Collections$EmptyListIterator"), (2, .class_ 357), (1, u "java/util/Collections$EmptyEnumeration"), (4, u "EMPTY_SET"), (0, u "Ljava/util/Set;"), (6, u "EMPTY_LIST"), (0, u "Ljava/util/List;"), (2, u "EMPTY_MAP"), (0, u "Ljava/util/Map;"), (4, .class_ 381), (0, u "java/util/Collections$SingletonSet"), (2, .class_ 385), (0, u "java/util/Collections$1"), (1, .class_ 388), (0, u "java/util/Collections$2"), (1, .class_ 391), (0, u "java/util/Collections$SingletonList"), (1, .class_ 394), (0, u "java/util/Collections$SingletonMap"), (22, .class_ 418), (0, u "java/util/Collections$CopiesList"), (4, .class_ 425), (1, u "java/util/Collections$ReverseComparator"), (8, .class_ 435), (0, u "java/util/Collections$ReverseComparator2"), (6, .class_ 443), (0, u "java/util/Collections$3"), (25, .class_ 470), (0, u "java/util/Collections$SetFromMap"), (2, .class_ 474), (0, u "java/util/Collections$SequencedSetFromMap"), (3, .class_ 479), (0, u "java/util/Collections$AsLIFOQueue"), (11, .class_ 492), (0, u "java/util/Collections$EmptySet"), (1, .class_ 495), (0, u "java/util/Collections$EmptyList"), (1, .class_ 498), (0, u "java/util/Collections$EmptyMap"), (1, u "BINARYSEARCH_THRESHOLD"), (0, u "I"), (2, u "REVERSE_THRESHOLD"), (1, u "SHUFFLE_THRESHOLD"), (1, u "FILL_THRESHOLD"), (1, u "ROTATE_THRESHOLD"), (1, u "COPY_THRESHOLD"), (1, u "REPLACEALL_THRESHOLD"), (1, u "INDEXOFSUBLIST_THRESHOLD"), (333, .class_ 851), (0, u "java/util/Collections$CheckedMap$CheckedEntrySet"), (0, .class_ 853), (0, u "java/util/Collections$CheckedMap$CheckedEntrySet$CheckedEntry"), (0, .class_ 855), (0, u "java/util/Collections$CheckedMap$CheckedEntrySet$1"), (0, .class_ 857), (0, u "java/util/Collections$CheckedList$1"), (0, .class_ 859), (0, u "java/util/Collections$CheckedCollection$1"), (0, .class_ 861), (0, u "java/util/Collections$UnmodifiableNavigableMap$EmptyNavigableMap"), (0, .class_ 863), (0, u "java/util/Collections$UnmodifiableMap$UnmodifiableEntrySet"), (0, .class_ 865), (0, u "java/util/Collections$UnmodifiableMap$UnmodifiableEntrySet$UnmodifiableEntry"), (0, .class_ 867), (0, u "java/util/Collections$UnmodifiableMap$UnmodifiableEntrySet$UnmodifiableEntrySetSpliterator"), (0, .class_ 869), (0, u "java/util/Collections$UnmodifiableMap$UnmodifiableEntrySet$1"), (0, .class_ 871), (0, u "java/util/Collections$UnmodifiableList$1"), (0, .class_ 873), (0, u "java/util/Collections$UnmodifiableNavigableSet$EmptyNavigableSet"), (0, .class_ 875), (0, u "java/util/Collections$UnmodifiableCollection$1")] 57

def k23m0 : Method := mt_ "<init>" "()V" [] (none) 2 (none)
/-- java/util/Collections -/
def k23 : Class := { plain "java/util/Collections" (some 0) with
  accessFlags := 33
  interfaces := #[]
  cf := some (fileOf pool23 19 #[.nestMembers #[478, 473, 469, 434, 423, 417, 393, 390, 380, 497, 494, 491, 355, 350, 344, 338, 333, 328, 850, 852, 854, 320, 325, 856, 315, 310, 305, 300, 287, 858, 284, 281, 278, 268, 271, 265, 262, 256, 250, 245, 860, 237, 231, 223, 862, 864, 866, 868, 215, 212, 870, 206, 872, 198, 190, 182, 174, 166, 874, 442, 387, 384]] #[mi_ 2 5 6] 33 2 #[] #[fi_ 26 500 501, fi_ 26 504 501, fi_ 26 506 501, fi_ 26 508 501, fi_ 26 510 501, fi_ 26 512 501, fi_ 26 514 501, fi_ 26 516 501, fi_ 10 84 85, fi_ 25 362 363, fi_ 25 370 371, fi_ 25 374 375])
  fields := #[fd_ "BINARYSEARCH_THRESHOLD" .int 26 0, fd_ "REVERSE_THRESHOLD" .int 26 1, fd_ "SHUFFLE_THRESHOLD" .int 26 2, fd_ "FILL_THRESHOLD" .int 26 3, fd_ "ROTATE_THRESHOLD" .int 26 4, fd_ "COPY_THRESHOLD" .int 26 5, fd_ "REPLACEALL_THRESHOLD" .int 26 6, fd_ "INDEXOFSUBLIST_THRESHOLD" .int 26 7, fd_ "r" (.object "java/util/Random") 10 8, fd_ "EMPTY_SET" (.object "java/util/Set") 25 9, fd_ "EMPTY_LIST" (.object "java/util/List") 25 10, fd_ "EMPTY_MAP" (.object "java/util/Map") 25 11]
  methods := #[k23m0]
  instanceTypes := #[]
  staticTypes := #[.int, .int, .int, .int, .int, .int, .int, .int, (.object "java/util/Random"), (.object "java/util/Set"), (.object "java/util/List"), (.object "java/util/Map")]
  resolved := Array.replicate 933 none
  statics := some 4 }

def pool24 : Array CpInfo := pool [(8, .class_ 10), (1, u "java/lang/Iterable"), (24, .class_ 36), (0, u "java/lang/Object")] 25

/-- java/lang/Iterable -/
def k24 : Class := { plain "java/lang/Iterable" (some 0) with
  accessFlags := 1537
  interfaces := #[]
  cf := some (fileOf pool24 8 #[] #[] 1537 35 #[] #[])
  fields := #[]
  methods := #[]
  instanceTypes := #[]
  staticTypes := #[]
  resolved := Array.replicate 62 none
  statics := none }

def pool25 : Array CpInfo := pool [(10, .class_ 12), (1, u "java/util/Collection"), (47, .class_ 61), (0, u "java/lang/Object"), (0, .class_ 63), (0, u "java/lang/Iterable")] 51

/-- java/util/Collection -/
def k25 : Class := { plain "java/util/Collection" (some 0) with
  accessFlags := 1537
  interfaces := #[24]
  cf := some (fileOf pool25 10 #[] #[] 1537 60 #[62] #[])
  fields := #[]
  methods := #[]
  instanceTypes := #[]
  staticTypes := #[]
  resolved := Array.replicate 115 none
  statics := none }

def pool26 : Array CpInfo := pool [(2, .class_ 4), (1, u "java/lang/Object"), (0, u "<init>"), (0, u "()V"), (1, .class_ 10), (1, u "java/util/AbstractCollection"), (66, .class_ 78), (0, u "java/util/Collection")] 81

def k26m0 : Method := mt_ "<init>" "()V" [] (none) 4 (none)
/-- java/util/AbstractCollection -/
def k26 : Class := { plain "java/util/AbstractCollection" (some 0) with
  accessFlags := 1057
  interfaces := #[25]
  cf := some (fileOf pool26 8 #[] #[mi_ 4 5 6] 1057 2 #[77] #[])
  fields := #[]
  methods := #[k26m0]
  instanceTypes := #[]
  staticTypes := #[]
  resolved := Array.replicate 160 none
  statics := none }

def pool27 : Array CpInfo := pool [(8, .class_ 10), (1, u "java/util/SequencedCollection"), (15, .class_ 27), (0, u "java/lang/Object"), (0, .class_ 29), (0, u "java/util/Collection")] 27

/-- java/util/SequencedCollection -/
def k27 : Class := { plain "java/util/SequencedCollection" (some 0) with
  accessFlags := 1537
  interfaces := #[25]
  cf := some (fileOf pool27 8 #[] #[] 1537 26 #[28] #[])
  fields := #[]
  methods := #[]
  instanceTypes := #[]
  staticTypes := #[]
  resolved := Array.replicate 57 none
  statics := none }

def pool28 : Array CpInfo := pool [(8, .class_ 10), (1, u "java/util/List"), (92, .class_ 104), (0, u "java/lang/Object"), (15, .class_ 121), (0, u "java/util/SequencedCollection")] 129

/-- java/util/List -/
def k28 : Class := { plain "java/util/List" (some 0) with
  accessFlags := 1537
  interfaces := #[27]
  cf := some (fileOf pool28 8 #[] #[] 1537 103 #[120] #[])
  fields := #[]
  methods := #[]
  instanceTypes := #[]
  staticTypes := #[]
  resolved := Array.replicate 251 none
  statics := none }

def pool29 : Array CpInfo := pool [(2, .class_ 4), (1, u "java/util/AbstractCollection"), (0, u "<init>"), (0, u "()V"), (1, .class_ 10), (1, u "java/util/AbstractList"), (0, u "modCount"), (0, u "I"), (64, .class_ 78), (0, u "java/util/AbstractList$Itr"), (3, .class_ 83), (0, u "java/util/AbstractList$ListItr"), (9, .class_ 94), (0, u "java/util/AbstractList$RandomAccessSubList"), (3, .class_ 99), (0, u "java/util/AbstractList$SubList"), (33, .class_ 134), (0, u "java/util/List"), (73, .class_ 209), (0, u "java/util/AbstractList$SubList$1"), (0, .class_ 211), (0, u "java/util/AbstractList$RandomAccessSpliterator")] 6

def k29m0 : Method := mt_ "<init>" "()V" [] (none) 4 (none)
/-- java/util/AbstractList -/
def k29 : Class := { plain "java/util/AbstractList" (some 26) with
  accessFlags := 1057
  interfaces := #[28]
  cf := some (fileOf pool29 8 #[.nestMembers #[93, 98, 208, 210, 82, 77]] #[mi_ 4 5 6] 1057 2 #[133] #[fi_ 132 11 12])
  fields := #[fd_ "modCount" .int 132 0]
  methods := #[k29m0]
  instanceTypes := #[.int]
  staticTypes := #[]
  resolved := Array.replicate 218 none
  statics := none }

def pool30 : Array CpInfo := pool [(1, .class_ 2), (0, u "java/util/RandomAccess"), (0, .class_ 4), (0, u "java/lang/Object")] 2

/-- java/util/RandomAccess -/
def k30 : Class := { plain "java/util/RandomAccess" (some 0) with
  accessFlags := 1537
  interfaces := #[]
  cf := some (fileOf pool30 1 #[] #[] 1537 3 #[] #[])
  fields := #[]
  methods := #[]
  instanceTypes := #[]
  staticTypes := #[]
  resolved := Array.replicate 7 none
  statics := none }

def pool31 : Array CpInfo := pool [(2, .class_ 4), (1, u "java/util/AbstractList"), (0, u "<init>"), (0, u "()V"), (1, .class_ 10), (1, u "java/util/Collections"), (54, .class_ 66), (0, u "java/util/Collections$EmptyList"), (0, .class_ 68), (0, u "java/util/RandomAccess"), (0, .class_ 70), (0, u "java/io/Serializable"), (0, u "serialVersionUID"), (0, u "J")] 77

def k31m0 : Method := mt_ "<init>" "()V" [] (none) 2 (none)
/-- java/util/Collections$EmptyList -/
def k31 : Class := { plain "java/util/Collections$EmptyList" (some 29) with
  accessFlags := 32
  interfaces := #[30, 2]
  cf := some (fileOf pool31 65 #[.nestHost 8] #[mi_ 2 5 6] 32 2 #[67, 69] #[fi_ 26 71 72])
  fields := #[fd_ "serialVersionUID" .long 26 0]
  methods := #[k31m0]
  instanceTypes := #[.int]
  staticTypes := #[.long]
  resolved := Array.replicate 150 none
  statics := none }

def pool32 : Array CpInfo := pool [(2, .class_ 4), (1, u "java/lang/StackTraceElement"), (0, u "<init>"), (2, .class_ 10), (1, u "java/lang/Object"), (0, u "()V"), (2, u "format"), (0, u "B"), (2, u "classLoaderName"), (0, u "Ljava/lang/String;"), (2, u "moduleName"), (2, u "moduleVersion"), (12, u "declaringClass"), (4, u "methodName"), (2, u "fileName"), (2, u "lineNumber"), (0, u "I"), (65, u "declaringClassObject"), (0, u "Ljava/lang/Class;"), (33, .class_ 153), (1, u "java/lang/StackTraceElement$HashedModules"), (17, .class_ 172), (0, u "java/io/Serializable"), (0, u "NATIVE_METHOD"), (1, u "UNKNOWN_SOURCE"), (2, u "BUILTIN_CLASS_LOADER"), (1, u "JDK_NON_UPGRADEABLE_MODULE"), (1, u "serialVersionUID"), (0, u "J")] 51

def k32m0 : Method := mt_ "<init>" "()V" [] (none) 2 (none)
/-- java/lang/StackTraceElement -/
def k32 : Class := { plain "java/lang/StackTraceElement" (some 0) with
  accessFlags := 49
  interfaces := #[2]
  cf := some (fileOf pool32 2 #[.nestMembers #[151]] #[mi_ 2 5 11] 49 8 #[171] #[fi_ 26 173 19, fi_ 26 175 19, fi_ 130 116 117, fi_ 2 18 19, fi_ 2 22 19, fi_ 2 25 19, fi_ 2 38 19, fi_ 2 43 19, fi_ 2 46 19, fi_ 2 49 50, fi_ 2 14 15, fi_ 26 178 15, fi_ 26 180 15, fi_ 26 182 183])
  fields := #[fd_ "NATIVE_METHOD" (.object "java/lang/String") 26 0, fd_ "UNKNOWN_SOURCE" (.object "java/lang/String") 26 1, fd_ "declaringClassObject" (.object "java/lang/Class") 130 0, fd_ "classLoaderName" (.object "java/lang/String") 2 1, fd_ "moduleName" (.object "java/lang/String") 2 2, fd_ "moduleVersion" (.object "java/lang/String") 2 3, fd_ "declaringClass" (.object "java/lang/String") 2 4, fd_ "methodName" (.object "java/lang/String") 2 5, fd_ "fileName" (.object "java/lang/String") 2 6, fd_ "lineNumber" .int 2 7, fd_ "format" .byte 2 8, fd_ "BUILTIN_CLASS_LOADER" .byte 26 2, fd_ "JDK_NON_UPGRADEABLE_MODULE" .byte 26 3, fd_ "serialVersionUID" .long 26 4]
  methods := #[k32m0]
  instanceTypes := #[(.object "java/lang/Class"), (.object "java/lang/String"), (.object "java/lang/String"), (.object "java/lang/String"), (.object "java/lang/String"), (.object "java/lang/String"), (.object "java/lang/String"), .int, .byte]
  staticTypes := #[(.object "java/lang/String"), (.object "java/lang/String"), .byte, .byte, .long]
  resolved := Array.replicate 235 none
  statics := none }

/-- the primitive byte -/
def k33 : Class := { plain "byte" none with kind := .primitive 'B', accessFlags := 0x411 }
/-- [B -/
def k34 : Class := { plain "[B" (some 0) with kind := .array 33 .byte, interfaces := #[21, 2], accessFlags := 1041 }

/-- the primitive int -/
def k35 : Class := { plain "int" none with kind := .primitive 'I', accessFlags := 0x411 }
/-- [I -/
def k36 : Class := { plain "[I" (some 0) with kind := .array 35 .int, interfaces := #[21, 2], accessFlags := 1041 }

/-- the primitive long -/
def k37 : Class := { plain "long" none with kind := .primitive 'J', accessFlags := 0x411 }
/-- [J -/
def k38 : Class := { plain "[J" (some 0) with kind := .array 37 .long, interfaces := #[21, 2], accessFlags := 1041 }

/-- [Ljava/lang/Object; -/
def k39 : Class := { plain "[Ljava/lang/Object;" (some 0) with kind := .array 0 (.object "java/lang/Object"), interfaces := #[21, 2], accessFlags := 1041 }

/-- [Ljava/lang/StackTraceElement; -/
def k40 : Class := { plain "[Ljava/lang/StackTraceElement;" (some 0) with kind := .array 32 (.object "java/lang/StackTraceElement"), interfaces := #[21, 2], accessFlags := 1041 }

/-- [Ljava/lang/Throwable; -/
def k41 : Class := { plain "[Ljava/lang/Throwable;" (some 0) with kind := .array 3 (.object "java/lang/Throwable"), interfaces := #[21, 2], accessFlags := 1041 }

def heap : Heap := #[{ cls := 3, slots := #[.long 0, .ref 7, .ref 8, .null, .null, .null, .null, .ref 9, .int 1], vm := .statics 3 },
  { cls := 13, slots := #[.long 0, .int 1, .null, .int 0, .null, .int 0, .int 0], vm := .statics 13 },
  { cls := 16, slots := #[.int 0, .int 0, .null, .null, .ref 6, .ref 5, .int 0, .int 0, .long 0], vm := .statics 16 },
  { cls := 20, slots := #[.null, .null, .null], vm := .statics 20 },
  { cls := 23, slots := #[.int 0, .int 0, .int 0, .int 0, .int 0, .int 0, .int 0, .int 0, .null, .null, .ref 8, .null], vm := .statics 23 },
  { cls := 34, slots := #[.int 48, .int 49, .int 50, .int 51, .int 52, .int 53, .int 54, .int 55, .int 56, .int 57, .int 48, .int 49, .int 50, .int 51, .int 52, .int 53, .int 54, .int 55, .int 56, .int 57, .int 48, .int 49, .int 50, .int 51, .int 52, .int 53, .int 54, .int 55, .int 56, .int 57, .int 48, .int 49, .int 50, .int 51, .int 52, .int 53, .int 54, .int 55, .int 56, .int 57, .int 48, .int 49, .int 50, .int 51, .int 52, .int 53, .int 54, .int 55, .int 56, .int 57, .int 48, .int 49, .int 50, .int 51, .int 52, .int 53, .int 54, .int 55, .int 56, .int 57, .int 48, .int 49, .int 50, .int 51, .int 52, .int 53, .int 54, .int 55, .int 56, .int 57, .int 48, .int 49, .int 50, .int 51, .int 52, .int 53, .int 54, .int 55, .int 56, .int 57, .int 48, .int 49, .int 50, .int 51, .int 52, .int 53, .int 54, .int 55, .int 56, .int 57, .int 48, .int 49, .int 50, .int 51, .int 52, .int 53, .int 54, .int 55, .int 56, .int 57], vm := .none },
  { cls := 34, slots := #[.int 48, .int 48, .int 48, .int 48, .int 48, .int 48, .int 48, .int 48, .int 48, .int 48, .int 49, .int 49, .int 49, .int 49, .int 49, .int 49, .int 49, .int 49, .int 49, .int 49, .int 50, .int 50, .int 50, .int 50, .int 50, .int 50, .int 50, .int 50, .int 50, .int 50, .int 51, .int 51, .int 51, .int 51, .int 51, .int 51, .int 51, .int 51, .int 51, .int 51, .int 52, .int 52, .int 52, .int 52, .int 52, .int 52, .int 52, .int 52, .int 52, .int 52, .int 53, .int 53, .int 53, .int 53, .int 53, .int 53, .int 53, .int 53, .int 53, .int 53, .int 54, .int 54, .int 54, .int 54, .int 54, .int 54, .int 54, .int 54, .int 54, .int 54, .int 55, .int 55, .int 55, .int 55, .int 55, .int 55, .int 55, .int 55, .int 55, .int 55, .int 56, .int 56, .int 56, .int 56, .int 56, .int 56, .int 56, .int 56, .int 56, .int 56, .int 57, .int 57, .int 57, .int 57, .int 57, .int 57, .int 57, .int 57, .int 57, .int 57], vm := .none },
  { cls := 40, slots := #[], vm := .none },
  { cls := 31, slots := #[.int 0], vm := .none },
  { cls := 41, slots := #[], vm := .none }]
def classes : Array Class := #[k0, k1, k2, k3, k4, k5, k6, k7, k8, k9, k10, k11, k12, k13, k14, k15, k16, k17, k18, k19, k20, k21, k22, k23, k24, k25, k26, k27, k28, k29, k30, k31, k32, k33, k34, k35, k36, k37, k38, k39, k40, k41]
def interned : List (Array UInt16 × Addr) := []
def slotsUsed : Nat := 241
def theMethod : MethodId := ⟨1, 1⟩
def args0 : Array Value := #[.int 5]
def aboutOver (below : List Frame) : State where
  vm := { classes := classes, interned := interned.toArray }
  heap := heap
  slotsUsed := slotsUsed
  threads := #[{ frames := .invoking theMethod args0 :: below }]
def below0 : List Frame := [.native { method := ⟨0, 0⟩, args := #[] }]
def about1 : State := aboutOver below0
def p0 : Program := .bare "" "" ""
def e0 : Env := launch0.env 0 0 0
theorem w_frames : about1.frames = Frame.invoking theMethod args0 :: below0 := rfl
set_option maxRecDepth 65536 in
theorem w_args : argsFit about1.vm theMethod args0 = true := by decide +kernel
set_option maxRecDepth 65536 in
theorem w_heap : heapFits about1 = true := by decide +kernel
set_option maxRecDepth 65536 in
theorem w_runnable : about1.curStatus? = some .runnable := by decide +kernel
set_option maxRecDepth 65536 in
theorem w_alone : about1.alone = true := by decide +kernel
set_option maxRecDepth 65536 in
theorem w_named : about1.methodNamed? x = some theMethod := by decide +kernel
set_option maxRecDepth 65536 in
theorem w_hears : about1.hears theMethod below0 = true := by decide +kernel
set_option maxRecDepth 65536 in
theorem w_ripe : about1.ripe theMethod args0 below0 = true := by decide +kernel
theorem w_running : about1.status = .running := rfl
set_option maxRecDepth 65536 in
theorem w_room : about1.hasRoom e0.platform room_1 = true :=
  launch0.hasRoom_least _ room_1 (by decide +kernel) (by decide +kernel) (by decide +kernel) (by decide +kernel) (by decide +kernel) (by decide +kernel)
theorem allAtoms_all (ts : List Jvm.Cond) (a : Array Jvm.Value) (st : Jvm.State) : (allAtoms ts).before a st = ts.all (fun c => c.before a st) := by
  induction ts with
  | nil => rfl
  | cons c t ih =>
    show (Jvm.Cond.and c (allAtoms t)).before a st = _
    rw [Jvm.Cond.before_and, ih, List.all_cons]
def words1 : List Jvm.Cond := Jvm.Cond.code x code maxLocals ret :: tables_1
/-- a 'code' word, met by the world's own term for the bytes: nothing is compared byte by byte -/
theorem code_word {y : MethodName} {bytes : ByteArray} {mx : Nat} {rt : Option FieldType} {a : Array Value} {s : State} {m : MethodId} {meth : Method} {c : Code} (h1 : s.methodNamed? y = some m) (h2 : s.vm.method? m = some meth) (h3 : meth.code = some c) (h4 : c.code = bytes)
    (h5 : (c.maxLocals == mx && c.exceptionTable.isEmpty && decide (c.maxStack ≤ mostOperands) && decide (meth.sig.returnType = rt) && !meth.locks && decide (parseMethodDescriptor y.desc = some meth.sig)) = true) : (Jvm.Cond.code y bytes mx rt).before a s = true := by
  simp only [Bool.and_eq_true, beq_iff_eq, Bool.not_eq_true', decide_eq_true_eq] at h5
  obtain ⟨⟨⟨⟨⟨g1, g2⟩, g3⟩, g4⟩, g5⟩, g6⟩ := h5
  simp [Cond.before, Cond.holds, Cond.value, h1, h2, h3, h4, g1, g2, g3, g4, g5, g6]
def isCode : Jvm.Cond → Bool
  | .code _ _ _ _ => true
  | _ => false
theorem all_split {L : List Jvm.Cond} {P : Jvm.Cond → Bool} (h1 : L.all (fun c => isCode c || P c) = true) (h2 : ∀ c ∈ L.filter isCode, P c = true) : L.all P = true := by
  refine List.all_eq_true.mpr fun c hc => ?_
  have h := List.all_eq_true.mp h1 c hc
  rcases Bool.eq_false_or_eq_true (isCode c) with hi | hi
  · exact h2 c (List.mem_filter.mpr ⟨hc, hi⟩)
  · simpa [hi] using h
abbrev cw_1 : Jvm.Cond := Jvm.Cond.code ({ cls := "com/example/layout_to_rows/layouttorows/harvest/FetchException", name := "status", desc := "(I)Lcom/example/layout_to_rows/layouttorows/harvest/FetchException;" } : Jvm.MethodName) prog_9_method_3_code (1 : Nat) (Option.some (Jvm.ClassFile.FieldType.object "com/example/layout_to_rows/layouttorows/harvest/FetchException"))
abbrev cw_2 : Jvm.Cond := Jvm.Cond.code ({ cls := "java/lang/StringBuilder", name := "<init>", desc := "()V" } : Jvm.MethodName) jdk_67_method_1_code (1 : Nat) (Option.none : Option Jvm.ClassFile.FieldType)
abbrev cw_3 : Jvm.Cond := Jvm.Cond.code ({ cls := "java/lang/AbstractStringBuilder", name := "<init>", desc := "(I)V" } : Jvm.MethodName) jdk_68_method_2_code (2 : Nat) (Option.none : Option Jvm.ClassFile.FieldType)
abbrev cw_4 : Jvm.Cond := Jvm.Cond.code ({ cls := "java/lang/Object", name := "<init>", desc := "()V" } : Jvm.MethodName) object_method_1_code (1 : Nat) (Option.none : Option Jvm.ClassFile.FieldType)
abbrev cw_5 : Jvm.Cond := Jvm.Cond.code ({ cls := "java/lang/StringBuilder", name := "append", desc := "(Ljava/lang/String;)Ljava/lang/StringBuilder;" } : Jvm.MethodName) jdk_67_method_7_code (2 : Nat) (Option.some (Jvm.ClassFile.FieldType.object "java/lang/StringBuilder"))
abbrev cw_6 : Jvm.Cond := Jvm.Cond.code ({ cls := "java/lang/AbstractStringBuilder", name := "append", desc := "(Ljava/lang/String;)Ljava/lang/AbstractStringBuilder;" } : Jvm.MethodName) jdk_68_method_22_code (3 : Nat) (Option.some (Jvm.ClassFile.FieldType.object "java/lang/AbstractStringBuilder"))
abbrev cw_7 : Jvm.Cond := Jvm.Cond.code ({ cls := "java/lang/String", name := "length", desc := "()I" } : Jvm.MethodName) jdk_42_method_54_code (1 : Nat) (Option.some Jvm.ClassFile.FieldType.int)
abbrev cw_8 : Jvm.Cond := Jvm.Cond.code ({ cls := "java/lang/String", name := "coder", desc := "()B" } : Jvm.MethodName) jdk_42_method_152_code (1 : Nat) (Option.some Jvm.ClassFile.FieldType.byte)
abbrev cw_9 : Jvm.Cond := Jvm.Cond.code ({ cls := "java/lang/AbstractStringBuilder", name := "ensureCapacityInternal", desc := "(I)V" } : Jvm.MethodName) jdk_68_method_9_code (3 : Nat) (Option.none : Option Jvm.ClassFile.FieldType)
abbrev cw_10 : Jvm.Cond := Jvm.Cond.code ({ cls := "java/lang/AbstractStringBuilder", name := "putStringAt", desc := "(ILjava/lang/String;)V" } : Jvm.MethodName) jdk_68_method_73_code (3 : Nat) (Option.none : Option Jvm.ClassFile.FieldType)
abbrev cw_11 : Jvm.Cond := Jvm.Cond.code ({ cls := "java/lang/AbstractStringBuilder", name := "inflateIfNeededFor", desc := "(Ljava/lang/String;)V" } : Jvm.MethodName) jdk_68_method_71_code (2 : Nat) (Option.none : Option Jvm.ClassFile.FieldType)
abbrev cw_12 : Jvm.Cond := Jvm.Cond.code ({ cls := "java/lang/String", name := "getBytes", desc := "([BIB)V" } : Jvm.MethodName) jdk_42_method_147_code (4 : Nat) (Option.none : Option Jvm.ClassFile.FieldType)
abbrev cw_13 : Jvm.Cond := Jvm.Cond.code ({ cls := "java/lang/StringBuilder", name := "append", desc := "(I)Ljava/lang/StringBuilder;" } : Jvm.MethodName) jdk_67_method_15_code (2 : Nat) (Option.some (Jvm.ClassFile.FieldType.object "java/lang/StringBuilder"))
abbrev cw_14 : Jvm.Cond := Jvm.Cond.code ({ cls := "java/lang/AbstractStringBuilder", name := "append", desc := "(I)Ljava/lang/AbstractStringBuilder;" } : Jvm.MethodName) jdk_68_method_32_code (4 : Nat) (Option.some (Jvm.ClassFile.FieldType.object "java/lang/AbstractStringBuilder"))
abbrev cw_15 : Jvm.Cond := Jvm.Cond.code ({ cls := "java/lang/Integer", name := "stringSize", desc := "(I)I" } : Jvm.MethodName) jdk_33_method_13_code (4 : Nat) (Option.some Jvm.ClassFile.FieldType.int)
abbrev cw_16 : Jvm.Cond := Jvm.Cond.code ({ cls := "java/lang/AbstractStringBuilder", name := "isLatin1", desc := "()Z" } : Jvm.MethodName) jdk_68_method_68_code (1 : Nat) (Option.some Jvm.ClassFile.FieldType.boolean)
abbrev cw_17 : Jvm.Cond := Jvm.Cond.code ({ cls := "java/lang/Integer", name := "getChars", desc := "(II[B)I" } : Jvm.MethodName) jdk_33_method_12_code (7 : Nat) (Option.some Jvm.ClassFile.FieldType.int)
abbrev cw_18 : Jvm.Cond := Jvm.Cond.code ({ cls := "java/lang/StringBuilder", name := "toString", desc := "()Ljava/lang/String;" } : Jvm.MethodName) jdk_67_method_42_code (1 : Nat) (Option.some (Jvm.ClassFile.FieldType.object "java/lang/String"))
abbrev cw_19 : Jvm.Cond := Jvm.Cond.code ({ cls := "java/lang/String", name := "<init>", desc := "(Ljava/lang/StringBuilder;)V" } : Jvm.MethodName) jdk_42_method_53_code (2 : Nat) (Option.none : Option Jvm.ClassFile.FieldType)
abbrev cw_20 : Jvm.Cond := Jvm.Cond.code ({ cls := "java/lang/String", name := "<init>", desc := "(Ljava/lang/AbstractStringBuilder;Ljava/lang/Void;)V" } : Jvm.MethodName) jdk_42_method_150_code (5 : Nat) (Option.none : Option Jvm.ClassFile.FieldType)
abbrev cw_21 : Jvm.Cond := Jvm.Cond.code ({ cls := "java/lang/AbstractStringBuilder", name := "getValue", desc := "()[B" } : Jvm.MethodName) jdk_68_method_64_code (1 : Nat) (Option.some (Jvm.ClassFile.FieldType.array Jvm.ClassFile.FieldType.byte))
abbrev cw_22 : Jvm.Cond := Jvm.Cond.code ({ cls := "java/lang/StringBuilder", name := "length", desc := "()I" } : Jvm.MethodName) jdk_67_method_93_code (1 : Nat) (Option.some Jvm.ClassFile.FieldType.int)
abbrev cw_23 : Jvm.Cond := Jvm.Cond.code ({ cls := "java/lang/AbstractStringBuilder", name := "length", desc := "()I" } : Jvm.MethodName) jdk_68_method_6_code (1 : Nat) (Option.some Jvm.ClassFile.FieldType.int)
abbrev cw_24 : Jvm.Cond := Jvm.Cond.code ({ cls := "java/util/Arrays", name := "copyOfRange", desc := "([BII)[B" } : Jvm.MethodName) jdk_65_method_132_code (3 : Nat) (Option.some (Jvm.ClassFile.FieldType.array Jvm.ClassFile.FieldType.byte))
abbrev cw_25 : Jvm.Cond := Jvm.Cond.code ({ cls := "java/util/Arrays", name := "copyOfRangeByte", desc := "([BII)[B" } : Jvm.MethodName) jdk_65_method_133_code (5 : Nat) (Option.some (Jvm.ClassFile.FieldType.array Jvm.ClassFile.FieldType.byte))
abbrev cw_26 : Jvm.Cond := Jvm.Cond.code ({ cls := "java/util/Arrays", name := "checkLength", desc := "(II)V" } : Jvm.MethodName) jdk_65_method_131_code (2 : Nat) (Option.none : Option Jvm.ClassFile.FieldType)
abbrev cw_27 : Jvm.Cond := Jvm.Cond.code ({ cls := "java/lang/Math", name := "min", desc := "(II)I" } : Jvm.MethodName) jdk_29_method_69_code (2 : Nat) (Option.some Jvm.ClassFile.FieldType.int)
abbrev cw_28 : Jvm.Cond := Jvm.Cond.code ({ cls := "com/example/layout_to_rows/layouttorows/harvest/FetchException", name := "<init>", desc := "(Ljava/lang/String;ZLjava/io/IOException;)V" } : Jvm.MethodName) prog_9_method_1_code (4 : Nat) (Option.none : Option Jvm.ClassFile.FieldType)
abbrev cw_29 : Jvm.Cond := Jvm.Cond.code ({ cls := "java/lang/Exception", name := "<init>", desc := "(Ljava/lang/String;Ljava/lang/Throwable;)V" } : Jvm.MethodName) jdk_59_method_3_code (3 : Nat) (Option.none : Option Jvm.ClassFile.FieldType)
abbrev cw_30 : Jvm.Cond := Jvm.Cond.code ({ cls := "java/lang/Throwable", name := "<init>", desc := "(Ljava/lang/String;Ljava/lang/Throwable;)V" } : Jvm.MethodName) jdk_78_method_3_code (3 : Nat) (Option.none : Option Jvm.ClassFile.FieldType)
abbrev cw_31 : Jvm.Cond := Jvm.Cond.code ({ cls := "java/lang/Throwable", name := "<init>", desc := "()V" } : Jvm.MethodName) jdk_78_method_1_code (1 : Nat) (Option.none : Option Jvm.ClassFile.FieldType)
abbrev cw_32 : Jvm.Cond := Jvm.Cond.code ({ cls := "com/example/layout_to_rows/layouttorows/harvest/FetchException", name := "attempted", desc := "()Z" } : Jvm.MethodName) prog_9_method_5_code (1 : Nat) (Option.some Jvm.ClassFile.FieldType.boolean)
abbrev cw_33 : Jvm.Cond := Jvm.Cond.code ({ cls := "java/lang/Throwable", name := "getMessage", desc := "()Ljava/lang/String;" } : Jvm.MethodName) jdk_78_method_6_code (1 : Nat) (Option.some (Jvm.ClassFile.FieldType.object "java/lang/String"))
abbrev cw_34 : Jvm.Cond := Jvm.Cond.code ({ cls := "java/lang/Math", name := "abs", desc := "(J)J" } : Jvm.MethodName) jdk_29_method_61_code (2 : Nat) (Option.some Jvm.ClassFile.FieldType.long)
abbrev cw_35 : Jvm.Cond := Jvm.Cond.code ({ cls := "com/example/layout_to_rows/layouttorows/harvest/FetchExceptionStatusPinLaw", name := "digits", desc := "(J)I" } : Jvm.MethodName) method_3_code (2 : Nat) (Option.some Jvm.ClassFile.FieldType.int)
abbrev cw_36 : Jvm.Cond := Jvm.Cond.code ({ cls := "java/lang/String", name := "charAt", desc := "(I)C" } : Jvm.MethodName) jdk_42_method_56_code (2 : Nat) (Option.some Jvm.ClassFile.FieldType.char)
abbrev cw_37 : Jvm.Cond := Jvm.Cond.code ({ cls := "java/lang/String", name := "isLatin1", desc := "()Z" } : Jvm.MethodName) jdk_42_method_154_code (1 : Nat) (Option.some Jvm.ClassFile.FieldType.boolean)
abbrev cw_38 : Jvm.Cond := Jvm.Cond.code ({ cls := "java/lang/StringLatin1", name := "charAt", desc := "([BI)C" } : Jvm.MethodName) jdk_43_method_2_code (2 : Nat) (Option.some Jvm.ClassFile.FieldType.char)
abbrev cw_39 : Jvm.Cond := Jvm.Cond.code ({ cls := "java/lang/String", name := "checkIndex", desc := "(II)V" } : Jvm.MethodName) jdk_42_method_155_code (2 : Nat) (Option.none : Option Jvm.ClassFile.FieldType)
abbrev cw_40 : Jvm.Cond := Jvm.Cond.code ({ cls := "jdk/internal/util/Preconditions", name := "checkIndex", desc := "(IILjava/util/function/BiFunction;)I" } : Jvm.MethodName) jdk_41_method_11_code (3 : Nat) (Option.some Jvm.ClassFile.FieldType.int)
abbrev cw_41 : Jvm.Cond := Jvm.Cond.code ({ cls := "com/example/layout_to_rows/layouttorows/harvest/FetchExceptionStatusPinLaw", name := "d", desc := "(Ljava/lang/String;IJII)Z" } : Jvm.MethodName) method_5_code (9 : Nat) (Option.some Jvm.ClassFile.FieldType.boolean)
abbrev cw_42 : Jvm.Cond := Jvm.Cond.code ({ cls := "com/example/layout_to_rows/layouttorows/harvest/FetchExceptionStatusPinLaw", name := "pow10", desc := "(I)J" } : Jvm.MethodName) method_4_code (2 : Nat) (Option.some Jvm.ClassFile.FieldType.long)
abbrev cw_43 : Jvm.Cond := Jvm.Cond.code ({ cls := "java/lang/AbstractStringBuilder", name := "newCapacity", desc := "(I)I" } : Jvm.MethodName) jdk_68_method_10_code (6 : Nat) (Option.some Jvm.ClassFile.FieldType.int)
abbrev cw_44 : Jvm.Cond := Jvm.Cond.code ({ cls := "jdk/internal/util/ArraysSupport", name := "newLength", desc := "(III)I" } : Jvm.MethodName) jdk_48_method_27_code (4 : Nat) (Option.some Jvm.ClassFile.FieldType.int)
abbrev cw_45 : Jvm.Cond := Jvm.Cond.code ({ cls := "java/lang/Math", name := "max", desc := "(II)I" } : Jvm.MethodName) jdk_29_method_65_code (2 : Nat) (Option.some Jvm.ClassFile.FieldType.int)
abbrev cw_46 : Jvm.Cond := Jvm.Cond.code ({ cls := "java/util/Arrays", name := "copyOf", desc := "([BI)[B" } : Jvm.MethodName) jdk_65_method_121_code (3 : Nat) (Option.some (Jvm.ClassFile.FieldType.array Jvm.ClassFile.FieldType.byte))
set_option maxRecDepth 65536 in
theorem w_c0 : (Jvm.Cond.code x code maxLocals ret).before args0 about1 = true := code_word (m := ⟨1, 1⟩) (meth := k1m1) (c := k1c1) (by decide +kernel) rfl rfl rfl (by decide +kernel)
set_option maxRecDepth 65536 in
theorem w_c1 : cw_1.before args0 about1 = true := code_word (m := ⟨5, 1⟩) (meth := k5m1) (c := k5c1) (by decide +kernel) rfl rfl rfl (by decide +kernel)
set_option maxRecDepth 65536 in
theorem w_c2 : cw_2.before args0 about1 = true := code_word (m := ⟨10, 0⟩) (meth := k10m0) (c := k10c0) (by decide +kernel) rfl rfl rfl (by decide +kernel)
set_option maxRecDepth 65536 in
theorem w_c3 : cw_3.before args0 about1 = true := code_word (m := ⟨8, 1⟩) (meth := k8m1) (c := k8c1) (by decide +kernel) rfl rfl rfl (by decide +kernel)
set_option maxRecDepth 65536 in
theorem w_c4 : cw_4.before args0 about1 = true := code_word (m := ⟨0, 0⟩) (meth := k0m0) (c := k0c0) (by decide +kernel) rfl rfl rfl (by decide +kernel)
set_option maxRecDepth 65536 in
theorem w_c5 : cw_5.before args0 about1 = true := code_word (m := ⟨10, 1⟩) (meth := k10m1) (c := k10c1) (by decide +kernel) rfl rfl rfl (by decide +kernel)
set_option maxRecDepth 65536 in
theorem w_c6 : cw_6.before args0 about1 = true := code_word (m := ⟨8, 5⟩) (meth := k8m5) (c := k8c5) (by decide +kernel) rfl rfl rfl (by decide +kernel)
set_option maxRecDepth 65536 in
theorem w_c7 : cw_7.before args0 about1 = true := code_word (m := ⟨13, 2⟩) (meth := k13m2) (c := k13c2) (by decide +kernel) rfl rfl rfl (by decide +kernel)
set_option maxRecDepth 65536 in
theorem w_c8 : cw_8.before args0 about1 = true := code_word (m := ⟨13, 6⟩) (meth := k13m6) (c := k13c6) (by decide +kernel) rfl rfl rfl (by decide +kernel)
set_option maxRecDepth 65536 in
theorem w_c9 : cw_9.before args0 about1 = true := code_word (m := ⟨8, 3⟩) (meth := k8m3) (c := k8c3) (by decide +kernel) rfl rfl rfl (by decide +kernel)
set_option maxRecDepth 65536 in
theorem w_c10 : cw_10.before args0 about1 = true := code_word (m := ⟨8, 10⟩) (meth := k8m10) (c := k8c10) (by decide +kernel) rfl rfl rfl (by decide +kernel)
set_option maxRecDepth 65536 in
theorem w_c11 : cw_11.before args0 about1 = true := code_word (m := ⟨8, 9⟩) (meth := k8m9) (c := k8c9) (by decide +kernel) rfl rfl rfl (by decide +kernel)
set_option maxRecDepth 65536 in
theorem w_c12 : cw_12.before args0 about1 = true := code_word (m := ⟨13, 4⟩) (meth := k13m4) (c := k13c4) (by decide +kernel) rfl rfl rfl (by decide +kernel)
set_option maxRecDepth 65536 in
theorem w_c13 : cw_13.before args0 about1 = true := code_word (m := ⟨10, 2⟩) (meth := k10m2) (c := k10c2) (by decide +kernel) rfl rfl rfl (by decide +kernel)
set_option maxRecDepth 65536 in
theorem w_c14 : cw_14.before args0 about1 = true := code_word (m := ⟨8, 6⟩) (meth := k8m6) (c := k8c6) (by decide +kernel) rfl rfl rfl (by decide +kernel)
set_option maxRecDepth 65536 in
theorem w_c15 : cw_15.before args0 about1 = true := code_word (m := ⟨16, 1⟩) (meth := k16m1) (c := k16c1) (by decide +kernel) rfl rfl rfl (by decide +kernel)
set_option maxRecDepth 65536 in
theorem w_c16 : cw_16.before args0 about1 = true := code_word (m := ⟨8, 8⟩) (meth := k8m8) (c := k8c8) (by decide +kernel) rfl rfl rfl (by decide +kernel)
set_option maxRecDepth 65536 in
theorem w_c17 : cw_17.before args0 about1 = true := code_word (m := ⟨16, 0⟩) (meth := k16m0) (c := k16c0) (by decide +kernel) rfl rfl rfl (by decide +kernel)
set_option maxRecDepth 65536 in
theorem w_c18 : cw_18.before args0 about1 = true := code_word (m := ⟨10, 3⟩) (meth := k10m3) (c := k10c3) (by decide +kernel) rfl rfl rfl (by decide +kernel)
set_option maxRecDepth 65536 in
theorem w_c19 : cw_19.before args0 about1 = true := code_word (m := ⟨13, 1⟩) (meth := k13m1) (c := k13c1) (by decide +kernel) rfl rfl rfl (by decide +kernel)
set_option maxRecDepth 65536 in
theorem w_c20 : cw_20.before args0 about1 = true := code_word (m := ⟨13, 5⟩) (meth := k13m5) (c := k13c5) (by decide +kernel) rfl rfl rfl (by decide +kernel)
set_option maxRecDepth 65536 in
theorem w_c21 : cw_21.before args0 about1 = true := code_word (m := ⟨8, 7⟩) (meth := k8m7) (c := k8c7) (by decide +kernel) rfl rfl rfl (by decide +kernel)
set_option maxRecDepth 65536 in
theorem w_c22 : cw_22.before args0 about1 = true := code_word (m := ⟨10, 4⟩) (meth := k10m4) (c := k10c4) (by decide +kernel) rfl rfl rfl (by decide +kernel)
set_option maxRecDepth 65536 in
theorem w_c23 : cw_23.before args0 about1 = true := code_word (m := ⟨8, 2⟩) (meth := k8m2) (c := k8c2) (by decide +kernel) rfl rfl rfl (by decide +kernel)
set_option maxRecDepth 65536 in
theorem w_c24 : cw_24.before args0 about1 = true := code_word (m := ⟨17, 3⟩) (meth := k17m3) (c := k17c3) (by decide +kernel) rfl rfl rfl (by decide +kernel)
set_option maxRecDepth 65536 in
theorem w_c25 : cw_25.before args0 about1 = true := code_word (m := ⟨17, 4⟩) (meth := k17m4) (c := k17c4) (by decide +kernel) rfl rfl rfl (by decide +kernel)
set_option maxRecDepth 65536 in
theorem w_c26 : cw_26.before args0 about1 = true := code_word (m := ⟨17, 2⟩) (meth := k17m2) (c := k17c2) (by decide +kernel) rfl rfl rfl (by decide +kernel)
set_option maxRecDepth 65536 in
theorem w_c27 : cw_27.before args0 about1 = true := code_word (m := ⟨18, 3⟩) (meth := k18m3) (c := k18c3) (by decide +kernel) rfl rfl rfl (by decide +kernel)
set_option maxRecDepth 65536 in
theorem w_c28 : cw_28.before args0 about1 = true := code_word (m := ⟨5, 0⟩) (meth := k5m0) (c := k5c0) (by decide +kernel) rfl rfl rfl (by decide +kernel)
set_option maxRecDepth 65536 in
theorem w_c29 : cw_29.before args0 about1 = true := code_word (m := ⟨4, 1⟩) (meth := k4m1) (c := k4c1) (by decide +kernel) rfl rfl rfl (by decide +kernel)
set_option maxRecDepth 65536 in
theorem w_c30 : cw_30.before args0 about1 = true := code_word (m := ⟨3, 1⟩) (meth := k3m1) (c := k3c1) (by decide +kernel) rfl rfl rfl (by decide +kernel)
set_option maxRecDepth 65536 in
theorem w_c31 : cw_31.before args0 about1 = true := code_word (m := ⟨3, 0⟩) (meth := k3m0) (c := k3c0) (by decide +kernel) rfl rfl rfl (by decide +kernel)
set_option maxRecDepth 65536 in
theorem w_c32 : cw_32.before args0 about1 = true := code_word (m := ⟨5, 2⟩) (meth := k5m2) (c := k5c2) (by decide +kernel) rfl rfl rfl (by decide +kernel)
set_option maxRecDepth 65536 in
theorem w_c33 : cw_33.before args0 about1 = true := code_word (m := ⟨3, 2⟩) (meth := k3m2) (c := k3c2) (by decide +kernel) rfl rfl rfl (by decide +kernel)
set_option maxRecDepth 65536 in
theorem w_c34 : cw_34.before args0 about1 = true := code_word (m := ⟨18, 1⟩) (meth := k18m1) (c := k18c1) (by decide +kernel) rfl rfl rfl (by decide +kernel)
set_option maxRecDepth 65536 in
theorem w_c35 : cw_35.before args0 about1 = true := code_word (m := ⟨1, 2⟩) (meth := k1m2) (c := k1c2) (by decide +kernel) rfl rfl rfl (by decide +kernel)
set_option maxRecDepth 65536 in
theorem w_c36 : cw_36.before args0 about1 = true := code_word (m := ⟨13, 3⟩) (meth := k13m3) (c := k13c3) (by decide +kernel) rfl rfl rfl (by decide +kernel)
set_option maxRecDepth 65536 in
theorem w_c37 : cw_37.before args0 about1 = true := code_word (m := ⟨13, 7⟩) (meth := k13m7) (c := k13c7) (by decide +kernel) rfl rfl rfl (by decide +kernel)
set_option maxRecDepth 65536 in
theorem w_c38 : cw_38.before args0 about1 = true := code_word (m := ⟨19, 1⟩) (meth := k19m1) (c := k19c1) (by decide +kernel) rfl rfl rfl (by decide +kernel)
set_option maxRecDepth 65536 in
theorem w_c39 : cw_39.before args0 about1 = true := code_word (m := ⟨13, 8⟩) (meth := k13m8) (c := k13c8) (by decide +kernel) rfl rfl rfl (by decide +kernel)
set_option maxRecDepth 65536 in
theorem w_c40 : cw_40.before args0 about1 = true := code_word (m := ⟨20, 1⟩) (meth := k20m1) (c := k20c1) (by decide +kernel) rfl rfl rfl (by decide +kernel)
set_option maxRecDepth 65536 in
theorem w_c41 : cw_41.before args0 about1 = true := code_word (m := ⟨1, 4⟩) (meth := k1m4) (c := k1c4) (by decide +kernel) rfl rfl rfl (by decide +kernel)
set_option maxRecDepth 65536 in
theorem w_c42 : cw_42.before args0 about1 = true := code_word (m := ⟨1, 3⟩) (meth := k1m3) (c := k1c3) (by decide +kernel) rfl rfl rfl (by decide +kernel)
set_option maxRecDepth 65536 in
theorem w_c43 : cw_43.before args0 about1 = true := code_word (m := ⟨8, 4⟩) (meth := k8m4) (c := k8c4) (by decide +kernel) rfl rfl rfl (by decide +kernel)
set_option maxRecDepth 65536 in
theorem w_c44 : cw_44.before args0 about1 = true := code_word (m := ⟨22, 1⟩) (meth := k22m1) (c := k22c1) (by decide +kernel) rfl rfl rfl (by decide +kernel)
set_option maxRecDepth 65536 in
theorem w_c45 : cw_45.before args0 about1 = true := code_word (m := ⟨18, 2⟩) (meth := k18m2) (c := k18c2) (by decide +kernel) rfl rfl rfl (by decide +kernel)
set_option maxRecDepth 65536 in
theorem w_c46 : cw_46.before args0 about1 = true := code_word (m := ⟨17, 1⟩) (meth := k17m1) (c := k17c1) (by decide +kernel) rfl rfl rfl (by decide +kernel)
def codes1 : List Jvm.Cond := [Jvm.Cond.code x code maxLocals ret, cw_1, cw_2, cw_3, cw_4, cw_5, cw_6, cw_7, cw_8, cw_9, cw_10, cw_11, cw_12, cw_13, cw_14, cw_15, cw_16, cw_17, cw_18, cw_19, cw_20, cw_21, cw_22, cw_23, cw_24, cw_25, cw_26, cw_27, cw_28, cw_29, cw_30, cw_31, cw_32, cw_33, cw_34, cw_35, cw_36, cw_37, cw_38, cw_39, cw_40, cw_41, cw_42, cw_43, cw_44, cw_45, cw_46]
set_option maxRecDepth 65536 in
theorem codes_eq : words1.filter isCode = codes1 := rfl
theorem w_codes : ∀ c ∈ words1.filter isCode, c.before args0 about1 = true := by
  rw [codes_eq]
  intro c hc
  simp only [codes1, List.mem_cons, List.not_mem_nil, or_false] at hc
  rcases hc with rfl | rfl | rfl | rfl | rfl | rfl | rfl | rfl | rfl | rfl | rfl | rfl | rfl | rfl | rfl | rfl | rfl | rfl | rfl | rfl | rfl | rfl | rfl | rfl | rfl | rfl | rfl | rfl | rfl | rfl | rfl | rfl | rfl | rfl | rfl | rfl | rfl | rfl | rfl | rfl | rfl | rfl | rfl | rfl | rfl | rfl | rfl
  · exact w_c0
  · exact w_c1
  · exact w_c2
  · exact w_c3
  · exact w_c4
  · exact w_c5
  · exact w_c6
  · exact w_c7
  · exact w_c8
  · exact w_c9
  · exact w_c10
  · exact w_c11
  · exact w_c12
  · exact w_c13
  · exact w_c14
  · exact w_c15
  · exact w_c16
  · exact w_c17
  · exact w_c18
  · exact w_c19
  · exact w_c20
  · exact w_c21
  · exact w_c22
  · exact w_c23
  · exact w_c24
  · exact w_c25
  · exact w_c26
  · exact w_c27
  · exact w_c28
  · exact w_c29
  · exact w_c30
  · exact w_c31
  · exact w_c32
  · exact w_c33
  · exact w_c34
  · exact w_c35
  · exact w_c36
  · exact w_c37
  · exact w_c38
  · exact w_c39
  · exact w_c40
  · exact w_c41
  · exact w_c42
  · exact w_c43
  · exact w_c44
  · exact w_c45
  · exact w_c46
set_option maxRecDepth 65536 in
theorem w_t1 : (words1.take 24).all (fun c => isCode c || c.before args0 about1) = true := by decide +kernel
set_option maxRecDepth 65536 in
theorem w_t2 : ((words1.drop 24).take 24).all (fun c => isCode c || c.before args0 about1) = true := by decide +kernel
set_option maxRecDepth 65536 in
theorem w_t3 : (((words1.drop 24).drop 24).take 24).all (fun c => isCode c || c.before args0 about1) = true := by decide +kernel
set_option maxRecDepth 65536 in
theorem w_t4 : ((((words1.drop 24).drop 24).drop 24).take 24).all (fun c => isCode c || c.before args0 about1) = true := by decide +kernel
set_option maxRecDepth 65536 in
theorem w_t5 : (((((words1.drop 24).drop 24).drop 24).drop 24).take 24).all (fun c => isCode c || c.before args0 about1) = true := by decide +kernel
set_option maxRecDepth 65536 in
theorem w_t6 : ((((((words1.drop 24).drop 24).drop 24).drop 24).drop 24).take 24).all (fun c => isCode c || c.before args0 about1) = true := by decide +kernel
set_option maxRecDepth 65536 in
theorem w_t7 : (((((((words1.drop 24).drop 24).drop 24).drop 24).drop 24).drop 24).take 24).all (fun c => isCode c || c.before args0 about1) = true := by decide +kernel
set_option maxRecDepth 65536 in
theorem w_t8 : ((((((((words1.drop 24).drop 24).drop 24).drop 24).drop 24).drop 24).drop 24).take 24).all (fun c => isCode c || c.before args0 about1) = true := by decide +kernel
set_option maxRecDepth 65536 in
theorem w_t9 : (((((((((words1.drop 24).drop 24).drop 24).drop 24).drop 24).drop 24).drop 24).drop 24).take 24).all (fun c => isCode c || c.before args0 about1) = true := by decide +kernel
set_option maxRecDepth 65536 in
theorem w_t10 : ((((((((((words1.drop 24).drop 24).drop 24).drop 24).drop 24).drop 24).drop 24).drop 24).drop 24).take 24).all (fun c => isCode c || c.before args0 about1) = true := by decide +kernel
set_option maxRecDepth 65536 in
theorem w_t11 : (((((((((((words1.drop 24).drop 24).drop 24).drop 24).drop 24).drop 24).drop 24).drop 24).drop 24).drop 24).take 24).all (fun c => isCode c || c.before args0 about1) = true := by decide +kernel
set_option maxRecDepth 65536 in
theorem w_t12 : ((((((((((((words1.drop 24).drop 24).drop 24).drop 24).drop 24).drop 24).drop 24).drop 24).drop 24).drop 24).drop 24).take 24).all (fun c => isCode c || c.before args0 about1) = true := by decide +kernel
set_option maxRecDepth 65536 in
theorem w_t13 : ((((((((((((words1.drop 24).drop 24).drop 24).drop 24).drop 24).drop 24).drop 24).drop 24).drop 24).drop 24).drop 24).drop 24).all (fun c => isCode c || c.before args0 about1) = true := by decide +kernel
theorem w_tables : (allAtoms (Jvm.Cond.code x code maxLocals ret :: tables_1)).before args0 about1 = true := by
  rw [allAtoms_all]
  show words1.all (fun c => c.before args0 about1) = true
  refine all_split ?_ w_codes
  rw [← List.take_append_drop 24 words1, List.all_append, w_t1, ← List.take_append_drop 24 (words1.drop 24), List.all_append, w_t2, ← List.take_append_drop 24 ((words1.drop 24).drop 24), List.all_append, w_t3, ← List.take_append_drop 24 (((words1.drop 24).drop 24).drop 24), List.all_append, w_t4, ← List.take_append_drop 24 ((((words1.drop 24).drop 24).drop 24).drop 24), List.all_append, w_t5, ← List.take_append_drop 24 (((((words1.drop 24).drop 24).drop 24).drop 24).drop 24), List.all_append, w_t6, ← List.take_append_drop 24 ((((((words1.drop 24).drop 24).drop 24).drop 24).drop 24).drop 24), List.all_append, w_t7, ← List.take_append_drop 24 (((((((words1.drop 24).drop 24).drop 24).drop 24).drop 24).drop 24).drop 24), List.all_append, w_t8, ← List.take_append_drop 24 ((((((((words1.drop 24).drop 24).drop 24).drop 24).drop 24).drop 24).drop 24).drop 24), List.all_append, w_t9, ← List.take_append_drop 24 (((((((((words1.drop 24).drop 24).drop 24).drop 24).drop 24).drop 24).drop 24).drop 24).drop 24), List.all_append, w_t10, ← List.take_append_drop 24 ((((((((((words1.drop 24).drop 24).drop 24).drop 24).drop 24).drop 24).drop 24).drop 24).drop 24).drop 24), List.all_append, w_t11, ← List.take_append_drop 24 (((((((((((words1.drop 24).drop 24).drop 24).drop 24).drop 24).drop 24).drop 24).drop 24).drop 24).drop 24).drop 24), List.all_append, w_t12, w_t13]
  rfl
set_option maxRecDepth 65536 in
theorem w_rest : rest_1_c.before args0 about1 = true := by decide +kernel
set_option maxRecDepth 65536 in
theorem w_case : (Jvm.Cond.and given_1 narrow_1).before args0 about1 = true := by decide +kernel
set_option maxRecDepth 65536 in
theorem w_consts : constsHeld consts_1 about1 := Jvm.Lit.constsHeldB_iff.mp (by decide +kernel)
theorem w_applies : (headSpec (Jvm.Cond.code x code maxLocals ret :: tables_1) room_1).applies x e0.platform about1 = true :=
  (Spec.applies_iff w_frames).mpr ⟨w_running, w_runnable, w_alone, w_named, w_hears, w_ripe, w_room, w_tables⟩
set_option maxRecDepth 65536 in
theorem atStart : AtStart classFile x code maxLocals ret World_1 tables_1 room_1 Calls_1 rest_1 Pre_1 launch0 p0 e0 about1 theMethod args0 below0 :=
  ⟨lists_1, trivial, launch0.admits_env _ _ _, launch0.least_env, fairChoices_fair.cas, fairChoices_fair.clock, w_frames, w_args, w_heap, w_applies, ⟨(by decide +kernel : framesKnown about1 = true), ⟨(by decide +kernel : tablesKnown about1 = true), ⟨w_consts, trivial⟩⟩⟩, w_rest, w_case⟩
end start1
theorem witness_1 : WitnessClaimed_1 := ⟨start1.p0, start1.e0, start1.about1, start1.theMethod, start1.args0, start1.below0, start1.atStart⟩
end Jvm.Pilot.@@N@@
